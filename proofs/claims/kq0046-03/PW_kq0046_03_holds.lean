import PyProof.Rows.All
import Wide.All
import OpenK.AllK
import Wide.FinOn
import PySem.Challenge.RW_kq0046_03
open PySem PySem.W PyProof.Rows
set_option Elab.async false
set_option linter.unusedVariables false
set_option linter.unusedSimpArgs false
section
namespace Mine

/-- pure values: a text is a str (k = false) or bytes (k = true) -/
inductive PV where
  | none
  | bool (b : Bool)
  | int (i : Int)
  | txt (k : Bool) (cs : List Nat)
  | list (xs : List PV)
  | tup (xs : List PV)
  | dict (es : List (Int × PV))
  | cls (c : String)
deriving Inhabited

def PlainTup (h : Heap) (a : Addr) (items : Array Value) : Prop := ∃ n, h.get? a = some { cls := .type "tuple", data := .seq items n }
theorem PlainTup.isTup {h : Heap} {a : Addr} {items : Array Value} (x : PlainTup h a items) : IsTup h a items := let ⟨n, e⟩ := x; ⟨_, e, rfl, n, rfl⟩
theorem PlainTup.typeIs {s : Shared} {a : Addr} {items : Array Value} (x : PlainTup s.heap a items) : s.TypeIs (.ref a) "tuple" := let ⟨_, e⟩ := x; ⟨_, e, rfl⟩

mutual
inductive Rep (h : Heap) (Ok : Addr → Prop) : Value → PV → Prop
  | none : Rep h Ok .none .none
  | bool (b : Bool) : Rep h Ok (.bool b) (.bool b)
  | int (i : Int) (t : Tok) : Rep h Ok (.int i t) (.int i)
  | str (cs : List Nat) (t : Tok) : Rep h Ok (.str ⟨cs.toArray⟩ t) (.txt false cs)
  | bytes (bs : List UInt8) (t : Tok) {cs : List Nat} : cs = bs.map UInt8.toNat → Rep h Ok (.bytes bs.toArray t) (.txt true cs)
  | cls (c : String) : Rep h Ok (.type c) (.cls c)
  | list {a : Addr} {vs : List Value} {xs : List PV} : Ok a → h.PlainList a vs.toArray → RepAll h Ok vs xs → Rep h Ok (.ref a) (.list xs)
  | tup {a : Addr} {vs : List Value} {xs : List PV} : Ok a → PlainTup h a vs.toArray → RepAll h Ok vs xs → Rep h Ok (.ref a) (.tup xs)
inductive RepAll (h : Heap) (Ok : Addr → Prop) : List Value → List PV → Prop
  | nil : RepAll h Ok [] []
  | cons {v : Value} {vs : List Value} {x : PV} {xs : List PV} : Rep h Ok v x → RepAll h Ok vs xs → RepAll h Ok (v :: vs) (x :: xs)
end

/-- an object that holds a sequence -/
def SeqAt (h : Heap) (a : Addr) : Prop := ∃ o xs n, h.get? a = some o ∧ o.data = .seq xs n

theorem seqAt_list {h : Heap} {a : Addr} {vs : Array Value} (x : h.PlainList a vs) : SeqAt h a := let ⟨_, e⟩ := x; ⟨_, _, _, e, rfl⟩
theorem seqAt_tup {h : Heap} {a : Addr} {vs : Array Value} (x : PlainTup h a vs) : SeqAt h a := let ⟨_, e⟩ := x; ⟨_, _, _, e, rfl⟩
theorem SeqAt.lt {h : Heap} {a : Addr} (x : SeqAt h a) : a < h.objs.size := let ⟨_, _, _, e, _⟩ := x; Heap.lt_size e

mutual
theorem Rep.mono {h h' : Heap} {Ok Ok' : Addr → Prop} (hk : ∀ a, Ok a → SeqAt h a → Ok' a ∧ ∀ o, h.get? a = some o → h'.get? a = some o) :
    ∀ {v : Value} {x : PV}, Rep h Ok v x → Rep h' Ok' v x
  | _, _, .none => .none
  | _, _, .bool b => .bool b
  | _, _, .int i t => .int i t
  | _, _, .str cs t => .str cs t
  | _, _, .bytes bs t e => .bytes bs t e
  | _, _, .cls c => .cls c
  | _, _, .list o l r => .list (hk _ o (seqAt_list l)).1 (let ⟨n, e⟩ := l; ⟨n, (hk _ o (seqAt_list l)).2 _ e⟩) (RepAll.mono hk r)
  | _, _, .tup o l r => .tup (hk _ o (seqAt_tup l)).1 (let ⟨n, e⟩ := l; ⟨n, (hk _ o (seqAt_tup l)).2 _ e⟩) (RepAll.mono hk r)
theorem RepAll.mono {h h' : Heap} {Ok Ok' : Addr → Prop} (hk : ∀ a, Ok a → SeqAt h a → Ok' a ∧ ∀ o, h.get? a = some o → h'.get? a = some o) :
    ∀ {vs : List Value} {xs : List PV}, RepAll h Ok vs xs → RepAll h' Ok' vs xs
  | _, _, .nil => .nil
  | _, _, .cons a b => .cons (Rep.mono hk a) (RepAll.mono hk b)
end

/-- pure growth of a state -/
structure Ext (s s' : Shared) : Prop where
  same : ∃ h tk, s' = { s with heap := h, toks := tk }
  keep : ∀ b o, s.heap.get? b = some o → s'.heap.get? b = some o

theorem Ext.refl (s : Shared) : Ext s s := ⟨⟨_, _, rfl⟩, fun _ _ e => e⟩
theorem Ext.trans {a b c : Shared} (x : Ext a b) (y : Ext b c) : Ext a c :=
  ⟨by obtain ⟨h, t, rfl⟩ := x.same; obtain ⟨h', t', rfl⟩ := y.same; exact ⟨h', t', rfl⟩, fun b o e => y.keep b o (x.keep b o e)⟩
theorem Ext.toks (s : Shared) (t : Nat) : Ext s { s with toks := t } := ⟨⟨_, _, rfl⟩, fun _ _ e => e⟩
theorem Ext.push (s : Shared) (o : Obj) : Ext s { s with heap := s.heap.push o } :=
  ⟨⟨_, _, rfl⟩, fun _ _ e => Heap.get?_push_of_some _ e⟩
theorem Ext.push_toks (s : Shared) (o : Obj) (t : Nat) : Ext s { s with heap := s.heap.push o, toks := t } :=
  ⟨⟨_, _, rfl⟩, fun _ _ e => Heap.get?_push_of_some _ e⟩

theorem Ext.fresh {s s' : Shared} (e : Ext s s') {a : Addr} (h : s'.heap.get? a = none) : s.heap.get? a = none := by
  cases q : s.heap.get? a with
  | none => rfl
  | some o => rw [e.keep a o q] at h; cases h
theorem get_size (h : Heap) : h.get? h.objs.size = none := by
  cases q : h.get? h.objs.size with
  | none => rfl
  | some o => exact absurd (Heap.lt_size q) (Nat.lt_irrefl _)
theorem Rep.ext {s s' : Shared} {Ok : Addr → Prop} {v : Value} {x : PV} (r : Rep s.heap Ok v x) (e : Ext s s') : Rep s'.heap Ok v x :=
  r.mono fun a ha _ => ⟨ha, fun o => e.keep a o⟩
theorem RepAll.ext {s s' : Shared} {Ok : Addr → Prop} {vs : List Value} {xs : List PV} (r : RepAll s.heap Ok vs xs) (e : Ext s s') : RepAll s'.heap Ok vs xs :=
  r.mono fun a ha _ => ⟨ha, fun o => e.keep a o⟩

theorem RepAll.length {h : Heap} {Ok : Addr → Prop} : ∀ {vs : List Value} {xs : List PV}, RepAll h Ok vs xs → vs.length = xs.length
  | _, _, .nil => rfl
  | _, _, .cons _ r => by rw [List.length_cons, List.length_cons, r.length]
theorem RepAll.get {h : Heap} {Ok : Addr → Prop} : ∀ {vs : List Value} {xs : List PV}, RepAll h Ok vs xs → ∀ (i : Nat) (x : PV), xs[i]? = some x → ∃ v, vs[i]? = some v ∧ Rep h Ok v x
  | _, _, .nil, i, x, e => by simp at e
  | _, _, .cons a r, 0, x, e => by simp at e; subst e; exact ⟨_, rfl, a⟩
  | _, _, .cons a r, i + 1, x, e => by simp at e; obtain ⟨v, h1, h2⟩ := r.get i x e; exact ⟨v, by simpa using h1, h2⟩
theorem RepAll.append {h : Heap} {Ok : Addr → Prop} : ∀ {vs : List Value} {xs : List PV} {ws : List Value} {ys : List PV}, RepAll h Ok vs xs → RepAll h Ok ws ys → RepAll h Ok (vs ++ ws) (xs ++ ys)
  | _, _, _, _, .nil, r => r
  | _, _, _, _, .cons a q, r => .cons a (q.append r)
theorem RepAll.drop {h : Heap} {Ok : Addr → Prop} : ∀ (n : Nat) {vs : List Value} {xs : List PV}, RepAll h Ok vs xs → RepAll h Ok (vs.drop n) (xs.drop n)
  | 0, _, _, r => r
  | _ + 1, _, _, .nil => .nil
  | n + 1, _, _, .cons _ r => r.drop n
theorem RepAll.take {h : Heap} {Ok : Addr → Prop} : ∀ (n : Nat) {vs : List Value} {xs : List PV}, RepAll h Ok vs xs → RepAll h Ok (vs.take n) (xs.take n)
  | 0, _, _, _ => .nil
  | _ + 1, _, _, .nil => .nil
  | n + 1, _, _, .cons a r => .cons a (r.take n)
theorem RepAll.reverse {h : Heap} {Ok : Addr → Prop} : ∀ {vs : List Value} {xs : List PV}, RepAll h Ok vs xs → RepAll h Ok vs.reverse xs.reverse
  | _, _, .nil => .nil
  | _, _, .cons a r => by rw [List.reverse_cons, List.reverse_cons]; exact r.reverse.append (.cons a .nil)
theorem RepAll.set {h : Heap} {Ok : Addr → Prop} {v : Value} {x : PV} (hv : Rep h Ok v x) : ∀ (n : Nat) {vs : List Value} {xs : List PV}, RepAll h Ok vs xs → RepAll h Ok (vs.set n v) (xs.set n x)
  | _, _, _, .nil => .nil
  | 0, _, _, .cons _ r => .cons hv r
  | n + 1, _, _, .cons a r => .cons a (r.set hv n)

/-! ## the world of one law -/
structure Wld where
  prog : Program
  w : World
  mg : Str → Option Value
  mb : Str → Option Value
  K : Frag

structure Wld.On (W : Wld) (h : Heap) : Prop where
  g : h.Ns mainGlobals W.mg
  b : h.Ns builtinsNs W.mb
  nolimit : h.NoLimit
  frag : W.K.In h
theorem Wld.On.keeps {W : Wld} {h h' : Heap} (x : W.On h) (k : ∀ b o, h.get? b = some o → h'.get? b = some o) : W.On h' :=
  ⟨x.g.keeps k, x.b.keeps k, x.nolimit.keeps k, x.frag.keeps k⟩
theorem Wld.On.ext {W : Wld} {s s' : Shared} (x : W.On s.heap) (e : Ext s s') : W.On s'.heap := x.keeps e.keep

abbrev Wld.M (W : Wld) : Model := model W.prog W.w
/-- what a global name gives -/
def Wld.glob (W : Wld) (x : Str) : Option Value := match W.mg x with | some v => some v | none => W.mb x

theorem Wld.loadGlobal {W : Wld} {M : Model} {A : Around} {E : Value → Shared → Prop} {s : Shared} {env : Env} {x : Str} {v : Value} {Q : Value → Shared → Prop}
    (h : W.On s.heap) (hg : env.globals = mainGlobals) (hb : env.builtins = builtinsNs) (hx : W.glob x = some v) (q : Q v s) : wpAny M A (loadGlobal env x) Q E s := by
  unfold Wld.glob at hx
  cases e : W.mg x with
  | some u =>
    rw [e] at hx
    cases hx
    exact Calls.loadGlobal_global (by rw [hg]; exact h.g) e q
  | none =>
    rw [e] at hx
    exact Calls.loadGlobal_builtin (by rw [hg]; exact h.g) e (by rw [hb]; exact h.b) hx q

/-- room above: depth and units -/
structure Room (A : Around) (k : Nat) : Prop where
  hd : A.handled = none
  dep : A.depth + 2 * k < 900
  un : A.units + 200 * k + 200 < cLine

/-- what a name gives in a function's or a comprehension's environment -/
def Holds (h : Heap) (env : Env) (x : Str) (v : Value) : Prop :=
  (env.kindOf x = some .local ∧ ∃ m, h.Ns env.locals m ∧ m x = some v) ∨
  ((env.kindOf x = some .cell ∨ env.kindOf x = some .free) ∧ ∃ c, env.cells.lookup x = some c ∧ h.IsCell c (some v))

theorem Holds.keeps {h h' : Heap} {env : Env} {x : Str} {v : Value} (H : Holds h env x v) (k : ∀ b o, h.get? b = some o → h'.get? b = some o) : Holds h' env x v :=
  H.imp (fun ⟨a, m, hn, e⟩ => ⟨a, m, hn.keeps k, e⟩) fun ⟨a, c, e, hc⟩ => ⟨a, c, e, hc.keeps k⟩

theorem Holds.load {h : Heap} {M : Model} {A : Around} {E : Value → Shared → Prop} {s : Shared} {env : Env} {x : Str} {pos : Pos} {v : Value} {Q : Value → Shared → Prop}
    (H : Holds s.heap env x v) (hk : env.scope.kind = .function) (hd : (x == ("__debug__" : Str)) = false) (hcd : (x == ("__classdict__" : Str)) = false) (q : Q v s) : wpAny M A (eval (.Name x pos) env) Q E s := by
  refine wpAny_Name ?_ hd
  rcases H with ⟨hl, m, hn, hv⟩ | ⟨hl | hl, c, hc, hv⟩
  · exact wpAny_loadName_local hk hl hn hv q
  · exact wpAny_loadName_cell hk hl hc hv q
  · exact wpAny_loadName_free hk hl hc hv q hcd

end Mine
end
section
namespace Mine

def LIM : Nat := 1048576
theorem lim_size {n : Nat} (h : n ≤ LIM) : n ≤ sizeLine := Nat.le_trans h (by decide)

/-- a tree that hands back a value that stands for x, all else as it stood -/
def Gets (W : Wld) (A : Around) (Ok : Addr → Prop) (s : Shared) (t : Sem Value) (x : PV) : Prop :=
  ∀ (E Q : Value → Shared → Prop), (∀ v s', Ext s s' → Rep s'.heap Ok v x → Q v s') → wpAny W.M A t Q E s
/-- the same for a new list -/
def GetsL (W : Wld) (A : Around) (Ok : Addr → Prop) (s : Shared) (t : Sem Value) (xs : List PV) : Prop :=
  ∀ (E Q : Value → Shared → Prop), (∀ a vs s', Ext s s' → s.heap.get? a = none → s'.heap.PlainList a vs.toArray → RepAll s'.heap (fun b => Ok b ∧ b ≠ a) vs xs → Q (.ref a) s') → wpAny W.M A t Q E s

def Fresh (Ok : Addr → Prop) (s : Shared) : Prop := ∀ a, s.heap.get? a = none → Ok a
theorem Fresh.ext {Ok : Addr → Prop} {s s' : Shared} (f : Fresh Ok s) (e : Ext s s') : Fresh Ok s' := fun a h => f a (e.fresh h)

theorem RepAll.weaken {h : Heap} {Ok Ok' : Addr → Prop} (hk : ∀ a, Ok a → Ok' a) {vs : List Value} {xs : List PV} (r : RepAll h Ok vs xs) : RepAll h Ok' vs xs := r.mono fun a ha _ => ⟨hk a ha, fun _ e => e⟩
theorem Rep.weaken {h : Heap} {Ok Ok' : Addr → Prop} (hk : ∀ a, Ok a → Ok' a) {v : Value} {x : PV} (r : Rep h Ok v x) : Rep h Ok' v x := r.mono fun a ha _ => ⟨hk a ha, fun _ e => e⟩

theorem GetsL.gets {W : Wld} {A : Around} {Ok : Addr → Prop} {s : Shared} {t : Sem Value} {xs : List PV} (g : GetsL W A Ok s t xs) (f : Fresh Ok s) : Gets W A Ok s t (.list xs) :=
  fun E Q q => g E Q fun a vs s' e ha hl r => q _ _ e (.list (f a ha) hl (r.weaken fun _ x => x.1))

section
variable {W : Wld} {A : Around} {Ok : Addr → Prop} {s : Shared} {v u : Value}

theorem gets_pure {x : PV} (r : Rep s.heap Ok v x) : Gets W A Ok s (pure v) x := fun _ _ q => wpAny_pure (q _ _ (.refl _) r)
theorem gets_operate {vs : List Value} {t : Sem Value} {x : PV} (g : Gets W A Ok s t x) : Gets W A Ok s (operate vs t) x := fun E Q q => wpAny_operating (g E Q q)
theorem gets_holding {vs : List Value} {t : Sem Value} {x : PV} (g : Gets W A Ok s t x) : Gets W A Ok s (holding vs t) x := fun E Q q => wpAny_holding (g E Q q)

/-! ints -/
theorem add_ints {a b : Int} (ha : Rep s.heap Ok v (.int a)) (hb : Rep s.heap Ok u (.int b)) : Gets W A Ok s (binaryOp .Add v u) (.int (a + b)) := by
  cases ha; cases hb; exact fun E Q q => PySem.P.add_int (q _ _ (.toks _ _) (.int _ _))
theorem sub_ints {a b : Int} (ha : Rep s.heap Ok v (.int a)) (hb : Rep s.heap Ok u (.int b)) : Gets W A Ok s (binaryOp .Sub v u) (.int (a - b)) := by
  cases ha; cases hb; exact fun E Q q => PySem.P.sub_int (q _ _ (.toks _ _) (.int _ _))
theorem no_pylong {a b : Int} (hb : b.natAbs < 2 ^ 64) : Builtin.divisionGoesByPylong a b = false := by
  unfold Builtin.divisionGoesByPylong
  have h : (if (b == 0) = true then 0 else b.natAbs.log2 / 30 + 1) ≤ 300 := by
    split
    · omega
    · have : b.natAbs.log2 < 64 := by
        by_cases h0 : b.natAbs = 0
        · rw [h0]; decide
        · exact (Nat.log2_lt h0).mpr hb
      omega
  dsimp only
  rw [Bool.and_eq_false_iff]
  left
  rw [decide_eq_false_iff_not]
  omega
theorem fdiv_ints {a b : Int} (hb : b.natAbs < 2 ^ 64) (h0 : b ≠ 0) (ha : Rep s.heap Ok v (.int a)) (hb : Rep s.heap Ok u (.int b)) : Gets W A Ok s (binaryOp .FloorDiv v u) (.int (a.fdiv b)) := by
  cases ha; cases hb; exact fun E Q q => floordiv_int h0 (q _ _ (.toks _ _) (.int _ _)) (.inl (no_pylong hb))
theorem fmod_ints {a b : Int} (h0 : b ≠ 0) (ha : Rep s.heap Ok v (.int a)) (hb : Rep s.heap Ok u (.int b)) : Gets W A Ok s (binaryOp .Mod v u) (.int (a.fmod b)) := by
  cases ha; cases hb; exact fun E Q q => mod_int' h0 (q _ _ (.toks _ _) (.int _ _))
theorem pow_ints {a b : Int} (h0 : 0 ≤ b) (h1 : b ≤ 1000) (h2 : a.natAbs < 1000) (ha : Rep s.heap Ok v (.int a)) (hb : Rep s.heap Ok u (.int b)) : Gets W A Ok s (binaryOp .Pow v u) (.int (a ^ b.toNat)) := by
  cases ha; cases hb; exact fun E Q q => pow_int_small h0 (by omega) (by omega) (q _ _ (.toks _ _) (.int _ _))
theorem neg_ints {a : Int} (ha : Rep s.heap Ok v (.int a)) : Gets W A Ok s (unaryOp .USub v) (.int (-a)) := by
  cases ha; exact fun E Q q => neg_int (q _ _ (.toks _ _) (.int _ _))
theorem iadd_ints {a b : Int} (ha : Rep s.heap Ok v (.int a)) (hb : Rep s.heap Ok u (.int b)) : Gets W A Ok s (inplaceOp .Add v u) (.int (a + b)) := by
  cases ha; cases hb; exact fun E Q q => PySem.P.iadd_int (q _ _ (.toks _ _) (.int _ _))
theorem lt_ints {a b : Int} (ha : Rep s.heap Ok v (.int a)) (hb : Rep s.heap Ok u (.int b)) : Gets W A Ok s (compareOp .Lt v u) (.bool (decide (a < b))) := by
  cases ha; cases hb; exact fun E Q q => PySem.P.lt_int (q _ _ (.refl _) (.bool _))
theorem le_ints {a b : Int} (ha : Rep s.heap Ok v (.int a)) (hb : Rep s.heap Ok u (.int b)) : Gets W A Ok s (compareOp .LtE v u) (.bool (decide (a ≤ b))) := by
  cases ha; cases hb; exact fun E Q q => PySem.P.le_int (q _ _ (.refl _) (.bool _))
theorem gt_ints {a b : Int} (ha : Rep s.heap Ok v (.int a)) (hb : Rep s.heap Ok u (.int b)) : Gets W A Ok s (compareOp .Gt v u) (.bool (decide (b < a))) := by
  cases ha; cases hb; exact fun E Q q => PySem.P.gt_int (q _ _ (.refl _) (.bool _))
theorem ge_ints {a b : Int} (ha : Rep s.heap Ok v (.int a)) (hb : Rep s.heap Ok u (.int b)) : Gets W A Ok s (compareOp .GtE v u) (.bool (decide (b ≤ a))) := by
  cases ha; cases hb; exact fun E Q q => PySem.P.ge_int (q _ _ (.refl _) (.bool _))

/-! texts: str -/
theorem str_append (a b : List Nat) : ((⟨a.toArray⟩ : Str) ++ (⟨b.toArray⟩ : Str)) = (⟨(a ++ b).toArray⟩ : Str) := by
  show Str.append _ _ = _
  unfold Str.append
  simp
theorem add_strs {a b : List Nat} (hz : a.length + b.length ≤ LIM) (ha : Rep s.heap Ok v (.txt false a)) (hb : Rep s.heap Ok u (.txt false b)) : Gets W A Ok s (binaryOp .Add v u) (.txt false (a ++ b)) := by
  cases ha; cases hb
  refine fun E Q q => PyProof.Rows.add_str (fun t' tk => ?_) (lim_size hz)
  rw [str_append]; exact q _ _ (.toks _ _) (.str _ _)
theorem iadd_strs {a b : List Nat} (hz : a.length + b.length ≤ LIM) (ha : Rep s.heap Ok v (.txt false a)) (hb : Rep s.heap Ok u (.txt false b)) : Gets W A Ok s (inplaceOp .Add v u) (.txt false (a ++ b)) := by
  cases ha; cases hb
  refine fun E Q q => PyProof.Rows.iadd_str (fun t' tk => ?_) (lim_size hz)
  rw [str_append]; exact q _ _ (.toks _ _) (.str _ _)

/-! truth -/
def truthPV : PV → Option Bool
  | .none => some false
  | .bool b => some b
  | .int i => some (i != 0)
  | .txt _ cs => if cs.length ≤ LIM then some (!cs.isEmpty) else none
  | .list xs => if xs.length ≤ LIM then some (!xs.isEmpty) else none
  | _ => none

def Tells (W : Wld) (A : Around) (s : Shared) (t : Sem Bool) (b : Bool) : Prop :=
  ∀ (E : Value → Shared → Prop) (Q : Bool → Shared → Prop), (∀ s', Ext s s' → Q b s') → wpAny W.M A t Q E s

theorem size_ne (n : Nat) : ((n : Int) != 0) = !(n == 0) := by
  cases n with
  | zero => rfl
  | succ m =>
    show (((m + 1 : Nat) : Int) != 0) = true
    rw [bne_iff_ne]; omega
theorem truth_val {x : PV} {b : Bool} (hr : Rep s.heap Ok v x) (hx : truthPV x = some b) : Tells W A s (truthy v) b := by
  cases hr with
  | none => cases hx; exact fun E Q q => truthy_none (q _ (.refl _))
  | bool c => cases hx; exact fun E Q q => wpAny_truthy_bool (q _ (.refl _))
  | int i t => cases hx; exact fun E Q q => truthy_int (q _ (.refl _))
  | str cs t =>
    simp only [truthPV] at hx
    split at hx
    · rename_i hz
      cases hx
      refine fun E Q q => PySem.P.truthy_str ?_ ?_
      · show ¬ ((cs.toArray.size : Nat) : Int) ≥ 2 ^ 63
        simp only [LIM, List.size_toArray] at hz ⊢; omega
      · show Q (((cs.toArray.size : Nat) : Int) != 0) _
        rw [List.size_toArray, size_ne]
        have e : (cs.length == 0) = cs.isEmpty := by cases cs <;> rfl
        rw [e]
        exact q _ (.toks _ _)
    · cases hx
  | bytes bs t e =>
    subst e
    simp only [truthPV] at hx
    split at hx
    · rename_i hz
      cases hx
      rw [List.length_map] at hz
      refine fun E Q q => truthy_bytes ?_ ?_
      · simp only [LIM, List.size_toArray] at hz ⊢; omega
      · rw [List.size_toArray, size_ne]
        have e : (bs.length == 0) = (bs.map UInt8.toNat).isEmpty := by cases bs <;> rfl
        rw [e]
        exact q _ (.toks _ _)
    · cases hx
  | cls c => cases hx
  | list o l r =>
    rename_i a vs xs
    simp only [truthPV] at hx
    split at hx
    · rename_i hz
      cases hx
      have hl := r.length
      refine fun E Q q => wpAny_truthy_list l.isList ?_ ?_
      · simp only [LIM, List.size_toArray] at hz ⊢; omega
      · have e : vs.toArray.isEmpty = xs.isEmpty := by
          have h1 : vs.toArray.isEmpty = decide (vs.length = 0) := by rw [Array.isEmpty]; rfl
          rw [h1, hl]; cases xs <;> simp
        rw [e]; exact q _ (.toks _ _)
    · cases hx
  | tup o l r => cases hx
end
end Mine
end
section
namespace Mine
open SeqAt

def eqs (f : PV → PV → Option Bool) : List PV → List PV → Option Bool
  | [], [] => some true
  | x :: xs, y :: ys => match f x y, eqs f xs ys with
    | some a, some b => some (a && b)
    | _, _ => none
  | _, _ => none

/-- Python's ==, where it is told of: kinds alike, lists to depth n -/
def pvEq : Nat → PV → PV → Option Bool
  | _, .none, .none => some true
  | _, .bool a, .bool b => some (a == b)
  | _, .int a, .int b => some (a == b)
  | _, .txt k a, .txt k' b => if k = k' then some (a == b) else none
  | n + 1, .list xs, .list ys => if xs.length = ys.length then eqs (pvEq n) xs ys else some false
  | _, _, _ => none

theorem eqs_refl {f : PV → PV → Option Bool} : ∀ {xs : List PV}, (∀ x ∈ xs, ∀ b, f x x = some b → b = true) → ∀ {b : Bool}, eqs f xs xs = some b → b = true
  | [], _, _, h => by cases h; rfl
  | x :: xs, hf, b, h => by
    simp only [eqs] at h
    split at h
    · rename_i a c h1 h2
      cases h
      rw [hf x (.head _) a h1, eqs_refl (fun y hy => hf y (.tail _ hy)) h2]; rfl
    · cases h
theorem pvEq_refl : ∀ (n : Nat) (x : PV) (b : Bool), pvEq n x x = some b → b = true
  | n, .none, b, h => by cases n <;> (simp only [pvEq, Option.some.injEq] at h; exact h.symm)
  | n, .bool a, b, h => by cases n <;> (simp only [pvEq, beq_self_eq_true, Option.some.injEq] at h; exact h.symm)
  | n, .int a, b, h => by cases n <;> (simp only [pvEq, beq_self_eq_true, Option.some.injEq] at h; exact h.symm)
  | n, .txt k a, b, h => by cases n <;> (simp only [pvEq, if_true, beq_self_eq_true, Option.some.injEq] at h; exact h.symm)
  | 0, .list xs, b, h => by simp [pvEq] at h
  | n + 1, .list xs, b, h => by
    simp only [pvEq, if_true] at h
    exact eqs_refl (fun x _ b hb => pvEq_refl n x b hb) h
  | n, .tup xs, b, h => by cases n <;> simp [pvEq] at h
  | n, .dict xs, b, h => by cases n <;> simp [pvEq] at h
  | n, .cls xs, b, h => by cases n <;> simp [pvEq] at h

theorem eqs_get {f : PV → PV → Option Bool} : ∀ {xs ys : List PV} {b : Bool}, eqs f xs ys = some b →
    ∃ e : Nat → Bool, (∀ (j : Nat) x y, xs[j]? = some x → ys[j]? = some y → f x y = some (e j)) ∧ b = (List.range xs.length).all e
  | [], [], b, h => by cases h; exact ⟨fun _ => true, fun j x y hx => by simp at hx, rfl⟩
  | x :: xs, y :: ys, b, h => by
    simp only [eqs] at h
    split at h
    · rename_i a c h1 h2
      cases h
      obtain ⟨e, he, rfl⟩ := eqs_get h2
      refine ⟨fun j => match j with | 0 => a | j + 1 => e j, fun j x' y' hx hy => ?_, ?_⟩
      · cases j with
        | zero => simp at hx hy; subst hx hy; exact h1
        | succ j => simp at hx hy; exact he j _ _ hx hy
      · rw [List.length_cons, List.range_succ_eq_map, List.all_cons, List.all_map]; rfl
    · cases h
  | [], _ :: _, b, h => by cases h
  | _ :: _, [], b, h => by cases h

-- what an address holds stands for one value alone
mutual
theorem Rep.inj {h : Heap} {Ok Ok' : Addr → Prop} : ∀ {v : Value} {x y : PV}, Rep h Ok v x → Rep h Ok' v y → x = y
  | _, _, _, .none, r => by cases r; rfl
  | _, _, _, .bool b, r => by cases r; rfl
  | _, _, _, .int i t, r => by cases r; rfl
  | _, _, _, .str cs t, r => by
    generalize hv : Value.str ⟨cs.toArray⟩ t = v at r
    cases r <;> simp_all
  | _, _, _, .bytes bs t e, r => by
    generalize hv : Value.bytes bs.toArray t = v at r
    cases r <;> simp_all
  | _, _, _, .cls c, r => by cases r; rfl
  | _, _, _, .list o l q, r => by
    cases r with
    | list o' l' q' =>
      obtain ⟨n, e⟩ := l; obtain ⟨n', e'⟩ := l'
      rw [e] at e'
      simp only [Option.some.injEq, Obj.mk.injEq, Data.seq.injEq, true_and, and_true] at e'
      have e2 := congrArg Array.toList e'.1
      simp only [List.toList_toArray] at e2
      subst e2
      rw [RepAll.inj q q']
    | tup o' l' q' =>
      obtain ⟨n, e⟩ := l; obtain ⟨n', e'⟩ := l'
      rw [e] at e'; simp at e'
  | _, _, _, .tup o l q, r => by
    cases r with
    | list o' l' q' =>
      obtain ⟨n, e⟩ := l; obtain ⟨n', e'⟩ := l'
      rw [e] at e'; simp at e'
    | tup o' l' q' =>
      obtain ⟨n, e⟩ := l; obtain ⟨n', e'⟩ := l'
      rw [e] at e'
      simp only [Option.some.injEq, Obj.mk.injEq, Data.seq.injEq, true_and, and_true] at e'
      have e2 := congrArg Array.toList e'.1
      simp only [List.toList_toArray] at e2
      subst e2
      rw [RepAll.inj q q']
theorem RepAll.inj {h : Heap} {Ok Ok' : Addr → Prop} : ∀ {vs : List Value} {xs ys : List PV}, RepAll h Ok vs xs → RepAll h Ok' vs ys → xs = ys
  | _, _, _, .nil, r => by cases r; rfl
  | _, _, _, .cons a q, r => by
    cases r with
    | cons a' q' => rw [Rep.inj a a', RepAll.inj q q']
end

theorem byte_map_inj {a b : List UInt8} : (a == b) = (a.map UInt8.toNat == b.map UInt8.toNat) := by
  rw [Bool.eq_iff_iff, beq_iff_eq, beq_iff_eq]
  constructor
  · intro e; rw [e]
  · intro e
    exact List.map_inj_right (fun x y h => UInt8.toNat_inj.mp h) |>.mp e

section
variable {s : Shared} {Ok Ok' : Addr → Prop}

theorem str_eq_lists (a b : List Nat) : ((⟨a.toArray⟩ : Str) == ⟨b.toArray⟩) = (a == b) := by
  rw [Bool.eq_iff_iff, beq_iff_eq, beq_iff_eq]; simp

theorem rcAt_txt {A : Around} {v u : Value} {k : Bool} {a b : List Nat} (hv : Rep s.heap Ok v (.txt k a)) (hu : Rep s.heap Ok' u (.txt k b)) : RcAt A s v u (a == b) := by
  cases hv with
  | str cs t =>
    cases hu with
    | str cs' t' => rw [← str_eq_lists]; exact .str_str _ _ _ _
  | bytes bs t e =>
    cases hu with
    | bytes bs' t' e' =>
      subst e e'
      intro prog w E Q q
      rw [← byte_map_inj] at q
      exact eq_bytes (Q := Q) (by simpa using q)
theorem eqAt_txt {A : Around} {v u : Value} {k : Bool} {a b : List Nat} (hv : Rep s.heap Ok v (.txt k a)) (hu : Rep s.heap Ok' u (.txt k b)) : EqAt A s v u (a == b) := by
  cases hv with
  | str cs t =>
    cases hu with
    | str cs' t' => rw [← str_eq_lists]; exact .str_str _ _ _ _
  | bytes bs t e =>
    cases hu with
    | bytes bs' t' e' =>
      intro prog w E Q q
      unfold eqBool
      refine wpAny_holding ?_
      refine wpAny_ite_split (fun hab => ?_) (fun _ => ?_)
      · have e1 : bs = bs' := by have := eq_of_beq hab; simp at this; exact this.1
        subst e1 e e'
        exact wpAny_bind (wpAny_rule (wpAny_pure (by simpa using q)))
      · exact wpAny_bind (rcAt_txt (Ok := fun _ => True) (Ok' := fun _ => True) (.bytes bs t e) (.bytes bs' t' e') prog w E _ (wpAny_truthy_bool q))

theorem rep_get {h : Heap} {Ok : Addr → Prop} {vs : List Value} {xs : List PV} (r : RepAll h Ok vs xs) {j : Nat} (hj : j < vs.toArray.size) :
    ∃ x, xs[j]? = some x ∧ Rep h Ok (vs.toArray[j]) x := by
  have hl := r.length
  have hj' : j < xs.length := by rw [← hl]; simpa using hj
  obtain ⟨v, hv, hr⟩ := r.get j xs[j] (by simp [hj'])
  refine ⟨xs[j], by simp [hj'], ?_⟩
  have : vs.toArray[j] = v := by
    have h2 : j < vs.length := by simpa using hj
    simp only [List.getElem_toArray]
    rw [List.getElem?_eq_getElem h2] at hv
    exact Option.some.inj hv
  rw [this]; exact hr

theorem eqAt_pv : ∀ (n : Nat) {A : Around} {v u : Value} {x y : PV} {b : Bool}, A.units + n < cLine → Rep s.heap Ok v x → Rep s.heap Ok' u y → pvEq n x y = some b → RcAt A s v u b ∧ EqAt A s v u b := by
  intro n
  induction n with
  | zero =>
    intro A v u x y b hu hv hw e
    cases x <;> cases y <;> simp only [pvEq] at e <;> try (cases e; done)
    · cases e; cases hv; cases hw; exact ⟨.none_none, .same _⟩
    · cases e; cases hv; cases hw; exact ⟨.bool_bool _ _, .bool_bool _ _⟩
    · cases e; cases hv; cases hw; exact ⟨.int_int _ _ _ _, .int_int _ _ _ _⟩
    · split at e
      · rename_i hk; subst hk; cases e; exact ⟨rcAt_txt hv hw, eqAt_txt hv hw⟩
      · cases e
  | succ n ih =>
    intro A v u x y b hu hv hw e
    cases x <;> cases y <;> simp only [pvEq] at e <;> try (cases e; done)
    · cases e; cases hv; cases hw; exact ⟨.none_none, .same _⟩
    · cases e; cases hv; cases hw; exact ⟨.bool_bool _ _, .bool_bool _ _⟩
    · cases e; cases hv; cases hw; exact ⟨.int_int _ _ _ _, .int_int _ _ _ _⟩
    · split at e
      · rename_i hk; subst hk; cases e; exact ⟨rcAt_txt hv hw, eqAt_txt hv hw⟩
      · cases e
    · rename_i xs ys
      cases hv with
      | list o l r =>
      rename_i a vs
      cases hw with
      | list o' l' r' =>
      rename_i a' vs'
      have hl := r.length
      have hl' := r'.length
      have main : RcAt A s (.ref a) (.ref a') b := by
        split at e
        · rename_i hsz
          obtain ⟨f, hf, rfl⟩ := eqs_get e
          have e1 : xs.length = vs.toArray.size := by simp [hl]
          rw [e1]
          refine .lists l.isList l'.isList (by simp [hl, hl', hsz]) (by omega) fun j h1 h2 => ?_
          obtain ⟨x, hx, rx⟩ := rep_get r h1
          obtain ⟨y, hy, ry⟩ := rep_get r' h2
          exact (ih (by show A.units + 1 + n < cLine; omega) rx ry (hf j x y hx hy)).2
        · rename_i hsz
          cases e
          exact .lists_lengths l.isList l'.isList (by simp [hl, hl', hsz]) (by omega)
      refine ⟨main, ?_⟩
      by_cases haa : a = a'
      · subst haa
        have e2 : PV.list xs = PV.list ys := Rep.inj (.list o l r) (.list o' l' r')
        injection e2 with e3
        subst e3
        have : b = true := pvEq_refl (n + 1) (.list xs) b (by simpa only [pvEq, if_true] using e)
        subst this
        exact .same _
      · exact .of_refs haa main
end

section
variable {W : Wld} {A : Around} {s : Shared} {Ok Ok' : Addr → Prop} {v u : Value} {x y : PV} {b : Bool}

theorem eq_pvs (hA : A.units + 8 < cLine) (hv : Rep s.heap Ok v x) (hu : Rep s.heap Ok' u y) (e : pvEq 4 x y = some b) : Gets W A Ok s (compareOp .Eq v u) (.bool b) :=
  fun E Q q => (eqAt_pv 4 (by omega) hv hu e).1 W.prog W.w E Q (q _ _ (.refl _) (.bool _))

theorem neAt_pv {n : Nat} (hA : A.units + n < cLine) (hv : Rep s.heap Ok v x) (hu : Rep s.heap Ok' u y) (e : pvEq n x y = some b) (E Q : Value → Shared → Prop) (q : Q (.bool (!b)) s) :
    wpAny W.M A (compareOp .NotEq v u) Q E s := by
  have cases_scalar : ∀ {k k' : Bool} {c d : List Nat}, x = .txt k c → y = .txt k' d → (if k = k' then some (c == d) else none) = some b → wpAny W.M A (compareOp .NotEq v u) Q E s := by
    intro k k' c d ex ey e'
    clear e
    revert e'; intro e
    subst ex ey
    split at e
    · rename_i hk
      subst hk
      cases e
      cases hv with
      | str cs t =>
        cases hu with
        | str cs' t' =>
          refine PyProof.Rows.ne_str ?_
          rw [← str_eq_lists] at q
          exact q
      | bytes bs t e =>
        cases hu with
        | bytes bs' t' e' =>
          subst e e'
          refine ne_bytes ?_
          rw [← byte_map_inj] at q
          simpa [bne] using q
    · cases e
  cases n with
  | zero =>
    cases x <;> cases y <;> simp only [pvEq] at e <;> try (cases e; done)
    · cases e; cases hv; cases hu
      exact RcNeAt.none_none (A := A) (s := s) W.prog W.w E Q q
    · cases e; cases hv; cases hu
      rename_i a c
      have := RcNeAt.bool_bool (A := A) (s := s) a c W.prog W.w E Q
      exact this (by simpa [bne] using q)
    · cases e; cases hv; cases hu
      exact PySem.P.ne_int q
    · exact cases_scalar rfl rfl e
  | succ n =>
    cases x <;> cases y <;> simp only [pvEq] at e <;> try (cases e; done)
    · cases e; cases hv; cases hu
      exact RcNeAt.none_none (A := A) (s := s) W.prog W.w E Q q
    · cases e; cases hv; cases hu
      rename_i a c
      have := RcNeAt.bool_bool (A := A) (s := s) a c W.prog W.w E Q
      exact this (by simpa [bne] using q)
    · cases e; cases hv; cases hu
      exact PySem.P.ne_int q
    · exact cases_scalar rfl rfl e
    · rename_i xs ys
      cases hv with
      | list o l r =>
      rename_i a vs
      cases hu with
      | list o' l' r' =>
      rename_i a' vs'
      have hl := r.length
      have hl' := r'.length
      split at e
      · rename_i hsz
        obtain ⟨f, hf, rfl⟩ := eqs_get e
        refine RcNeAt.lists l.isList l'.isList (e := f) (by simp [hl, hl', hsz]) (by omega) (fun j h1 h2 => ?_) W.prog W.w E Q ?_
        · obtain ⟨x, hx, rx⟩ := rep_get r h1
          obtain ⟨y, hy, ry⟩ := rep_get r' h2
          exact (eqAt_pv n (by show A.units + 1 + n < cLine; omega) rx ry (hf j x y hx hy)).2
        · have e1 : xs.length = vs.toArray.size := by simp [hl]
          rw [← e1]; exact q
      · rename_i hsz
        cases e
        exact RcNeAt.lists_lengths l.isList l'.isList (by simp [hl, hl', hsz]) (by omega) W.prog W.w E Q q

theorem ne_pvs (hA : A.units + 8 < cLine) (hv : Rep s.heap Ok v x) (hu : Rep s.heap Ok' u y) (e : pvEq 4 x y = some b) : Gets W A Ok s (compareOp .NotEq v u) (.bool (!b)) :=
  fun E Q q => neAt_pv (n := 4) (by omega) hv hu e E Q (q _ _ (.refl _) (.bool _))
end
end Mine
end
section
namespace Mine
open SeqAt

/-- Python's xs[lo:hi] -/
def cut {α : Type} (xs : List α) (lo hi : Option Int) : List α :=
  (xs.drop (lo.elim 0 (clipAt xs.length))).take (hi.elim xs.length (clipAt xs.length) - lo.elim 0 (clipAt xs.length))
theorem cut_length_le {α : Type} (xs : List α) (lo hi : Option Int) : (cut xs lo hi).length ≤ xs.length := by
  unfold cut; rw [List.length_take, List.length_drop]; omega

/-- what stands at a bound of a cut -/
inductive PartIs : Value → Option Int → Prop
  | none : PartIs .none none
  | int (i : Int) (t : Tok) : PartIs (.int i t) (some i)

section
variable {W : Wld} {A : Around} {s : Shared} {Ok Ok' Ok'' : Addr → Prop} {v u : Value} {x y : PV}

theorem fresh_push (h : Heap) (o : Obj) : h.get? h.objs.size = none := get_size h

/-- a new plain list -/
theorem newlist_at {vs : List Value} {xs : List PV} (n : Nat) (r : RepAll s.heap Ok vs xs) (E Q : Value → Shared → Prop)
    (q : ∀ a vs s', Ext s s' → s.heap.get? a = none → s'.heap.PlainList a vs.toArray → RepAll s'.heap (fun b => Ok b ∧ b ≠ a) vs xs → Q (.ref a) s') :
    Q (.ref s.heap.objs.size) { s with heap := s.heap.push { cls := .type "list", data := .seq vs.toArray n } } := by
  refine q _ vs _ (.push _ _) (get_size _) ⟨n, Heap.get?_push_size _ rfl⟩ (r.mono fun a ha sa => ⟨⟨ha, fun e => ?_⟩, fun o e => Heap.get?_push_of_some _ e⟩)
  have := sa.lt
  rw [e] at this
  exact Nat.lt_irrefl _ this

theorem add_lists' {xs ys : List PV} (hz : xs.length + ys.length ≤ LIM) {a b : Addr} {vs ws : List Value} (ha : s.heap.PlainList a vs.toArray) (hb : s.heap.PlainList b ws.toArray)
    (r : RepAll s.heap Ok vs xs) (r' : RepAll s.heap Ok ws ys) : GetsL W A Ok s (binaryOp .Add (.ref a) (.ref b)) (xs ++ ys) := by
  intro E Q q
  obtain ⟨n, ho⟩ := ha
  obtain ⟨n2, ho2⟩ := hb
  have e : vs.toArray ++ ws.toArray = (vs ++ ws).toArray := by simp
  refine concat_meets ⟨_, ho, rfl⟩ ⟨_, ho2, rfl⟩ noFill_list_add seq_list_add PySem.F.slot_list_add PySem.F.entry_list_add (PySem.F.args_list_add_2 _ _)
    (list_addW a b vs.toArray ws.toArray n n2 none none #[] #[] (by have := lim_size hz; rw [List.size_toArray, List.size_toArray, r.length, r'.length]; exact this)) ⟨ho, ho2, ?_⟩
  rw [e]
  exact newlist_at 0 (r.append r') E Q q

theorem getItem_list' {xs : List PV} {i : Int} {a : Addr} {vs : List Value} (ha : s.heap.PlainList a vs.toArray) (r : RepAll s.heap Ok vs xs) (hz : xs.length ≤ LIM)
    (hi : Rep s.heap Ok' u (.int i)) {x : PV} (hx : (if 0 ≤ i then xs[i.toNat]? else if -(xs.length : Int) ≤ i then xs[(i + xs.length).toNat]? else none) = some x) : Gets W A Ok s (getItem (.ref a) u) x := by
  intro E Q q
  cases hi
  have hl := r.length
  simp only [LIM] at hz
  split at hx
  · rename_i h0
    obtain ⟨v, hv, rv⟩ := r.get _ _ hx
    have hlt : i.toNat < xs.length := by
      rcases Nat.lt_or_ge i.toNat xs.length with h | h
      · exact h
      · rw [List.getElem?_eq_none h] at hx; cases hx
    exact wpAny_getItem_list ha.isList h0 (by omega) (by simpa using hv) (q _ _ (.refl _) rv)
  · split at hx
    · rename_i h0 h1
      obtain ⟨v, hv, rv⟩ := r.get _ _ hx
      refine wpAny_getItem_list_neg ha.isList (by omega) ?_ (by omega) ?_ (q _ _ (.refl _) rv)
      · rw [List.size_toArray, hl]; exact h1
      · rw [List.size_toArray, hl]; simpa using hv
    · cases hx

theorem getItem_tup' {xs : List PV} {i : Int} {a : Addr} {vs : List Value} (ha : PlainTup s.heap a vs.toArray) (r : RepAll s.heap Ok vs xs) (hz : xs.length ≤ LIM)
    (hi : Rep s.heap Ok' u (.int i)) {x : PV} (h0 : 0 ≤ i) (hx : xs[i.toNat]? = some x) : Gets W A Ok s (getItem (.ref a) u) x := by
  intro E Q q
  cases hi
  have hl := r.length
  simp only [LIM] at hz
  obtain ⟨v, hv, rv⟩ := r.get _ _ hx
  have hlt : i.toNat < xs.length := by
    rcases Nat.lt_or_ge i.toNat xs.length with h | h
    · exact h
    · rw [List.getElem?_eq_none h] at hx; cases hx
  exact getItem_tuple ha.isTup (by omega) (by omega) (show seqIndex? i vs.toArray.size = some i.toNat by rw [List.size_toArray, hl]; exact seqIndex_of h0 (by omega)) (by simpa using hv) (q _ _ (.refl _) rv)

/-- the slice object -/
def sliceObj (l u st : Value) : Obj := { cls := .type "slice", data := .fields #[l, u, st] }

theorem PartIs.isPart {v : Value} {o : Option Int} : PartIs v o → IsPart v o
  | .none => .none
  | .int i t => .int i t

theorem cut_list' {xs : List PV} {a c : Addr} {vs : List Value} {l h : Value} {lo hi : Option Int} (ha : s.heap.PlainList a vs.toArray) (r : RepAll s.heap Ok vs xs) (hz : xs.length ≤ LIM)
    (hs : s.heap.IsSliceOf c l h .none) (pl : PartIs l lo) (ph : PartIs h hi) : GetsL W A Ok s (getItem (.ref a) (.ref c)) (cut xs lo hi) := by
  intro E Q q
  have hl := r.length
  refine wpAny_getItem_list_slice ha.isList hs pl.isPart ph.isPart .none (by simp) ?_ (by rw [List.size_toArray, hl]; exact lim_size hz)
  rw [slicePick_plain]
  simp only [List.size_toArray, List.toList_toArray]
  have e : RepAll s.heap Ok ((vs.drop (lo.elim 0 (clipAt vs.length))).take (hi.elim vs.length (clipAt vs.length) - lo.elim 0 (clipAt vs.length))) (cut xs lo hi) := by
    unfold cut
    rw [hl]
    exact (r.drop _).take _
  exact newlist_at 0 e E Q q

theorem rev_list' {xs : List PV} {a c : Addr} {vs : List Value} {t : Tok} (ha : s.heap.PlainList a vs.toArray) (r : RepAll s.heap Ok vs xs) (hz : xs.length ≤ LIM)
    (hs : s.heap.IsSliceOf c .none .none (.int (-1) t)) : GetsL W A Ok s (getItem (.ref a) (.ref c)) xs.reverse := by
  intro E Q q
  have hl := r.length
  refine wpAny_getItem_list_slice ha.isList hs .none .none (.int (-1) t) (by simp) ?_ (by rw [List.size_toArray, hl]; exact lim_size hz)
  have e : slicePick vs.toArray none none (some (-1)) = vs.reverse.toArray := by
    exact krv_pick vs.toArray
  rw [e]
  exact newlist_at 0 r.reverse E Q q

theorem mul_list' {xs : List PV} {i : Int} {a : Addr} {vs : List Value} (ha : s.heap.PlainList a vs.toArray) (r : RepAll s.heap Ok vs xs) (hz : xs.length * i.toNat ≤ LIM) (h1 : -(2 ^ 40 : Int) ≤ i ∧ i < 2 ^ 40)
    (hi : Rep s.heap Ok' u (.int i)) : GetsL W A Ok s (binaryOp .Mult (.ref a) u) ((List.replicate i.toNat xs).flatten) := by
  intro E Q q
  cases hi
  rename_i t
  have hl := r.length
  obtain ⟨n, ho⟩ := ha
  simp only [LIM] at hz
  refine wpAny_binaryOp_repeat_ref (T := "list") (U := "int") (by decide) ⟨_, ho, rfl⟩ (fun s' => typeIs_int s' i t) noFill_list_mul F.fills_int_mul F.slot_int_rmul repeat_list F.slot_int_index.lookup
    (call_meets F.slot_int_rmul (typeIs_int s i t) F.entry_int_rmul (F.args_int_rmul_2 _ _) (int___rmul___int_list i t a vs.toArray n)
      ⟨ho, rfl, ⟨_, ho, rfl⟩, call_meets F.slot_list_mul ⟨_, ho, rfl⟩ F.entry_list_mul (F.args_list_mul_2 _ _)
        (AutoListH.list___mul___list_int_3 a vs.toArray n i t (by simp [Builtin.List.listFitsIndex]; omega) (by rw [List.size_toArray, hl]; omega) (by simp only [Builtin.List.listTooLong, sizeLine, List.size_toArray, hl]; simp; omega))
        ⟨ho, ?_⟩⟩)
  have e : List.foldl (fun x1 x2 => x1 ++ x2) #[] (List.replicate (if vs.toArray.isEmpty = true then 0 else i.toNat) vs.toArray) = ((List.replicate i.toNat vs).flatten).toArray := by
    have key : ∀ (n : Nat) (acc : Array Value), List.foldl (fun x1 x2 => x1 ++ x2) acc (List.replicate n vs.toArray) = acc ++ ((List.replicate n vs).flatten).toArray := by
      intro n
      induction n with
      | zero => intro acc; simp
      | succ n ih => intro acc; rw [List.replicate_succ, List.foldl_cons, ih, List.replicate_succ, List.flatten_cons]; simp
    cases vs with
    | nil => simp
    | cons w ws => rw [key]; simp
  rw [e]
  have rr : ∀ n : Nat, RepAll s.heap Ok ((List.replicate n vs).flatten) ((List.replicate n xs).flatten) := by
    intro n
    induction n with
    | zero => exact .nil
    | succ n ih => rw [List.replicate_succ, List.flatten_cons, List.replicate_succ, List.flatten_cons]; exact r.append ih
  exact newlist_at 0 (rr _) E Q q

/-! in, not in -/
open Classical in
theorem any_eqs {h : Heap} {x : PV} : ∀ {vs : List Value} {xs : List PV}, RepAll h Ok vs xs →
    vs.any (fun v => decide (∃ y, Rep h Ok v y ∧ pvEq 4 y x = some true)) = xs.any (fun y => pvEq 4 y x == some true)
  | _, _, .nil => rfl
  | _, _, .cons (v := v) (x := y) a r => by
    rw [List.any_cons, List.any_cons, any_eqs r]
    have : decide (∃ y, Rep h Ok v y ∧ pvEq 4 y x = some true) = (pvEq 4 y x == some true) := by
      rw [Bool.eq_iff_iff, decide_eq_true_iff, beq_iff_eq]
      exact ⟨fun ⟨z, rz, e⟩ => by rw [Rep.inj a rz]; exact e, fun e => ⟨y, a, e⟩⟩
    rw [this]

theorem rep_mem {h : Heap} : ∀ {vs : List Value} {xs : List PV}, RepAll h Ok vs xs → ∀ v ∈ vs, ∃ y ∈ xs, Rep h Ok v y
  | _, _, .cons a r, v, hm => by
    rcases List.mem_cons.mp hm with rfl | hm
    · exact ⟨_, .head _, a⟩
    · obtain ⟨y, hy, ry⟩ := rep_mem r v hm; exact ⟨y, .tail _ hy, ry⟩

def allEq (x : PV) (xs : List PV) : Bool := xs.all fun y => (pvEq 4 y x).isSome

open Classical in
theorem items_eqAt {vs : List Value} {xs : List PV} (hA : A.units + 10 < cLine) (r : RepAll s.heap Ok vs xs) (ru : Rep s.heap Ok' u x) (hd : allEq x xs = true) :
    ∀ v, v ∈ vs.toArray → EqAt A.in1 s v u (decide (∃ y, Rep s.heap Ok v y ∧ pvEq 4 y x = some true)) := by
  intro v hv
  obtain ⟨y, hy, ry⟩ := rep_mem r v (by simpa using hv)
  have hs := List.all_eq_true.mp hd y hy
  obtain ⟨b, hb⟩ := Option.isSome_iff_exists.mp hs
  have := (eqAt_pv (A := A.in1) 4 (by show A.units + 1 + 4 < cLine; omega) ry ru hb).2
  have e : decide (∃ y, Rep s.heap Ok v y ∧ pvEq 4 y x = some true) = b := by
    rw [Bool.eq_iff_iff, decide_eq_true_iff]
    constructor
    · rintro ⟨z, rz, ez⟩
      rw [← Rep.inj ry rz, hb] at ez
      exact Option.some.inj ez
    · intro eb; subst eb; exact ⟨y, ry, hb⟩
  rw [e]; exact this

theorem in_list' {xs : List PV} {a : Addr} {vs : List Value} (hA : A.units + 10 < cLine) (ha : s.heap.PlainList a vs.toArray) (r : RepAll s.heap Ok vs xs) (ru : Rep s.heap Ok' u x) (hd : allEq x xs = true) :
    Gets W A Ok'' s (compareOp .In u (.ref a)) (.bool (xs.any fun y => pvEq 4 y x == some true)) := by
  intro E Q q
  refine in_listAt _ ha.isList (items_eqAt hA r ru hd) ?_
  rw [List.any_toArray, any_eqs (x := x) r]
  exact q _ _ (.refl _) (.bool _)
theorem notIn_list' {xs : List PV} {a : Addr} {vs : List Value} (hA : A.units + 10 < cLine) (ha : s.heap.PlainList a vs.toArray) (r : RepAll s.heap Ok vs xs) (ru : Rep s.heap Ok' u x) (hd : allEq x xs = true) :
    Gets W A Ok'' s (compareOp .NotIn u (.ref a)) (.bool (!(xs.any fun y => pvEq 4 y x == some true))) := by
  intro E Q q
  refine notIn_listAt _ ha.isList (items_eqAt hA r ru hd) ?_
  rw [List.any_toArray, any_eqs (x := x) r]
  exact q _ _ (.refl _) (.bool _)
theorem in_tup' {xs : List PV} {a : Addr} {vs : List Value} (hA : A.units + 10 < cLine) (ha : PlainTup s.heap a vs.toArray) (r : RepAll s.heap Ok vs xs) (ru : Rep s.heap Ok' u x) (hd : allEq x xs = true) :
    Gets W A Ok'' s (compareOp .In u (.ref a)) (.bool (xs.any fun y => pvEq 4 y x == some true)) := by
  intro E Q q
  refine in_tupleAt _ ha.isTup (items_eqAt hA r ru hd) ?_
  rw [List.any_toArray, any_eqs (x := x) r]
  exact q _ _ (.refl _) (.bool _)
theorem notIn_tup' {xs : List PV} {a : Addr} {vs : List Value} (hA : A.units + 10 < cLine) (ha : PlainTup s.heap a vs.toArray) (r : RepAll s.heap Ok vs xs) (ru : Rep s.heap Ok' u x) (hd : allEq x xs = true) :
    Gets W A Ok'' s (compareOp .NotIn u (.ref a)) (.bool (!(xs.any fun y => pvEq 4 y x == some true))) := by
  intro E Q q
  refine notIn_tupleAt _ ha.isTup (items_eqAt hA r ru hd) ?_
  rw [List.any_toArray, any_eqs (x := x) r]
  exact q _ _ (.refl _) (.bool _)

/-! len -/
theorem len_list' {xs : List PV} {a : Addr} {vs : List Value} (ha : s.heap.PlainList a vs.toArray) (r : RepAll s.heap Ok' vs xs) (hz : xs.length ≤ LIM) : Gets W A Ok s (call (.builtin "len") [.ref a]) (.int xs.length) := by
  intro E Q q
  have hl := r.length
  simp only [LIM] at hz
  refine PySem.Calls.call_len_list ha.isList (by rw [List.size_toArray, hl]; omega) ?_
  rw [List.size_toArray, hl]
  exact q _ _ (.toks _ _) (.int _ _)
theorem len_tup' {xs : List PV} {a : Addr} {vs : List Value} (ha : PlainTup s.heap a vs.toArray) (r : RepAll s.heap Ok' vs xs) (hz : xs.length ≤ LIM) : Gets W A Ok s (call (.builtin "len") [.ref a]) (.int xs.length) := by
  intro E Q q
  have hl := r.length
  simp only [LIM] at hz
  refine len_tuple ha.isTup (by rw [List.size_toArray, hl]; omega) ?_
  rw [List.size_toArray, hl]
  exact q _ _ (.toks _ _) (.int _ _)
theorem len_txt' {k : Bool} {cs : List Nat} (hv : Rep s.heap Ok' v (.txt k cs)) (hz : cs.length ≤ LIM) : Gets W A Ok s (call (.builtin "len") [v]) (.int cs.length) := by
  intro E Q q
  simp only [LIM] at hz
  cases hv with
  | str _ t => exact PySem.P.len_str (by show ¬ ((cs.toArray.size : Nat) : Int) ≥ 2 ^ 63; rw [List.size_toArray]; omega) (q _ _ (.toks _ _) (.int _ _))
  | bytes bs t e =>
    subst e
    rw [List.length_map] at hz
    refine len_bytes (by rw [List.size_toArray]; omega) ?_
    rw [List.size_toArray, List.length_map] at *
    exact q _ _ (.toks _ _) (.int _ _)
end
end Mine
end
section
namespace Mine

/-! the plain functions -/
def splitC (c : Nat) : List Nat → List (List Nat)
  | [] => [[]]
  | x :: r => if x = c then [] :: splitC c r else match splitC c r with
    | p :: ps => (x :: p) :: ps
    | [] => [[x]]
def joinC (sep : List Nat) : List (List Nat) → List Nat
  | [] => []
  | [p] => p
  | p :: q :: r => p ++ sep ++ joinC sep (q :: r)
def rfindC (c : Nat) : List Nat → Int
  | [] => -1
  | x :: r => if 0 ≤ rfindC c r then rfindC c r + 1 else if x = c then 0 else -1
def rstripC (c : Nat) (cs : List Nat) : List Nat := (cs.reverse.dropWhile (· == c)).reverse

theorem splitC_ne (c : Nat) : ∀ cs, splitC c cs ≠ []
  | [] => by simp [splitC]
  | x :: r => by
    unfold splitC
    split
    · simp
    · cases h : splitC c r <;> simp
theorem splitC_free (c : Nat) : ∀ cs, ∀ p ∈ splitC c cs, c ∉ p
  | [], p, hp => by simp [splitC] at hp; subst hp; simp
  | x :: r, p, hp => by
    have ih := splitC_free c r
    unfold splitC at hp
    split at hp
    · rcases List.mem_cons.mp hp with rfl | hp
      · simp
      · exact ih p hp
    · rename_i hx
      cases h : splitC c r with
      | nil => exact absurd h (splitC_ne c r)
      | cons q qs =>
        rw [h] at hp
        dsimp only at hp
        rcases List.mem_cons.mp hp with rfl | hp
        · intro hm
          rcases List.mem_cons.mp hm with e | hm
          · exact hx e.symm
          · exact ih q (by rw [h]; exact .head _) hm
        · exact ih p (by rw [h]; exact .tail _ hp)
theorem splitC_app (c : Nat) : ∀ (p : List Nat), c ∉ p → ∀ r, splitC c (p ++ c :: r) = p :: splitC c r
  | [], _, r => by simp [splitC]
  | x :: p, h, r => by
    have hx : x ≠ c := fun e => h (by rw [e]; exact .head _)
    have ih := splitC_app c p (fun hm => h (.tail _ hm)) r
    show splitC c (x :: (p ++ c :: r)) = _
    rw [splitC, if_neg hx, ih]
theorem splitC_self (c : Nat) : ∀ (p : List Nat), c ∉ p → splitC c p = [p]
  | [], _ => rfl
  | x :: p, h => by
    have hx : x ≠ c := fun e => h (by rw [e]; exact .head _)
    have ih := splitC_self c p (fun hm => h (.tail _ hm))
    unfold splitC
    rw [if_neg hx, ih]
/-- pieces without the sign, joined by it, are what the cut gives -/
theorem splitC_join (c : Nat) : ∀ (ps : List (List Nat)), ps ≠ [] → (∀ p ∈ ps, c ∉ p) → splitC c (joinC [c] ps) = ps
  | [p], _, h => splitC_self c p (h p (.head _))
  | p :: q :: r, _, h => by
    show splitC c (p ++ [c] ++ joinC [c] (q :: r)) = _
    rw [List.append_assoc, List.singleton_append, splitC_app c p (h p (.head _)), splitC_join c (q :: r) (by simp) fun x hx => h x (.tail _ hx)]
theorem joinC_split (c : Nat) : ∀ cs, joinC [c] (splitC c cs) = cs
  | [] => rfl
  | x :: r => by
    have ih := joinC_split c r
    unfold splitC
    split
    · rename_i hx
      cases h : splitC c r with
      | nil => exact absurd h (splitC_ne c r)
      | cons q qs => rw [h] at ih; show [] ++ [c] ++ joinC [c] (q :: qs) = _; rw [ih, hx]; rfl
    · cases h : splitC c r with
      | nil => exact absurd h (splitC_ne c r)
      | cons q qs =>
        rw [h] at ih
        dsimp only
        cases qs with
        | nil => show x :: q = x :: r; exact congrArg _ ih
        | cons q' qs' => show (x :: q) ++ [c] ++ joinC [c] (q' :: qs') = x :: r; exact congrArg (x :: ·) ih
theorem splitC_length (c : Nat) : ∀ cs, (splitC c cs).length ≤ cs.length + 1
  | [] => by simp [splitC]
  | x :: r => by
    have ih := splitC_length c r
    unfold splitC
    split
    · simp only [List.length_cons]; omega
    · cases h : splitC c r with
      | nil => exact absurd h (splitC_ne c r)
      | cons q qs => rw [h] at ih; simp only [List.length_cons] at ih ⊢; omega

def strL (cs : List Nat) : Str := ⟨cs.toArray⟩
theorem strL_length (cs : List Nat) : (strL cs).length = cs.length := by show cs.toArray.size = _; simp
theorem strL_toList (cs : List Nat) : (strL cs).cps.toList = cs := rfl
theorem strL_of (x : Str) : strL x.cps.toList = x := by cases x; rfl
theorem strL_append (a b : List Nat) : strL a ++ strL b = strL (a ++ b) := str_append a b
theorem strL_join (sep : List Nat) : ∀ ps : List (List Nat), Str.join (strL sep) (ps.map strL) = strL (joinC sep ps)
  | [] => rfl
  | [p] => rfl
  | p :: q :: r => by
    show strL p ++ strL sep ++ Str.join (strL sep) ((q :: r).map strL) = _
    rw [strL_join sep (q :: r), strL_append, strL_append]; rfl
theorem map_strL (l : List Str) : (l.map fun x => x.cps.toList).map strL = l := by
  rw [List.map_map]
  have : (strL ∘ fun x : Str => x.cps.toList) = id := funext strL_of
  rw [this, List.map_id]

theorem txt_split_ne (x y : Str) : Txt.split x y ≠ [] := by
  unfold Txt.split
  split
  · simp
  · split
    · simp
    · rename_i h
      unfold Builtin.Str.partsBetween
      cases e : Builtin.Str.occurrences x y 0 x.length (x.length + 1) with
      | nil => rw [e] at h; simp at h
      | cons a b => simp
theorem txt_split (cs : List Nat) (c : Nat) : Txt.split (strL cs) (strL [c]) = (splitC c cs).map strL := by
  have h1 := StrLaws.join_split (strL cs) (strL [c])
  have h2 := StrLaws.split_free (strL cs) c
  have h3 := txt_split_ne (strL cs) (strL [c])
  generalize hl : Txt.split (strL cs) (strL [c]) = l at *
  have h2' : ∀ p ∈ l, c ∉ p.cps.toList := fun p hp => h2 p (by rw [← hl] at hp; exact hp)
  rw [← map_strL l] at h1 ⊢
  rw [strL_join] at h1
  have e : joinC [c] (l.map fun x => x.cps.toList) = cs := by
    have := congrArg (fun x : Str => x.cps.toList) h1
    exact this
  congr 1
  rw [← e]
  exact (splitC_join c _ (by simpa using h3) (fun p hp => by
    obtain ⟨q, hq, rfl⟩ := List.mem_map.mp hp
    exact h2' q hq)).symm

theorem txt_startswith (a b : List Nat) : Txt.startswith (strL a) (strL b) = b.isPrefixOf a := by
  unfold Txt.startswith
  rw [StrLaws.subAt_eq, strL_toList, strL_toList, strL_length, strL_length, List.drop_zero, Bool.eq_iff_iff, Bool.and_eq_true, decide_eq_true_iff, beq_iff_eq, List.isPrefixOf_iff_prefix]
  rw [List.prefix_iff_eq_take]
  constructor
  · rintro ⟨_, e⟩; exact e.symm
  · intro e
    refine ⟨?_, e.symm⟩
    have := congrArg List.length e
    rw [List.length_take] at this; omega
theorem txt_endswith (a b : List Nat) : Txt.endswith (strL a) (strL b) = b.isSuffixOf a := by
  unfold Txt.endswith
  rw [StrLaws.subAt_eq, strL_toList, strL_toList, strL_length, strL_length, Bool.eq_iff_iff, Bool.and_eq_true, decide_eq_true_iff, beq_iff_eq, List.isSuffixOf_iff_suffix]
  rw [List.suffix_iff_eq_drop]
  constructor
  · rintro ⟨h, e⟩
    rw [List.take_of_length_le (by rw [List.length_drop]; omega)] at e
    exact e.symm
  · intro e
    have hl := congrArg List.length e
    rw [List.length_drop] at hl
    refine ⟨by omega, ?_⟩
    rw [List.take_of_length_le (by rw [List.length_drop]; omega), ← e]
theorem strSub_L (a : List Nat) (i j : Nat) : Builtin.Str.strSub (strL a) i j = strL ((a.drop i).take (j - i)) := by
  have := StrLaws.strSub_toList (strL a) i j
  rw [strL_toList] at this
  rw [← this, strL_of]

theorem dropWhile_eq_drop {α : Type} (p : α → Bool) : ∀ l : List α, l.dropWhile p = l.drop (l.takeWhile p).length
  | [] => rfl
  | x :: r => by
    rw [List.dropWhile_cons, List.takeWhile_cons]
    split
    · rw [List.length_cons, List.drop_succ_cons]; exact dropWhile_eq_drop p r
    · rfl
theorem contains_one (c : Nat) : (fun x => (#[c] : Array Nat).contains x) = (· == c) := by
  funext x; rw [Bool.eq_iff_iff]; simp
theorem txt_lstrip (a : List Nat) (c : Nat) : Txt.lstripChars (strL a) (strL [c]) = strL (a.dropWhile (· == c)) := by
  unfold Txt.lstripChars
  rw [W.stripBy_eq, show (strL [c]).cps.contains = (· == c) from contains_one c]
  unfold W.stripped
  dsimp only
  rw [if_pos rfl, if_neg (by decide), strL_toList, strSub_L, strL_length, dropWhile_eq_drop, List.take_of_length_le]
  rw [List.length_drop]; exact Nat.le_refl _
theorem rstripC_take (c : Nat) (a : List Nat) : rstripC c a = a.take (a.length - (a.reverse.takeWhile (· == c)).length) := by
  unfold rstripC
  rw [dropWhile_eq_drop, List.reverse_drop, List.reverse_reverse, List.length_reverse]
theorem txt_rstrip (a : List Nat) (c : Nat) : Txt.rstripChars (strL a) (strL [c]) = strL (rstripC c a) := by
  unfold Txt.rstripChars
  rw [W.stripBy_eq, show (strL [c]).cps.contains = (· == c) from contains_one c]
  unfold W.stripped
  dsimp only
  rw [if_neg (by decide), if_pos rfl, strL_toList, strSub_L, strL_length, List.drop_zero, Nat.sub_zero, rstripC_take]

theorem rfindC_spec (c : Nat) : ∀ cs : List Nat, (rfindC c cs = -1 ∧ c ∉ cs) ∨ ∃ i : Nat, rfindC c cs = i ∧ cs[i]? = some c ∧ ∀ k, i < k → cs[k]? ≠ some c
  | [] => .inl ⟨rfl, by simp⟩
  | x :: r => by
    unfold rfindC
    rcases rfindC_spec c r with ⟨h1, h2⟩ | ⟨i, h1, h2, h3⟩
    · rw [h1, if_neg (by omega)]
      by_cases hx : x = c
      · right
        refine ⟨0, by rw [if_pos hx]; rfl, by simp [hx], fun k hk e => ?_⟩
        cases k with
        | zero => omega
        | succ k => simp only [List.getElem?_cons_succ] at e; exact h2 (List.mem_of_getElem? e)
      · left
        rw [if_neg hx]
        exact ⟨rfl, fun hm => (List.mem_cons.mp hm).elim (fun e => hx e.symm) h2⟩
    · right
      rw [h1, if_pos (by omega)]
      refine ⟨i + 1, by push_cast; rfl, by simpa using h2, fun k hk => ?_⟩
      cases k with
      | zero => omega
      | succ k => simp only [List.getElem?_cons_succ]; exact h3 k (by omega)
theorem at_one (a : List Nat) (c : Nat) (i : Nat) : StrLaws.At (strL a) (strL [c]) (strL a).length i ↔ a[i]? = some c := by
  unfold StrLaws.At
  rw [StrLaws.subAt_eq, strL_toList, strL_toList, strL_length, strL_length, beq_iff_eq]
  constructor
  · rintro ⟨h, e⟩
    have hlt : i < a.length := by simp at h; omega
    have hd : a.drop i = a[i] :: a.drop (i + 1) := by simp
    rw [hd, List.length_singleton, List.take_succ_cons] at e
    injection e with e1 _
    rw [List.getElem?_eq_getElem hlt, e1]
  · intro e
    have hlt : i < a.length := by
      rcases Nat.lt_or_ge i a.length with h | h
      · exact h
      · rw [List.getElem?_eq_none h] at e; cases e
    refine ⟨by simp; omega, ?_⟩
    have hd : a.drop i = a[i] :: a.drop (i + 1) := by simp
    rw [hd]
    rw [List.getElem?_eq_getElem hlt] at e
    simp [Option.some.inj e]
theorem txt_rfind (a : List Nat) (c : Nat) : Txt.rfind (strL a) (strL [c]) = rfindC c a := by
  unfold Txt.rfind
  rcases StrLaws.last_spec (strL a) (strL [c]) with ⟨h1, h2⟩ | ⟨i, h1, h2, h3⟩
  · rw [h1]
    rcases rfindC_spec c a with ⟨e, _⟩ | ⟨j, e, hj, _⟩
    · exact e.symm
    · exact absurd ((at_one a c j).mpr hj) (h2 j)
  · rw [h1]
    rcases rfindC_spec c a with ⟨e, hn⟩ | ⟨j, e, hj, hk⟩
    · exact absurd (List.mem_of_getElem? ((at_one a c i).mp h2)) hn
    · rw [e]
      have hij : i = j := by
        rcases Nat.lt_trichotomy i j with h | h | h
        · exact absurd ((at_one a c j).mpr hj) (h3 j h)
        · exact h
        · exact absurd ((at_one a c i).mp h2) (hk i h)
      rw [hij]
end Mine
end
section
namespace Mine
open Builtin Builtin.Bytes

/-! facts about the type bytes -/
theorem by_buffer : typeLookup (.type "bytes") "__buffer__" = pure (some (.builtin "bytes.__buffer__")) := by rw [typeLookup_type, builtinLookup_eq_fast]; kernel_rfl
theorem by_release : typeLookup (.type "bytes") "__release_buffer__" = pure none := by rw [typeLookup_type, builtinLookup_eq_fast]; kernel_rfl
theorem by_tuple : isSubtype (.type "bytes") (.type "tuple") = pure false := by rw [isSubtype_type]; kernel_rfl
theorem by_bytes : isSubtype (.type "bytes") (.type "bytes") = pure true := by rw [isSubtype_type]; kernel_rfl
theorem by_str1 : (!"bytes.__buffer__".endsWith ("." ++ "__buffer__")) = false := by decide +kernel
theorem by_str2 : "bytes.__buffer__".dropRight ("__buffer__".length + 1) = "bytes" := by decide +kernel

theorem slot_b_split : Slot "bytes" "split" "bytes.split" :=
  .of (owner := "bytes") (n := "split") (by rw [typeLookup_type, builtinLookup_eq_fast]; kernel_rfl) (by decide +kernel) (by decide +kernel) (by decide +kernel)
    (by first | exact .inl (by decide +kernel) | exact .inr (by decide +kernel)) (by rw [isSubtype_type]; kernel_rfl)
theorem type_b_split : typeOf (.builtin "bytes.split") = pure (.type "method_descriptor") := by show builtinType _ = _; rw [builtinType_eq_fast]; kernel_rfl
theorem entry_b_split : entryFor table "bytes.split" = some Builtin.«bytes.split» := entryFor_of_tree (by kernel_rfl)
theorem args_b_split (a b : Value) : argsOk "bytes.split" ⟨[a, b], []⟩ := by
  unfold argsOk; rw [signature?_of (id := "bytes.split") (n := ['t', 'i', 'l', 'p', 's']) (o := ['s', 'e', 't', 'y', 'b']) (by kernel_rfl) FB.owner_bytes]; kernel_rfl
theorem slot_b_join : Slot "bytes" "join" "bytes.join" :=
  .of (owner := "bytes") (n := "join") (by rw [typeLookup_type, builtinLookup_eq_fast]; kernel_rfl) (by decide +kernel) (by decide +kernel) (by decide +kernel)
    (by first | exact .inl (by decide +kernel) | exact .inr (by decide +kernel)) (by rw [isSubtype_type]; kernel_rfl)
theorem type_b_join : typeOf (.builtin "bytes.join") = pure (.type "method_descriptor") := by show builtinType _ = _; rw [builtinType_eq_fast]; kernel_rfl
theorem entry_b_join : entryFor table "bytes.join" = some Builtin.«bytes.join» := entryFor_of_tree (by kernel_rfl)
theorem args_b_join (a b : Value) : argsOk "bytes.join" ⟨[a, b], []⟩ := by
  unfold argsOk; rw [signature?_of (id := "bytes.join") (n := ['n', 'i', 'o', 'j']) (o := ['s', 'e', 't', 'y', 'b']) (by kernel_rfl) FB.owner_bytes]; kernel_rfl
theorem slot_b_lstrip : Slot "bytes" "lstrip" "bytes.lstrip" :=
  .of (owner := "bytes") (n := "lstrip") (by rw [typeLookup_type, builtinLookup_eq_fast]; kernel_rfl) (by decide +kernel) (by decide +kernel) (by decide +kernel)
    (by first | exact .inl (by decide +kernel) | exact .inr (by decide +kernel)) (by rw [isSubtype_type]; kernel_rfl)
theorem type_b_lstrip : typeOf (.builtin "bytes.lstrip") = pure (.type "method_descriptor") := by show builtinType _ = _; rw [builtinType_eq_fast]; kernel_rfl
theorem entry_b_lstrip : entryFor table "bytes.lstrip" = some Builtin.«bytes.lstrip» := entryFor_of_tree (by kernel_rfl)
theorem args_b_lstrip (a b : Value) : argsOk "bytes.lstrip" ⟨[a, b], []⟩ := by
  unfold argsOk; rw [signature?_of (id := "bytes.lstrip") (n := ['p', 'i', 'r', 't', 's', 'l']) (o := ['s', 'e', 't', 'y', 'b']) (by kernel_rfl) FB.owner_bytes]; kernel_rfl
theorem slot_b_rstrip : Slot "bytes" "rstrip" "bytes.rstrip" :=
  .of (owner := "bytes") (n := "rstrip") (by rw [typeLookup_type, builtinLookup_eq_fast]; kernel_rfl) (by decide +kernel) (by decide +kernel) (by decide +kernel)
    (by first | exact .inl (by decide +kernel) | exact .inr (by decide +kernel)) (by rw [isSubtype_type]; kernel_rfl)
theorem type_b_rstrip : typeOf (.builtin "bytes.rstrip") = pure (.type "method_descriptor") := by show builtinType _ = _; rw [builtinType_eq_fast]; kernel_rfl
theorem entry_b_rstrip : entryFor table "bytes.rstrip" = some Builtin.«bytes.rstrip» := entryFor_of_tree (by kernel_rfl)
theorem args_b_rstrip (a b : Value) : argsOk "bytes.rstrip" ⟨[a, b], []⟩ := by
  unfold argsOk; rw [signature?_of (id := "bytes.rstrip") (n := ['p', 'i', 'r', 't', 's', 'r']) (o := ['s', 'e', 't', 'y', 'b']) (by kernel_rfl) FB.owner_bytes]; kernel_rfl
theorem slot_b_rfind : Slot "bytes" "rfind" "bytes.rfind" :=
  .of (owner := "bytes") (n := "rfind") (by rw [typeLookup_type, builtinLookup_eq_fast]; kernel_rfl) (by decide +kernel) (by decide +kernel) (by decide +kernel)
    (by first | exact .inl (by decide +kernel) | exact .inr (by decide +kernel)) (by rw [isSubtype_type]; kernel_rfl)
theorem type_b_rfind : typeOf (.builtin "bytes.rfind") = pure (.type "method_descriptor") := by show builtinType _ = _; rw [builtinType_eq_fast]; kernel_rfl
theorem entry_b_rfind : entryFor table "bytes.rfind" = some Builtin.«bytes.rfind» := entryFor_of_tree (by kernel_rfl)
theorem args_b_rfind (a b : Value) : argsOk "bytes.rfind" ⟨[a, b], []⟩ := by
  unfold argsOk; rw [signature?_of (id := "bytes.rfind") (n := ['d', 'n', 'i', 'f', 'r']) (o := ['s', 'e', 't', 'y', 'b']) (by kernel_rfl) FB.owner_bytes]; kernel_rfl
theorem b_split_bind (v : Value) : bindOptional "bytes.split" "split" ["sep", "maxsplit"] [v] [] = pure [some v, none] := by kernel_rfl

section
variable {M : Model} {A : Around} {E : Value → Shared → Prop} {s : Shared} {c : Array UInt8} {u : Tok}
theorem slotIsOwn_buffer {Q : Bool → Shared → Prop} (h : Q true s) : wpAny M A (slotIsOwn (.bytes c u) "__buffer__") Q E s := by
  unfold slotIsOwn
  refine wpAny_bind (wpAny_specialOf (T := "bytes") rfl by_buffer ?_)
  dsimp only
  rw [if_neg (by rw [by_str1]; exact Bool.false_ne_true), by_str2]
  exact wpAny_isInstance_val (T := "bytes") rfl by_bytes h
theorem ownRelease_bytes {Q : Bool → Shared → Prop} (h : Q false s) : wpAny M A (ownRelease (.bytes c u)) Q E s := by
  unfold ownRelease slotIsOwn
  exact wpAny_bind (wpAny_bind (wpAny_specialOf (T := "bytes") rfl by_release (wpAny_pure (wpAny_pure h))))
theorem buffer_bytes {id : String} {full : Bool} {Q : Option (Array UInt8) → Shared → Prop} (h : Q (some c) s) : wpAny M A (buffer? id (.bytes c u) full) Q E s := by
  unfold buffer?
  refine wpAny_bind (wpAny_specialOf (T := "bytes") rfl by_buffer ?_)
  refine wpAny_bind (slotIsOwn_buffer ?_)
  rw [if_neg (by decide)]
  refine wpAny_bind (wpAny_specialOf (T := "bytes") rfl by_buffer ?_)
  refine wpAny_bind (ownRelease_bytes ?_)
  exact wpAny_pure h
theorem bytesLike_bytes {id : String} {Q : Array UInt8 → Shared → Prop} (h : Q c s) : wpAny M A (bytesLike id (.bytes c u)) Q E s := by
  unfold bytesLike
  exact wpAny_bind (buffer_bytes (wpAny_pure h))
theorem takeBuffer_bytes {id : String} {Q : Option (Array UInt8 × Option Value) → Shared → Prop} (h : Q (some (c, none)) s) : wpAny M A (takeBufferQuiet? id (.bytes c u) 0) Q E s := by
  unfold takeBufferQuiet?
  refine wpAny_bind (wpAny_attempt ?_)
  unfold takeBuffer?
  refine wpAny_bind (wpAny_specialOf (T := "bytes") rfl by_buffer ?_)
  refine wpAny_bind (slotIsOwn_buffer ?_)
  rw [if_neg (by decide)]
  refine wpAny_bind (wpAny_specialOf (T := "bytes") rfl by_buffer ?_)
  exact wpAny_bind (buffer_bytes (wpAny_pure (wpAny_pure h)))
end

theorem extract_list (b : Array UInt8) (i j : Nat) : (b.extract i j).toList = (b.toList.drop i).take (j - i) := by
  rw [Array.toList_extract]
theorem arr_beq (a b : Array UInt8) : (a == b) = (a.toList == b.toList) := by
  rw [Bool.eq_iff_iff, beq_iff_eq, beq_iff_eq]
  exact ⟨fun e => by rw [e], fun e => Array.toList_inj.mp e⟩

theorem gives_b_startswith (b c : Array UInt8) (t u : Tok) : Gives («bytes.startswith» ⟨[.bytes b t, .bytes c u], []⟩) (.val (.bool (c.toList.isPrefixOf b.toList))) := by
  refine .of_wp fun M A E s Q hq => ?_
  show wpAny M A (isInstance (.bytes c u) (.type "tuple") >>= fun r => _) _ E s
  refine wpAny_bind (wpAny_isInstance_val (T := "bytes") rfl by_tuple ?_)
  show wpAny M A (buffer? _ (.bytes c u) >>= fun r => _) _ E s
  refine wpAny_bind (buffer_bytes ?_)
  refine wpAny_pure ⟨_, rfl, ?_⟩
  refine cast (congrArg (fun x => Q (Value.bool x) s) ?_) hq
  simp only [window, Option.getD_none, List.getElem?_nil, Option.getD]
  have e0 : (if (0 : Int) < 0 then max 0 (0 + (b.size : Int)) else 0) = 0 := rfl
  have e1 : min (b.size : Int) (if (b.size : Int) < 0 then max 0 ((b.size : Int) + b.size) else (b.size : Int)) = b.size := by
    rw [if_neg (by omega)]; omega
  rw [e0, e1, Bool.eq_iff_iff, List.isPrefixOf_iff_prefix, List.prefix_iff_eq_take]
  split
  · rename_i h
    constructor
    · intro e
      have := congrArg List.length e
      rw [List.length_take, Array.length_toList, Array.length_toList] at this; omega
    · intro e; cases e
  · rw [if_neg Bool.false_ne_true, arr_beq, extract_list, beq_iff_eq]
    simp only [Int.toNat_zero, List.drop_zero, Nat.zero_add, Nat.sub_zero, Array.length_toList]
    exact eq_comm
theorem gives_b_endswith (b c : Array UInt8) (t u : Tok) : Gives («bytes.endswith» ⟨[.bytes b t, .bytes c u], []⟩) (.val (.bool (c.toList.isSuffixOf b.toList))) := by
  refine .of_wp fun M A E s Q hq => ?_
  show wpAny M A (isInstance (.bytes c u) (.type "tuple") >>= fun r => _) _ E s
  refine wpAny_bind (wpAny_isInstance_val (T := "bytes") rfl by_tuple ?_)
  show wpAny M A (buffer? _ (.bytes c u) >>= fun r => _) _ E s
  refine wpAny_bind (buffer_bytes ?_)
  refine wpAny_pure ⟨_, rfl, ?_⟩
  refine cast (congrArg (fun x => Q (Value.bool x) s) ?_) hq
  simp only [window, Option.getD_none, List.getElem?_nil, Option.getD]
  have e0 : (if (0 : Int) < 0 then max 0 (0 + (b.size : Int)) else 0) = 0 := rfl
  have e1 : min (b.size : Int) (if (b.size : Int) < 0 then max 0 ((b.size : Int) + b.size) else (b.size : Int)) = b.size := by
    rw [if_neg (by omega)]; omega
  rw [e0, e1, Bool.eq_iff_iff, List.isSuffixOf_iff_suffix, List.suffix_iff_eq_drop]
  split
  · rename_i h
    constructor
    · intro e
      have := congrArg List.length e
      rw [List.length_drop, Array.length_toList, Array.length_toList] at this; omega
    · intro e; cases e
  · rename_i h
    rw [if_pos trivial, arr_beq, extract_list, beq_iff_eq]
    have h' : c.size ≤ b.size := by omega
    rw [Int.toNat_natCast, List.take_of_length_le (by rw [List.length_drop, Array.length_toList]; omega), Array.length_toList, Array.length_toList]
    exact eq_comm

theorem gives_b_lstrip (b : Array UInt8) (c : UInt8) (t u : Tok) (hz : b.size ≤ sizeLine) (Q : Value → Shared → Prop) (M : Model) (A : Around) (E : Value → Shared → Prop) (s : Shared)
    (hq : ∀ t' k, Q (.bytes (b.toList.dropWhile (· == c)).toArray t') { s with toks := k }) : wpAny M A («bytes.lstrip» ⟨[.bytes b t, .bytes #[c] u], []⟩) (fun fin s' => ∃ v, fin = .done (.ret v) ∧ Q v s') E s := by
  show wpAny M A (bytesLike _ (.bytes #[c] u) >>= fun r => _) _ E s
  refine wpAny_bind (bytesLike_bytes ?_)
  have hc : (#[c] : Array UInt8).contains = (· == c) := by funext x; rw [Bool.eq_iff_iff]; simp
  show wpAny M A (if ((b.toList.dropWhile ((#[c] : Array UInt8).contains)).length == b.size) = true then _ else _) _ E s
  rw [hc]
  split
  · rename_i h
    refine wpAny_bind (wpAny_rule ?_)
    refine wpAny_pure ⟨_, rfl, ?_⟩
    have e : b.toList.dropWhile (· == c) = b.toList := by
      have h' : (b.toList.dropWhile (· == c)).length = b.toList.length := by rw [Array.length_toList]; exact beq_iff_eq.mp h
      exact (List.dropWhile_sublist _).eq_of_length h'
    have := hq t s.toks
    rw [e] at this
    simpa using this
  · refine wpAny_bind (wpAny_mkBytes (wpAny_pure ⟨_, rfl, hq _ _⟩) ?_)
    rw [List.size_toArray]
    exact Nat.le_trans (List.dropWhile_sublist _).length_le (by rw [Array.length_toList]; exact hz)
theorem gives_b_rstrip (b : Array UInt8) (c : UInt8) (t u : Tok) (hz : b.size ≤ sizeLine) (Q : Value → Shared → Prop) (M : Model) (A : Around) (E : Value → Shared → Prop) (s : Shared)
    (hq : ∀ t' k, Q (.bytes (b.toList.reverse.dropWhile (· == c)).reverse.toArray t') { s with toks := k }) : wpAny M A («bytes.rstrip» ⟨[.bytes b t, .bytes #[c] u], []⟩) (fun fin s' => ∃ v, fin = .done (.ret v) ∧ Q v s') E s := by
  show wpAny M A (bytesLike _ (.bytes #[c] u) >>= fun r => _) _ E s
  refine wpAny_bind (bytesLike_bytes ?_)
  have hc : (#[c] : Array UInt8).contains = (· == c) := by funext x; rw [Bool.eq_iff_iff]; simp
  show wpAny M A (if ((b.toList.reverse.dropWhile ((#[c] : Array UInt8).contains)).reverse.length == b.size) = true then _ else _) _ E s
  rw [hc]
  split
  · rename_i h
    refine wpAny_bind (wpAny_rule ?_)
    refine wpAny_pure ⟨_, rfl, ?_⟩
    have e : b.toList.reverse.dropWhile (· == c) = b.toList.reverse := by
      have h' : (b.toList.reverse.dropWhile (· == c)).length = b.toList.reverse.length := by
        have := beq_iff_eq.mp h
        rw [List.length_reverse] at this
        rw [List.length_reverse, Array.length_toList]; exact this
      exact (List.dropWhile_sublist _).eq_of_length h'
    have := hq t s.toks
    rw [e, List.reverse_reverse] at this
    simpa using this
  · refine wpAny_bind (wpAny_mkBytes (wpAny_pure ⟨_, rfl, hq _ _⟩) ?_)
    show ((b.toList.reverse.dropWhile (· == c)).reverse.toArray).size ≤ sizeLine
    rw [List.size_toArray, List.length_reverse]
    exact Nat.le_trans (List.dropWhile_sublist _).length_le (by rw [List.length_reverse, Array.length_toList]; exact hz)
end Mine
end
section
namespace Mine
open Builtin Builtin.Bytes

/-- the signs' numbers of bytes -/
def nums (b : Array UInt8) : List Nat := b.toList.map UInt8.toNat
theorem nums_length (b : Array UInt8) : (nums b).length = b.size := by unfold nums; rw [List.length_map, Array.length_toList]
theorem at_byte (b : Array UInt8) (c : UInt8) (i : Nat) : (b.extract i (i + 1) == #[c]) = true ↔ (nums b)[i]? = some c.toNat := by
  rw [arr_beq, beq_iff_eq, extract_list]
  unfold nums
  rw [List.getElem?_map]
  have e1 : i + 1 - i = 1 := by omega
  rw [e1]
  show (b.toList.drop i).take 1 = [c] ↔ _
  rcases Nat.lt_or_ge i b.toList.length with h | h
  · have hd : b.toList.drop i = b.toList[i] :: b.toList.drop (i + 1) := List.drop_eq_getElem_cons h
    rw [hd, List.take_succ_cons, List.getElem?_eq_getElem h]
    simp [UInt8.toNat_inj]
  · rw [List.drop_eq_nil_of_le h, List.getElem?_eq_none h]
    simp

theorem find_rev_range (p : Nat → Bool) : ∀ n : Nat, (∃ i, (List.range n).reverse.find? p = some i ∧ i < n ∧ p i = true ∧ ∀ k, i < k → k < n → p k = false) ∨ ((List.range n).reverse.find? p = none ∧ ∀ k, k < n → p k = false)
  | 0 => .inr ⟨rfl, fun k hk => absurd hk (Nat.not_lt_zero _)⟩
  | n + 1 => by
    rw [List.range_succ, List.reverse_append, List.reverse_singleton, List.singleton_append, List.find?_cons]
    cases hp : p n with
    | true => exact .inl ⟨n, rfl, Nat.lt_succ_self _, hp, fun k h1 h2 => by omega⟩
    | false =>
      rcases find_rev_range p n with ⟨i, h1, h2, h3, h4⟩ | ⟨h1, h2⟩
      · exact .inl ⟨i, h1, by omega, h3, fun k ha hb => by
          rcases Nat.lt_or_ge k n with h | h
          · exact h4 k ha h
          · have : k = n := by omega
            rw [this]; exact hp⟩
      · exact .inr ⟨h1, fun k hk => by
          rcases Nat.lt_or_ge k n with h | h
          · exact h2 k h
          · have : k = n := by omega
            rw [this]; exact hp⟩
theorem rfind_byte (b : Array UInt8) (c : UInt8) (d : Int) : (match rfind? b #[c] 0 b.size with | some i => (i : Int) | none => -1) = rfindC c.toNat (nums b) := by
  unfold rfind?
  have e : b.size + 1 - (0 + (#[c] : Array UInt8).size) = b.size := by show b.size + 1 - (0 + 1) = b.size; omega
  rw [e, show (fun x : Nat => x + 0) = _root_.id from rfl, List.map_id]
  rcases find_rev_range (fun i => b.extract i (i + (#[c] : Array UInt8).size) == #[c]) b.size with ⟨i, h1, h2, h3, h4⟩ | ⟨h1, h2⟩
  · rw [h1]
    have hi := (at_byte b c i).mp h3
    rcases rfindC_spec c.toNat (nums b) with ⟨_, hn⟩ | ⟨j, hj, hj2, hj3⟩
    · exact absurd (List.mem_of_getElem? hi) hn
    · rw [hj]
      have hjl : j < b.size := by
        rw [← nums_length]
        rcases Nat.lt_or_ge j (nums b).length with h | h
        · exact h
        · rw [List.getElem?_eq_none h] at hj2; cases hj2
      rcases Nat.lt_trichotomy i j with h | h | h
      · have := h4 j h hjl
        have h5 := (at_byte b c j).mpr hj2
        rw [show (b.extract j (j + (#[c] : Array UInt8).size) == #[c]) = true from h5] at this
        cases this
      · rw [h]
      · exact absurd hi (hj3 i h)
  · rw [h1]
    rcases rfindC_spec c.toNat (nums b) with ⟨hj, _⟩ | ⟨j, hj, hj2, hj3⟩
    · exact hj.symm
    · have hjl : j < b.size := by
        rw [← nums_length]
        rcases Nat.lt_or_ge j (nums b).length with h | h
        · exact h
        · rw [List.getElem?_eq_none h] at hj2; cases hj2
      have := h2 j hjl
      have h5 := (at_byte b c j).mpr hj2
      rw [show (b.extract j (j + (#[c] : Array UInt8).size) == #[c]) = true from h5] at this
      cases this
theorem gives_b_rfind (b : Array UInt8) (c : UInt8) (t u : Tok) : Gives («bytes.rfind» ⟨[.bytes b t, .bytes #[c] u], []⟩) (.int (rfindC c.toNat (nums b))) := by
  refine .of_wp fun M A E s Q hq => ?_
  show wpAny M A (searchArgs .bytes "rfind" ⟨[.bytes b t, .bytes #[c] u], []⟩ >>= fun r => _) _ E s
  refine wpAny_bind ?_
  show wpAny M A (buffer? _ (.bytes #[c] u) >>= fun r => _) _ E s
  refine wpAny_bind (buffer_bytes (wpAny_pure ?_))
  have e1 : window b.size none none = ((0 : Int), (b.size : Int)) := by
    simp only [window, Option.getD_none]
    refine Prod.ext rfl ?_
    show min (b.size : Int) (if (b.size : Int) < 0 then _ else (b.size : Int)) = _
    rw [if_neg (by omega)]; omega
  show wpAny M A (match (if ((window b.size none none).2 - (window b.size none none).1 < (((#[c] : Array UInt8).size : Nat) : Int)) then none else some ((window b.size none none).1.toNat, (window b.size none none).2.toNat)).bind
    (fun x => rfind? b #[c] x.1 x.2) with | some i => retInt i | none => _) _ E s
  rw [e1, ← rfind_byte b c 0] at *
  dsimp only at hq ⊢
  by_cases hb : b.size = 0
  · have hn : rfind? b #[c] 0 b.size = none := by rw [hb]; rfl
    rw [hn] at hq
    rw [if_pos (by show (b.size : Int) - 0 < ((1 : Nat) : Int); omega)]
    refine wpAny_bind (wpAny_rule ?_)
    exact wpAny_bind (wpAny_mkInt (wpAny_pure ⟨_, rfl, hq⟩))
  · rw [if_neg (by show ¬ (b.size : Int) - 0 < ((1 : Nat) : Int); omega)]
    show wpAny M A (match rfind? b #[c] (Int.toNat 0) (b.size : Int).toNat with | some i => retInt i | none => _) _ E s
    rw [Int.toNat_natCast, Int.toNat_zero]
    cases hf : rfind? b #[c] 0 b.size with
    | some i => rw [hf] at hq; exact wpAny_bind (wpAny_mkInt (wpAny_pure ⟨_, rfl, hq⟩))
    | none =>
      rw [hf] at hq
      refine wpAny_bind (wpAny_rule ?_)
      exact wpAny_bind (wpAny_mkInt (wpAny_pure ⟨_, rfl, hq⟩))

/-! split at one byte -/
def placesOf (b : Array UInt8) (c : UInt8) (o : Nat) : Nat → List Nat
  | 0 => []
  | n + 1 => if (nums b)[o]? = some c.toNat then o :: placesOf b c (o + 1) n else placesOf b c (o + 1) n
theorem occ_fold (b : Array UInt8) (c : UInt8) : ∀ (n o : Nat) (acc : List Nat) (last : Nat), last ≤ o →
    ((List.range' o n).foldl (fun (acc : List Nat × Nat) i => if (decide (i ≥ acc.2) && b.extract i (i + (#[c] : Array UInt8).size) == #[c]) = true then (i :: acc.1, i + (#[c] : Array UInt8).size) else acc) (acc, last)).1.reverse
      = acc.reverse ++ placesOf b c o n
  | 0, o, acc, last, h => by simp [placesOf]
  | n + 1, o, acc, last, h => by
    rw [List.range'_succ, List.foldl_cons]
    dsimp only
    unfold placesOf
    by_cases hc : (nums b)[o]? = some c.toNat
    · have h5 := (at_byte b c o).mpr hc
      rw [if_pos hc, if_pos (by rw [Bool.and_eq_true, decide_eq_true_iff]; exact ⟨h, h5⟩), occ_fold b c n (o + 1) (o :: acc) (o + (#[c] : Array UInt8).size) (Nat.le_refl _)]
      simp
    · rw [if_neg hc, if_neg (by
        rw [Bool.and_eq_true]
        rintro ⟨_, h5⟩
        exact hc ((at_byte b c o).mp h5))]
      exact occ_fold b c n (o + 1) acc last (by omega)
theorem occ_places (b : Array UInt8) (c : UInt8) : occurrences b #[c] 0 b.size = placesOf b c 0 b.size := by
  unfold occurrences
  have e : b.size + 1 - (0 + (#[c] : Array UInt8).size) = b.size := by show b.size + 1 - (0 + 1) = b.size; omega
  dsimp only
  rw [e, show (fun x : Nat => x + 0) = _root_.id from rfl, List.map_id, List.range_eq_range']
  exact occ_fold b c b.size 0 [] 0 (Nat.le_refl _)
theorem places_length (b : Array UInt8) (c : UInt8) : ∀ n o, (placesOf b c o n).length ≤ n
  | 0, o => Nat.le_refl _
  | n + 1, o => by
    have := places_length b c n (o + 1)
    unfold placesOf
    split
    · rw [List.length_cons]; omega
    · omega
theorem between_fold (b : Array UInt8) (c : UInt8) : ∀ (n o last : Nat) (parts : Array (Array UInt8)), last ≤ o → o + n = b.size → c.toNat ∉ ((nums b).drop last).take (o - last) →
    (let r := (placesOf b c o n).foldl (fun (x : Array (Array UInt8) × Nat) p => (x.1.push (b.extract x.2 p), p + 1)) (parts, last); (r.1.push (b.extract r.2 b.size)).toList).map nums
      = parts.toList.map nums ++ splitC c.toNat ((nums b).drop last)
  | 0, o, last, parts, h, hn, hf => by
    have ho : o = b.size := by omega
    subst ho
    show ((parts.push (b.extract last b.size)).toList).map nums = _
    rw [Array.toList_push, List.map_append]
    have e : (nums b).drop last = nums (b.extract last b.size) := by
      unfold nums
      rw [extract_list, ← List.map_drop, List.take_of_length_le (by rw [List.length_drop, Array.length_toList]; exact Nat.le_refl _)]
    have hf' : c.toNat ∉ (nums b).drop last := by
      rw [List.take_of_length_le (by rw [List.length_drop, nums_length]; exact Nat.le_refl _)] at hf
      exact hf
    rw [splitC_self _ _ hf', e]; rfl
  | n + 1, o, last, parts, h, hn, hf => by
    have hol : o < (nums b).length := by rw [nums_length]; omega
    unfold placesOf
    by_cases hc : (nums b)[o]? = some c.toNat
    · rw [if_pos hc]
      have key := between_fold b c n (o + 1) (o + 1) (parts.push (b.extract last o)) (Nat.le_refl _) (by omega) (by simp)
      dsimp only at key ⊢
      rw [List.foldl_cons, key, Array.toList_push, List.map_append, List.append_assoc]
      congr 1
      have e : (nums b).drop last = ((nums b).drop last).take (o - last) ++ c.toNat :: (nums b).drop (o + 1) := by
        have h1 : (nums b).drop o = c.toNat :: (nums b).drop (o + 1) := by
          rw [List.getElem?_eq_getElem hol] at hc
          rw [List.drop_eq_getElem_cons hol, Option.some.inj hc]
        have h2 : ((nums b).drop last).drop (o - last) = (nums b).drop o := by rw [List.drop_drop]; congr 1; omega
        rw [← h1, ← h2, List.take_append_drop]
      rw [e, splitC_app _ _ hf]
      have e2 : nums (b.extract last o) = ((nums b).drop last).take (o - last) := by
        unfold nums
        rw [extract_list, ← List.map_drop, ← List.map_take]
      show [nums (b.extract last o)] ++ _ = _
      rw [e2]; rfl
    · rw [if_neg hc]
      refine between_fold b c n (o + 1) last parts (by omega) (by omega) ?_
      have e : ((nums b).drop last).take (o + 1 - last) = ((nums b).drop last).take (o - last) ++ [(nums b)[o]] := by
        have h1 : o + 1 - last = (o - last) + 1 := by omega
        rw [h1, List.take_add_one, List.getElem?_drop]
        have h2 : last + (o - last) = o := by omega
        rw [h2, List.getElem?_eq_getElem hol]; rfl
      rw [e]
      intro hm
      rcases List.mem_append.mp hm with hm | hm
      · exact hf hm
      · rw [List.mem_singleton] at hm
        exact hc (by rw [List.getElem?_eq_getElem hol, hm])
theorem between_split (b : Array UInt8) (c : UInt8) : (between b (#[c] : Array UInt8).size (placesOf b c 0 b.size)).map nums = splitC c.toNat (nums b) := by
  have := between_fold b c b.size 0 0 #[] (Nat.le_refl _) (by omega) (by simp)
  rw [List.drop_zero, show (#[] : Array (Array UInt8)).toList = [] from rfl, List.map_nil, List.nil_append] at this
  rw [← this]; rfl
theorem places_nil (b : Array UInt8) (c : UInt8) (h : placesOf b c 0 b.size = []) : splitC c.toNat (nums b) = [nums b] := by
  have := between_split b c
  rw [h] at this
  rw [← this]
  show [nums (b.extract 0 b.size)] = _
  rw [Array.extract_size]
end Mine
end
section
namespace Mine
open Builtin Builtin.Bytes

/-- values that are these bytes -/
inductive BytesAre : List Value → List (Array UInt8) → Prop
  | nil : BytesAre [] []
  | cons {b : Array UInt8} {t : Tok} {vs : List Value} {bs : List (Array UInt8)} : BytesAre vs bs → BytesAre (.bytes b t :: vs) (b :: bs)

theorem BytesAre.rep {h : Heap} {Ok : Addr → Prop} : ∀ {vs : List Value} {bs : List (Array UInt8)}, BytesAre vs bs → RepAll h Ok vs ((bs.map nums).map (PV.txt true))
  | _, _, .nil => .nil
  | _, _, .cons (b := b) (t := t) r => .cons (by have := Rep.bytes (h := h) (Ok := Ok) b.toList t (cs := nums b) rfl; simpa using this) r.rep
theorem bytesAre_of {h : Heap} {Ok : Addr → Prop} : ∀ {vs : List Value} {ps : List (List Nat)}, RepAll h Ok vs (ps.map (PV.txt true)) → ∃ bs, BytesAre vs bs ∧ bs.map nums = ps
  | _, [], r => by cases r; exact ⟨[], .nil, rfl⟩
  | _, p :: ps, r => by
    cases r with
    | cons a q =>
      obtain ⟨bs, h1, h2⟩ := bytesAre_of q
      cases a with
      | bytes b t e => exact ⟨b.toArray :: bs, .cons h1, by rw [List.map_cons, h2, e]; rfl⟩
theorem BytesAre.get : ∀ {vs : List Value} {bs : List (Array UInt8)}, BytesAre vs bs → ∀ i (hi : i < bs.length), ∃ t, vs[i]? = some (.bytes bs[i] t)
  | _, _, .nil, i, hi => absurd hi (Nat.not_lt_zero _)
  | _, _, .cons (t := t) r, 0, _ => ⟨t, rfl⟩
  | _, _, .cons r, i + 1, hi => by obtain ⟨t, h⟩ := r.get i (Nat.lt_of_succ_lt_succ hi); exact ⟨t, by simpa using h⟩
theorem BytesAre.length : ∀ {vs : List Value} {bs : List (Array UInt8)}, BytesAre vs bs → vs.length = bs.length
  | _, _, .nil => rfl
  | _, _, .cons r => by rw [List.length_cons, List.length_cons, r.length]

theorem mapM_mkBytes {M : Model} {A : Around} {E : Value → Shared → Prop} : ∀ (bs : List (Array UInt8)) (s : Shared) (Q : List Value → Shared → Prop), (∀ b ∈ bs, b.size ≤ sizeLine) →
    (∀ vs k, BytesAre vs bs → Q vs { s with toks := k }) → wpAny M A (bs.mapM mkBytes) Q E s
  | [], s, Q, _, h => by rw [List.mapM_nil]; exact wpAny_pure (h [] s.toks .nil)
  | b :: bs, s, Q, hz, h => by
    rw [List.mapM_cons]
    refine wpAny_bind (wpAny_mkBytes ?_ (hz b (.head _)))
    refine wpAny_bind (mapM_mkBytes bs _ _ (fun x hx => hz x (.tail _ hx)) fun vs k hv => ?_)
    exact wpAny_pure (h _ _ (.cons hv))

theorem meets_b_split (b : Array UInt8) (c : UInt8) (t u : Tok) (hz : b.size < sizeLine) : Meets («bytes.split» ⟨[.bytes b t, .bytes #[c] u], []⟩)
    (fun _ R s => ∀ vs bs k, BytesAre vs bs → bs.map nums = splitC c.toNat (nums b) → R (.ok (.ret (.ref s.heap.objs.size))) { s with heap := s.heap.push { cls := .type "list", data := .seq vs.toArray }, toks := k }) := by
  refine .of_wp fun prog w A R s h => ?_
  show wpAny _ _ (bindOptional "bytes.split" "split" ["sep", "maxsplit"] [.bytes #[c] u] [] >>= fun r => _) _ _ s
  rw [b_split_bind]
  refine wpAny_bind (wpAny_pure ?_)
  show wpAny _ _ (bytesLike _ (.bytes #[c] u) >>= fun r => _) _ _ s
  refine wpAny_bind (bytesLike_bytes ?_)
  have e : (occurrences b #[c] 0 b.size).take (b.size + 1) = placesOf b c 0 b.size := by
    rw [occ_places, List.take_of_length_le (Nat.le_succ_of_le (places_length b c _ _))]
  show wpAny _ _ (if ((occurrences b #[c] 0 b.size).take (b.size + 1)).isEmpty = true then _ else _) _ _ s
  rw [e]
  split
  · rename_i hn
    refine wpAny_bind (wpAny_rule ?_)
    show wpAny _ _ (newList [Value.bytes b t] >>= fun r => _) _ _ s
    refine wpAny_bind (wpAny_newList (wpAny_pure ⟨_, rfl, ?_⟩) (by show 1 ≤ sizeLine; decide))
    exact h _ [b] s.toks (.cons .nil) (by rw [places_nil b c (List.isEmpty_iff.mp hn)]; rfl)
  · show wpAny _ _ (List.mapM mkBytes (between b (#[c] : Array UInt8).size ((occurrences b #[c] 0 b.size).take (b.size + 1))) >>= fun r => _) _ _ s
    rw [e]
    have hb := between_split b c
    have hlen := congrArg List.length hb
    have hle := splitC_length c.toNat (nums b)
    rw [List.length_map] at hlen
    rw [nums_length] at hle
    refine wpAny_bind (mapM_mkBytes _ _ _ (fun x hx => ?_) fun vs k hv => ?_)
    · have hm : nums x ∈ splitC c.toNat (nums b) := by rw [← hb]; exact List.mem_map_of_mem hx
      have : (nums x).length ≤ (nums b).length := by
        have hj := joinC_split c.toNat (nums b)
        have key : ∀ (ps : List (List Nat)) (p : List Nat), p ∈ ps → p.length ≤ (joinC [c.toNat] ps).length := by
          intro ps
          induction ps with
          | nil => intro p hp; cases hp
          | cons q r ih =>
            intro p hp
            cases r with
            | nil => rw [List.mem_singleton.mp hp]; exact Nat.le_refl _
            | cons q' r' =>
              show p.length ≤ (q ++ [c.toNat] ++ joinC [c.toNat] (q' :: r')).length
              rw [List.length_append, List.length_append]
              rcases List.mem_cons.mp hp with rfl | hp
              · omega
              · have := ih p hp; omega
        have := key _ _ hm
        rw [hj] at this; exact this
      rw [nums_length, nums_length] at this
      omega
    · refine wpAny_bind (wpAny_newList (wpAny_pure ⟨_, rfl, h _ _ k hv hb⟩) ?_)
      rw [hv.length]; omega

/-! join -/
theorem joined_fold (sep : Array UInt8) : ∀ (ps : List (Array UInt8)) (i : Nat) (out : Array UInt8), 0 < i →
    nums ((ps.zipIdx i).foldl (fun out (x : Array UInt8 × Nat) => (if x.2 > 0 then out ++ sep else out) ++ x.1) out) = nums out ++ (ps.map fun p => nums sep ++ nums p).flatten
  | [], i, out, _ => by simp
  | p :: ps, i, out, hi => by
    rw [List.zipIdx_cons, List.foldl_cons]
    dsimp only
    rw [if_pos hi, joined_fold sep ps (i + 1) _ (Nat.succ_pos _)]
    simp [nums]
theorem joinC_flat (sep : List Nat) (p : List Nat) : ∀ ps : List (List Nat), joinC sep (p :: ps) = p ++ (ps.map fun q => sep ++ q).flatten
  | [] => by simp [joinC]
  | q :: ps => by
    show p ++ sep ++ joinC sep (q :: ps) = _
    rw [joinC_flat sep q ps, List.map_cons, List.flatten_cons]
    simp
theorem joined_nums (sep : Array UInt8) (ps : List (Array UInt8)) : nums (joined sep ps) = joinC (nums sep) (ps.map nums) := by
  cases ps with
  | nil => rfl
  | cons p ps =>
    unfold joined
    rw [List.zipIdx_cons, List.foldl_cons]
    have := joined_fold sep ps (0 + 1) (#[] ++ p) (Nat.succ_pos _)
    refine Eq.trans (Eq.trans ?_ this) ?_
    · rfl
    · rw [List.map_cons, joinC_flat, List.map_map]; simp [nums, Function.comp_def]
theorem joinC_length (sep : List Nat) : ∀ ps : List (List Nat), (joinC sep ps).length = (ps.map List.length).sum + sep.length * (ps.length - 1)
  | [] => by simp [joinC]
  | [p] => by simp [joinC]
  | p :: q :: r => by
    show (p ++ sep ++ joinC sep (q :: r)).length = _
    rw [List.length_append, List.length_append, joinC_length sep (q :: r)]
    simp only [List.map_cons, List.sum_cons, List.length_cons, Nat.add_sub_cancel]
    rw [Nat.mul_succ]; omega
theorem parts_fold : ∀ (ps : List (Array UInt8)) (n : Nat), ps.foldl (fun (a : Nat) (p : Array UInt8) => a + p.size) n = n + ((ps.map nums).map List.length).sum
  | [], n => by simp
  | p :: ps, n => by
    rw [List.foldl_cons, parts_fold ps, List.map_cons, List.map_cons, List.sum_cons, nums_length]; omega

theorem joinLetGo_bytes {M : Model} {A : Around} {E : Value → Shared → Prop} {s : Shared} : ∀ (taken : List (Value × Option Value)) (keep : List Value) {Q : Unit → Shared → Prop}, (∀ x ∈ taken, x.2 = none) → Q () s →
    wpAny M A (joinLetGo taken keep) Q E s
  | [], _, _, _, h => wpAny_pure h
  | (x, w) :: rest, keep, Q, hn, h => by
    have hw : w = none := hn _ (.head _)
    subst hw
    unfold joinLetGo
    dsimp only
    exact wpAny_bind (wpAny_letGo (joinLetGo_bytes rest keep (fun y hy => hn y (.tail _ hy)) h))
end Mine
end
section
namespace Mine
open Builtin Builtin.Bytes

theorem join_loop {M : Model} {A : Around} {E : Value → Shared → Prop} {s : Shared} (bs : List (Array UInt8)) (vs : List Value) (hv : BytesAre vs bs)
    (f : Nat → (Array (Array UInt8) × List (Value × Option Value)) → Sem (ForInStep (Array (Array UInt8) × List (Value × Option Value))))
    (hturn : ∀ i b t parts taken, vs[i]? = some (.bytes b t) → (∀ x ∈ taken, x.2 = none ∧ x.1.onHeap = false) → ∀ (Q : ForInStep (Array (Array UInt8) × List (Value × Option Value)) → Shared → Prop),
      Q (.yield (parts.push b, taken ++ [(.bytes b t, none)])) s → wpAny M A (f i (parts, taken)) Q E s) :
    ∀ (Q : (Array (Array UInt8) × List (Value × Option Value)) → Shared → Prop), (∀ parts taken, parts.toList = bs → (∀ x ∈ taken, x.2 = none ∧ x.1.onHeap = false) → Q (parts, taken) s) →
      wpAny M A (forIn [0:vs.toArray.size] (#[], []) f) Q E s := by
  intro Q q
  rw [Std.Legacy.Range.forIn_eq_forIn_range']
  have hl := hv.length
  have e : ([0:vs.toArray.size] : Std.Legacy.Range).size = bs.length := by
    show (vs.toArray.size - 0 + 1 - 1) / 1 = _
    rw [List.size_toArray, hl]; simp
  rw [e]
  refine wpAny_forIn_list f (fun rest x s' => s' = s ∧ ∃ k, rest = List.range' k (bs.length - k) ∧ k ≤ bs.length ∧ x.1.toList = bs.take k ∧ ∀ y ∈ x.2, y.2 = none ∧ y.1.onHeap = false) Q ?_ ?_ _ _ ?_
  · rintro i rest ⟨parts, taken⟩ s' ⟨rfl, k, hr, hk, hp, ht⟩
    have hk' : k < bs.length := by
      rcases Nat.lt_or_ge k bs.length with h | h
      · exact h
      · rw [show bs.length - k = 0 by omega] at hr; cases hr
    rw [show bs.length - k = (bs.length - (k + 1)) + 1 by omega, List.range'_succ] at hr
    injection hr with h1 h2
    subst h1
    obtain ⟨t, hg⟩ := hv.get i hk'
    refine hturn i _ t parts taken hg ht _ ?_
    refine ⟨rfl, i + 1, h2, hk', ?_, ?_⟩
    · rw [Array.toList_push, hp, List.take_add_one, List.getElem?_eq_getElem hk']; rfl
    · intro y hy
      rcases List.mem_append.mp hy with hy | hy
      · exact ht y hy
      · rw [List.mem_singleton.mp hy]; exact ⟨rfl, rfl⟩
  · rintro ⟨parts, taken⟩ s' ⟨rfl, k, hr, hk, hp, ht⟩
    have hk' : k = bs.length := by
      rcases Nat.lt_or_ge k bs.length with h | h
      · rw [show bs.length - k = (bs.length - (k + 1)) + 1 by omega, List.range'_succ] at hr; cases hr
      · omega
    subst hk'
    exact q parts taken (by rw [hp, List.take_length]) ht
  · exact ⟨rfl, 0, by simp, Nat.zero_le _, rfl, fun y hy => by cases hy⟩

theorem getD_of {vs : List Value} {i : Nat} {x : Value} (h : vs[i]? = some x) : vs.toArray.getD i Value.none = x := by
  have hi : i < vs.length := by
    rcases Nat.lt_or_ge i vs.length with h' | h'
    · exact h'
    · rw [List.getElem?_eq_none h'] at h; cases h
  rw [List.getElem?_eq_getElem hi] at h
  simp [Array.getD, hi, Option.some.inj h]

theorem meets_b_join (sep : Array UInt8) (t : Tok) (a : Addr) (vs : List Value) (bs : List (Array UInt8)) (hv : BytesAre vs bs) (hz : (joinC (nums sep) (bs.map nums)).length ≤ sizeLine) :
    Meets («bytes.join» ⟨[.bytes sep t, .ref a], []⟩)
    (fun _ R s => s.heap.PlainList a vs.toArray ∧ ∀ r t' k, nums r = joinC (nums sep) (bs.map nums) → R (.ok (.ret (.bytes r t'))) { s with toks := k }) := by
  refine .of_wp fun prog w A R s h => ?_
  obtain ⟨⟨n, ho⟩, h⟩ := h
  have hs : ∀ {A : Around} {E : Value → Shared → Prop} {Q : Option (Array Value) → Shared → Prop}, Q (some vs.toArray) s → wpAny (model prog w) A (seqItems? (.ref a)) Q E s := fun q => wpAny_seqItems ho rfl q
  unfold «bytes.join» joinM
  refine wpAny_bind (wpAny_pure (a := (Value.bytes sep t, Value.ref a)) ?_)
  dsimp only
  rw [if_pos (by decide)]
  unfold joinItems
  refine wpAny_bind (wpAny_bind (wpAny_typeOf (T := "list") ⟨_, ho, rfl⟩ ?_))
  rw [if_pos (by decide)]
  refine wpAny_pure ?_
  refine wpAny_bind (hs ?_)
  dsimp only
  rw [if_pos (by decide)]
  have fin : ∀ {Q : Fin → Shared → Prop} {E : Value → Shared → Prop} (parts : Array (Array UInt8)) (taken : List (Value × Option Value)), parts.toList = bs → (∀ x ∈ taken, x.2 = none ∧ x.1.onHeap = false) →
      (∀ v s', (∃ r t' k, nums r = joinC (nums sep) (bs.map nums) ∧ v = .bytes r t' ∧ s' = { s with toks := k }) → Q (.done (.ret v)) s') →
      wpAny (model prog w) A.in1 (Kind.bytes.new (joined sep parts.toList) >>= fun result => holding (result :: taken.flatMap fun x => x.1 :: x.2.toList) point >>= fun _ => joinLetGo taken [result] >>= fun _ => ret result) Q E s := by
    intro Q E parts taken hp ht q
    refine wpAny_bind (m := mkBytes (joined sep parts.toList)) (wpAny_mkBytes ?_ ?_)
    · refine wpAny_bind (wpAny_holding (wpAny_point ?_))
      refine wpAny_bind (joinLetGo_bytes taken _ (fun x hx => (ht x hx).1) ?_)
      exact wpAny_pure (q _ _ ⟨_, _, _, by rw [hp, joined_nums], rfl, rfl⟩)
    · rw [← nums_length, hp, joined_nums]; exact hz
  have hsz : ∀ parts : Array (Array UInt8), parts.toList = bs → tooLong (parts.foldl (fun x1 x2 => x1 + x2.size) (sep.size * (parts.size - 1))) = false := by
    intro parts hp
    have e1 : parts.foldl (fun x1 x2 => x1 + x2.size) (sep.size * (parts.size - 1)) = (joinC (nums sep) (bs.map nums)).length := by
      rw [← Array.foldl_toList, hp, parts_fold, joinC_length, nums_length, List.length_map, ← hp, Array.length_toList]
      omega
    rw [e1]
    unfold tooLong
    rw [decide_eq_false_iff_not]; omega
  have hv0 := hv
  cases hv with
  | nil =>
    show wpAny (model prog w) A.in1 (forIn [0:_] (#[], []) _ >>= fun r => _) _ _ s
    refine wpAny_bind ?_
    refine join_loop _ _ hv0 _ ?_ _ ?_
    · intro i b t parts taken hg ht Q q
      have hg' := getD_of hg
      dsimp only
      refine wpAny_bind (hs ?_)
      dsimp only
      have hany : (Kind.bytes == Kind.bytearray || taken.any fun x => x.1.onHeap) = false := by
        have h1 : (taken.any fun x => x.1.onHeap) = false := by
          rw [List.any_eq_false]; intro x hx; rw [(ht x hx).2]; exact Bool.false_ne_true
        rw [h1]; decide
      rw [hany, if_neg Bool.false_ne_true, hg']
      refine wpAny_bind (wpAny_holding (takeBuffer_bytes ?_))
      dsimp only
      refine wpAny_bind (hs ?_)
      dsimp only
      rw [if_neg (by simp)]
      exact wpAny_pure q
    · intro parts taken hp ht
      dsimp only
      rw [show payload (Value.bytes sep t) = pure sep from rfl]
      refine wpAny_bind (wpAny_pure ?_)
      rw [hsz parts hp, if_neg Bool.false_ne_true]
      refine fin parts taken hp ht ?_
      rintro v s' ⟨r, t', k, hr, rfl, rfl⟩
      exact ⟨_, rfl, h r t' k hr⟩
  | cons r =>
    rename_i b0 t0 vs0 bs0
    cases r with
    | nil =>
      show wpAny (model prog w) A.in1 (typeOf _ >>= fun r => _) _ _ s
      refine wpAny_bind (wpAny_typeOf (T := "bytes") rfl ?_)
      rw [if_pos (by decide)]
      refine wpAny_bind (wpAny_rule (wpAny_pure ⟨_, rfl, ?_⟩))
      exact h _ _ s.toks rfl
    | cons r =>
      show wpAny (model prog w) A.in1 (forIn [0:_] (#[], []) _ >>= fun r => _) _ _ s
      refine wpAny_bind ?_
      refine join_loop _ _ hv0 _ ?_ _ ?_
      · intro i b t parts taken hg ht Q q
        have hg' := getD_of hg
        dsimp only
        refine wpAny_bind (hs ?_)
        dsimp only
        have hany : (Kind.bytes == Kind.bytearray || taken.any fun x => x.1.onHeap) = false := by
          have h1 : (taken.any fun x => x.1.onHeap) = false := by
            rw [List.any_eq_false]; intro x hx; rw [(ht x hx).2]; exact Bool.false_ne_true
          rw [h1]; decide
        rw [hany, if_neg Bool.false_ne_true, hg']
        refine wpAny_bind (wpAny_holding (takeBuffer_bytes ?_))
        dsimp only
        refine wpAny_bind (hs ?_)
        dsimp only
        rw [if_neg (by simp)]
        exact wpAny_pure q
      · intro parts taken hp ht
        dsimp only
        rw [show payload (Value.bytes sep t) = pure sep from rfl]
        refine wpAny_bind (wpAny_pure ?_)
        rw [hsz parts hp, if_neg Bool.false_ne_true]
        refine fin parts taken hp ht ?_
        rintro v s' ⟨r, t', k, hr, rfl, rfl⟩
        exact ⟨_, rfl, h r t' k hr⟩
end Mine
end
section
namespace Mine
open Builtin

def asTxts (k : Bool) : List PV → Option (List (List Nat))
  | [] => some []
  | .txt k' cs :: r => if k' = k then (asTxts k r).map (cs :: ·) else none
  | _ :: _ => none
theorem asTxts_map (k : Bool) : ∀ ps : List (List Nat), asTxts k (ps.map (PV.txt k)) = some ps
  | [] => rfl
  | p :: ps => by rw [List.map_cons, asTxts, if_pos rfl, asTxts_map k ps]; rfl
theorem asTxts_some {k : Bool} : ∀ {xs : List PV} {ps : List (List Nat)}, asTxts k xs = some ps → xs = ps.map (PV.txt k)
  | [], ps, h => by cases h; rfl
  | x :: r, ps, h => by
    cases x <;> simp only [asTxts] at h <;> try (cases h; done)
    rename_i k' cs
    split at h
    · rename_i hk
      subst hk
      cases e : asTxts k' r with
      | none => rw [e] at h; cases h
      | some qs => rw [e] at h; cases h; rw [asTxts_some e]; rfl
    · cases h

def PV.plain : PV → Bool
  | .dict _ => false
  | _ => true
theorem PV.plain_ne {x : PV} (h : x.plain = true) : ∀ es, x ≠ .dict es := fun es e => by subst e; cases h

inductive Meth where
  | split | join | startswith | endswith | lstrip | rstrip | rfind | count | index
deriving DecidableEq
def Meth.name : Meth → String
  | .split => "split" | .join => "join" | .startswith => "startswith" | .endswith => "endswith" | .lstrip => "lstrip" | .rstrip => "rstrip" | .rfind => "rfind" | .count => "count" | .index => "index"
def Meth.kind (m : Meth) : PV → String
  | .txt true _ => "bytes" | .list _ => "list" | _ => "str"

/-- what a method gives -/
def methF : Meth → PV → List PV → Option PV
  | .split, .txt k cs, [.txt k' [c]] => if k = k' ∧ cs.length < LIM then some (.list ((splitC c cs).map (PV.txt k))) else none
  | .join, .txt k sep, [.list xs] => match asTxts k xs with
    | some ps => if (ps.map List.length).sum + ps.length * sep.length ≤ LIM then some (.txt k (joinC sep ps)) else none
    | none => none
  | .startswith, .txt k a, [.txt k' b] => if k = k' then some (.bool (b.isPrefixOf a)) else none
  | .endswith, .txt k a, [.txt k' b] => if k = k' then some (.bool (b.isSuffixOf a)) else none
  | .lstrip, .txt k a, [.txt k' [c]] => if k = k' ∧ a.length ≤ LIM then some (.txt k (a.dropWhile (· == c))) else none
  | .rstrip, .txt k a, [.txt k' [c]] => if k = k' ∧ a.length ≤ LIM then some (.txt k (rstripC c a)) else none
  | .rfind, .txt k a, [.txt k' [c]] => if k = k' then some (.int (rfindC c a)) else none
  | .count, .list xs, [x] => if x.plain = true ∧ allEq x xs = true then some (.int (xs.countP fun y => pvEq 4 y x == some true)) else none
  | .index, .list xs, [x] => if x.plain = true ∧ allEq x xs = true ∧ xs.length ≤ LIM then (xs.findIdx? fun y => pvEq 4 y x == some true).map fun i => .int i else none
  | _, _, _ => none

def Meth.id : Meth → PV → String
  | .split, .txt true _ => "bytes.split"
  | .split, _ => "str.split"
  | .join, .txt true _ => "bytes.join"
  | .join, _ => "str.join"
  | .startswith, .txt true _ => "bytes.startswith"
  | .startswith, _ => "str.startswith"
  | .endswith, .txt true _ => "bytes.endswith"
  | .endswith, _ => "str.endswith"
  | .lstrip, .txt true _ => "bytes.lstrip"
  | .lstrip, _ => "str.lstrip"
  | .rstrip, .txt true _ => "bytes.rstrip"
  | .rstrip, _ => "str.rstrip"
  | .rfind, .txt true _ => "bytes.rfind"
  | .rfind, _ => "str.rfind"
  | .count, _ => "list.count"
  | .index, _ => "list.index"

section
variable {W : Wld} {A : Around} {s : Shared} {Ok Ok' Ok'' : Addr → Prop} {v u : Value} {x y : PV}

theorem bytes_one {bs : List UInt8} {c : Nat} (e : [c] = bs.map UInt8.toNat) : ∃ d, bs = [d] ∧ c = d.toNat := by
  cases bs with
  | nil => cases e
  | cons d r =>
    cases r with
    | nil => exact ⟨d, rfl, by simpa using e⟩
    | cons _ _ => simp at e
theorem rep_bytes (b : Array UInt8) (t : Tok) {h : Heap} : Rep h Ok (.bytes b t) (.txt true (nums b)) := by
  have := Rep.bytes (h := h) (Ok := Ok) b.toList t (cs := nums b) rfl
  simpa using this
theorem rep_nums {h : Heap} {b : Array UInt8} {t : Tok} {k : Bool} {cs : List Nat} (r : Rep h Ok (.bytes b t) (.txt k cs)) : k = true ∧ cs = nums b := by
  generalize hv : Value.bytes b t = v at r
  cases r with
  | str _ _ => cases hv
  | bytes bs t' e => cases hv; exact ⟨rfl, e⟩

theorem startswith_txt {k : Bool} {a b : List Nat} (hv : Rep s.heap Ok v (.txt k a)) (hu : Rep s.heap Ok' u (.txt k b)) : Gets W A Ok'' s (call (.builtin (Meth.startswith.id (.txt k a))) [v, u]) (.bool (b.isPrefixOf a)) := by
  intro E Q q
  cases hv with
  | str _ t =>
    cases hu with
    | str _ t' => exact SC.startswith (x := strL a) (y := strL b) (by rw [txt_startswith]; exact q _ _ (.refl _) (.bool _))
  | bytes bs t e =>
    cases hu with
    | bytes bs' t' e' =>
      show wpAny W.M A (call (.builtin "bytes.startswith") [_, _]) Q E s
      refine call_meets FB.slot_bytes_startswith (typeIs_bytes s _ _) FB.entry_bytes_startswith (FB.args_bytes_startswith_2 _ _) (gives_b_startswith _ _ _ _).meets ?_
      have : b.isPrefixOf a = bs'.toArray.toList.isPrefixOf bs.toArray.toList := by
        subst e e'
        rw [Bool.eq_iff_iff, List.isPrefixOf_iff_prefix, List.isPrefixOf_iff_prefix]
        rw [List.prefix_iff_eq_take, List.prefix_iff_eq_take, List.length_map, ← List.map_take]
        exact List.map_inj_right (fun x y h => UInt8.toNat_inj.mp h)
      show Q (.bool _) s
      rw [← this]
      exact q _ _ (.refl _) (.bool _)
theorem endswith_txt {k : Bool} {a b : List Nat} (hv : Rep s.heap Ok v (.txt k a)) (hu : Rep s.heap Ok' u (.txt k b)) : Gets W A Ok'' s (call (.builtin (Meth.endswith.id (.txt k a))) [v, u]) (.bool (b.isSuffixOf a)) := by
  intro E Q q
  cases hv with
  | str _ t =>
    cases hu with
    | str _ t' => exact SC.endswith (x := strL a) (y := strL b) (by rw [txt_endswith]; exact q _ _ (.refl _) (.bool _))
  | bytes bs t e =>
    cases hu with
    | bytes bs' t' e' =>
      show wpAny W.M A (call (.builtin "bytes.endswith") [_, _]) Q E s
      refine call_meets FB.slot_bytes_endswith (typeIs_bytes s _ _) FB.entry_bytes_endswith (FB.args_bytes_endswith_2 _ _) (gives_b_endswith _ _ _ _).meets ?_
      have : b.isSuffixOf a = bs'.toArray.toList.isSuffixOf bs.toArray.toList := by
        subst e e'
        rw [Bool.eq_iff_iff, List.isSuffixOf_iff_suffix, List.isSuffixOf_iff_suffix]
        rw [List.suffix_iff_eq_drop, List.suffix_iff_eq_drop, List.length_map, List.length_map, ← List.map_drop]
        exact List.map_inj_right (fun x y h => UInt8.toNat_inj.mp h)
      show Q (.bool _) s
      rw [← this]
      exact q _ _ (.refl _) (.bool _)
theorem dropWhile_map (c : UInt8) : ∀ bs : List UInt8, (bs.map UInt8.toNat).dropWhile (· == c.toNat) = (bs.dropWhile (· == c)).map UInt8.toNat
  | [] => rfl
  | b :: bs => by
    rw [List.map_cons, List.dropWhile_cons, List.dropWhile_cons]
    have : (b.toNat == c.toNat) = (b == c) := by rw [Bool.eq_iff_iff, beq_iff_eq, beq_iff_eq, UInt8.toNat_inj]
    rw [this]
    split
    · exact dropWhile_map c bs
    · rfl
theorem lstrip_txt {k : Bool} {a : List Nat} {c : Nat} (hz : a.length ≤ LIM) (hv : Rep s.heap Ok v (.txt k a)) (hu : Rep s.heap Ok' u (.txt k [c])) : Gets W A Ok'' s (call (.builtin (Meth.lstrip.id (.txt k a))) [v, u]) (.txt k (a.dropWhile (· == c))) := by
  intro E Q q
  cases hv with
  | str _ t =>
    cases hu with
    | str _ t' => exact SC.lstripChars (x := strL a) (y := strL [c]) (fun t' k => by rw [txt_lstrip]; exact q _ _ (.toks _ _) (.str _ _)) (by rw [strL_length]; exact lim_size hz)
  | bytes bs t e =>
    cases hu with
    | bytes bs' t' e' =>
      obtain ⟨d, rfl, rfl⟩ := bytes_one e'
      subst e
      rw [List.length_map] at hz
      show wpAny W.M A (call (.builtin "bytes.lstrip") [_, _]) Q E s
      refine call_meets slot_b_lstrip (typeIs_bytes s _ _) entry_b_lstrip (args_b_lstrip _ _) (S := fun _ R s => ∀ t' k, R (.ok (.ret (.bytes (bs.dropWhile (· == d)).toArray t'))) { s with toks := k })
        (.of_wp fun prog w A R s h => gives_b_lstrip bs.toArray d t t' (by rw [List.size_toArray]; exact lim_size hz) _ _ _ _ _ (by simpa using h)) ?_
      intro t' k
      exact q _ _ (.toks _ _) (.bytes _ _ (dropWhile_map d bs))
theorem rstrip_txt {k : Bool} {a : List Nat} {c : Nat} (hz : a.length ≤ LIM) (hv : Rep s.heap Ok v (.txt k a)) (hu : Rep s.heap Ok' u (.txt k [c])) : Gets W A Ok'' s (call (.builtin (Meth.rstrip.id (.txt k a))) [v, u]) (.txt k (rstripC c a)) := by
  intro E Q q
  cases hv with
  | str _ t =>
    cases hu with
    | str _ t' => exact SC.rstripChars (x := strL a) (y := strL [c]) (fun t' k => by rw [txt_rstrip]; exact q _ _ (.toks _ _) (.str _ _)) (by rw [strL_length]; exact lim_size hz)
  | bytes bs t e =>
    cases hu with
    | bytes bs' t' e' =>
      obtain ⟨d, rfl, rfl⟩ := bytes_one e'
      subst e
      rw [List.length_map] at hz
      show wpAny W.M A (call (.builtin "bytes.rstrip") [_, _]) Q E s
      refine call_meets slot_b_rstrip (typeIs_bytes s _ _) entry_b_rstrip (args_b_rstrip _ _) (S := fun _ R s => ∀ t' k, R (.ok (.ret (.bytes (bs.reverse.dropWhile (· == d)).reverse.toArray t'))) { s with toks := k })
        (.of_wp fun prog w A R s h => gives_b_rstrip bs.toArray d t t' (by rw [List.size_toArray]; exact lim_size hz) _ _ _ _ _ (by simpa using h)) ?_
      intro t' k
      exact q _ _ (.toks _ _) (.bytes _ _ (by unfold rstripC; rw [← List.map_reverse, dropWhile_map, ← List.map_reverse]))
theorem rfind_txt {k : Bool} {a : List Nat} {c : Nat} (hv : Rep s.heap Ok v (.txt k a)) (hu : Rep s.heap Ok' u (.txt k [c])) : Gets W A Ok'' s (call (.builtin (Meth.rfind.id (.txt k a))) [v, u]) (.int (rfindC c a)) := by
  intro E Q q
  cases hv with
  | str _ t =>
    cases hu with
    | str _ t' => exact SC.rfind (x := strL a) (y := strL [c]) (by rw [txt_rfind]; exact q _ _ (.toks _ _) (.int _ _))
  | bytes bs t e =>
    cases hu with
    | bytes bs' t' e' =>
      obtain ⟨d, rfl, rfl⟩ := bytes_one e'
      subst e
      show wpAny W.M A (call (.builtin "bytes.rfind") [_, _]) Q E s
      refine call_meets slot_b_rfind (typeIs_bytes s _ _) entry_b_rfind (args_b_rfind _ _) (gives_b_rfind bs.toArray d t t').meets ?_
      exact q _ _ (.toks _ _) (.int _ _)

theorem newlist_at' {vs : List Value} {xs : List PV} (n k : Nat) (r : RepAll s.heap Ok vs xs) (E Q : Value → Shared → Prop)
    (q : ∀ a vs s', Ext s s' → s.heap.get? a = none → s'.heap.PlainList a vs.toArray → RepAll s'.heap (fun b => Ok b ∧ b ≠ a) vs xs → Q (.ref a) s') :
    Q (.ref s.heap.objs.size) { s with heap := s.heap.push { cls := .type "list", data := .seq vs.toArray n }, toks := k } := by
  refine q _ vs _ (.push_toks _ _ _) (get_size _) ⟨n, Heap.get?_push_size _ rfl⟩ (r.mono fun a ha sa => ⟨⟨ha, fun e => ?_⟩, fun o e => Heap.get?_push_of_some _ e⟩)
  have := sa.lt
  rw [e] at this
  exact Nat.lt_irrefl _ this

theorem strs_rep {h : Heap} : ∀ {l : List (Str × Tok)} {ps : List (List Nat)}, l.map (·.1) = ps.map strL → RepAll h Ok (strValues l) (ps.map (PV.txt false))
  | [], [], _ => .nil
  | [], _ :: _, e => by cases e
  | _ :: _, [], e => by cases e
  | (x, t) :: l, p :: ps, e => by
    injection e with e1 e2
    have e1' : x = strL p := e1
    subst e1'
    exact .cons (.str p t) (strs_rep e2)
theorem rep_strs {h : Heap} : ∀ {vs : List Value} {ps : List (List Nat)}, RepAll h Ok vs (ps.map (PV.txt false)) → ∃ l : List (Str × Tok), vs = strValues l ∧ l.map (·.1) = ps.map strL
  | _, [], r => by cases r; exact ⟨[], rfl, rfl⟩
  | _, p :: ps, r => by
    cases r with
    | cons a q =>
      obtain ⟨l, h1, h2⟩ := rep_strs q
      cases a with
      | str _ t => exact ⟨(strL p, t) :: l, by rw [h1]; rfl, by rw [List.map_cons, h2]; rfl⟩

theorem split_txt {k : Bool} {a : List Nat} {c : Nat} (hz : a.length < LIM) (hv : Rep s.heap Ok v (.txt k a)) (hu : Rep s.heap Ok' u (.txt k [c])) :
    GetsL W A Ok'' s (call (.builtin (Meth.split.id (.txt k a))) [v, u]) ((splitC c a).map (PV.txt k)) := by
  intro E Q q
  cases hv with
  | str _ t =>
    cases hu with
    | str _ t' =>
      show wpAny W.M A (call (.builtin "str.split") [.str (strL a) t, .str (strL [c]) t']) Q E s
      have hs := txt_split a c
      have hlen := congrArg List.length hs
      rw [List.length_map] at hlen
      have hle := splitC_length c a
      unfold Txt.split at hs hlen
      cases h1 : (decide ((strL a).length < (strL [c]).length) || decide (Str.strKind (strL a) < Str.strKind (strL [c])))
      · rw [h1, if_neg Bool.false_ne_true] at hs hlen
        cases hf : (Str.occurrences (strL a) (strL [c]) 0 (strL a).length ((strL a).length + 1)).isEmpty
        · rw [hf, if_neg Bool.false_ne_true] at hs hlen
          refine call_meets F.slot_str_split (typeIs_str _ _ _) F.entry_str_split (F.args_str_split_2 _ _) (meets_str_split_sep (strL a) (strL [c]) t t' h1 (by rw [strL_length]; rfl) hf (by rw [strL_length]; exact lim_size (Nat.le_of_lt hz))
            (by rw [hlen]; have := lim_size (n := a.length + 1) hz; omega)) ?_
          show wants Q E _ { s with toks := _, heap := s.heap.push { cls := .type "list", data := .seq (strsFrom s.toks _).toArray } }
          rw [strsFrom_eq]
          exact newlist_at' 0 _ (strs_rep (by rw [numbered_texts]; exact hs)) E Q q
        · rw [hf, if_pos rfl] at hs
          refine call_meets F.slot_str_split (typeIs_str _ _ _) F.entry_str_split (F.args_str_split_2 _ _) (meets_str_split_not_found (strL a) (strL [c]) t t' h1 (by rw [strL_length]; rfl) hf) ?_
          exact newlist_at (vs := strValues [(strL a, t)]) 0 (strs_rep hs) E Q q
      · rw [h1, if_pos rfl] at hs
        refine call_meets F.slot_str_split (typeIs_str _ _ _) F.entry_str_split (F.args_str_split_2 _ _) (meets_str_split_cannot_occur (strL a) (strL [c]) t t' h1) ?_
        exact newlist_at (vs := strValues [(strL a, t)]) 0 (strs_rep hs) E Q q
  | bytes bs t e =>
    cases hu with
    | bytes bs' t' e' =>
      obtain ⟨d, rfl, rfl⟩ := bytes_one e'
      subst e
      rw [List.length_map] at hz
      show wpAny W.M A (call (.builtin "bytes.split") [_, _]) Q E s
      refine call_meets slot_b_split (typeIs_bytes s _ _) entry_b_split (args_b_split _ _) (meets_b_split bs.toArray d t t' (by rw [List.size_toArray]; exact Nat.lt_of_lt_of_le hz (lim_size (Nat.le_refl _)))) ?_
      intro vs cs k hb hn
      refine newlist_at' 0 k ?_ E Q q
      have := hb.rep (h := s.heap) (Ok := Ok'')
      rw [hn] at this
      exact this

theorem joinTotal_le (sep : Str) (l : List Str) : l.toArray.foldl (fun x1 x2 => x1 + x2.length + sep.length) 0 = (l.map (·.length)).sum + l.length * sep.length := StrLaws.joinTotal sep l
theorem join_txt {k : Bool} {sep : List Nat} {ps : List (List Nat)} {a : Addr} {vs : List Value} (hz : (ps.map List.length).sum + ps.length * sep.length ≤ LIM) (hv : Rep s.heap Ok v (.txt k sep))
    (hl : s.heap.PlainList a vs.toArray) (r : RepAll s.heap Ok' vs (ps.map (PV.txt k))) : Gets W A Ok'' s (call (.builtin (Meth.join.id (.txt k sep))) [v, .ref a]) (.txt k (joinC sep ps)) := by
  intro E Q q
  cases hv with
  | str _ t =>
    obtain ⟨l, rfl, hl2⟩ := rep_strs r
    refine SC.join (x := strL sep) hl.isList hl2 ?_ fun t' k => ?_
    · unfold JoinOk Str.tooLong
      rw [joinTotal_le, strL_length, List.length_map, List.map_map]
      have : (List.map ((fun x => x.length) ∘ strL) ps) = ps.map List.length := List.map_congr_left fun p _ => strL_length p
      rw [this]
      have h2 := lim_size hz
      simp; omega
    · have : Txt.join (strL sep) (ps.map strL) = strL (joinC sep ps) := by
        show Str.glued _ _ = _
        rw [StrLaws.glued_eq_join, strL_join]
      rw [this]
      exact q _ _ (.toks _ _) (.str _ _)
  | bytes bs t e =>
    obtain ⟨cs, hb, hn⟩ := bytesAre_of r
    have he : nums bs.toArray = sep := e.symm
    show wpAny W.M A (call (.builtin "bytes.join") [_, _]) Q E s
    refine call_meets slot_b_join (typeIs_bytes s _ _) entry_b_join (args_b_join _ _) (meets_b_join bs.toArray t a vs cs hb ?_) ⟨hl, fun r t' k hr => ?_⟩
    · rw [hn, he, joinC_length]
      have h2 := lim_size hz
      have h3 : sep.length * (ps.length - 1) ≤ ps.length * sep.length := by
        rw [Nat.mul_comm]; exact Nat.mul_le_mul_right _ (Nat.sub_le _ _)
      omega
    · rw [hn, he] at hr
      refine q _ _ (.toks _ _) ?_
      rw [← hr]
      exact rep_bytes _ _
end
end Mine
end
section
namespace Mine
open Builtin

/-! values that stand in a name: level 0 is never turned; at level 1 the list (or dict) itself may be, at level 2 its lists too -/
inductive RowsRep (h : Heap) (Ok : Addr → Prop) : List Addr → List PV → Prop
  | nil : RowsRep h Ok [] []
  | cons {b : Addr} {bs : List Addr} {vs : List Value} {ys xs : List PV} : h.PlainList b vs.toArray → RepAll h Ok vs ys → RowsRep h Ok bs xs → RowsRep h Ok (b :: bs) (.list ys :: xs)

/-- a dict by ints -/
def IsDictI (W : Wld) (h : Heap) (Ok : Addr → Prop) (a : Addr) (es : List (Int × PV)) : Prop :=
  ∃ kvs : List (Int × Value), h.DictOf (intKind W.prog W.w) a kvs ∧ kvs.map (·.1) = es.map (·.1) ∧ RepAll h Ok (kvs.map (·.2)) (es.map (·.2))

inductive BRep (W : Wld) (h : Heap) (Ok : Addr → Prop) : Nat → Value → PV → Prop
  | zero {v : Value} {x : PV} : Rep h Ok v x → BRep W h Ok 0 v x
  | one {a : Addr} {vs : List Value} {xs : List PV} : h.PlainList a vs.toArray → RepAll h Ok vs xs → BRep W h Ok 1 (.ref a) (.list xs)
  | two {a : Addr} {bs : List Addr} {xs : List PV} : h.PlainList a (bs.map Value.ref).toArray → RowsRep h Ok bs xs → BRep W h Ok 2 (.ref a) (.list xs)
  | dict {a : Addr} {es : List (Int × PV)} : IsDictI W h Ok a es → BRep W h Ok 1 (.ref a) (.dict es)

theorem RowsRep.length {h : Heap} {Ok : Addr → Prop} : ∀ {bs : List Addr} {xs : List PV}, RowsRep h Ok bs xs → bs.length = xs.length
  | _, _, .nil => rfl
  | _, _, .cons _ _ r => by rw [List.length_cons, List.length_cons, r.length]
theorem RowsRep.get {h : Heap} {Ok : Addr → Prop} : ∀ {bs : List Addr} {xs : List PV}, RowsRep h Ok bs xs → ∀ (i : Nat) (x : PV), xs[i]? = some x → ∃ b vs ys, bs[i]? = some b ∧ x = .list ys ∧ h.PlainList b vs.toArray ∧ RepAll h Ok vs ys
  | _, _, .nil, i, x, e => by simp at e
  | _, _, .cons l a r, 0, x, e => by simp at e; subst e; exact ⟨_, _, _, rfl, rfl, l, a⟩
  | _, _, .cons l a r, i + 1, x, e => by simp at e; obtain ⟨b, vs, ys, h1, h2⟩ := r.get i x e; exact ⟨b, vs, ys, by simpa using h1, h2⟩

section
variable {W : Wld} {A : Around} {s : Shared} {Ok Ok' Ok'' : Addr → Prop} {v u : Value} {x y : PV} {l l' : Nat}

theorem BRep.list01 {h : Heap} {xs : List PV} (r : BRep W h Ok l v (.list xs)) (hl : l ≤ 1) : ∃ a vs, v = .ref a ∧ h.PlainList a vs.toArray ∧ RepAll h Ok vs xs := by
  cases r with
  | zero r => cases r with | list o q r => exact ⟨_, _, rfl, q, r⟩
  | one q r => exact ⟨_, _, rfl, q, r⟩
  | two q r => omega
theorem BRep.list_any {h : Heap} {xs : List PV} (r : BRep W h Ok l v (.list xs)) : ∃ (a : Addr) (vs : List Value), v = .ref a ∧ h.PlainList a vs.toArray ∧ vs.length = xs.length := by
  cases r with
  | zero r => cases r with | list o q r => exact ⟨_, _, rfl, q, r.length⟩
  | one q r => exact ⟨_, _, rfl, q, r.length⟩
  | two q r => exact ⟨_, _, rfl, q, by rw [List.length_map, r.length]⟩
theorem BRep.scalar {h : Heap} (r : BRep W h Ok l v x) (hx : ∀ xs, x ≠ .list xs) (hd : ∀ es, x ≠ .dict es) : Rep h Ok v x := by
  cases r with
  | zero r => exact r
  | one q r => exact absurd rfl (hx _)
  | two q r => exact absurd rfl (hx _)
  | dict q => exact absurd rfl (hd _)
theorem BRep.rep0 {h : Heap} (r : BRep W h Ok 0 v x) : Rep h Ok v x := by cases r; assumption

theorem RowsRep.mono {h h' : Heap} {Ok Ok' : Addr → Prop} (hk : ∀ a, Ok a → SeqAt h a → Ok' a ∧ ∀ o, h.get? a = some o → h'.get? a = some o) :
    ∀ {bs : List Addr} {xs : List PV}, (∀ b ∈ bs, ∀ o, h.get? b = some o → h'.get? b = some o) → RowsRep h Ok bs xs → RowsRep h' Ok' bs xs
  | _, _, _, .nil => .nil
  | _, _, hb, .cons q r t => .cons (q.at (hb _ (.head _))) (r.mono hk) (t.mono hk fun b hm => hb b (.tail _ hm))
theorem IsDictI.mono {h h' : Heap} {Ok Ok' : Addr → Prop} (hk : ∀ a, Ok a → SeqAt h a → Ok' a ∧ ∀ o, h.get? a = some o → h'.get? a = some o) {a : Addr} {es : List (Int × PV)}
    (ha : ∀ o, h.get? a = some o → h'.get? a = some o) (q : IsDictI W h Ok a es) : IsDictI W h' Ok' a es := by
  obtain ⟨kvs, h1, h3, h4⟩ := q
  refine ⟨kvs, ?_, h3, h4.mono hk⟩
  first
    | exact h1.at fun o => ha o
    | exact h1.at' fun o => ha o
theorem BRep.ext {s s' : Shared} (r : BRep W s.heap Ok l v x) (e : Ext s s') : BRep W s'.heap Ok l v x := by
  have hk : ∀ a, Ok a → SeqAt s.heap a → Ok a ∧ ∀ o, s.heap.get? a = some o → s'.heap.get? a = some o := fun a ha _ => ⟨ha, fun o => e.keep a o⟩
  cases r with
  | zero r => exact .zero (r.ext e)
  | one q r => exact .one (q.at fun o => e.keep _ o) (r.ext e)
  | two q r => exact .two (q.at fun o => e.keep _ o) (r.mono hk fun b _ o => e.keep b o)
  | dict q => exact .dict (q.mono hk fun o => e.keep _ o)

/-! binary operations -/
inductive BOp where
  | add | sub | mul | fdiv | fmod | pow
def BOp.op : BOp → Operator
  | .add => .Add | .sub => .Sub | .mul => .Mult | .fdiv => .FloorDiv | .fmod => .Mod | .pow => .Pow

/-- what an operation gives -/
def binF : BOp → PV → PV → Option PV
  | .add, .int a, .int b => some (.int (a + b))
  | .add, .txt k a, .txt k' b => if k = k' ∧ a.length + b.length ≤ LIM then some (.txt k (a ++ b)) else none
  | .add, .list a, .list b => if a.length + b.length ≤ LIM then some (.list (a ++ b)) else none
  | .sub, .int a, .int b => some (.int (a - b))
  | .mul, .list a, .int n => if a.length * n.toNat ≤ LIM ∧ -(2 ^ 40 : Int) ≤ n ∧ n < 2 ^ 40 then some (.list (List.replicate n.toNat a).flatten) else none
  | .mul, .txt k a, .int n => if a.length ≤ 16 ∧ a ≠ [] ∧ 0 ≤ n ∧ n ≤ LIM ∧ a.length * n.toNat ≤ LIM then some (.txt k (List.replicate n.toNat a).flatten) else none
  | .fdiv, .int a, .int b => if b ≠ 0 ∧ b.natAbs < 2 ^ 64 then some (.int (a.fdiv b)) else none
  | .fmod, .int a, .int b => if b ≠ 0 then some (.int (a.fmod b)) else none
  | .pow, .int a, .int b => if 0 ≤ b ∧ b ≤ 1000 ∧ a.natAbs < 1000 then some (.int (a ^ b.toNat)) else none
  | _, _, _ => none

theorem map_flatten_replicate {α β : Type} (f : α → β) (n : Nat) (l : List α) : ((List.replicate n l).flatten).map f = (List.replicate n (l.map f)).flatten := by
  rw [List.map_flatten, List.map_replicate]

theorem add_txts {k : Bool} {a b : List Nat} (hz : a.length + b.length ≤ LIM) (hv : Rep s.heap Ok v (.txt k a)) (hu : Rep s.heap Ok' u (.txt k b)) : Gets W A Ok'' s (binaryOp .Add v u) (.txt k (a ++ b)) := by
  cases hv with
  | str _ t =>
    cases hu with
    | str _ t' =>
      refine fun E Q q => PyProof.Rows.add_str (fun t' tk => ?_) (lim_size hz)
      rw [str_append]; exact q _ _ (.toks _ _) (.str _ _)
  | bytes bs t e =>
    cases hu with
    | bytes bs' t' e' =>
      subst e e'
      rw [List.length_map, List.length_map] at hz
      have hz2 := lim_size hz
      rw [sizeLine_eq] at hz2
      refine fun E Q q => KBy.add_bytes (by rw [List.size_toArray, List.size_toArray]; omega) fun t' k => ?_
      rw [List.append_toArray]
      exact q _ _ (.toks _ _) (.bytes _ _ (by rw [List.map_append]))
theorem noI_bytes_add : typeLookup (.type "bytes") (dunderI "add") = pure none := by rw [typeLookup_type, builtinLookup_eq_fast]; kernel_rfl
theorem iadd_txts {k : Bool} {a b : List Nat} (hz : a.length + b.length ≤ LIM) (hv : Rep s.heap Ok v (.txt k a)) (hu : Rep s.heap Ok' u (.txt k b)) : Gets W A Ok'' s (inplaceOp .Add v u) (.txt k (a ++ b)) := by
  cases hv with
  | str _ t =>
    cases hu with
    | str _ t' =>
      refine fun E Q q => PyProof.Rows.iadd_str (fun t' tk => ?_) (lim_size hz)
      rw [str_append]; exact q _ _ (.toks _ _) (.str _ _)
  | bytes bs t e =>
    cases hu with
    | bytes bs' t' e' =>
      subst e e'
      rw [List.length_map, List.length_map] at hz
      have hz2 := lim_size hz
      rw [sizeLine_eq] at hz2
      intro E Q q
      have q' : ∀ t' k, Q (.bytes (bs ++ bs').toArray t') { s with toks := k } := fun t' k => q _ _ (.toks _ _) (.bytes _ _ (by rw [List.map_append]))
      refine iconcat_gives (typeIs_bytes s _ _) (typeIs_bytes s _ _) noI_bytes_add KBy.noFill_bytes_add KBy.seq_bytes_add FB.slot_bytes_add FB.entry_bytes_add (FB.args_bytes_add_2 _ _)
        (KBy.gives_bytes_add (KBy.tooLong_not (by rw [List.size_toArray, List.size_toArray]; omega))) ?_
      by_cases hb : bs.toArray.isEmpty = true
      · rw [if_pos hb]
        have : bs = [] := by simpa using hb
        subst this
        exact q' _ s.toks
      · rw [if_neg hb]
        by_cases hc : bs'.toArray.isEmpty = true
        · rw [if_pos hc]
          have : bs' = [] := by simpa using hc
          subst this
          have := q' t s.toks
          rw [List.append_nil] at this
          exact this
        · rw [if_neg hc]
          refine ⟨by rw [List.append_toArray, List.size_toArray, List.length_append, sizeLine_eq]; omega, ?_⟩
          rw [List.append_toArray]
          exact q' _ _
theorem mul_txts {k : Bool} {a : List Nat} {n : Int} (h1 : a.length ≤ 16) (h2 : a ≠ []) (h3 : 0 ≤ n) (h4 : n ≤ LIM) (hz : a.length * n.toNat ≤ LIM) (hv : Rep s.heap Ok v (.txt k a)) (hu : Rep s.heap Ok' u (.int n)) :
    Gets W A Ok'' s (binaryOp .Mult v u) (.txt k (List.replicate n.toNat a).flatten) := by
  cases hu
  rename_i t'
  simp only [LIM] at h4 hz
  cases hv with
  | str _ t =>
    intro E Q q
    have hlen : (strL a).length = a.length := strL_length a
    refine PySem.P.mul_str (x := strL a) (by simp; omega) ?_ ?_ ?_
    · intro hn _
      rw [hlen]
      have : (2 ^ 63 - 1 : Int) / n ≥ 16 := by
        rw [ge_iff_le, Int.le_ediv_iff_mul_le (by omega)]; omega
      omega
    · intro hn _
      unfold Str.tooLong
      rw [hlen, decide_eq_false_iff_not, sizeLine_eq]; omega
    · have hrep : (⟨(List.replicate n.toNat (strL a).cps).foldl (· ++ ·) #[]⟩ : Str) = strL (List.replicate n.toNat a).flatten := by
        have key : ∀ (m : Nat) (acc : List Nat), (List.replicate m (strL a).cps).foldl (· ++ ·) acc.toArray = (acc ++ (List.replicate m a).flatten).toArray := by
          intro m
          induction m with
          | zero => intro acc; simp
          | succ m ih =>
            intro acc
            rw [List.replicate_succ, List.foldl_cons]
            show List.foldl _ (acc.toArray ++ a.toArray) _ = _
            rw [List.append_toArray, ih, List.replicate_succ, List.flatten_cons, List.append_assoc]
        have := key n.toNat []
        rw [List.nil_append] at this
        show (⟨_⟩ : Str) = ⟨_⟩
        rw [← this]
      have q' : ∀ t' k, Q (.str (strL (List.replicate n.toNat a).flatten) t') { s with toks := k } := fun t' k => q _ _ (.toks _ _) (.str _ _)
      split
      · rename_i hn
        have : n.toNat = 0 := by omega
        rw [this] at q'
        exact ⟨by show 0 ≤ sizeLine; omega, q' _ _⟩
      · split
        · rename_i hc
          rw [Bool.or_eq_true, beq_iff_eq, beq_iff_eq, hlen] at hc
          have hn1 : n = 1 := by
            rcases hc with h | h
            · exact h
            · exact absurd (List.eq_nil_of_length_eq_zero h) h2
          subst hn1
          have := q' t s.toks
          simp at this
          exact this
        · rw [hrep]
          refine ⟨?_, q' _ _⟩
          rw [strL_length, List.length_flatten, List.map_replicate, List.sum_replicate_nat, sizeLine_eq]
          rw [Nat.mul_comm]; omega
  | bytes bs t e =>
    subst e
    rw [List.length_map] at h1
    intro E Q q
    refine bytes_mul_any (by intro h; subst h; exact h2 rfl) (by omega) (by omega) h1 fun t' k => ?_
    exact q _ _ (.toks _ _) (.bytes _ _ (by rw [map_flatten_replicate]))

theorem bin_sound {o : BOp} {z : PV} (fr : Fresh Ok s) (hv : BRep W s.heap Ok l v x) (hu : BRep W s.heap Ok l' u y) (hl : l ≤ 1) (hl' : l' ≤ 1) (e : binF o x y = some z) : Gets W A Ok s (binaryOp o.op v u) z := by
  have sc : ∀ {a : Int} {l : Nat} {v : Value}, BRep W s.heap Ok l v (.int a) → Rep s.heap Ok v (.int a) := fun r => r.scalar (by simp) (by simp)
  have st : ∀ {k : Bool} {a : List Nat} {l : Nat} {v : Value}, BRep W s.heap Ok l v (.txt k a) → Rep s.heap Ok v (.txt k a) := fun r => r.scalar (by simp) (by simp)
  unfold binF at e
  split at e
  · cases e; exact add_ints (sc hv) (sc hu)
  · split at e
    · rename_i h; obtain ⟨rfl, hz⟩ := h; cases e; exact add_txts hz (st hv) (st hu)
    · cases e
  · split at e
    · rename_i hz; cases e
      obtain ⟨a, vs, rfl, q, r⟩ := hv.list01 hl
      obtain ⟨b, ws, rfl, q', r'⟩ := hu.list01 hl'
      exact (add_lists' hz q q' r r').gets fr
    · cases e
  · cases e; exact sub_ints (sc hv) (sc hu)
  · split at e
    · rename_i h; cases e
      obtain ⟨a, vs, rfl, q, r⟩ := hv.list01 hl
      exact (mul_list' q r h.1 h.2 (sc hu)).gets fr
    · cases e
  · split at e
    · rename_i h; cases e; exact mul_txts h.1 h.2.1 h.2.2.1 h.2.2.2.1 h.2.2.2.2 (st hv) (sc hu)
    · cases e
  · split at e
    · rename_i h; cases e; exact fdiv_ints h.2 h.1 (sc hv) (sc hu)
    · cases e
  · split at e
    · rename_i h; cases e; exact fmod_ints h (sc hv) (sc hu)
    · cases e
  · split at e
    · rename_i h; cases e; exact pow_ints h.1 h.2.1 h.2.2 (sc hv) (sc hu)
    · cases e
  · cases e
end
end Mine
end
section
namespace Mine
open Builtin

inductive COp where
  | eq | ne | lt | le | gt | ge | isin | notin
def COp.op : COp → CmpOp
  | .eq => .Eq | .ne => .NotEq | .lt => .Lt | .le => .LtE | .gt => .Gt | .ge => .GtE | .isin => .In | .notin => .NotIn

/-- what a comparison gives -/
def cmpF : COp → PV → PV → Option Bool
  | .eq, x, y => pvEq 4 x y
  | .ne, x, y => (pvEq 4 x y).map (! ·)
  | .lt, .int a, .int b => some (decide (a < b))
  | .le, .int a, .int b => some (decide (a ≤ b))
  | .gt, .int a, .int b => some (decide (b < a))
  | .ge, .int a, .int b => some (decide (b ≤ a))
  | .isin, x, .list xs => if x.plain = true ∧ allEq x xs = true then some (xs.any fun y => pvEq 4 y x == some true) else none
  | .notin, x, .list xs => if x.plain = true ∧ allEq x xs = true then some (!(xs.any fun y => pvEq 4 y x == some true)) else none
  | .isin, x, .tup xs => if x.plain = true ∧ allEq x xs = true then some (xs.any fun y => pvEq 4 y x == some true) else none
  | .notin, x, .tup xs => if x.plain = true ∧ allEq x xs = true then some (!(xs.any fun y => pvEq 4 y x == some true)) else none
  | _, _, _ => none

section
variable {W : Wld} {A : Around} {s : Shared} {Ok Ok' Ok'' : Addr → Prop} {v u : Value} {x y : PV} {l l' : Nat}

mutual
theorem rep_any {h : Heap} : ∀ {v : Value} {x : PV}, Rep h Ok v x → Rep h (fun _ => True) v x
  | _, _, r => r.mono fun a _ _ => ⟨trivial, fun _ e => e⟩
end
theorem rows_any {h : Heap} : ∀ {bs : List Addr} {xs : List PV}, RowsRep h Ok bs xs → RepAll h (fun _ => True) (bs.map Value.ref) xs
  | _, _, .nil => .nil
  | _, _, .cons q r t => .cons (.list trivial q (r.mono fun a _ _ => ⟨trivial, fun _ e => e⟩)) (rows_any t)
/-- to be looked at, a value at any level is one that stands -/
theorem BRep.any {h : Heap} (r : BRep W h Ok l v x) (hx : ∀ es, x ≠ .dict es) : Rep h (fun _ => True) v x := by
  cases r with
  | zero r => exact rep_any r
  | one q r => exact .list trivial q (r.mono fun a _ _ => ⟨trivial, fun _ e => e⟩)
  | two q r => exact .list trivial q (rows_any r)
  | dict q => exact absurd rfl (hx _)

theorem pvEq_dict {n : Nat} {es : List (Int × PV)} {y : PV} : pvEq n (.dict es) y = none := by cases n <;> cases y <;> rfl
theorem pvEq_dict' {n : Nat} {es : List (Int × PV)} {x : PV} : pvEq n x (.dict es) = none := by cases n <;> cases x <;> rfl

theorem cmp_sound {o : COp} {b : Bool} (hA : A.units + 10 < cLine) (hv : BRep W s.heap Ok l v x) (hu : BRep W s.heap Ok l' u y) (e : cmpF o x y = some b) : Gets W A Ok'' s (compareOp o.op v u) (.bool b) := by
  have sc : ∀ {a : Int} {l : Nat} {v : Value}, BRep W s.heap Ok l v (.int a) → Rep s.heap Ok'' v (.int a) := fun r => by
    have := r.scalar (by simp) (by simp)
    cases this; exact .int _ _
  unfold cmpF at e
  split at e
  · have h1 : ∀ es, x ≠ .dict es := fun es h => by rw [h, pvEq_dict] at e; cases e
    have h2 : ∀ es, y ≠ .dict es := fun es h => by rw [h, pvEq_dict'] at e; cases e
    intro E Q q
    exact eq_pvs (by omega) (hv.any h1) (hu.any h2) e E Q fun v s' ex r => q v s' ex (by cases r; exact .bool _)
  · cases hb : pvEq 4 x y with
    | none => rw [hb] at e; cases e
    | some c =>
      rw [hb] at e; cases e
      have h1 : ∀ es, x ≠ .dict es := fun es h => by rw [h, pvEq_dict] at hb; cases hb
      have h2 : ∀ es, y ≠ .dict es := fun es h => by rw [h, pvEq_dict'] at hb; cases hb
      intro E Q q
      exact ne_pvs (by omega) (hv.any h1) (hu.any h2) hb E Q fun v s' ex r => q v s' ex (by cases r; exact .bool _)
  · cases e; exact lt_ints (sc hv) (sc hu)
  · cases e; exact le_ints (sc hv) (sc hu)
  · cases e; exact gt_ints (sc hv) (sc hu)
  · cases e; exact ge_ints (sc hv) (sc hu)
  · split at e
    · rename_i h
      cases e
      have r := hu.any (by simp)
      cases r with
      | list _ q r => exact in_list' hA q r (hv.any (PV.plain_ne h.1)) h.2
    · cases e
  · split at e
    · rename_i h
      cases e
      have r := hu.any (by simp)
      cases r with
      | list _ q r => exact notIn_list' hA q r (hv.any (PV.plain_ne h.1)) h.2
    · cases e
  · split at e
    · rename_i h
      cases e
      have r := hu.any (by simp)
      cases r with
      | tup _ q r => exact in_tup' hA q r (hv.any (PV.plain_ne h.1)) h.2
    · cases e
  · split at e
    · rename_i h
      cases e
      have r := hu.any (by simp)
      cases r with
      | tup _ q r => exact notIn_tup' hA q r (hv.any (PV.plain_ne h.1)) h.2
    · cases e
  · cases e

/-! truth of a value at any level -/
theorem truth_sound {b : Bool} (hv : BRep W s.heap Ok l v x) (e : truthPV x = some b) : Tells W A s (truthy v) b := by
  by_cases h : ∀ es, x ≠ .dict es
  · exact truth_val (hv.any h) e
  · have : ∃ es, x = .dict es := Classical.byContradiction fun hn => h fun es e => hn ⟨es, e⟩
    obtain ⟨es, rfl⟩ := this
    cases e

/-! items -/
def idxAt {α : Type} (xs : List α) (i : Int) : Option α := if 0 ≤ i then xs[i.toNat]? else if -(xs.length : Int) ≤ i then xs[(i + xs.length).toNat]? else none
/-- what xs[i] gives, and its level -/
def idxF : PV → Nat → PV → Option (PV × Nat)
  | .list xs, l, .int i => if xs.length ≤ LIM then (idxAt xs i).map fun x => (x, l - 1) else none
  | .tup xs, 0, .int i => if xs.length ≤ LIM ∧ 0 ≤ i then (xs[i.toNat]?).map fun x => (x, 0) else none
  | .dict es, _, .int i => (es.find? fun e => e.1 == i).map fun e => (e.2, 0)
  | _, _, _ => none

/-- a tree that hands back a value that stands for x at a level -/
def GetsB (W : Wld) (A : Around) (Ok : Addr → Prop) (s : Shared) (t : Sem Value) (x : PV) (l : Nat) : Prop :=
  ∀ (E Q : Value → Shared → Prop), (∀ v s', Ext s s' → BRep W s'.heap Ok l v x → Q v s') → wpAny W.M A t Q E s
theorem Gets.b {t : Sem Value} (g : Gets W A Ok s t x) : GetsB W A Ok s t x 0 := fun E Q q => g E Q fun v s' e r => q v s' e (.zero r)
theorem GetsB.g {t : Sem Value} (g : GetsB W A Ok s t x 0) : Gets W A Ok s t x := fun E Q q => g E Q fun v s' e r => q v s' e r.rep0

theorem dict_find : ∀ {kvs : List (Int × Value)} {es : List (Int × PV)} {h : Heap}, kvs.map (·.1) = es.map (·.1) → RepAll h Ok (kvs.map (·.2)) (es.map (·.2)) → ∀ {i : Int} {e : Int × PV}, (es.find? fun e => e.1 == i) = some e →
    ∃ v, (kvs.find? fun p => p.1 == i) = some (i, v) ∧ Rep h Ok v e.2
  | [], [], _, _, _, _, _, h => by simp at h
  | [], _ :: _, _, h, _, _, _, _ => by simp at h
  | _ :: _, [], _, h, _, _, _, _ => by simp at h
  | (k, v) :: kvs, (k', x) :: es, h, hk, hr, i, e, he => by
    simp only [List.map_cons, List.cons.injEq] at hk
    obtain ⟨rfl, hk⟩ := hk
    cases hr with
    | cons a r =>
      rw [List.find?_cons] at he ⊢
      dsimp only at he ⊢
      cases hki : k == i with
      | true =>
        rw [hki] at he; cases he
        exact ⟨v, by rw [beq_iff_eq.mp hki], a⟩
      | false =>
        rw [hki] at he
        exact dict_find hk r he

theorem idxAt_lt {α : Type} {xs : List α} {i : Int} {x : α} (h : idxAt xs i = some x) : ∃ n : Nat, n < xs.length ∧ xs[n]? = some x ∧ ((0 ≤ i ∧ n = i.toNat) ∨ (i < 0 ∧ -(xs.length : Int) ≤ i ∧ n = (i + xs.length).toNat)) := by
  have lt : ∀ n : Nat, xs[n]? = some x → n < xs.length := fun n e => by
    rcases Nat.lt_or_ge n xs.length with h | h
    · exact h
    · rw [List.getElem?_eq_none h] at e; cases e
  unfold idxAt at h
  split at h
  · exact ⟨_, lt _ h, h, .inl ⟨by assumption, rfl⟩⟩
  · split at h
    · exact ⟨_, lt _ h, h, .inr ⟨by omega, by assumption, rfl⟩⟩
    · cases h
theorem getItem_raw {a : Addr} {vs : List Value} {i : Int} {t : Tok} {E Q : Value → Shared → Prop} {n : Nat} (ha : s.heap.PlainList a vs.toArray) (hz : vs.length ≤ LIM) (hv : vs[n]? = some v)
    (hn : (0 ≤ i ∧ n = i.toNat) ∨ (i < 0 ∧ -(vs.length : Int) ≤ i ∧ n = (i + vs.length).toNat)) (q : Q v s) : wpAny W.M A (getItem (.ref a) (.int i t)) Q E s := by
  simp only [LIM] at hz
  have hlt : n < vs.length := by
    rcases Nat.lt_or_ge n vs.length with h | h
    · exact h
    · rw [List.getElem?_eq_none h] at hv; cases hv
  rcases hn with ⟨h0, rfl⟩ | ⟨h0, h1, rfl⟩
  · exact wpAny_getItem_list ha.isList h0 (by omega) (by simpa using hv) q
  · exact wpAny_getItem_list_neg ha.isList h0 (by rw [List.size_toArray]; exact h1) (by omega) (by rw [List.size_toArray]; simpa using hv) q

theorem idx_sound {z : PV} {l2 : Nat} (hv : BRep W s.heap Ok l v x) (hu : BRep W s.heap Ok l' u y) (e : idxF x l y = some (z, l2)) : GetsB W A Ok s (getItem v u) z l2 := by
  have sc : ∀ {a : Int} {l : Nat} {v : Value}, BRep W s.heap Ok l v (.int a) → Rep s.heap Ok v (.int a) := fun r => r.scalar (by simp) (by simp)
  intro E Q qq
  cases x with
  | list xs =>
    cases y with
    | int i =>
      simp only [idxF] at e
      split at e
      · rename_i hz
        cases hx : idxAt xs i with
        | none => rw [hx] at e; cases e
        | some w =>
          rw [hx] at e
          simp only [Option.map_some, Option.some.injEq, Prod.mk.injEq] at e
          obtain ⟨rfl, rfl⟩ := e
          obtain ⟨n, hn1, hn2, hn3⟩ := idxAt_lt hx
          have hu' := sc hu
          cases hu'
          cases hv with
          | zero r =>
            cases r with
            | list o q r =>
              obtain ⟨v, h1, h2⟩ := r.get n _ hn2
              exact getItem_raw q (by rw [r.length]; exact hz) h1 (by rw [r.length]; exact hn3) (qq _ _ (.refl _) (.zero h2))
          | one q r =>
            obtain ⟨v, h1, h2⟩ := r.get n _ hn2
            exact getItem_raw q (by rw [r.length]; exact hz) h1 (by rw [r.length]; exact hn3) (qq _ _ (.refl _) (.zero h2))
          | two q r =>
            obtain ⟨b, vs, ys, h1, rfl, q2, r2⟩ := r.get n _ hn2
            exact getItem_raw (v := .ref b) q (by rw [List.length_map, r.length]; exact hz) (by rw [List.getElem?_map, h1]; rfl) (by rw [List.length_map, r.length]; exact hn3) (qq _ _ (.refl _) (.one q2 r2))
      · cases e
    | _ => simp [idxF] at e
  | tup xs =>
    cases y with
    | int i =>
      cases l with
      | zero =>
        simp only [idxF] at e
        split at e
        · rename_i h
          cases hx : xs[i.toNat]? with
          | none => rw [hx] at e; cases e
          | some w =>
            rw [hx] at e
            simp only [Option.map_some, Option.some.injEq, Prod.mk.injEq] at e
            obtain ⟨rfl, rfl⟩ := e
            cases hv.rep0 with
            | tup o q r => exact getItem_tup' q r h.1 (sc hu) h.2 hx E Q fun v s' ex rr => qq _ _ ex (.zero rr)
        · cases e
      | succ l => simp [idxF] at e
    | _ => cases l <;> simp [idxF] at e
  | dict es =>
    cases y with
    | int i =>
      simp only [idxF] at e
      cases hx : es.find? (fun e => e.1 == i) with
      | none => rw [hx] at e; cases e
      | some w =>
        rw [hx] at e
        simp only [Option.map_some, Option.some.injEq, Prod.mk.injEq] at e
        obtain ⟨rfl, rfl⟩ := e
        have hu' := sc hu
        cases hu'
        cases hv with
        | zero r => cases r
        | dict q =>
          obtain ⟨kvs, h1, h3, h4⟩ := q
          obtain ⟨v, h5, h6⟩ := dict_find h3 h4 hx
          refine wpAny_getItem_of (intKind_is W.prog W.w _ _) h1.mapOf ?_ (qq _ _ (.toks _ _) (.zero (h6.ext (.toks _ _))))
          unfold valueAt
          have : (kvs.find? fun p => decide (p.1 = i)) = some (i, v) := by
            rw [← h5]; congr 1
          first
            | (rw [this]; rfl)
            | (rw [h5]; rfl)
    | _ => simp [idxF] at e
  | _ => simp [idxF] at e
end
end Mine
end
section
namespace Mine
open Builtin

def Meth.nameS : Meth → Str
  | .split => Str.ofString "split"
  | .join => Str.ofString "join"
  | .startswith => Str.ofString "startswith"
  | .endswith => Str.ofString "endswith"
  | .lstrip => Str.ofString "lstrip"
  | .rstrip => Str.ofString "rstrip"
  | .rfind => Str.ofString "rfind"
  | .count => Str.ofString "count"
  | .index => Str.ofString "index"

/-! cuts -/
def partOf : PV → Option (Option Int)
  | .none => some none
  | .int i => some (some i)
  | _ => none
/-- what xs[lo:hi] gives -/
def cutF : PV → PV → PV → Option PV
  | .list xs, a, b => match partOf a, partOf b with
    | some lo, some hi => if xs.length ≤ LIM then some (.list (cut xs lo hi)) else none
    | _, _ => none
  | .txt k cs, a, b => match partOf a, partOf b with
    | some lo, some hi => if cs.length ≤ LIM then some (.txt k (cut cs lo hi)) else none
    | _, _ => none
  | _, _, _ => none

theorem strSlice_eq (lo hi : Option Int) (n : Nat) : Str.strSliceIndices lo hi 1 n = sliceRange ((lo.elim 0 (clipAt n) : Nat) : Int) ((hi.elim n (clipAt n) : Nat) : Int) 1 := by
  unfold Str.strSliceIndices
  cases lo <;> cases hi <;> simp [clipAt_cast]
theorem strPick_eq (cs : List Nat) (lo hi : Option Int) : (Str.strSliceIndices lo hi 1 cs.length).filterMap (cs.toArray[·]?) = cut cs lo hi := by
  rw [strSlice_eq, sliceRange_one, pick_run]
  rfl
theorem clip_le (n : Nat) (i : Int) : clipAt n i ≤ n := by
  have := clipAt_cast n i
  omega
theorem cut_whole {α : Type} {xs : List α} {lo hi : Option Int} (h : (cut xs lo hi).length = xs.length) : cut xs lo hi = xs := by
  have : (cut xs lo hi).Sublist xs := (List.take_sublist _ _).trans (List.drop_sublist _ _)
  exact this.eq_of_length h

section
variable {W : Wld} {A : Around} {s : Shared} {Ok Ok' Ok'' : Addr → Prop} {v u : Value} {x y z : PV} {l l' : Nat}

theorem part_is {h : Heap} {a : PV} {lo : Option Int} (hp : partOf a = some lo) (r : Rep h Ok v a) : PartIs v lo := by
  cases a <;> simp only [partOf] at hp <;> try (cases hp; done)
  · cases hp; cases r; exact .none
  · cases hp; cases r; exact .int _ _
theorem PartIs.value : ∀ {v : Value} {lo : Option Int}, PartIs v lo → ∃ p : Option (Int × Tok), v = partValue p ∧ p.map (·.1) = lo
  | _, _, .none => ⟨Option.none, rfl, rfl⟩
  | _, _, .int i t => ⟨some (i, t), rfl, rfl⟩

theorem cut_txt {k : Bool} {cs : List Nat} {c : Addr} {a b : Value} {lo hi : Option Int} (hz : cs.length ≤ LIM) (hv : Rep s.heap Ok v (.txt k cs)) (pa : PartIs a lo) (pb : PartIs b hi) (hs : s.heap.IsSliceOf c a b .none) :
    Gets W A Ok'' s (getItem v (.ref c)) (.txt k (cut cs lo hi)) := by
  intro E Q q
  cases hv with
  | str _ t =>
    obtain ⟨p, rfl, rfl⟩ := pa.value
    obtain ⟨p', rfl, rfl⟩ := pb.value
    refine wpAny_getItem_str_slice (x := strL cs) (l := p) (u := p') (st := none) hs rfl ?_
    unfold sliceMade slicePicked
    simp only [Option.map_none, Option.getD_none]
    have e : (Str.strSliceIndices (p.map (·.1)) (p'.map (·.1)) 1 (strL cs).length).filterMap ((strL cs).cps[·]?) = cut cs (p.map (·.1)) (p'.map (·.1)) := by
      rw [strL_length]; exact strPick_eq cs _ _
    split
    · rename_i h
      have h2 : (cut cs (p.map (·.1)) (p'.map (·.1))) = cs := by
        rw [Bool.and_eq_true, beq_iff_eq, beq_iff_eq, strL_length] at h
        refine cut_whole ?_
        have h3 := h.2
        rw [strSlice_eq, sliceRange_one, List.length_map, List.length_range] at h3
        unfold cut
        rw [List.length_take, List.length_drop]
        have hle : (p'.map (·.1)).elim cs.length (clipAt cs.length) ≤ cs.length := by
          cases p' with
          | none => exact Nat.le_refl _
          | some q => exact clip_le _ _
        omega
      rw [h2] at q
      exact q _ _ (.refl _) (.str _ _)
    · rw [e]
      refine ⟨?_, q _ _ (.toks _ _) (.str _ _)⟩
      show (cut cs _ _).toArray.size ≤ sizeLine
      rw [List.size_toArray]
      exact lim_size (Nat.le_trans (cut_length_le _ _ _) hz)
  | bytes bs t e =>
    subst e
    rw [List.length_map] at hz
    refine getItem_meets (typeIs_bytes s _ _) (by decide) FB.slot_bytes_getitem FB.entry_bytes_getitem (FB.args_bytes_getitem_2 _ _) (KBc.meets_slice2 bs.toArray t c pa.isPart pb.isPart) ⟨hs, ?_, fun t' k => ?_⟩
    · exact Nat.le_trans (KBc.size_picked_le _ _ _) (by rw [List.size_toArray]; exact lim_size hz)
    · rw [KBc.picked_eq]
      refine q _ _ (.toks _ _) (.bytes _ _ ?_)
      unfold cut
      rw [List.size_toArray, List.toList_toArray, List.map_take, List.map_drop, List.length_map]

theorem cut_sound {w : PV} {c : Addr} {a b : Value} {p p' : PV} (fr : Fresh Ok s) (hv : BRep W s.heap Ok l v x) (hl : l ≤ 1) (ha : Rep s.heap Ok a p) (hb : Rep s.heap Ok b p') (hs : s.heap.IsSliceOf c a b .none) (e : cutF x p p' = some w) :
    Gets W A Ok s (getItem v (.ref c)) w := by
  cases x with
  | list xs =>
    simp only [cutF] at e
    split at e
    · rename_i lo hi h1 h2
      split at e
      · rename_i hz
        cases e
        obtain ⟨a', vs, rfl, q, r⟩ := hv.list01 hl
        exact (cut_list' q r hz hs (part_is h1 ha) (part_is h2 hb)).gets fr
      · cases e
    · cases e
  | txt k cs =>
    simp only [cutF] at e
    split at e
    · rename_i lo hi h1 h2
      split at e
      · rename_i hz
        cases e
        exact cut_txt hz (hv.scalar (by simp) (by simp)) (part_is h1 ha) (part_is h2 hb) hs
      · cases e
    · cases e
  | _ => simp [cutF] at e

/-! methods -/
theorem getMethod_txt {m : Meth} {k : Bool} {cs : List Nat} {pl : Sem Bool} {E : Value → Shared → Prop} {Q : Value × List Value → Shared → Prop} (hv : Rep s.heap Ok v (.txt k cs)) (hm : m ≠ .count ∧ m ≠ .index)
    (q : Q (.builtin (m.id (.txt k cs)), [v]) s) : wpAny W.M A (getMethod v m.nameS pl) Q E s := by
  cases hv with
  | str _ t =>
    cases m with
    | split => simp only [Meth.nameS]; simp only [Meth.id] at q; with_reducible refine getMethod_builtin (typeIs_str _ _ _) F.plainAttrs_str F.slot_str_split F.type_str_split (fun a e => nomatch e) q
    | join => simp only [Meth.nameS]; simp only [Meth.id] at q; with_reducible refine getMethod_builtin (typeIs_str _ _ _) F.plainAttrs_str F.slot_str_join F.type_str_join (fun a e => nomatch e) q
    | startswith => simp only [Meth.nameS]; simp only [Meth.id] at q; with_reducible refine getMethod_builtin (typeIs_str _ _ _) F.plainAttrs_str F.slot_str_startswith F.type_str_startswith (fun a e => nomatch e) q
    | endswith => simp only [Meth.nameS]; simp only [Meth.id] at q; with_reducible refine getMethod_builtin (typeIs_str _ _ _) F.plainAttrs_str F.slot_str_endswith F.type_str_endswith (fun a e => nomatch e) q
    | lstrip => simp only [Meth.nameS]; simp only [Meth.id] at q; with_reducible refine getMethod_builtin (typeIs_str _ _ _) F.plainAttrs_str F.slot_str_lstrip F.type_str_lstrip (fun a e => nomatch e) q
    | rstrip => simp only [Meth.nameS]; simp only [Meth.id] at q; with_reducible refine getMethod_builtin (typeIs_str _ _ _) F.plainAttrs_str F.slot_str_rstrip F.type_str_rstrip (fun a e => nomatch e) q
    | rfind => simp only [Meth.nameS]; simp only [Meth.id] at q; with_reducible refine getMethod_builtin (typeIs_str _ _ _) F.plainAttrs_str F.slot_str_rfind F.type_str_rfind (fun a e => nomatch e) q
    | count => exact (hm.1 rfl).elim
    | index => exact (hm.2 rfl).elim
  | bytes bs t e =>
    cases m with
    | split => simp only [Meth.nameS]; simp only [Meth.id] at q; with_reducible refine getMethod_builtin (typeIs_bytes _ _ _) FB.plainAttrs_bytes slot_b_split type_b_split (fun a e => nomatch e) q
    | join => simp only [Meth.nameS]; simp only [Meth.id] at q; with_reducible refine getMethod_builtin (typeIs_bytes _ _ _) FB.plainAttrs_bytes slot_b_join type_b_join (fun a e => nomatch e) q
    | startswith => simp only [Meth.nameS]; simp only [Meth.id] at q; with_reducible refine getMethod_builtin (typeIs_bytes _ _ _) FB.plainAttrs_bytes FB.slot_bytes_startswith FB.type_bytes_startswith (fun a e => nomatch e) q
    | endswith => simp only [Meth.nameS]; simp only [Meth.id] at q; with_reducible refine getMethod_builtin (typeIs_bytes _ _ _) FB.plainAttrs_bytes FB.slot_bytes_endswith FB.type_bytes_endswith (fun a e => nomatch e) q
    | lstrip => simp only [Meth.nameS]; simp only [Meth.id] at q; with_reducible refine getMethod_builtin (typeIs_bytes _ _ _) FB.plainAttrs_bytes slot_b_lstrip type_b_lstrip (fun a e => nomatch e) q
    | rstrip => simp only [Meth.nameS]; simp only [Meth.id] at q; with_reducible refine getMethod_builtin (typeIs_bytes _ _ _) FB.plainAttrs_bytes slot_b_rstrip type_b_rstrip (fun a e => nomatch e) q
    | rfind => simp only [Meth.nameS]; simp only [Meth.id] at q; with_reducible refine getMethod_builtin (typeIs_bytes _ _ _) FB.plainAttrs_bytes slot_b_rfind type_b_rfind (fun a e => nomatch e) q
    | count => exact (hm.1 rfl).elim
    | index => exact (hm.2 rfl).elim
theorem getMethod_lst {a : Addr} {vs : Array Value} {name : Str} {id : String} {pl : Sem Bool} {E : Value → Shared → Prop} {Q : Value × List Value → Shared → Prop} (ha : s.heap.PlainList a vs)
    (slot : Slot "list" name id) (hty : typeOf (.builtin id) = pure (.type "method_descriptor")) (q : Q (.builtin id, [.ref a]) s) : wpAny W.M A (getMethod (.ref a) name pl) Q E s := by
  obtain ⟨n, ho⟩ := ha
  exact getMethod_builtin (T := "list") ⟨_, ho, rfl⟩ F.plainAttrs_list slot hty (fun b e => by cases e; exact ⟨_, ho, rfl⟩) q

open Classical in
theorem count_eqs {h : Heap} {x : PV} : ∀ {vs : List Value} {xs : List PV}, RepAll h Ok vs xs →
    vs.countP (fun v => decide (∃ y, Rep h Ok v y ∧ pvEq 4 y x = some true)) = xs.countP (fun y => pvEq 4 y x == some true)
  | _, _, .nil => rfl
  | _, _, .cons (v := v) (x := y) a r => by
    rw [List.countP_cons, List.countP_cons, count_eqs r]
    have : decide (∃ y, Rep h Ok v y ∧ pvEq 4 y x = some true) = (pvEq 4 y x == some true) := by
      rw [Bool.eq_iff_iff, decide_eq_true_iff, beq_iff_eq]
      exact ⟨fun ⟨z, rz, e⟩ => by rw [Rep.inj a rz]; exact e, fun e => ⟨y, a, e⟩⟩
    rw [this]
open Classical in
theorem eqs_at {h : Heap} {x : PV} {vs : List Value} {xs : List PV} (r : RepAll h Ok vs xs) {j : Nat} {v : Value} {y : PV} (hv : vs[j]? = some v) (hy : xs[j]? = some y) :
    decide (∃ y, Rep h Ok v y ∧ pvEq 4 y x = some true) = (pvEq 4 y x == some true) := by
  obtain ⟨v', h1, h2⟩ := r.get j y hy
  rw [hv] at h1; cases h1
  rw [Bool.eq_iff_iff, decide_eq_true_iff, beq_iff_eq]
  exact ⟨fun ⟨z, rz, e⟩ => by rw [Rep.inj h2 rz]; exact e, fun e => ⟨y, h2, e⟩⟩
theorem count_list' {xs : List PV} {a : Addr} {vs : List Value} (hA : A.units + 10 < cLine) (ha : s.heap.PlainList a vs.toArray) (r : RepAll s.heap Ok vs xs) (ru : Rep s.heap Ok' u x) (hd : allEq x xs = true) :
    Gets W A Ok'' s (call (.builtin "list.count") [.ref a, u]) (.int (xs.countP fun y => pvEq 4 y x == some true)) := by
  intro E Q q
  obtain ⟨n, ho⟩ := ha
  have he := items_eqAt hA r ru hd
  refine call_meets F.slot_list_count ⟨_, ho, rfl⟩ F.entry_list_count (F.args_list_count_2 _ _) (PySem.SeqAt.list_countAt a vs.toArray n none #[] u _) ⟨ho, he, ?_⟩
  rw [List.toList_toArray, count_eqs r]
  exact q _ _ (.toks _ _) (.int _ _)
theorem index_list' {xs : List PV} {a : Addr} {vs : List Value} {i : Nat} (hA : A.units + 10 < cLine) (ha : s.heap.PlainList a vs.toArray) (r : RepAll s.heap Ok vs xs) (ru : Rep s.heap Ok' u x) (hd : allEq x xs = true)
    (hz : xs.length ≤ LIM) (hi : xs.findIdx? (fun y => pvEq 4 y x == some true) = some i) : Gets W A Ok'' s (call (.builtin "list.index") [.ref a, u]) (.int i) := by
  intro E Q q
  obtain ⟨n, ho⟩ := ha
  have he := items_eqAt hA r ru hd
  have hl := r.length
  simp only [LIM] at hz
  rw [List.findIdx?_eq_some_iff_getElem] at hi
  obtain ⟨hlt, hit, hno⟩ := hi
  have hlt' : i < vs.toArray.size := by rw [List.size_toArray, hl]; exact hlt
  have at' : ∀ j (h1 : j < vs.toArray.size) (h2 : j < xs.length), @decide (∃ y, Rep s.heap Ok vs.toArray[j] y ∧ pvEq 4 y x = some true) (Classical.propDecidable _) = (pvEq 4 xs[j] x == some true) := fun j h1 h2 => by
    have h3 : j < vs.length := by rw [hl]; exact h2
    have := eqs_at (x := x) r (j := j) (v := vs[j]) (y := xs[j]) (List.getElem?_eq_getElem h3) (List.getElem?_eq_getElem h2)
    simpa using this
  refine call_meets F.slot_list_index ⟨_, ho, rfl⟩ F.entry_list_index (F.args_list_index_2 _ _) (PySem.SeqAt.list_indexAt a vs.toArray n none #[] u _ i hlt' (by omega) ?_ ?_) ⟨ho, he, ?_⟩
  · rw [at' i hlt' hlt]; exact hit
  · intro m hm hmi
    have hm' : m < xs.length := by rw [← hl]; simpa using hm
    rw [at' m hm hm']
    have := hno m hmi
    simpa using this
  · exact q _ _ (.toks _ _) (.int _ _)

/-- what a method call is, on values -/
theorem meth_sound {m : Meth} {w z : PV} (hA : A.units + 10 < cLine) (fr : Fresh Ok s) (hv : BRep W s.heap Ok l v x) (hu : BRep W s.heap Ok l' u y) (hl' : l' ≤ 1) (e : methF m x [y] = some z) :
    Gets W A Ok s (call (.builtin (m.id x)) [v, u]) z := by
  cases x with
  | txt k cs =>
    have hv0 : ∀ {h : Heap}, BRep W h Ok l v (.txt k cs) → Rep h Ok v (.txt k cs) := fun r => r.scalar (by simp) (by simp)
    have hm : m ≠ .count ∧ m ≠ .index := ⟨fun h => by subst h; simp [methF] at e, fun h => by subst h; simp [methF] at e⟩
    cases y with
    | txt k' cs' =>
      have hu0 : Rep s.heap Ok u (.txt k' cs') := hu.scalar (by simp) (by simp)
      cases m with
      | split =>
        cases cs' with
        | nil => simp [methF] at e
        | cons c r =>
          cases r with
          | cons _ _ => simp [methF] at e
          | nil =>
            simp only [methF] at e
            split at e
            · rename_i h; obtain ⟨rfl, hz⟩ := h; cases e; exact (split_txt hz (hv0 hv) hu0).gets fr
            · cases e
      | join => simp [methF] at e
      | startswith => simp only [methF] at e; (split at e; (rename_i h; subst h; cases e; exact startswith_txt (hv0 hv) hu0); cases e)
      | endswith => simp only [methF] at e; (split at e; (rename_i h; subst h; cases e; exact endswith_txt (hv0 hv) hu0); cases e)
      | lstrip =>
        cases cs' with
        | nil => simp [methF] at e
        | cons c r =>
          cases r with
          | cons _ _ => simp [methF] at e
          | nil =>
            simp only [methF] at e
            split at e
            · rename_i h; obtain ⟨rfl, hz⟩ := h; cases e; exact lstrip_txt hz (hv0 hv) hu0
            · cases e
      | rstrip =>
        cases cs' with
        | nil => simp [methF] at e
        | cons c r =>
          cases r with
          | cons _ _ => simp [methF] at e
          | nil =>
            simp only [methF] at e
            split at e
            · rename_i h; obtain ⟨rfl, hz⟩ := h; cases e; exact rstrip_txt hz (hv0 hv) hu0
            · cases e
      | rfind =>
        cases cs' with
        | nil => simp [methF] at e
        | cons c r =>
          cases r with
          | cons _ _ => simp [methF] at e
          | nil =>
            simp only [methF] at e
            split at e
            · rename_i h; subst h; cases e; exact rfind_txt (hv0 hv) hu0
            · cases e
      | count => exact (hm.1 rfl).elim
      | index => exact (hm.2 rfl).elim
    | list ys =>
      cases m with
      | join =>
        simp only [methF] at e
        split at e
        · rename_i ps hps
          split at e
          · rename_i hz
            cases e
            obtain ⟨a, vs, rfl, q, r⟩ := hu.list01 hl'
            rw [asTxts_some hps] at r
            exact join_txt hz (hv0 hv) q r
          · cases e
        · cases e
      | _ => simp [methF] at e
    | _ => cases m <;> simp [methF] at e
  | list xs =>
    obtain ⟨a, vs, rfl, q, _⟩ := hv.list_any
    have hany := hv.any (by simp)
    cases hany with
    | list _ q2 r2 =>
    cases m with
    | count =>
      simp only [methF] at e
      split at e
      · rename_i h
        cases e
        exact count_list' hA q2 r2 (hu.any (PV.plain_ne h.1)) h.2
      · cases e
    | index =>
      simp only [methF] at e
      split at e
      · rename_i h
        cases hi : xs.findIdx? (fun z => pvEq 4 z y == some true) with
        | none => rw [hi] at e; cases e
        | some i =>
          rw [hi] at e; cases e
          exact index_list' hA q2 r2 (hu.any (PV.plain_ne h.1)) h.2.1 h.2.2 hi
      · cases e
    | _ => simp [methF] at e
  | _ => cases m <;> simp [methF] at e

theorem getMethod_sound {m : Meth} {z : PV} {pl : Sem Bool} {E : Value → Shared → Prop} {Q : Value × List Value → Shared → Prop} (hv : BRep W s.heap Ok l v x) (e : methF m x [y] = some z)
    (q : Q (.builtin (m.id x), [v]) s) : wpAny W.M A (getMethod v m.nameS pl) Q E s := by
  cases x with
  | txt k cs =>
    have hm : m ≠ .count ∧ m ≠ .index := ⟨fun h => by subst h; simp [methF] at e, fun h => by subst h; simp [methF] at e⟩
    exact getMethod_txt (hv.scalar (by simp) (by simp)) hm q
  | list xs =>
    obtain ⟨a, vs, rfl, h2, _⟩ := hv.list_any
    cases m with
    | count => simp only [Meth.nameS]; simp only [Meth.id] at q; with_reducible refine getMethod_lst h2 F.slot_list_count F.type_list_count q
    | index => simp only [Meth.nameS]; simp only [Meth.id] at q; with_reducible refine getMethod_lst h2 F.slot_list_index F.type_list_index q
    | _ => simp [methF] at e
  | _ => cases m <;> simp [methF] at e
end
end Mine
end
section
namespace Mine

/-! ## the small language -/
inductive BI1 where
  | len | abs | chr | ord | sum | min | max | bytes | typ | sortedset | tuple
deriving DecidableEq
inductive BI2 where
  | min | max | isinst | issub
deriving DecidableEq

inductive ME where
  | bad
  | var (i : Nat)
  | lit (x : PV)
  | and_ (a b : ME) | or_ (a b : ME) | not_ (a : ME) | neg (a : ME)
  | bin (o : BOp) (a b : ME) | cmp (o : COp) (a b : ME)
  | ite (c a b : ME)
  | idx (a i : ME) | cut (a lo hi : ME) | rev (a : ME)
  | list (es : ME) | tup (es : ME)
  | nil | cons (a r : ME) | star (a r : ME)
  | fn (f : Nat) (args : ME)
  | bi1 (b : BI1) (a : ME) | bi2 (b : BI2) (a c : ME)
  | meth (m : Meth) (r a : ME)
  | comp (elt src cond : ME)
  | range (lo hi : ME) | enum (a : ME)

abbrev Slot := Option (PV × Nat)

structure Ans where
  val : Option (PV × Nat)
  tru : Option Bool
  its : Option (List PV)
  lst : Option (List PV)

def PV.isScalar : PV → Bool
  | .int _ => true | .txt _ _ => true | .bool _ => true | .none => true | _ => false
/-- what a loop over a value takes -/
def itemsOf : PV × Nat → Option (List PV)
  | (.list xs, l) => if l ≤ 1 ∧ xs.length ≤ LIM then some xs else none
  | (.tup xs, 0) => if xs.length ≤ LIM then some xs else none
  | (.txt false cs, _) => if cs.length ≤ LIM then some (cs.map fun c => .txt false [c]) else none
  | _ => none
def Ans.of (v : Option (PV × Nat)) : Ans := ⟨v, v.bind fun x => truthPV x.1, v.bind itemsOf, none⟩

def intsOf : List PV → Option (List Int)
  | [] => some []
  | .int i :: r => (intsOf r).map (i :: ·)
  | _ :: _ => none
theorem intsOf_map : ∀ is : List Int, intsOf (is.map .int) = some is
  | [] => rfl
  | i :: r => by rw [List.map_cons, intsOf, intsOf_map r]; rfl
/-- is it an instance of the class -/
def clsOf : PV → Option String
  | .none => some "NoneType" | .bool _ => some "bool" | .int _ => some "int" | .txt false _ => some "str" | .txt true _ => some "bytes" | .list _ => some "list" | .tup _ => some "tuple" | _ => none
def ltL : List Nat → List Nat → Bool
  | [], [] => false
  | [], _ :: _ => true
  | _ :: _, [] => false
  | a :: r, b :: t => a < b || (a == b && ltL r t)
def bi1F : BI1 → PV × Nat → Option PV
  | .len, (.list xs, _) => if xs.length ≤ LIM then some (.int xs.length) else none
  | .len, (.tup xs, 0) => if xs.length ≤ LIM then some (.int xs.length) else none
  | .len, (.txt _ cs, _) => if cs.length ≤ LIM then some (.int cs.length) else none
  | .abs, (.int i, _) => some (.int (if i < 0 then -i else i))
  | .chr, (.int i, _) => if 0 ≤ i ∧ i ≤ 1114111 then some (.txt false [i.toNat]) else none
  | .ord, (.txt false [c], _) => some (.int c)
  | .sum, (.list xs, l) => if l ≤ 1 then (intsOf xs).map fun is => .int is.sum else none
  | .bytes, (.list xs, l) => match intsOf xs with
    | some is => if l ≤ 1 ∧ is.length ≤ LIM ∧ (is.all fun i => decide (0 ≤ i) && decide (i < 256)) = true then some (.txt true (is.map Int.toNat)) else none
    | none => none
  | .typ, (x, 0) => (clsOf x).map .cls
  | _, _ => none
def isSub : String → String → Option Bool
  | "str", "str" => some true | "bytes", "bytes" => some true | "bool", "bool" => some true | "list", "list" => some true | "tuple", "tuple" => some true
  | "str", "bytes" => some false | "bytes", "str" => some false | "str", "list" => some false | "str", "tuple" => some false | "list", "tuple" => some false | "bytes", "list" => some false | "bytes", "tuple" => some false
  | "str", "bool" => some false | "bytes", "bool" => some false | "int", "bool" => some false | "tuple", "list" => some false
  | _, _ => none
def clsNames : List PV → Option (List String)
  | [] => some []
  | .cls d :: r => (clsNames r).map (d :: ·)
  | _ => none
def anySub (c : String) : List String → Option Bool
  | [] => some false
  | d :: r => match isSub c d with
    | some true => some true
    | some false => anySub c r
    | none => none
def bi2F : BI2 → PV × Nat → PV × Nat → Option PV
  | .min, (.int a, _), (.int b, _) => some (.int (if b < a then b else a))
  | .max, (.int a, _), (.int b, _) => some (.int (if b > a then b else a))
  | .isinst, (x, 0), (.cls d, 0) => ((clsOf x).bind fun c => isSub c d).map .bool
  | .isinst, (x, 0), (.tup ds, 0) => ((clsOf x).bind fun c => (clsNames ds).bind (anySub c)).map .bool
  | .issub, (.cls c, 0), (.tup ds, 0) => ((clsNames ds).bind (anySub c)).map .bool
  | _, _, _ => none

abbrev FEnv := List (List PV → Option PV)

def compF (f : PV → Option Bool) (g : PV → Option (PV × Nat)) : List PV → Option (List PV)
  | [] => some []
  | x :: xs => match f x with
    | some true => match g x with
      | some (y, 0) => (compF f g xs).map (y :: ·)
      | _ => none
    | some false => compF f g xs
    | none => none
def enumF : Nat → List PV → List PV
  | _, [] => []
  | n, x :: xs => .tup [.int n, x] :: enumF (n + 1) xs

def lim (xs : List PV) : Option (List PV) := if xs.length ≤ LIM then some xs else none

/-- the evaluator: no store is changed by an expression -/
def evA (Γ : FEnv) : ME → List Slot → Ans
  | .var i, ρ => .of (ρ[i]?).join
  | .lit x, _ => .of (some (x, 0))
  | .and_ a b, ρ => { (Ans.of (match (evA Γ a ρ).val with
      | some (x, 0) => (match truthPV x with | some true => (evA Γ b ρ).val | some false => some (x, 0) | none => none)
      | _ => none)) with tru := match (evA Γ a ρ).tru with | some true => (evA Γ b ρ).tru | some false => some false | none => none }
  | .or_ a b, ρ => { (Ans.of (match (evA Γ a ρ).val with
      | some (x, 0) => (match truthPV x with | some false => (evA Γ b ρ).val | some true => some (x, 0) | none => none)
      | _ => none)) with tru := match (evA Γ a ρ).tru with | some false => (evA Γ b ρ).tru | some true => some true | none => none }
  | .not_ a, ρ => { (Ans.of ((evA Γ a ρ).val.bind fun x => (truthPV x.1).map fun b => (.bool (!b), 0))) with tru := (evA Γ a ρ).tru.map (! ·) }
  | .neg a, ρ => .of (match (evA Γ a ρ).val with | some (.int i, _) => some (.int (-i), 0) | _ => none)
  | .bin o a b, ρ => .of (match (evA Γ a ρ).val, (evA Γ b ρ).val with
      | some (x, l), some (y, l') => if l ≤ 1 ∧ l' ≤ 1 then (binF o x y).map fun z => (z, 0) else none
      | _, _ => none)
  | .cmp o a b, ρ => .of (match (evA Γ a ρ).val, (evA Γ b ρ).val with
      | some (x, _), some (y, _) => (cmpF o x y).map fun c => (.bool c, 0)
      | _, _ => none)
  | .ite c a b, ρ => match (evA Γ c ρ).tru with
      | some true => { (Ans.of (evA Γ a ρ).val) with tru := (evA Γ a ρ).tru }
      | some false => { (Ans.of (evA Γ b ρ).val) with tru := (evA Γ b ρ).tru }
      | none => .of none
  | .idx a i, ρ => .of (match (evA Γ a ρ).val, (evA Γ i ρ).val with
      | some (x, l), some (y, _) => idxF x l y
      | _, _ => none)
  | .cut a lo hi, ρ => .of (match (evA Γ a ρ).val, (evA Γ lo ρ).val, (evA Γ hi ρ).val with
      | some (x, l), some (y, 0), some (z, 0) => if l ≤ 1 then (cutF x y z).map fun r => (r, 0) else none
      | _, _, _ => none)
  | .rev a, ρ => .of (match (evA Γ a ρ).val with
      | some (.list xs, l) => if l ≤ 1 ∧ xs.length ≤ LIM then some (.list xs.reverse, 0) else none
      | _ => none)
  | .list es, ρ => .of ((evA Γ es ρ).lst.bind fun xs => (lim xs).map fun xs => (.list xs, 0))
  | .tup es, ρ => .of ((evA Γ es ρ).lst.bind fun xs => (lim xs).map fun xs => (.tup xs, 0))
  | .nil, _ => ⟨none, none, none, some []⟩
  | .cons a r, ρ => ⟨none, none, none, match (evA Γ a ρ).val with
      | some (x, 0) => (evA Γ r ρ).lst.map (x :: ·)
      | _ => none⟩
  | .star a r, ρ => ⟨none, none, none, match (evA Γ a ρ).val with
      | some (.list xs, l) => if l ≤ 1 ∧ xs.length ≤ LIM then (evA Γ r ρ).lst.map (xs ++ ·) else none
      | _ => none⟩
  | .fn f args, ρ => .of ((evA Γ args ρ).lst.bind fun xs => (Γ[f]?).bind fun F => (F xs).map fun z => (z, 0))
  | .bi1 b a, ρ => .of ((evA Γ a ρ).val.bind fun x => (bi1F b x).map fun z => (z, 0))
  | .bi2 b a c, ρ => .of (match (evA Γ a ρ).val, (evA Γ c ρ).val with
      | some x, some y => (bi2F b x y).map fun z => (z, 0)
      | _, _ => none)
  | .meth m r a, ρ => .of (match (evA Γ r ρ).val, (evA Γ a ρ).val with
      | some (x, _), some (y, l') => if l' ≤ 1 then (methF m x [y]).map fun z => (z, 0) else none
      | _, _ => none)
  | .comp elt src cond, ρ => .of ((evA Γ src ρ).its.bind fun xs => ((compF (fun x => (evA Γ cond (ρ ++ [some (x, 0)])).tru) (fun x => (evA Γ elt (ρ ++ [some (x, 0)])).val) xs).bind lim).map fun ys => (.list ys, 0))
  | .range lo hi, ρ => ⟨none, none, (match (evA Γ lo ρ).val, (evA Γ hi ρ).val with
      | some (.int a, _), some (.int b, _) => if -(2 ^ 40 : Int) ≤ a ∧ a ≤ 2 ^ 40 ∧ -(2 ^ 40 : Int) ≤ b ∧ b ≤ LIM ∧ (b - a).toNat ≤ LIM then some ((List.range (b - a).toNat).map fun (k : Nat) => .int (a + (k : Int))) else none
      | _, _ => none), none⟩
  | .enum a, ρ => ⟨none, none, (match (evA Γ a ρ).val with
      | some (.list xs, l) => if l ≤ 1 ∧ xs.length ≤ LIM then some (enumF 0 xs) else none
      | _ => none), none⟩
  | .bad, _ => .of none

/-- what is told of a value alone lets no list go on -/
def escB : ME → List Nat → List Nat
  | .var _, _ => []
  | _, l => l
mutual
/-- the names whose values must not be turned any more, where a value of the expression goes on -/
def esc : ME → List Nat
  | .var i => [i]
  | .and_ a b => esc a ++ esc b
  | .or_ a b => esc a ++ esc b
  | .not_ a => escT a
  | .neg a => escB a (esc a)
  | .bin _ a b => escB a (esc a) ++ escB b (esc b)
  | .cmp _ a b => escB a (esc a) ++ escB b (esc b)
  | .idx a b => escB a (esc a) ++ escB b (esc b)
  | .ite c a b => escT c ++ esc a ++ esc b
  | .cut a b c => escB a (esc a) ++ escB b (esc b) ++ escB c (esc c)
  | .rev a => escB a (esc a)
  | .list es => esc es
  | .tup es => esc es
  | .cons a r => esc a ++ esc r
  | .star a r => escB a (esc a) ++ esc r
  | .fn _ args => esc args
  | .bi1 _ a => escB a (esc a)
  | .bi2 _ a c => escB a (esc a) ++ escB c (esc c)
  | .meth _ r a => escB r (esc r) ++ escB a (esc a)
  | .comp elt src cond => esc elt ++ escB src (esc src) ++ escT cond
  | .range lo hi => escB lo (esc lo) ++ escB hi (esc hi)
  | .enum a => esc a
  | .bad => []
  | .lit _ => []
  | .nil => []
/-- where truth alone is asked -/
def escT : ME → List Nat
  | .var _ => []
  | .and_ a b => escT a ++ escT b
  | .or_ a b => escT a ++ escT b
  | .not_ a => escT a
  | .ite c a b => escT c ++ escT a ++ escT b
  | .neg a => escB a (esc a)
  | .bin _ a b => escB a (esc a) ++ escB b (esc b)
  | .cmp _ a b => escB a (esc a) ++ escB b (esc b)
  | .idx a b => escB a (esc a) ++ escB b (esc b)
  | .cut a b c => escB a (esc a) ++ escB b (esc b) ++ escB c (esc c)
  | .rev a => escB a (esc a)
  | .list es => esc es
  | .tup es => esc es
  | .cons a r => esc a ++ esc r
  | .star a r => escB a (esc a) ++ esc r
  | .fn _ args => esc args
  | .bi1 _ a => escB a (esc a)
  | .bi2 _ a c => escB a (esc a) ++ escB c (esc c)
  | .meth _ r a => escB r (esc r) ++ escB a (esc a)
  | .comp elt src cond => esc elt ++ escB src (esc src) ++ escT cond
  | .range lo hi => escB lo (esc lo) ++ escB hi (esc hi)
  | .enum a => esc a
  | .bad => []
  | .lit _ => []
  | .nil => []
end

def freeze1 (ρ : List Slot) (i : Nat) : List Slot := ρ.modify i fun s => s.bind fun x => match x.1 with | .dict _ => none | y => some (y, 0)
def freeze (l : List Nat) (ρ : List Slot) : List Slot := l.foldl freeze1 ρ

/-! ## statements -/
inductive MS where
  | bad | skip | seq (a b : MS)
  | brk | cont | ret (e : ME)
  | asg (x : Nat) (own : Bool) (e : ME)
  | newDict (x : Nat)
  | unpack (xs : List Nat) (e : ME)
  | multi (xs : List Nat) (owns : List Bool) (es : ME)
  | aug (x : Nat) (o : BOp) (e : ME)
  | append (x : Nat) (e : ME) | pop (x : Nat) | extend (x : Nat) (e : ME)
  | setIdx (x : Nat) (i e : ME) | augIdx (x : Nat) (i : ME) (o : BOp) (e : ME)
  | ite (c : ME) (a b : MS) | while_ (c : ME) (b : MS) | for_ (xs : List Nat) (src : ME) (b : MS)
  | try_ (b : MS)

inductive Fl where
  | next | brk | cont | ret (v : PV)

def ownOf (own : Bool) : PV → Nat
  | .list _ => if own then 1 else 0
  | _ => 0
def setAll : List Nat → List PV → List Slot → List Slot
  | x :: xs, v :: vs, ρ => setAll xs vs (ρ.set x (some (v, 0)))
  | _, _, ρ => ρ
def setOwns : List Nat → List Bool → List PV → List Slot → List Slot
  | x :: xs, o :: os, v :: vs, ρ => setOwns xs os vs (ρ.set x (some (v, ownOf o v)))
  | _, _, _, ρ => ρ
/-- what a loop's target takes of an item -/
def bindT : List Nat → PV → List Slot → Option (List Slot)
  | [x], v, ρ => some (ρ.set x (some (v, 0)))
  | xs, .tup vs, ρ => if xs.length = vs.length then some (setAll xs vs ρ) else none
  | _, _, _ => none
def forL (f : List Slot → Option (Fl × List Slot)) (xs : List Nat) : List PV → List Slot → Option (Fl × List Slot)
  | [], ρ => some (.next, ρ)
  | v :: vs, ρ => match bindT xs v ρ with
    | none => none
    | some ρ1 => match f ρ1 with
      | some (.next, ρ') => forL f xs vs ρ'
      | some (.cont, ρ') => forL f xs vs ρ'
      | some (.brk, ρ') => some (.next, ρ')
      | some (.ret r, ρ') => some (.ret r, ρ')
      | none => none
def whileL (c : List Slot → Option (Bool × List Slot)) (f : List Slot → Option (Fl × List Slot)) : Nat → List Slot → Option (Fl × List Slot)
  | 0, _ => none
  | n + 1, ρ => match c ρ with
    | some (true, ρ1) => match f ρ1 with
      | some (.next, ρ') => whileL c f n ρ'
      | some (.cont, ρ') => whileL c f n ρ'
      | some (.brk, ρ') => some (.next, ρ')
      | some (.ret r, ρ') => some (.ret r, ρ')
      | none => none
    | some (false, ρ1) => some (.next, ρ1)
    | none => none

def setDict (es : List (Int × PV)) (i : Int) (v : PV) : List (Int × PV) :=
  if es.any (fun e => e.1 = i) then es.map (fun e => if e.1 = i then (e.1, v) else e) else es ++ [(i, v)]

/-- what a for statement walks over: its list is never turned meanwhile -/
def itsF (Γ : FEnv) : ME → List Slot → Option (List PV)
  | .range lo hi, ρ => (evA Γ (.range lo hi) ρ).its
  | .enum a, ρ => match (evA Γ a ρ).val with
    | some (.list xs, 0) => if xs.length ≤ LIM then some (enumF 0 xs) else none
    | _ => none
  | e, ρ => match (evA Γ e ρ).val with
    | some (x, 0) => itemsOf (x, 0)
    | _ => none

/-- what is added in place to texts and numbers -/
def augOk : BOp → PV → PV → Bool
  | .add, .int _, .int _ => true
  | .add, .txt _ _, .txt _ _ => true
  | .sub, .int _, .int _ => true
  | .fdiv, .int _, .int _ => true
  | _, _, _ => false
def FUEL : Nat := 5000

def exec (Γ : FEnv) : MS → List Slot → Option (Fl × List Slot)
  | .skip, ρ => some (.next, ρ)
  | .seq a b, ρ => match exec Γ a ρ with
    | some (.next, ρ') => exec Γ b ρ'
    | r => r
  | .brk, ρ => some (.brk, ρ)
  | .cont, ρ => some (.cont, ρ)
  | .ret e, ρ => match (evA Γ e (freeze (esc e) ρ)).val with
    | some (v, 0) => some (.ret v, freeze (esc e) ρ)
    | _ => none
  | .asg x own e, ρ => match (evA Γ e (freeze (esc e) ρ)).val with
    | some (v, 0) => some (.next, (freeze (esc e) ρ).set x (some (v, ownOf own v)))
    | _ => none
  | .newDict x, ρ => some (.next, ρ.set x (some (.dict [], 1)))
  | .unpack xs e, ρ => match (evA Γ e (freeze (esc e) ρ)).val with
    | some (.tup vs, 0) => if xs.length = vs.length then some (.next, setAll xs vs (freeze (esc e) ρ)) else none
    | _ => none
  | .multi xs owns es, ρ => match (evA Γ es (freeze (esc es) ρ)).lst with
    | some vs => if xs.length = vs.length ∧ vs.length ≤ LIM then some (.next, setOwns xs owns vs (freeze (esc es) ρ)) else none
    | _ => none
  | .aug x o e, ρ => match ((freeze (escT e) ρ)[x]?).join, (evA Γ e (freeze (escT e) ρ)).val with
    | some (v, 0), some (w, 0) => if augOk o v w = true then (binF o v w).map fun z => (.next, (freeze (escT e) ρ).set x (some (z, 0))) else none
    | _, _ => none
  | .append x e, ρ => match ((freeze (esc e) ρ)[x]?).join, (evA Γ e (freeze (esc e) ρ)).val with
    | some (.list xs, 1), some (v, 0) => if xs.length < LIM then some (.next, (freeze (esc e) ρ).set x (some (.list (xs ++ [v]), 1))) else none
    | _, _ => none
  | .pop x, ρ => match (ρ[x]?).join with
    | some (.list xs, 1) => match xs.reverse with
      | .txt _ _ :: r => if xs.length ≤ LIM then some (.next, ρ.set x (some (.list r.reverse, 1))) else none
      | _ => none
    | _ => none
  | .extend x e, ρ => match ((freeze (escT e) ρ)[x]?).join, (evA Γ e (freeze (escT e) ρ)).val with
    | some (.list xs, 1), some (.list ys, 0) => if xs.length + ys.length ≤ LIM then some (.next, (freeze (escT e) ρ).set x (some (.list (xs ++ ys), 1))) else none
    | _, _ => none
  | .setIdx x i e, ρ => match ((freeze (esc e) ρ)[x]?).join, (evA Γ i (freeze (esc e) ρ)).val, (evA Γ e (freeze (esc e) ρ)).val with
    | some (.dict es, 1), some (.int i, _), some (v, 0) => if es.length < 1000 then some (.next, (freeze (esc e) ρ).set x (some (.dict (setDict es i v), 1))) else none
    | _, _, _ => none
  | .augIdx x i o e, ρ => match (ρ[x]?).join, (evA Γ i ρ).val, (evA Γ e ρ).val with
    | some (.list xs, 1), some (.int k, _), some (w, 0) => match idxAt xs k with
      | some v => if xs.length ≤ LIM ∧ augOk o v w = true then (binF o v w).map fun z => (.next, ρ.set x (some (.list (xs.set (if 0 ≤ k then k.toNat else (k + xs.length).toNat) z), 1))) else none
      | none => none
    | _, _, _ => none
  | .ite c a b, ρ => match (evA Γ c (freeze (escT c) ρ)).tru with
    | some true => exec Γ a (freeze (escT c) ρ)
    | some false => exec Γ b (freeze (escT c) ρ)
    | none => none
  | .while_ c b, ρ => whileL (fun ρ => (evA Γ c (freeze (escT c) ρ)).tru.map fun t => (t, freeze (escT c) ρ)) (exec Γ b) FUEL ρ
  | .for_ xs src b, ρ => match itsF Γ src (freeze (esc src) ρ) with
    | some vs => forL (exec Γ b) xs vs (freeze (esc src) ρ)
    | none => none
  | .try_ b, ρ => exec Γ b ρ
  | .bad, _ => none

/-- the walk of a def's body: what it hands back -/
def callF (Γ : FEnv) (n : Nat) (body : MS) (args : List PV) : Option PV :=
  match exec Γ body ((args.map fun v => some (v, 0)) ++ List.replicate (n - args.length) none) with
  | some (.ret v, _) => some v
  | some (.next, _) => some .none
  | _ => none
end Mine
end
section
namespace Mine
open Builtin

/-! ## soundness of expressions, node by node -/
structure CC where
  σ : Str → Option Nat
  gl : Str → Bool
  cl : Str → Bool
  n : Nat

structure Here (W : Wld) (A : Around) (k : Nat) (cc : CC) (env : Env) (Ok : Addr → Prop) (ρ : List Slot) (s : Shared) : Prop where
  room : Room A k
  on : W.On s.heap
  fresh : Fresh Ok s
  kind : env.scope.kind = .function
  globals : env.globals = mainGlobals
  builtins : env.builtins = builtinsNs
  len : ρ.length = cc.n
  get : ∀ x i pv l, cc.σ x = some i → (ρ[i]?).join = some (pv, l) → ∃ v, Holds s.heap env x v ∧ BRep W s.heap Ok l v pv
  gl : ∀ x, cc.gl x = true → env.kindOf x = some .globalImplicit
  cl : ∀ x, cc.cl x = true → (env.kindOf x = some .cell ∨ env.kindOf x = some .free) ∧ ∃ c, env.cells.lookup x = some c

theorem Here.ext {W : Wld} {A : Around} {k : Nat} {cc : CC} {env : Env} {Ok : Addr → Prop} {ρ : List Slot} {s s' : Shared} (H : Here W A k cc env Ok ρ s) (e : Ext s s') : Here W A k cc env Ok ρ s' where
  room := H.room
  on := H.on.ext e
  fresh := H.fresh.ext e
  kind := H.kind
  globals := H.globals
  builtins := H.builtins
  len := H.len
  get := fun x i pv l h1 h2 => let ⟨v, a, b⟩ := H.get x i pv l h1 h2; ⟨v, a.keeps e.keep, b.ext e⟩
  gl := H.gl
  cl := H.cl

section
variable (W : Wld) (Γ : FEnv) (k : Nat) (cc : CC)

/-- the evaluator tells what the expression gives -/
def SE (me : ME) (e : Expr) : Prop := ∀ A env Ok ρ s x l, Here W A k cc env Ok ρ s → (evA Γ me ρ).val = some (x, l) → GetsB W A Ok s (eval e env) x l
/-- and whether it is true -/
def ST (me : ME) (e : Expr) : Prop := ∀ A env Ok ρ s b, Here W A k cc env Ok ρ s → (evA Γ me ρ).tru = some b → Tells W A s (isTrue e env (eval e env)) b
end

section
variable {W : Wld} {Γ : FEnv} {k : Nat} {cc : CC} {A : Around} {env : Env} {Ok : Addr → Prop} {ρ : List Slot} {s : Shared}

theorem GetsB.bind {t : Sem Value} {f : Value → Sem Value} {x y : PV} {l l' : Nat} (g : GetsB W A Ok s t x l) (h : ∀ v s', Ext s s' → BRep W s'.heap Ok l v x → GetsB W A Ok s' (f v) y l') : GetsB W A Ok s (t >>= f) y l' :=
  fun E Q q => wpAny_bind (g E _ fun v s' e r => h v s' e r E Q fun v' s'' e' r' => q v' s'' (e.trans e') r')

theorem se_name {x : Str} {i : Nat} {pos : Pos} (hx : cc.σ x = some i) (hd : (x == ("__debug__" : Str)) = false) (hcd : (x == ("__classdict__" : Str)) = false) : SE W Γ k cc (.var i) (.Name x pos) := by
  intro A env Ok ρ s y l H e E Q q
  obtain ⟨v, h1, h2⟩ := H.get x i y l hx e
  exact Holds.load (h := s.heap) h1 H.kind hd hcd (q _ _ (.refl _) h2)
theorem name_global {x : Str} {pos : Pos} {v : Value} {E Q : Value → Shared → Prop} (H : Here W A k cc env Ok ρ s) (hx : cc.gl x = true) (hg : W.glob x = some v) (hd : (x == ("__debug__" : Str)) = false) (q : Q v s) :
    wpAny W.M A (eval (.Name x pos) env) Q E s :=
  Calls.Name_function_global H.kind (H.gl x hx) (Wld.loadGlobal H.on H.globals H.builtins hg q) hd
theorem se_cls {x : Str} {c : String} {pos : Pos} (hx : cc.gl x = true) (hg : W.glob x = some (.type c)) (hd : (x == ("__debug__" : Str)) = false) : SE W Γ k cc (.lit (.cls c)) (.Name x pos) := by
  intro A env Ok ρ s y l H e E Q q
  cases e
  exact name_global H hx hg hd (q _ _ (.refl _) (.zero (.cls _)))

def constPV : Const → Option PV
  | .none => some .none
  | .bool b => some (.bool b)
  | .int i => some (.int i)
  | .str s => some (.txt false s.cps.toList)
  | .bytes b => some (.txt true (b.map UInt8.toNat))
  | _ => none
theorem se_const {c : Const} {x : PV} {n : Nat} {pos : Pos} (h : constPV c = some x) : SE W Γ k cc (.lit x) (.Constant c n pos) := by
  intro A env Ok ρ s y l H e E Q q
  cases e
  rw [eval_Constant]
  cases c <;> simp only [constPV] at h <;> try (cases h; done)
  · cases h; exact wpAny_pure (q _ _ (.refl _) (.zero .none))
  · cases h; exact wpAny_pure (q _ _ (.refl _) (.zero (.bool _)))
  · cases h; exact wpAny_mkInt (q _ _ (.toks _ _) (.zero (.int _ _)))
  · cases h
    rename_i x
    refine wpAny_mkText (q _ _ (.toks _ _) (.zero ?_))
    have := Rep.str (h := s.heap) (Ok := Ok) x.cps.toList s.toks
    simpa using this
  · cases h; exact wpAny_mkTextBytes (q _ _ (.toks _ _) (.zero (.bytes _ _ rfl)))

theorem tells_of_val {t : Sem Value} {x : PV} {l : Nat} {b : Bool} {e : Expr} (g : GetsB W A Ok s (eval e env) x l) (hx : truthPV x = some b)
    (he : isTrue e env (eval e env) = (do let v ← eval e env; standAt e.pos; holding [v] (truthy v))) : Tells W A s (isTrue e env (eval e env)) b :=
  fun E Q q => isTrue_plain (g E _ fun v s' ex r => truth_sound r hx E Q fun s'' ex' => q s'' (ex.trans ex')) he

/-- where truth is the value's truth -/
theorem st_plain {me : ME} {e : Expr} (h : SE W Γ k cc me e) (hm : ∀ ρ, (evA Γ me ρ).tru = (evA Γ me ρ).val.bind fun x => truthPV x.1)
    (he : ∀ env, isTrue e env (eval e env) = (do let v ← eval e env; standAt e.pos; holding [v] (truthy v))) : ST W Γ k cc me e := by
  intro A env Ok ρ s b H hb
  rw [hm] at hb
  cases hv : (evA Γ me ρ).val with
  | none => rw [hv] at hb; cases hb
  | some x =>
    obtain ⟨x, l⟩ := x
    rw [hv] at hb
    exact tells_of_val (t := eval e env) (h A env Ok ρ s x l H hv) hb (he env)

theorem se_bin {o : BOp} {a b : ME} {l r : Expr} {pos : Pos} (ha : SE W Γ k cc a l) (hb : SE W Γ k cc b r) : SE W Γ k cc (.bin o a b) (.BinOp l o.op r pos) := by
  intro A env Ok ρ s z lz H e E Q q
  simp only [evA, Ans.of] at e
  split at e
  · rename_i x lx y ly h1 h2
    split at e
    · rename_i hl
      cases hz : binF o x y with
      | none => rw [hz] at e; cases e
      | some w =>
        rw [hz] at e; cases e
        refine wpAny_BinOp (ha A env Ok ρ s x lx H h1 E _ fun v s' e1 r1 => hb A env Ok ρ s' y ly (H.ext e1) h2 E _ fun u s'' e2 r2 => ?_)
        exact bin_sound ((H.ext e1).ext e2).fresh (r1.ext e2) r2 hl.1 hl.2 hz E Q fun v' s3 e3 r3 => q v' s3 ((e1.trans e2).trans e3) (.zero r3)
    · cases e
  · cases e
theorem cmp_units {A : Around} (r : Room A k) : A.units + 10 < cLine := by have := r.un; omega
theorem se_cmp {o : COp} {a b : ME} {l r : Expr} {pos : Pos} (ha : SE W Γ k cc a l) (hb : SE W Γ k cc b r) (hm : behindInMarks o.op r = false) : SE W Γ k cc (.cmp o a b) (.Compare l [o.op] [r] pos) := by
  intro A env Ok ρ s z lz H e E Q q
  simp only [evA, Ans.of] at e
  split at e
  · rename_i x lx y ly h1 h2
    cases hz : cmpF o x y with
    | none => rw [hz] at e; cases e
    | some w =>
      rw [hz] at e; cases e
      refine wpAny_Compare1 (ha A env Ok ρ s x lx H h1 E _ fun v s' e1 r1 => hb A env Ok ρ s' y ly (H.ext e1) h2 E _ fun u s'' e2 r2 => ?_) hm
      exact cmp_sound (cmp_units H.room) (r1.ext e2) r2 hz E Q fun v' s3 e3 r3 => q v' s3 ((e1.trans e2).trans e3) (.zero r3)
  · cases e
theorem st_cmp {o : COp} {a b : ME} {l r : Expr} {pos : Pos} (ha : SE W Γ k cc a l) (hb : SE W Γ k cc b r) (hm : behindInMarks o.op r = false) : ST W Γ k cc (.cmp o a b) (.Compare l [o.op] [r] pos) := by
  intro A env Ok ρ s z H e E Q q
  simp only [evA, Ans.of] at e
  cases h1 : (evA Γ a ρ).val with
  | none => rw [h1] at e; cases e
  | some x =>
    cases h2 : (evA Γ b ρ).val with
    | none => rw [h1, h2] at e; cases e
    | some y =>
      obtain ⟨x, lx⟩ := x
      obtain ⟨y, ly⟩ := y
      rw [h1, h2] at e
      dsimp only at e
      cases hz : cmpF o x y with
      | none => rw [hz] at e; cases e
      | some w =>
        rw [hz] at e
        have hw : w = z := by simpa [truthPV] using e
        subst hw
        refine wpAny_isTrue_Compare1 (ha A env Ok ρ s x lx H h1 E _ fun v s' e1 r1 => hb A env Ok ρ s' y ly (H.ext e1) h2 E _ fun u s'' e2 r2 => ?_) hm
        refine cmp_sound (Ok'' := Ok) (cmp_units H.room) (r1.ext e2) r2 hz E _ fun v' s3 e3 r3 => ?_
        cases r3
        exact wpAny_truthy_bool (q s3 ((e1.trans e2).trans e3))

theorem se_not {a : ME} {x : Expr} {pos : Pos} (ha : SE W Γ k cc a x) : SE W Γ k cc (.not_ a) (.UnaryOp .Not x pos) := by
  intro A env Ok ρ s z lz H e E Q q
  simp only [evA, Ans.of] at e
  cases h1 : (evA Γ a ρ).val with
  | none => rw [h1] at e; cases e
  | some y =>
    obtain ⟨y, ly⟩ := y
    rw [h1] at e
    simp only [Option.bind_some] at e
    cases hb : truthPV y with
    | none => rw [hb] at e; cases e
    | some b =>
      rw [hb] at e; cases e
      exact UnaryOp_ (ha A env Ok ρ s y ly H h1 E _ fun v s' e1 r1 => not_of (truth_sound r1 hb E _ fun s'' e2 => q _ s'' (e1.trans e2) (.zero (.bool _))))
theorem st_not {a : ME} {x : Expr} {pos : Pos} (ha : ST W Γ k cc a x) : ST W Γ k cc (.not_ a) (.UnaryOp .Not x pos) := by
  intro A env Ok ρ s z H e E Q q
  simp only [evA] at e
  cases h1 : (evA Γ a ρ).tru with
  | none => rw [h1] at e; cases e
  | some b =>
    rw [h1] at e; cases e
    exact isTrue_not (ha A env Ok ρ s b H h1 E _ fun s' e1 => q s' e1)
theorem se_neg {a : ME} {x : Expr} {pos : Pos} (ha : SE W Γ k cc a x) : SE W Γ k cc (.neg a) (.UnaryOp .USub x pos) := by
  intro A env Ok ρ s z lz H e E Q q
  simp only [evA, Ans.of] at e
  split at e
  · rename_i i l h1
    cases e
    exact UnaryOp_ (ha A env Ok ρ s _ _ H h1 E _ fun v s' e1 r1 => neg_ints (r1.scalar (by simp) (by simp)) E Q fun v' s'' e2 r2 => q v' s'' (e1.trans e2) (.zero r2))
  · cases e

theorem se_and {a b : ME} {e1 e2 : Expr} {rest : List Expr} {pos : Pos} (ha : SE W Γ k cc a e1) (hb : SE W Γ k cc b (.BoolOp .And (e2 :: rest) pos)) : SE W Γ k cc (.and_ a b) (.BoolOp .And (e1 :: e2 :: rest) pos) := by
  intro A env Ok ρ s z lz H e E Q q
  simp only [evA, Ans.of] at e
  split at e
  · rename_i x h1
    refine BoolOp_and (ha A env Ok ρ s _ _ H h1 E _ fun v s' e1 r1 => ?_)
    split at e
    · rename_i ht
      refine truth_sound r1 ht E _ fun s'' e2 => ?_
      rw [if_pos rfl]
      exact hb A env Ok ρ s'' z lz ((H.ext e1).ext e2) e E Q fun v' s3 e3 r3 => q v' s3 ((e1.trans e2).trans e3) r3
    · rename_i ht
      cases e
      refine truth_sound r1 ht E _ fun s'' e2 => ?_
      rw [if_neg Bool.false_ne_true]
      exact q _ _ (e1.trans e2) (r1.ext e2)
    · cases e
  · cases e
theorem se_or {a b : ME} {e1 e2 : Expr} {rest : List Expr} {pos : Pos} (ha : SE W Γ k cc a e1) (hb : SE W Γ k cc b (.BoolOp .Or (e2 :: rest) pos)) : SE W Γ k cc (.or_ a b) (.BoolOp .Or (e1 :: e2 :: rest) pos) := by
  intro A env Ok ρ s z lz H e E Q q
  simp only [evA, Ans.of] at e
  split at e
  · rename_i x h1
    refine BoolOp_or (ha A env Ok ρ s _ _ H h1 E _ fun v s' e1 r1 => ?_)
    split at e
    · rename_i ht
      refine truth_sound r1 ht E _ fun s'' e2 => ?_
      rw [if_neg Bool.false_ne_true]
      exact hb A env Ok ρ s'' z lz ((H.ext e1).ext e2) e E Q fun v' s3 e3 r3 => q v' s3 ((e1.trans e2).trans e3) r3
    · rename_i ht
      cases e
      refine truth_sound r1 ht E _ fun s'' e2 => ?_
      rw [if_pos rfl]
      exact q _ _ (e1.trans e2) (r1.ext e2)
    · cases e
  · cases e
theorem se_bool1 {op : BoolOp} {a : ME} {e1 : Expr} {pos : Pos} (ha : SE W Γ k cc a e1) : SE W Γ k cc a (.BoolOp op [e1] pos) := fun A env Ok ρ s x l H e E Q q => BoolOp_one (ha A env Ok ρ s x l H e E Q q)
theorem isTrue_whole {e : Expr} {pos : Pos} {op : BoolOp} {es : List Expr} {w w' : Sem Value} : isTrue (.BoolOp op es pos) env w = isTrue (.BoolOp op es pos) env w' := rfl
theorem st_and {a b : ME} {e1 e2 : Expr} {rest : List Expr} {pos : Pos} (ha : ST W Γ k cc a e1) (hb : ST W Γ k cc b (.BoolOp .And (e2 :: rest) pos)) : ST W Γ k cc (.and_ a b) (.BoolOp .And (e1 :: e2 :: rest) pos) := by
  intro A env Ok ρ s z H e E Q q
  simp only [evA] at e
  refine isTrue_and ?_
  split at e
  · rename_i ht
    refine ha A env Ok ρ s _ H ht E _ fun s' e1 => ?_
    rw [if_pos rfl]
    exact hb A env Ok ρ s' z (H.ext e1) e E Q fun s'' e2 => q s'' (e1.trans e2)
  · rename_i ht
    cases e
    refine ha A env Ok ρ s _ H ht E _ fun s' e1 => ?_
    rw [if_neg Bool.false_ne_true]
    exact q s' e1
  · cases e
theorem st_or {a b : ME} {e1 e2 : Expr} {rest : List Expr} {pos : Pos} (ha : ST W Γ k cc a e1) (hb : ST W Γ k cc b (.BoolOp .Or (e2 :: rest) pos)) : ST W Γ k cc (.or_ a b) (.BoolOp .Or (e1 :: e2 :: rest) pos) := by
  intro A env Ok ρ s z H e E Q q
  simp only [evA] at e
  refine isTrue_or ?_
  split at e
  · rename_i ht
    refine ha A env Ok ρ s _ H ht E _ fun s' e1 => ?_
    rw [if_neg Bool.false_ne_true]
    exact hb A env Ok ρ s' z (H.ext e1) e E Q fun s'' e2 => q s'' (e1.trans e2)
  · rename_i ht
    cases e
    refine ha A env Ok ρ s _ H ht E _ fun s' e1 => ?_
    rw [if_pos rfl]
    exact q s' e1
  · cases e
theorem st_and1 {a : ME} {e1 : Expr} {pos : Pos} (ha : ST W Γ k cc a e1) : ST W Γ k cc a (.BoolOp .And [e1] pos) := by
  intro A env Ok ρ s z H e E Q q
  refine isTrue_and (ha A env Ok ρ s z H e E _ fun s' e1 => ?_)
  cases z
  · rw [if_neg Bool.false_ne_true]; exact q s' e1
  · rw [if_pos rfl]; exact isTrue_and_nil (q s' e1)
theorem st_or1 {a : ME} {e1 : Expr} {pos : Pos} (ha : ST W Γ k cc a e1) : ST W Γ k cc a (.BoolOp .Or [e1] pos) := by
  intro A env Ok ρ s z H e E Q q
  refine isTrue_or (ha A env Ok ρ s z H e E _ fun s' e1 => ?_)
  cases z
  · rw [if_neg Bool.false_ne_true]; exact isTrue_or_nil (q s' e1)
  · rw [if_pos rfl]; exact q s' e1

theorem se_ite {c a b : ME} {t e1 e2 : Expr} {pos : Pos} (hc : ST W Γ k cc c t) (ha : SE W Γ k cc a e1) (hb : SE W Γ k cc b e2) : SE W Γ k cc (.ite c a b) (.IfExp t e1 e2 pos) := by
  intro A env Ok ρ s z lz H e E Q q
  simp only [evA] at e
  refine IfExp_ ?_
  split at e
  · rename_i ht
    refine hc A env Ok ρ s _ H ht E _ fun s' ex => ?_
    rw [if_pos rfl]
    exact ha A env Ok ρ s' z lz (H.ext ex) e E Q fun v s'' e2 r => q v s'' (ex.trans e2) r
  · rename_i ht
    refine hc A env Ok ρ s _ H ht E _ fun s' ex => ?_
    rw [if_neg Bool.false_ne_true]
    exact hb A env Ok ρ s' z lz (H.ext ex) e E Q fun v s'' e2 r => q v s'' (ex.trans e2) r
  · cases e
theorem st_ite {c a b : ME} {t e1 e2 : Expr} {pos : Pos} (hc : ST W Γ k cc c t) (ha : ST W Γ k cc a e1) (hb : ST W Γ k cc b e2) : ST W Γ k cc (.ite c a b) (.IfExp t e1 e2 pos) := by
  intro A env Ok ρ s z H e E Q q
  simp only [evA] at e
  refine isTrue_IfExp ?_
  split at e
  · rename_i ht
    refine hc A env Ok ρ s _ H ht E _ fun s' ex => ?_
    rw [if_pos rfl]
    exact ha A env Ok ρ s' z (H.ext ex) e E Q fun s'' e2 => q s'' (ex.trans e2)
  · rename_i ht
    refine hc A env Ok ρ s _ H ht E _ fun s' ex => ?_
    rw [if_neg Bool.false_ne_true]
    exact hb A env Ok ρ s' z (H.ext ex) e E Q fun s'' e2 => q s'' (ex.trans e2)
  · cases e
end
end Mine
end
section
namespace Mine
open Builtin

section
variable (W : Wld) (Γ : FEnv) (k : Nat) (cc : CC)
/-- arguments, display elements -/
def SL (me : ME) (es : List Expr) : Prop := ∀ A env Ok ρ s xs pos, Here W A k cc env Ok ρ s → (evA Γ me ρ).lst = some xs →
  ∀ (E : Value → Shared → Prop) (Q : List Value → Shared → Prop), (∀ vs s', Ext s s' → RepAll s'.heap Ok vs xs → Q vs s') → wpAny W.M A (spliced (backTo pos (starEach es env))) Q E s
end

/-- what a def of the program does, told by a plain function -/
def FunOk (W : Wld) (k : Nat) (fa : Addr) (F : List PV → Option PV) : Prop :=
  ∀ A s Ok vs xs z, Room A k → W.On s.heap → Fresh Ok s → RepAll s.heap Ok vs xs → F xs = some z →
    ∀ R : Result → Shared → Prop, (∀ v s', Ext s s' → Rep s'.heap Ok v z → R (.ok (.ret v)) s') → codeAny W.M A (.call (.ref fa) ⟨vs, []⟩) R s

theorem Room.mono {A : Around} {k k' : Nat} (r : Room A k') (h : k ≤ k') : Room A k := ⟨r.hd, by have := r.dep; omega, by have := r.un; omega⟩
theorem FunOk.mono {W : Wld} {k k' : Nat} {fa : Addr} {F : List PV → Option PV} (f : FunOk W k fa F) (h : k ≤ k') : FunOk W k' fa F :=
  fun A s Ok vs xs z hr => f A s Ok vs xs z (hr.mono h)

/-- the names of the defs that the evaluator may call, and what stands behind them -/
structure GOk (W : Wld) (Γ : FEnv) (k : Nat) (fns : List Str) : Prop where
  fn : ∀ (f : Nat) (F : List PV → Option PV) (name : Str), Γ[f]? = some F → fns[f]? = some name → ∃ fa o fd, W.glob name = some (.ref fa) ∧ W.K.lookup fa = some o ∧ o.data = .func fd ∧ FunOk W k fa F

section
variable {W : Wld} {Γ : FEnv} {k : Nat} {cc : CC} {A : Around} {env : Env} {Ok : Addr → Prop} {ρ : List Slot} {s : Shared}

theorem sl_nil : SL W Γ k cc .nil [] := by
  intro A env Ok ρ s xs pos H e E Q q
  cases e
  exact Calls.spliced_nil (q _ _ (.refl _) .nil)
def notStar : Expr → Bool
  | .Starred _ _ => false
  | _ => true
theorem starEach_plain {e : Expr} (h : notStar e = true) (rest : List Expr) (env : Env) : starEach (e :: rest) env = (false, eval e env) :: starEach rest env := by
  cases e <;> first | rfl | cases h
theorem sl_cons {a r : ME} {e : Expr} {rest : List Expr} (hn : notStar e = true) (ha : SE W Γ k cc a e) (hr : SL W Γ k cc r rest) : SL W Γ k cc (.cons a r) (e :: rest) := by
  intro A env Ok ρ s xs pos H e' E Q q
  simp only [evA] at e'
  split at e'
  · rename_i x h1
    cases h2 : (evA Γ r ρ).lst with
    | none => rw [h2] at e'; cases e'
    | some ys =>
      rw [h2] at e'; cases e'
      rw [starEach_plain hn]
      show wpAny W.M A (spliced ((false, eval e env) :: backTo pos (starEach rest env))) Q E s
      refine Calls.spliced_cons (ha A env Ok ρ s x 0 H h1 E _ fun v s' e1 r1 => hr A env Ok ρ s' ys pos (H.ext e1) h2 E _ fun vs s'' e2 r2 => ?_)
      exact q _ _ (e1.trans e2) (.cons (r1.rep0.ext e2) r2)
  · cases e'
theorem starOf_list {a : Addr} {vs : List Value} {E : Value → Shared → Prop} {Q : List Value → Shared → Prop} (ha : s.heap.PlainList a vs.toArray) (hz : vs.length ≤ LIM) (q : ∀ s', Ext s s' → Q vs s') : StarOf W.M A E (.ref a) Q s := by
  unfold StarOf notIterableAtAll
  obtain ⟨n, ho⟩ := ha
  have hT : s.TypeIs (.ref a) "list" := ⟨_, ho, rfl⟩
  refine wpAny_bind (wpAny_specialOf hT F.slot_list_iter.lookup ?_)
  rw [if_pos (by rfl)]
  refine wpAny_pure ⟨rfl, ?_⟩
  refine wpAny_collect_seq a (T := "list") (.inl rfl) ho rfl rfl (fun h' hk => ?_) (by rw [List.size_toArray]; exact lim_size hz)
  exact q _ ⟨⟨_, _, rfl⟩, hk⟩
theorem sl_star {a r : ME} {e : Expr} {p : Pos} {rest : List Expr} (ha : SE W Γ k cc a e) (hr : SL W Γ k cc r rest) : SL W Γ k cc (.star a r) (.Starred e p :: rest) := by
  intro A env Ok ρ s xs pos H e' E Q q
  simp only [evA] at e'
  split at e'
  · rename_i zs l h1
    split at e'
    · rename_i hl
      cases h2 : (evA Γ r ρ).lst with
      | none => rw [h2] at e'; cases e'
      | some ys =>
        rw [h2] at e'; cases e'
        refine ks_spliced (ha A env Ok ρ s _ l H h1 E _ fun v s' e1 r1 => ?_)
        obtain ⟨a', vs, rfl, q1, q2⟩ := r1.list01 hl.1
        refine starOf_list q1 (by rw [q2.length]; exact hl.2) fun s'' e2 => ?_
        refine hr A env Ok ρ s'' ys pos ((H.ext e1).ext e2) h2 E _ fun ws s3 e3 r3 => ?_
        exact q _ _ ((e1.trans e2).trans e3) (.append ((q2.ext e2).ext e3) r3)
    · cases e'
  · cases e'

theorem evalArgs_of {M : Model} {E : Value → Shared → Prop} {f : Value} {args : List (Bool × Sem Value)} {Q : Args → Shared → Prop} (hne : ∀ x, args ≠ [(true, x)])
    (h : wpAny M A (spliced args) (fun vs s' => Q ⟨vs, []⟩ s') E s) : wpAny M A (evalArgs f true args []) Q E s := by
  match args, hne, h with
  | [], _, h =>
    unfold evalArgs
    show wpAny M A (spliced [] >>= _) Q E s
    refine wpAny_bind (wpAny_mono h (fun vs s' h' => ?_) fun _ _ x => x)
    refine wpAny_holding ?_
    exact wpAny_bind (wpAny_pure (wpAny_bind (wpAny_pure (wpAny_pure h'))))
  | (false, x) :: rest, _, h => exact Calls.evalArgs_plain h
  | [(true, x)], hne, _ => exact absurd rfl (hne x)
  | (true, x) :: y :: rest, _, h =>
    unfold evalArgs
    show wpAny M A (spliced ((true, x) :: y :: rest) >>= _) Q E s
    refine wpAny_bind (wpAny_mono h (fun vs s' h' => ?_) fun _ _ x => x)
    refine wpAny_holding ?_
    exact wpAny_bind (wpAny_pure (wpAny_bind (wpAny_pure (wpAny_pure h'))))
/-- the arguments of a call -/
theorem args_sound {me : ME} {es : List Expr} {xs : List PV} {pos : Pos} {f : Value} (h : SL W Γ k cc me es) (H : Here W A k cc env Ok ρ s) (e : (evA Γ me ρ).lst = some xs)
    (hlone : ∀ e p, es = [.Starred e p] → ∃ a, me = .star a .nil ∧ SE W Γ k cc a e) (E : Value → Shared → Prop) (Q : Args → Shared → Prop) (q : ∀ vs s', Ext s s' → RepAll s'.heap Ok vs xs → Q ⟨vs, []⟩ s') :
    wpAny W.M A (evalArgs f true (backTo pos (starEach es env)) []) Q E s := by
  by_cases hl : ∃ e p, es = [.Starred e p]
  · obtain ⟨e1, p, rfl⟩ := hl
    obtain ⟨a, rfl, ha⟩ := hlone e1 p rfl
    simp only [evA] at e
    split at e
    · rename_i zs l h1
      split at e
      · rename_i hz
        cases e
        refine ks_lone (ha A env Ok ρ s _ l H h1 E _ fun v s' e1 r1 => ?_)
        obtain ⟨a', vs, rfl, q1, q2⟩ := r1.list01 hz.1
        refine starOf_list q1 (by rw [q2.length]; exact hz.2) fun s'' e2 => ?_
        exact q _ _ (e1.trans e2) (by show RepAll _ _ _ (zs ++ []); rw [List.append_nil]; exact q2.ext e2)
      · cases e
    · cases e
  · refine evalArgs_of (fun x hx => hl ?_) (h A env Ok ρ s xs pos H e E _ q)
    cases es with
    | nil => cases hx
    | cons e1 rest =>
      by_cases hs : notStar e1 = true
      · rw [starEach_plain hs] at hx
        cases hx
      · cases e1 <;> first | (exfalso; exact hs rfl) | skip
        rename_i e2 p2
        cases rest with
        | nil => exact ⟨_, _, rfl⟩
        | cons e3 r3 =>
          exfalso
          have h1 : (backTo pos (starEach (.Starred e2 p2 :: e3 :: r3) env)).length = 1 := by rw [hx]; rfl
          have h2 : ∀ (es : List Expr), (starEach es env).length = es.length := by
            intro es
            induction es with
            | nil => rfl
            | cons e es ih =>
              by_cases hs : notStar e = true
              · rw [starEach_plain hs, List.length_cons, ih, List.length_cons]
              · cases e <;> first | (exfalso; exact hs rfl) | skip
                show ((true, _) :: starEach es env).length = _
                rw [List.length_cons, ih, List.length_cons]
          unfold backTo at h1
          rw [List.length_map, h2] at h1
          simp at h1

/-- a def of the program, called by its name -/
theorem se_fn {fns : List Str} {f : Nat} {me : ME} {name : Str} {p pos : Pos} {es : List Expr} (G : GOk W Γ k fns) (hf : fns[f]? = some name) (hgl : cc.gl name = true) (hd : (name == ("__debug__" : Str)) = false)
    (h : SL W Γ k cc me es) (hlone : ∀ e p, es = [.Starred e p] → ∃ a, me = .star a .nil ∧ SE W Γ k cc a e) : SE W Γ k cc (.fn f me) (.Call (.Name name p) es [] pos) := by
  intro A env Ok ρ s z lz H e E Q q
  simp only [evA, Ans.of] at e
  cases h1 : (evA Γ me ρ).lst with
  | none => rw [h1] at e; cases e
  | some xs =>
    rw [h1] at e
    simp only [Option.bind_some] at e
    cases h2 : Γ[f]? with
    | none => rw [h2] at e; cases e
    | some F =>
      rw [h2] at e
      simp only [Option.bind_some] at e
      cases h3 : F xs with
      | none => rw [h3] at e; cases e
      | some w =>
        rw [h3] at e; cases e
        obtain ⟨fa, o, fd, hg, ho, hfd, hok⟩ := G.fn f F name h2 hf
        refine wpAny_Call_ofName (name_global H hgl hg hd ?_)
        refine Calls.callWith_function (o := o) (fd := fd) ?_
        refine args_sound h H h1 hlone E _ fun vs s' e1 r1 => ?_
        have on' := H.on.ext e1
        refine ⟨⟨on'.frag _ _ ho, hfd⟩, ?_⟩
        refine wpAny_call (hok A s' Ok vs xs _ H.room on' (H.fresh.ext e1) r1 h3 _ fun v s'' e2 r2 => ?_)
        exact q v s'' (e1.trans e2) (.zero r2)

/-! displays -/
theorem se_list {me : ME} {es : List Expr} {pos : Pos} (h : SL W Γ k cc me es) : SE W Γ k cc (.list me) (.List es pos) := by
  intro A env Ok ρ s z lz H e E Q q
  simp only [evA, Ans.of] at e
  cases h1 : (evA Γ me ρ).lst with
  | none => rw [h1] at e; cases e
  | some xs =>
    rw [h1] at e
    simp only [Option.bind_some, lim] at e
    split at e
    · rename_i hz
      cases e
      refine List_ (h A env Ok ρ s xs pos H h1 E _ fun vs s' e1 r1 => ?_)
      refine wpAny_newList ?_ (by rw [r1.length]; exact lim_size hz)
      refine newlist_at 0 r1 E _ fun a vs s'' e2 ha hl r => ?_
      exact q _ _ (e1.trans e2) (.zero (.list (H.fresh.ext e1 a ha) hl (r.weaken fun _ x => x.1)))
    · cases e
theorem se_tup {me : ME} {es : List Expr} {n : Nat} {pos : Pos} (h : SL W Γ k cc me es) : SE W Γ k cc (.tup me) (.Tuple es n pos) := by
  intro A env Ok ρ s z lz H e E Q q
  simp only [evA, Ans.of] at e
  cases h1 : (evA Γ me ρ).lst with
  | none => rw [h1] at e; cases e
  | some xs =>
    rw [h1] at e
    simp only [Option.bind_some, lim] at e
    split at e
    · rename_i hz
      cases e
      refine Tuple_ (h A env Ok ρ s xs pos H h1 E _ fun vs s' e1 r1 => ?_)
      refine wpAny_newTuple ?_ (by rw [r1.length]; exact lim_size hz)
      refine q _ _ (e1.trans (.push _ _)) (.zero (.tup (H.fresh.ext e1 _ (get_size _)) ⟨0, Heap.get?_push_size _ rfl⟩ (r1.ext (.push _ _))))
    · cases e

/-! items and cuts -/
theorem letGo_ok {M : Model} {E : Value → Shared → Prop} {base : Expr} {o r : Value} {Q : Unit → Shared → Prop} (q : Q () s) : wpAny (model W.prog W.w) A (letTemporaryGo base o r) Q E s := by
  have run : wpAny (model W.prog W.w) A (runValue (.builtin "proto.let_go" {})) (fun _ s' => s' = s) E s := by
    refine wpAny_runValue (codeAny_builtin entry_let_go ?_)
    rw [Around.under_plainId plain_let_go]
    exact wpAny_pure rfl
  have main : wpAny (model W.prog W.w) A (do let _ ← holding [r] (runValue (.builtin "proto.let_go" {})); pure ()) Q E s :=
    wpAny_bind (wpAny_holding (wpAny_mono run (fun _ s' h => by subst h; exact wpAny_pure q) fun _ _ x => x))
  unfold letTemporaryGo
  split
  · exact wpAny_pure q
  · exact main
  · exact wpAny_pure q

/-- what kinds of objects an item may be taken of -/
theorem getitem_builtin {v : Value} {x : PV} {l : Nat} (r : BRep W s.heap Ok l v x) (hx : ∀ c, x ≠ .cls c) (hx2 : x ≠ .none) (hx3 : ∀ b, x ≠ .bool b) (hx4 : ∀ b, x ≠ .int b) :
    ∃ T id, s.TypeIs v T ∧ typeLookup (.type T) "__getitem__" = pure (some (.builtin id)) := by
  have hlist : ∀ {a : Addr} {vs : Array Value}, s.heap.PlainList a vs → ∃ T id, s.TypeIs (.ref a) T ∧ typeLookup (.type T) "__getitem__" = pure (some (.builtin id)) := fun q => ⟨_, _, q.isList.typeIs, slot_list_getitem.lookup⟩
  cases r with
  | zero r =>
    cases r with
    | none => exact absurd rfl hx2
    | bool b => exact absurd rfl (hx3 b)
    | int i t => exact absurd rfl (hx4 i)
    | str cs t => exact ⟨_, _, typeIs_str s _ _, F.slot_str_getitem.lookup⟩
    | bytes bs t e => exact ⟨_, _, typeIs_bytes s _ _, FB.slot_bytes_getitem.lookup⟩
    | cls c => exact absurd rfl (hx c)
    | list o q r => exact hlist q
    | tup o q r => exact ⟨_, _, q.typeIs, slot_tuple_getitem.lookup⟩
  | one q r => exact hlist q
  | two q r => exact hlist q
  | dict q =>
    obtain ⟨kvs, h1, _⟩ := q
    exact ⟨_, _, h1.mapOf.typeIs, slot_dict_getitem.lookup⟩
end
end Mine
end
section
namespace Mine
open Builtin
section
variable {W : Wld} {Γ : FEnv} {k : Nat} {cc : CC} {A : Around} {env : Env} {Ok : Addr → Prop} {ρ : List Slot} {s : Shared}

theorem subscript_of {value slice : Expr} {pos : Pos} {E Q : Value → Shared → Prop}
    (h : wpAny W.M A (eval value env) (fun o s₁ => wpAny W.M A (eval slice env) (fun i s₂ => (∃ T id, s₂.TypeIs o T ∧ typeLookup (.type T) "__getitem__" = pure (some (.builtin id))) ∧ wpAny W.M A (getItem o i) Q E s₂) E s₁) E s) :
    wpAny W.M A (eval (.Subscript value slice pos) env) Q E s := by
  rw [eval_Subscript]
  refine wpAny_bind (wpAny_mono h (fun o s₁ h₁ => wpAny_bind (wpAny_holding (wpAny_mono h₁ (fun i s₂ h₂ => wpAny_bind (wpAny_standAt ?_)) fun _ _ x => x)))
    fun _ _ x => x)
  obtain ⟨⟨T, id, hT, hl⟩, hg⟩ := h₂
  have fin : wpAny W.M A (subscripted slice false o i) (fun r s₃ => wpAny W.M A (letTemporaryGo value o r >>= fun _ => pure r) Q E s₃) E s₂ := by
    have m1 : wpAny W.M A (getItem o i) (fun r s₃ => wpAny W.M A (letTemporaryGo value o r >>= fun _ => pure r) Q E s₃) E s₂ :=
      wpAny_mono hg (fun r s₃ h₃ => wpAny_bind (letGo_ok (W := W) (M := W.M) (wpAny_pure h₃))) fun _ _ x => x
    unfold subscripted
    split
    · exact wpAny_operating m1
    · contradiction
    · exact wpAny_operating m1
  refine wpAny_bind ?_
  rw [getitemInPython_of_ne hT.not_modules]
  refine wpAny_bind (wpAny_specialOf hT hl ?_)
  first
    | exact wpAny_pure (wpAny_bind fin)
    | exact wpAny_bind (wpAny_pure (wpAny_bind fin))
    | exact wpAny_bind fin

theorem getitem_idx {v : Value} {x : PV} {l : Nat} {y : PV} {r : PV × Nat} (b : BRep W s.heap Ok l v x) (e : idxF x l y = some r) :
    ∃ T id, s.TypeIs v T ∧ typeLookup (.type T) "__getitem__" = pure (some (.builtin id)) :=
  getitem_builtin b (by rintro c rfl; cases y <;> simp [idxF] at e) (by rintro rfl; cases y <;> simp [idxF] at e) (by rintro c rfl; cases y <;> simp [idxF] at e) (by rintro c rfl; cases y <;> simp [idxF] at e)
theorem getitem_cut {v : Value} {x : PV} {l : Nat} {y z : PV} {r : PV} (b : BRep W s.heap Ok l v x) (e : cutF x y z = some r) :
    ∃ T id, s.TypeIs v T ∧ typeLookup (.type T) "__getitem__" = pure (some (.builtin id)) :=
  getitem_builtin b (by rintro c rfl; simp [cutF] at e) (by rintro rfl; simp [cutF] at e) (by rintro c rfl; simp [cutF] at e) (by rintro c rfl; simp [cutF] at e)

theorem se_idx {a i : ME} {value slice : Expr} {pos : Pos} (ha : SE W Γ k cc a value) (hi : SE W Γ k cc i slice) : SE W Γ k cc (.idx a i) (.Subscript value slice pos) := by
  intro A env Ok ρ s z lz H e E Q q
  simp only [evA, Ans.of] at e
  split at e
  · rename_i x lx y ly h1 h2
    refine subscript_of (ha A env Ok ρ s x lx H h1 E _ fun v s' e1 r1 => hi A env Ok ρ s' y ly (H.ext e1) h2 E _ fun u s'' e2 r2 => ⟨getitem_idx (r1.ext e2) e, ?_⟩)
    exact idx_sound (r1.ext e2) r2 e E Q fun v' s3 e3 r3 => q v' s3 ((e1.trans e2).trans e3) r3
  · cases e

/-- a part of a cut -/
def SPt (W : Wld) (Γ : FEnv) (k : Nat) (cc : CC) (me : ME) (e : Option Expr) : Prop := ∀ A env Ok ρ s x, Here W A k cc env Ok ρ s → (evA Γ me ρ).val = some (x, 0) →
  ∀ (E Q : Value → Shared → Prop), (∀ v s', Ext s s' → Rep s'.heap Ok v x → Q v s') → wpAny W.M A (evalPart e env) Q E s
theorem spt_none : SPt W Γ k cc (.lit .none) none := by
  intro A env Ok ρ s x H e E Q q
  cases e
  exact wpAny_pure (q _ _ (.refl _) .none)
theorem spt_some {me : ME} {e : Expr} (h : SE W Γ k cc me e) : SPt W Γ k cc me (some e) := by
  intro A env Ok ρ s x H e' E Q q
  exact h A env Ok ρ s x 0 H e' E Q fun v s' ex r => q v s' ex r.rep0

theorem se_cut {a lo hi : ME} {value : Expr} {l u : Option Expr} {p pos : Pos} (ha : SE W Γ k cc a value) (hl : SPt W Γ k cc lo l) (hu : SPt W Γ k cc hi u) : SE W Γ k cc (.cut a lo hi) (.Subscript value (.Slice l u none p) pos) := by
  intro A env Ok ρ s z lz H e E Q q
  simp only [evA, Ans.of] at e
  split at e
  · rename_i x lx y z' h1 h2 h3
    split at e
    · rename_i hlx
      cases h4 : cutF x y z' with
      | none => rw [h4] at e; cases e
      | some w =>
        rw [h4] at e; cases e
        refine subscript_of (ha A env Ok ρ s x lx H h1 E _ fun v s1 e1 r1 => wpAny_Slice (hl A env Ok ρ s1 y (H.ext e1) h2 E _ fun v2 s2 e2 r2 => hu A env Ok ρ s2 z' ((H.ext e1).ext e2) h3 E _ fun v3 s3 e3 r3 => ?_))
        show wpAny W.M A (pure Value.none) _ E s3
        refine wpAny_pure ?_
        have ep := Ext.push s3 { cls := .type "slice", data := .fields #[v2, v3, .none] }
        have r1' := ((r1.ext e2).ext e3).ext ep
        refine ⟨getitem_cut r1' h4, ?_⟩
        refine cut_sound (fun a ha' => H.fresh a (e1.fresh (e2.fresh (e3.fresh (ep.fresh ha'))))) r1' hlx ((r2.ext e3).ext ep) (r3.ext ep) ⟨_, Heap.get?_push_size _ rfl, rfl, rfl⟩ h4 E Q fun v' s5 e5 r5 => ?_
        exact q v' s5 ((((e1.trans e2).trans e3).trans ep).trans e5) (.zero r5)
    · cases e
  · cases e
theorem se_rev {a st : ME} {value : Expr} {e3 : Expr} {p pos : Pos} (ha : SE W Γ k cc a value) (hs : SE W Γ k cc st e3) (hst : ∀ ρ, (evA Γ st ρ).val = some (.int (-1), 0)) :
    SE W Γ k cc (.rev a) (.Subscript value (.Slice none none (some e3) p) pos) := by
  intro A env Ok ρ s z lz H e E Q q
  simp only [evA, Ans.of] at e
  split at e
  · rename_i xs lx h1
    split at e
    · rename_i hlx
      cases e
      refine subscript_of (ha A env Ok ρ s _ lx H h1 E _ fun v s1 e1 r1 => wpAny_Slice (wpAny_pure (wpAny_pure (hs A env Ok ρ s1 _ _ (H.ext e1) (hst ρ) E _ fun v3 s3 e3 r3 => ?_))))
      have ep := Ext.push s3 { cls := .type "slice", data := .fields #[Value.none, Value.none, v3] }
      have r1' := (r1.ext e3).ext ep
      obtain ⟨a', vs, rfl, q1, q2⟩ := r1'.list01 hlx.1
      refine ⟨⟨_, _, q1.isList.typeIs, slot_list_getitem.lookup⟩, ?_⟩
      cases r3 with
      | zero r3 =>
        cases r3
        refine ((rev_list' q1 q2 hlx.2 ⟨_, Heap.get?_push_size _ rfl, rfl, rfl⟩).gets (fun a ha' => H.fresh a (e1.fresh (e3.fresh (ep.fresh ha'))))) E Q fun v' s5 e5 r5 => ?_
        exact q v' s5 (((e1.trans e3).trans ep).trans e5) (.zero r5)
    · cases e
  · cases e
end
end Mine
end
section
namespace Mine
open Builtin
theorem isSub_kit {c d : String} {b : Bool} (h : isSub c d = some b) : kitOne ([] : Frag) (.type c) (.type d) = some b := by
  unfold isSub at h
  split at h <;> first | (cases h; kernel_rfl) | cases h
theorem isSub_cls {c d : String} {b : Bool} (h : isSub c d = some b) : kitCls ([] : Frag) (.type c) (.type d) = some b := by
  unfold isSub at h
  split at h <;> first | (cases h; kernel_rfl) | cases h
theorem frag_nil {h : Heap} : Frag.In ([] : Frag) h := fun a o e => by cases e
theorem isSub_looks {c d : String} {b : Bool} {M : Model} {h : Heap} (e : isSub c d = some b) : Looks M h (typeOf (.type d)) (.type "type") ∧ Looks M h (isType (.type d)) true ∧ Looks M h (isSubtype (.type c) (.type d)) b :=
  kit_cls frag_nil (isSub_cls e)
theorem issub_type {prog : Program} {w : World} {A : Around} {E : Value → Shared → Prop} {Q : Fin → Shared → Prop} {s : Shared} {t : Tok} {i : Int} {c d : String} {b : Bool} (e : isSub c d = some b) (q : Q (.done (.ret (.bool b))) s) :
   wpAny (model prog w) A (Builtin.«issubclass.nested» ⟨[.type c, .type d, .int i t], []⟩) Q E s := by
  obtain ⟨h1, h2, h3⟩ := isSub_looks (M := model prog w) (h := s.heap) e
  unfold Builtin.«issubclass.nested»
  refine wpAny_bind (h1.at ?_)
  rw [if_pos (by decide)]
  repeat (any_goals (first | assumption | (refine h2.at ?_) | (refine h3.at ?_) | wp_step))

theorem entry_isn : entryFor table "issubclass.nested" = some Builtin.«issubclass.nested» := entryFor_of_tree (by kernel_rfl)
theorem kind_isn : builtinKind "issubclass.nested" = none := by decide +kernel
theorem plain_isn : plainId "issubclass.nested" = true := by decide +kernel
theorem args_isn (a b c : Value) : argsOk "issubclass.nested" ⟨[a, b, c], []⟩ := by unfold argsOk; kernel_rfl

theorem clsNames_map : ∀ {ds : List PV} {ns : List String}, clsNames ds = some ns → ds = ns.map .cls
  | [], _, e => by cases e; rfl
  | x :: r, ns, e => by
    cases x <;> simp only [clsNames] at e <;> try (cases e; done)
    cases h : clsNames r with
    | none => rw [h] at e; cases e
    | some ms => rw [h] at e; cases e; rw [clsNames_map h]; rfl
theorem clsAll {h : Heap} {Ok : Addr → Prop} : ∀ {ns : List String} {vs : List Value}, RepAll h Ok vs (ns.map .cls) → vs = ns.map Value.type
  | [], _, .nil => rfl
  | n :: ns, _, .cons r rs => by
    cases r
    rw [clsAll rs]; rfl
theorem anySub_kit {c : String} : ∀ {ns : List String} {b : Bool}, anySub c ns = some b → kitAny ([] : Frag) (.type c) (ns.map Value.type) = some b
  | [], _, e => e
  | d :: ns, b, e => by
    rw [List.map_cons]
    unfold kitAny
    rw [anySub] at e
    split at e
    · rename_i q; rw [isSub_kit q]; exact e
    · rename_i q; rw [isSub_kit q]; exact anySub_kit e
    · cases e

section
variable {W : Wld} {Γ : FEnv} {k : Nat} {cc : CC} {A : Around} {env : Env} {Ok : Addr → Prop} {ρ : List Slot} {s : Shared}

theorem issub_items {prog : Program} {w : World} {E : Value → Shared → Prop} {dep : Int} {c : String} : ∀ (cs : List String) (b : Bool) (s : Shared) (Q : Option Fin × Unit → Shared → Prop),
    anySub c cs = some b → (∀ tk, Q (if b then some (.done (.ret (.bool true))) else none, ()) { s with toks := tk }) →
    wpAny (model prog w) A (forIn (cs.map Value.type) ((none : Option Fin), ()) fun d _ => do
      if ← truthy (← call (.builtin "issubclass.nested") [.type c, d, rawInt (dep + 1)]) then
        let r ← ret (.bool true)
        pure (ForInStep.done (some r, ()))
      else pure (ForInStep.yield (none, ()))) Q E s
  | [], b, s, Q, e, h => by
    cases e
    exact wpAny_pure (h s.toks)
  | d :: cs, b, s, Q, e, h => by
    rw [List.map_cons, List.forIn_cons]
    rw [anySub] at e
    split at e
    · rename_i q
      cases e
      refine wpAny_bind (wpAny_bind (Calls.call_function_entry kind_isn plain_isn entry_isn (args_isn _ _ _) (issub_type q ⟨_, rfl, ?_⟩)))
      show wpAny _ _ (truthy (.bool true) >>= _) _ _ _
      refine wpAny_bind (m := truthy (.bool true)) (wpAny_pure ?_)
      exact wpAny_bind (wpAny_pure (wpAny_pure (wpAny_pure (h _))))
    · rename_i q
      refine wpAny_bind (wpAny_bind (Calls.call_function_entry kind_isn plain_isn entry_isn (args_isn _ _ _) (issub_type q ⟨_, rfl, ?_⟩)))
      show wpAny _ _ (truthy (.bool false) >>= _) _ _ _
      refine wpAny_bind (m := truthy (.bool false)) (wpAny_pure ?_)
      exact wpAny_pure (issub_items cs b _ Q e fun tk => h tk)
    · cases e

theorem issub_tup {E : Value → Shared → Prop} {Q : Value → Shared → Prop} {tp : Addr} {c : String} {cs : List String} {b : Bool} (htp : PlainTup s.heap tp (cs.map Value.type).toArray) (e : anySub c cs = some b)
    (q : ∀ tk, Q (.bool b) { s with toks := tk }) : wpAny W.M A (call (.builtin "issubclass") [.type c, .ref tp]) Q E s := by
  refine call_issubclass (S := fun _ R s' => s' = s ∧ ∀ tk, R (.ok (.ret (.bool b))) { s with toks := tk }) (fun prog w A R s' hs => ?_) ⟨rfl, q⟩
  obtain ⟨rfl, hq⟩ := hs
  refine issubclass_outer ?_
  obtain ⟨h, g, d, tt, os⟩ := s'
  have hT2 : (⟨h, g, d, tt, os⟩ : Shared).TypeIs (.ref tp) "tuple" := htp.typeIs
  obtain ⟨n, htp⟩ := htp
  have f1 := F.isi_sub_tuple
  unfold Builtin.«issubclass.nested»
  repeat (any_goals (first | assumption | wp_step))
  refine wpAny_arrayLoop ?_
  simp only [Option.getD_some, List.toList_toArray]
  refine issub_items (dep := 0) cs b _ _ e fun tk' => ?_
  cases b with
  | true =>
    simp only [if_true]
    repeat (any_goals (first | assumption | wp_step))
    exact hq tk'
  | false =>
    simp only [Bool.false_eq_true, if_false]
    repeat (any_goals (first | assumption | wp_step))
    exact hq tk'
end
end Mine
end
section
namespace Mine
open Builtin

/-- iterators that keep a tuple of their own -/
def ownsTup (n : String) : Bool := ["enumerate", "zip", "dict_itemiterator", "dict_reverseitemiterator", "odict_iterator", "itertools.zip_longest", "itertools.pairwise"].contains n
/-- an iterator stands before the items -/
def IterAt (W : Wld) (Ok : Addr → Prop) (z : Bool) (s s' : Shared) (it : Value) (xs : List PV) : Prop :=
  ∃ I fp wr P St, it = .ref I ∧ (∀ A' : Around, A'.handled = none → Walks W.prog W.w A' I fp wr xs.length P St) ∧ St 0 s'.heap ∧ (∀ b ∈ fp, b < s'.heap.objs.size) ∧ (∀ b ∈ wr, s.heap.get? b = none) ∧
    (z = true → ∀ b ∈ fp, b ∈ wr ∨ (Ok b ∧ SeqAt s'.heap b)) ∧ (∀ i v x, xs[i]? = some x → P i v → Rep s'.heap (fun b => Ok b ∧ b ∉ wr) v x) ∧ (∀ i h, St i h → ∀ b ∈ wr, h.get? b ≠ none) ∧
    (∀ i h, St i h → ∃ o n, h.get? I = some o ∧ o.cls = .type n ∧ ownsTup n = false)

section
variable {W : Wld} {Γ : FEnv} {k : Nat} {cc : CC} {A : Around} {env : Env} {Ok : Addr → Prop} {ρ : List Slot} {s : Shared}

theorem RepAll.at {h : Heap} {vs : List Value} {xs : List PV} (r : RepAll h Ok vs xs) {i : Nat} {v : Value} {x : PV} (hv : vs[i]? = some v) (hx : xs[i]? = some x) : Rep h Ok v x := by
  obtain ⟨u, h1, h2⟩ := r.get i x hx
  rw [hv] at h1; cases h1; exact h2
theorem size_ne' {h : Heap} {a : Addr} {o : Obj} (e : h.get? a = some o) : a ≠ h.objs.size := fun q => by
  have := Heap.lt_size e; rw [q] at this; exact Nat.lt_irrefl _ this
theorem iter_list {z : Bool} {a : Addr} {vs : List Value} {xs : List PV} {E : Value → Shared → Prop} {Q : Value → Shared → Prop} (hl : s.heap.PlainList a vs.toArray) (r : RepAll s.heap Ok vs xs) (hz : z = true → Ok a)
    (q : ∀ it s', Ext s s' → IterAt W Ok z s s' it xs → Q it s') : wpAny W.M A (pyIter (.ref a)) Q E s := by
  obtain ⟨n, ho⟩ := hl
  refine wpAny_pyIter_list ⟨_, ho, rfl, n, rfl⟩ ?_
  have ep := Ext.push s { cls := .type "list_iterator", data := .fields #[.ref a, .int 0 0] }
  refine q _ _ ep ⟨s.heap.objs.size, [s.heap.objs.size, a], [s.heap.objs.size], (fun i v => vs.toArray[i]? = some v), (fun i h => h.IsListIter s.heap.objs.size a i ∧ h.IsList a vs.toArray), rfl, fun A' hA => ?_, ⟨⟨_, Heap.get?_push_size _ rfl, rfl, rfl⟩, ⟨_, ep.keep _ _ ho, rfl, n, rfl⟩⟩, ?_, ?_, ?_, ?_, ?_, ?_⟩
  · have w := Walks.list (prog := W.prog) (w := W.w) hA s.heap.objs.size a (size_ne' ho) vs.toArray
    rw [← r.length, ← List.size_toArray]
    exact w
  · intro b hb
    simp only [List.mem_cons, List.not_mem_nil, or_false] at hb
    rcases hb with rfl | rfl
    · rw [Heap.size_push]; exact Nat.lt_succ_self _
    · rw [Heap.size_push]; exact Nat.lt_succ_of_lt (Heap.lt_size ho)
  · intro b hb
    simp only [List.mem_cons, List.not_mem_nil, or_false] at hb
    subst hb; exact get_size _
  · intro hz' b hb
    simp only [List.mem_cons, List.not_mem_nil, or_false] at hb ⊢
    rcases hb with rfl | rfl
    · exact .inl rfl
    · exact .inr ⟨hz hz', _, _, _, ep.keep _ _ ho, rfl⟩
  · intro i v x hx hv
    exact (r.at (by simpa using hv) hx).mono fun b hb hs => ⟨⟨hb, by simp only [List.mem_cons, List.not_mem_nil, or_false]; exact fun h => Nat.lt_irrefl _ (h ▸ hs.lt)⟩, fun o => ep.keep b o⟩
  · rintro i h ⟨⟨o, ho, _⟩, _⟩ b hb
    simp only [List.mem_cons, List.not_mem_nil, or_false] at hb
    subst hb; rw [ho]; exact fun h => nomatch h
  · rintro i h ⟨⟨o, ho, hc, _⟩, _⟩
    exact ⟨o, _, ho, hc, by decide⟩

theorem iter_tup {z : Bool} {a : Addr} {vs : List Value} {xs : List PV} {E : Value → Shared → Prop} {Q : Value → Shared → Prop} (hl : PlainTup s.heap a vs.toArray) (r : RepAll s.heap Ok vs xs) (hz : z = true → Ok a)
    (q : ∀ it s', Ext s s' → IterAt W Ok z s s' it xs → Q it s') : wpAny W.M A (pyIter (.ref a)) Q E s := by
  obtain ⟨n, ho⟩ := hl
  refine wpAny_pyIter_tuple ⟨_, ho, rfl, n, rfl⟩ ?_
  have ep := Ext.push s { cls := .type "tuple_iterator", data := .fields #[.ref a, .int 0 0] }
  refine q _ _ ep ⟨s.heap.objs.size, [s.heap.objs.size, a], [s.heap.objs.size], (fun i v => vs.toArray[i]? = some v), (fun i h => h.IsTupleIter s.heap.objs.size a i ∧ h.IsTuple a vs.toArray), rfl, fun A' hA => ?_, ⟨⟨_, Heap.get?_push_size _ rfl, rfl, rfl⟩, ⟨_, ep.keep _ _ ho, rfl, n, rfl⟩⟩, ?_, ?_, ?_, ?_, ?_, ?_⟩
  · have w := Walks.tuple (prog := W.prog) (w := W.w) hA s.heap.objs.size a (size_ne' ho) vs.toArray
    rw [← r.length, ← List.size_toArray]
    exact w
  · intro b hb
    simp only [List.mem_cons, List.not_mem_nil, or_false] at hb
    rcases hb with rfl | rfl
    · rw [Heap.size_push]; exact Nat.lt_succ_self _
    · rw [Heap.size_push]; exact Nat.lt_succ_of_lt (Heap.lt_size ho)
  · intro b hb
    simp only [List.mem_cons, List.not_mem_nil, or_false] at hb
    subst hb; exact get_size _
  · intro hz' b hb
    simp only [List.mem_cons, List.not_mem_nil, or_false] at hb ⊢
    rcases hb with rfl | rfl
    · exact .inl rfl
    · exact .inr ⟨hz hz', _, _, _, ep.keep _ _ ho, rfl⟩
  · intro i v x hx hv
    exact (r.at (by simpa using hv) hx).mono fun b hb hs => ⟨⟨hb, by simp only [List.mem_cons, List.not_mem_nil, or_false]; exact fun h => Nat.lt_irrefl _ (h ▸ hs.lt)⟩, fun o => ep.keep b o⟩
  · rintro i h ⟨⟨o, ho, _⟩, _⟩ b hb
    simp only [List.mem_cons, List.not_mem_nil, or_false] at hb
    subst hb; rw [ho]; exact fun h => nomatch h
  · rintro i h ⟨⟨o, ho, hc, _⟩, _⟩
    exact ⟨o, _, ho, hc, by decide⟩

theorem iter_str {z : Bool} {cs : List Nat} {t : Tok} {E : Value → Shared → Prop} {Q : Value → Shared → Prop}
    (q : ∀ it s', Ext s s' → IterAt W Ok z s s' it (cs.map fun c => .txt false [c]) → Q it s') : wpAny W.M A (pyIter (.str ⟨cs.toArray⟩ t)) Q E s := by
  have main : ∀ (o : Obj) (St : Nat → Heap → Prop), (∀ A' : Around, A'.handled = none → Walks W.prog W.w A' s.heap.objs.size [s.heap.objs.size] [s.heap.objs.size] cs.toArray.size (SignAt ⟨cs.toArray⟩) St) → St 0 (s.heap.push o) →
      (∀ i h, St i h → h.get? s.heap.objs.size ≠ none) → (∀ i h, St i h → ∃ o n, h.get? s.heap.objs.size = some o ∧ o.cls = .type n ∧ ownsTup n = false) → Q (.ref s.heap.objs.size) { s with heap := s.heap.push o } := by
    intro o St hw h0 hst hown
    refine q _ _ (.push s o) ⟨s.heap.objs.size, [s.heap.objs.size], [s.heap.objs.size], SignAt ⟨cs.toArray⟩, St, rfl, fun A' hA => ?_, h0, ?_, ?_, ?_, ?_, ?_, hown⟩
    · have w := hw A' hA
      simp only [List.size_toArray] at w
      rw [List.length_map]
      exact w
    · intro b hb
      simp only [List.mem_cons, List.not_mem_nil, or_false] at hb
      subst hb; rw [Heap.size_push]; exact Nat.lt_succ_self _
    · intro b hb
      simp only [List.mem_cons, List.not_mem_nil, or_false] at hb
      subst hb; exact get_size _
    · intro _ b hb; exact .inl hb
    · rintro i v x hx ⟨c, u, h1, rfl⟩
      have h2 : cs[i]? = some c := by simpa using h1
      rw [List.getElem?_map, h2] at hx
      cases hx
      exact Rep.str [c] u
    · intro i h hs b hb
      simp only [List.mem_cons, List.not_mem_nil, or_false] at hb
      subst hb; exact hst i h hs
  cases ha : (⟨cs.toArray⟩ : Str).cps.all (· < 128)
  · exact wpAny_pyIter_wide ha (main _ _ (fun A' hA => Walks.strWide hA _ ⟨cs.toArray⟩ t) ⟨_, Heap.get?_push_size _ rfl, rfl, rfl⟩ (fun i h ⟨o, ho, _⟩ e => by rw [ho] at e; cases e) fun i h ⟨o, ho, hc, _⟩ => ⟨o, _, ho, hc, by decide⟩)
  · exact wpAny_pyIter_ascii ha (main _ _ (fun A' hA => Walks.strAscii hA _ ⟨cs.toArray⟩ t) ⟨_, Heap.get?_push_size _ rfl, rfl, rfl⟩ (fun i h ⟨o, ho, _⟩ e => by rw [ho] at e; cases e) fun i h ⟨o, ho, hc, _⟩ => ⟨o, _, ho, hc, by decide⟩)

theorem IterAt.back {z : Bool} {s0 s' : Shared} {it : Value} {xs : List PV} (e : Ext s0 s) (h : IterAt W Ok z s s' it xs) : IterAt W Ok z s0 s' it xs := by
  obtain ⟨I, fp, wr, P, St, h1, h2, h3, h4, h5, h6, h7⟩ := h
  exact ⟨I, fp, wr, P, St, h1, h2, h3, h4, fun b hb => e.fresh (h5 b hb), h6, h7⟩

theorem iter_rangeobj {z : Bool} {r : Addr} {a b : Int} {t u v : Tok} {E : Value → Shared → Prop} {Q : Value → Shared → Prop} (hr : IsRange s.heap r a b 1 t u v) (h1 : -(2 ^ 40 : Int) ≤ a) (h2 : a ≤ 2 ^ 40) (h3 : -(2 ^ 40 : Int) ≤ b) (h4 : b ≤ LIM)
    (q : ∀ it s', Ext s s' → IterAt W Ok z s s' it ((List.range (b - a).toNat).map fun (k : Nat) => .int (a + (k : Int))) → Q it s') : wpAny W.M A (pyIter (.ref r)) Q E s := by
  have hsz : Builtin.Range.rangeSize a b 1 = ((b - a).toNat : Int) := by
    unfold Builtin.Range.rangeSize
    simp only [Int.zero_lt_one, gt_iff_lt, if_true, Int.ediv_one]
    split <;> omega
  have hl : (b : Int) < 2 ^ 62 := by unfold LIM at h4; omega
  refine wpAny_pyIter_range hr (small_one (by omega) (by omega) (by omega) hl) ?_
  rw [hsz]
  have ep := Ext.push s { cls := .type "range_iterator", data := .fields #[rawInt a, rawInt ((b - a).toNat : Int), rawInt 1] }
  refine q _ _ ep ⟨s.heap.objs.size, [s.heap.objs.size], [s.heap.objs.size], (fun i v => i < (b - a).toNat ∧ ∃ t, v = .int (a + i * 1) t), (fun i h => IsRangeIter h s.heap.objs.size (a + (i : Nat) * 1) (((b - a).toNat : Int) - (i : Nat)) 1), rfl, fun A' hA => ?_, ?_, ?_, ?_, ?_, ?_, ?_, ?_⟩
  · rw [List.length_map, List.length_range]
    exact (Walks.range (prog := W.prog) (w := W.w) hA s.heap.objs.size a 1 (b - a).toNat).bound
  · show IsRangeIter _ _ _ _ _
    simp only [Int.mul_one, Int.natCast_zero, Int.add_zero, Int.sub_zero]
    exact Heap.get?_push_size _ rfl
  · intro c hc
    simp only [List.mem_cons, List.not_mem_nil, or_false] at hc
    subst hc; rw [Heap.size_push]; exact Nat.lt_succ_self _
  · intro c hc
    simp only [List.mem_cons, List.not_mem_nil, or_false] at hc
    subst hc; exact get_size _
  · intro _ c hc; exact .inl hc
  · rintro i v x hx ⟨hi, t, rfl⟩
    rw [List.getElem?_map, List.getElem?_range hi] at hx
    cases hx
    rw [Int.mul_one]
    exact Rep.int _ _
  · intro i h hs c hc
    simp only [List.mem_cons, List.not_mem_nil, or_false] at hc
    subst hc
    have e : h.get? s.heap.objs.size = some _ := hs
    rw [e]; exact fun h => nomatch h
  · intro i h hs
    exact ⟨_, _, hs, rfl, by decide⟩

theorem iter_range {z : Bool} {a b : Int} {v u : Value} {E : Value → Shared → Prop} {Q : Value → Shared → Prop} (h1 : -(2 ^ 40 : Int) ≤ a) (h2 : a ≤ 2 ^ 40) (h3 : -(2 ^ 40 : Int) ≤ b) (h4 : b ≤ LIM) (ha : Rep s.heap Ok v (.int a)) (hb : Rep s.heap Ok u (.int b))
    (q : ∀ it s', Ext s s' → IterAt W Ok z s s' it ((List.range (b - a).toNat).map fun (k : Nat) => .int (a + (k : Int))) → Q it s') :
    wpAny W.M A (call (.type "range") [v, u]) (fun x s₁ => wpAny W.M A (pyIter x) Q E s₁) E s := by
  cases ha; cases hb
  refine call_range_2 ?_
  refine iter_rangeobj (z := z) (Ok := Ok) (Heap.get?_push_size _ rfl) h1 h2 h3 h4 fun it s' e hi => ?_
  exact q _ _ (Ext.trans (Ext.push_toks s _ _) e) (hi.back (Ext.push_toks s _ _))
theorem iter_range1 {z : Bool} {b : Int} {u : Value} {E : Value → Shared → Prop} {Q : Value → Shared → Prop} (h3 : -(2 ^ 40 : Int) ≤ b) (h4 : b ≤ LIM) (hb : Rep s.heap Ok u (.int b))
    (q : ∀ it s', Ext s s' → IterAt W Ok z s s' it ((List.range (b - 0).toNat).map fun (k : Nat) => .int (0 + (k : Int))) → Q it s') :
    wpAny W.M A (call (.type "range") [u]) (fun x s₁ => wpAny W.M A (pyIter x) Q E s₁) E s := by
  cases hb
  refine call_range_1 ?_
  refine iter_rangeobj (z := z) (Ok := Ok) (Heap.get?_push_size _ rfl) (by decide) (by decide) h3 h4 fun it s' e hi => ?_
  exact q _ _ (Ext.trans (Ext.push_toks s _ _) e) (hi.back (Ext.push_toks s _ _))
end
end Mine
end
section
namespace Mine
open Builtin

def BI1.nameS : BI1 → Str
  | .len => "len" | .abs => "abs" | .chr => "chr" | .ord => "ord" | .sum => "sum" | .min => "min" | .max => "max" | .bytes => "bytes" | .typ => "type" | .sortedset => "sorted" | .tuple => "tuple"
def BI1.valV : BI1 → Value
  | .len => .builtin "len" | .abs => .builtin "abs" | .chr => .builtin "chr" | .ord => .builtin "ord" | .sum => .builtin "sum" | .min => .builtin "min" | .max => .builtin "max" | .bytes => .type "bytes" | .typ => .type "type" | .sortedset => .builtin "sorted" | .tuple => .type "tuple"
def BI2.nameS : BI2 → Str
  | .min => "min" | .max => "max" | .isinst => "isinstance" | .issub => "issubclass"
def BI2.valV : BI2 → Value
  | .min => .builtin "min" | .max => .builtin "max" | .isinst => .builtin "isinstance" | .issub => .builtin "issubclass"

theorem intsOf_some : ∀ {xs : List PV} {is : List Int}, intsOf xs = some is → xs = is.map .int
  | [], _, e => by cases e; rfl
  | x :: r, is, e => by
    cases x <;> simp only [intsOf] at e <;> try (cases e; done)
    cases h : intsOf r with
    | none => rw [h] at e; cases e
    | some js => rw [h] at e; cases e; rw [intsOf_some h]; rfl
theorem intsAre_of {h : Heap} {Ok : Addr → Prop} : ∀ {vs : List Value} {is : List Int}, RepAll h Ok vs (is.map .int) → IntsAre vs is
  | _, [], .nil => .nil
  | _, i :: is, .cons r rs => by cases r; exact .cons _ _ (intsAre_of rs)

section
variable {W : Wld} {Γ : FEnv} {k : Nat} {cc : CC} {A : Around} {env : Env} {Ok : Addr → Prop} {ρ : List Slot} {s : Shared}

theorem sum_ints {a : Addr} {vs : List Value} {is : List Int} (hA : A.handled = none) (hl : s.heap.PlainList a vs.toArray) (r : RepAll s.heap Ok vs (is.map .int)) : Gets W A Ok s (call (.builtin "sum") [.ref a]) (.int is.sum) := by
  intro E Q q
  refine call_sum_walkG (iter_list (z := false) hl r (by intro h; cases h) fun it s' e hi => ?_)
  obtain ⟨I, fp, wr, P, St, rfl, h2, h3, h4, h5, h6, h7, h8⟩ := hi
  have h2' := (h2 A.in1 hA).bound
  refine ⟨I, fp, wr, _, _, St, (fun j => is.getD j 0), rfl, h2', h3, h4, ?_, fun h' tk t' hk => ?_⟩
  · rintro i v ⟨hi, hp⟩
    rw [List.length_map] at hi
    have := h7 i v (.int (is.getD i 0)) (by rw [List.getElem?_map, List.getD_eq_getElem?_getD, List.getElem?_eq_getElem hi]; rfl) hp
    cases this
    exact ⟨_, rfl⟩
  · rw [List.length_map, PySem.W.KBmo.pre_take is is.length (Nat.le_refl _), List.take_length]
    refine q _ _ ⟨?_, fun b o ho => hk b o (fun hb => ?_) (e.keep b o ho)⟩ (.int _ _)
    · obtain ⟨h, t, rfl⟩ := e.same
      exact ⟨_, _, rfl⟩
    · rw [h5 b hb] at ho; cases ho

theorem bytes_ints {a : Addr} {vs : List Value} {is : List Int} (hA : A.handled = none) (hl : s.heap.PlainList a vs.toArray) (r : RepAll s.heap Ok vs (is.map .int)) (hz : is.length ≤ LIM) (hr : (is.all fun i => decide (0 ≤ i) && decide (i < 256)) = true) :
    Gets W A Ok s (call (.type "bytes") [.ref a]) (.txt true (is.map Int.toNat)) := by
  intro E Q q
  obtain ⟨n, ho⟩ := hl
  have hr' : ∀ n ∈ is, 0 ≤ n ∧ n < 256 := fun n hn => by
    have := List.all_eq_true.mp hr n hn
    simpa using this
  have hlen : vs.length = is.length := by rw [r.length, List.length_map]
  refine call_bytes_ints ⟨_, ho, rfl, n, rfl⟩ (intsAre_of r) hr' (by rw [hlen]; exact lim_size hz) hA fun h' t k hk => ?_
  refine q _ _ ⟨⟨_, _, rfl⟩, hk⟩ (.bytes _ _ ?_)
  rw [List.map_map]
  refine List.map_congr_left fun n hn => ?_
  have := hr' n hn
  show n.toNat = (n.toNat.toUInt8).toNat
  rw [Nat.toUInt8, UInt8.toNat_ofNat']
  omega

theorem type_of {x : PV} {v : Value} {c : String} (hv : Rep s.heap Ok v x) (e : clsOf x = some c) : Gets W A Ok s (call (.type "type") [v]) (.cls c) := by
  intro E Q q
  have fin : Q (.type c) s := q _ _ (.refl _) (.cls c)
  cases hv with
  | none => cases e; exact call_type_of (Tx := "NoneType") rfl (by decide) fin
  | bool b => cases e; exact call_type_of (Tx := "bool") rfl (by decide) fin
  | int i t => cases e; exact call_type_of (Tx := "int") rfl (by decide) fin
  | str cs t => cases e; exact call_type_of (Tx := "str") rfl (by decide) fin
  | bytes bs t _ => cases e; exact call_type_of (Tx := "bytes") rfl (by decide) fin
  | cls d => cases e
  | list _ hl _ => cases e; exact call_type_of (Tx := "list") hl.isList.typeIs (by decide) fin
  | tup _ hl _ => cases e; exact call_type_of (Tx := "tuple") hl.typeIs (by decide) fin

theorem bi1_sound {b : BI1} {v : Value} {x z : PV} {l : Nat} (hA : A.handled = none) (fr : Fresh Ok s) (hv : BRep W s.heap Ok l v x) (e : bi1F b (x, l) = some z) : Gets W A Ok s (call b.valV [v]) z := by
  cases b with
  | len =>
    cases x with
    | list xs =>
      simp only [bi1F] at e
      split at e
      · rename_i hz
        cases e
        obtain ⟨a, vs, rfl, q1, q2⟩ := hv.list_any
        have hany := hv.any (by simp)
        cases hany with
        | list _ q2 r2 => exact len_list' q2 r2 hz
      · cases e
    | tup xs =>
      cases l with
      | zero =>
        simp only [bi1F] at e
        split at e
        · rename_i hz
          cases e
          cases hv.rep0 with
          | tup _ q r => exact len_tup' q r hz
        · cases e
      | succ l => simp [bi1F] at e
    | txt k cs =>
      simp only [bi1F] at e
      split at e
      · rename_i hz; cases e; exact len_txt' (hv.scalar (by simp) (by simp)) hz
      · cases e
    | _ => simp [bi1F] at e
  | abs =>
    cases x with
    | int i =>
      simp only [bi1F] at e
      cases e
      cases hv.scalar (by simp) (by simp)
      exact fun E Q q => call_abs_int fun u tk => q _ _ (.toks _ _) (.int _ _)
    | _ => simp [bi1F] at e
  | chr =>
    cases x with
    | int i =>
      simp only [bi1F] at e
      split at e
      · rename_i h
        cases e
        cases hv.scalar (by simp) (by simp)
        exact fun E Q q => chr_of_range h.1 h.2 (q _ _ (.toks _ _) (.str [i.toNat] _))
      · cases e
    | _ => simp [bi1F] at e
  | ord =>
    cases x with
    | txt k cs =>
      cases k with
      | true => simp [bi1F] at e
      | false =>
        cases cs with
        | nil => simp [bi1F] at e
        | cons c r =>
          cases r with
          | cons _ _ => simp [bi1F] at e
          | nil =>
            simp only [bi1F] at e
            cases e
            cases hv.scalar (by simp) (by simp)
            exact fun E Q q => PySem.P.ord_of_char (q _ _ (.toks _ _) (.int _ _))
    | _ => simp [bi1F] at e
  | sum =>
    cases x with
    | list xs =>
      simp only [bi1F] at e
      split at e
      · rename_i hl
        cases h : intsOf xs with
        | none => rw [h] at e; cases e
        | some is =>
          rw [h] at e; cases e
          obtain ⟨a, vs, rfl, q1, q2⟩ := hv.list01 hl
          rw [intsOf_some h] at q2
          exact sum_ints hA q1 q2
      · cases e
    | _ => simp [bi1F] at e
  | bytes =>
    cases x with
    | list xs =>
      simp only [bi1F] at e
      split at e
      · rename_i is h
        split at e
        · rename_i hl
          cases e
          obtain ⟨a, vs, rfl, q1, q2⟩ := hv.list01 hl.1
          rw [intsOf_some h] at q2
          exact bytes_ints hA q1 q2 hl.2.1 hl.2.2
        · cases e
      · cases e
    | _ => simp [bi1F] at e
  | typ =>
    cases l with
    | zero =>
      simp only [bi1F] at e
      cases h : clsOf x with
      | none => rw [h] at e; cases e
      | some c => rw [h] at e; cases e; exact type_of hv.rep0 h
    | succ l => simp [bi1F] at e
  | _ => simp [bi1F] at e

theorem isinst_one {v : Value} {x : PV} {c d : String} {b : Bool} (hv : Rep s.heap Ok v x) (hc : clsOf x = some c) (e : isSub c d = some b) : Gets W A Ok s (call (.builtin "isinstance") [v, .type d]) (.bool b) := by
  intro E Q q
  have fin : ∀ tk, Q (.bool b) { s with toks := tk } := fun tk => q _ _ (.toks _ _) (.bool b)
  have kk := isSub_kit e
  cases hv with
  | none => cases hc; exact kia_one kitx_none frag_nil trivial kk (by intro h; cases h) fin
  | bool _ => cases hc; exact kia_one kitx_bool frag_nil trivial kk (by intro h; cases h) fin
  | int i t => cases hc; exact kia_one kitx_int frag_nil trivial kk (by intro h; cases h) fin
  | str cs t => cases hc; exact kia_one kitx_str frag_nil trivial kk (by intro h; cases h) fin
  | bytes bs t _ => cases hc; exact kia_one kitx_bytes frag_nil trivial kk (by intro h; cases h) fin
  | cls _ => cases hc
  | list _ hl _ => cases hc; exact kia_one kitx_list frag_nil (let ⟨_, h⟩ := hl; ⟨_, h, rfl⟩) kk (by intro h; cases h) fin
  | tup _ hl _ => cases hc; exact kia_one kitx_tuple frag_nil (let ⟨_, h⟩ := hl; ⟨_, h, rfl⟩) kk (by intro h; cases h) fin
theorem isinst_tup {v : Value} {x : PV} {c : String} {ns : List String} {b : Bool} {tp : Addr} (hv : Rep s.heap Ok v x) (hc : clsOf x = some c) (ht : PlainTup s.heap tp (ns.map Value.type).toArray) (e : anySub c ns = some b) : Gets W A Ok s (call (.builtin "isinstance") [v, .ref tp]) (.bool b) := by
  intro E Q q
  have fin : ∀ tk, Q (.bool b) { s with toks := tk } := fun tk => q _ _ (.toks _ _) (.bool b)
  have kk := anySub_kit e
  obtain ⟨n, ht⟩ := ht
  cases hv with
  | none => cases hc; exact kia_tup kitx_none frag_nil trivial ht kk (by intro h; cases h) fin
  | bool _ => cases hc; exact kia_tup kitx_bool frag_nil trivial ht kk (by intro h; cases h) fin
  | int i t => cases hc; exact kia_tup kitx_int frag_nil trivial ht kk (by intro h; cases h) fin
  | str cs t => cases hc; exact kia_tup kitx_str frag_nil trivial ht kk (by intro h; cases h) fin
  | bytes bs t _ => cases hc; exact kia_tup kitx_bytes frag_nil trivial ht kk (by intro h; cases h) fin
  | cls _ => cases hc
  | list _ hl _ => cases hc; exact kia_tup kitx_list frag_nil (let ⟨_, h⟩ := hl; ⟨_, h, rfl⟩) ht kk (by intro h; cases h) fin
  | tup _ hl _ => cases hc; exact kia_tup kitx_tuple frag_nil (let ⟨_, h⟩ := hl; ⟨_, h, rfl⟩) ht kk (by intro h; cases h) fin

theorem bi2_sound {b : BI2} {v u : Value} {x y z : PV} {l l' : Nat} (hA : A.handled = none) (hv : BRep W s.heap Ok l v x) (hu : BRep W s.heap Ok l' u y) (e : bi2F b (x, l) (y, l') = some z) : Gets W A Ok s (call b.valV [v, u]) z := by
  cases b with
  | min =>
    cases x <;> cases y <;> simp only [bi2F] at e <;> try (cases e; done)
    cases e
    cases hv.scalar (by simp) (by simp)
    cases hu.scalar (by simp) (by simp)
    refine fun E Q q => min_two_ints hA fun h' tk hk => q _ _ ⟨⟨_, _, rfl⟩, hk⟩ ?_
    split <;> exact .int _ _
  | max =>
    cases x <;> cases y <;> simp only [bi2F] at e <;> try (cases e; done)
    cases e
    cases hv.scalar (by simp) (by simp)
    cases hu.scalar (by simp) (by simp)
    refine fun E Q q => max_two_ints hA fun h' tk hk => q _ _ ⟨⟨_, _, rfl⟩, hk⟩ ?_
    split <;> exact .int _ _
  | isinst =>
    cases l with
    | succ l => cases x <;> simp [bi2F] at e
    | zero =>
      cases l' with
      | succ l' => cases x <;> cases y <;> simp [bi2F] at e
      | zero =>
        cases y with
        | cls d =>
          have e' : ((clsOf x).bind fun c => isSub c d).map PV.bool = some z := by cases x <;> exact e
          cases h : clsOf x with
          | none => rw [h] at e'; cases e'
          | some c =>
            rw [h] at e'
            simp only [Option.bind_some] at e'
            cases h2 : isSub c d with
            | none => rw [h2] at e'; cases e'
            | some b =>
              rw [h2] at e'; cases e'
              cases hu.rep0
              exact isinst_one hv.rep0 h h2
        | tup ds =>
          have e' : ((clsOf x).bind fun c => (clsNames ds).bind (anySub c)).map PV.bool = some z := by cases x <;> exact e
          cases h : clsOf x with
          | none => rw [h] at e'; cases e'
          | some c =>
            rw [h] at e'
            simp only [Option.bind_some] at e'
            cases h2 : clsNames ds with
            | none => rw [h2] at e'; cases e'
            | some ns =>
              rw [h2] at e'
              simp only [Option.bind_some] at e'
              cases h3 : anySub c ns with
              | none => rw [h3] at e'; cases e'
              | some b =>
                rw [h3] at e'; cases e'
                rw [clsNames_map h2] at hu
                cases hu.rep0 with
                | tup _ q r =>
                  rw [clsAll r] at q
                  exact isinst_tup hv.rep0 h q h3
        | _ => cases x <;> simp [bi2F] at e
  | issub =>
    cases x with
    | cls c =>
      cases y with
      | tup ds =>
        cases l with
        | succ l => simp [bi2F] at e
        | zero =>
          cases l' with
          | succ l' => simp [bi2F] at e
          | zero =>
            simp only [bi2F] at e
            cases h2 : clsNames ds with
            | none => rw [h2] at e; cases e
            | some ns =>
              rw [h2] at e
              simp only [Option.bind_some] at e
              cases h3 : anySub c ns with
              | none => rw [h3] at e; cases e
              | some b =>
                rw [h3] at e; cases e
                rw [clsNames_map h2] at hu
                cases hv.rep0
                cases hu.rep0 with
                | tup _ q r =>
                  rw [clsAll r] at q
                  exact fun E Q qq => issub_tup q h3 fun tk => qq _ _ (.toks _ _) (.bool b)
      | _ => cases l <;> cases l' <;> simp [bi2F] at e
    | _ => cases y <;> cases l <;> cases l' <;> simp [bi2F] at e
end
end Mine
end
section
namespace Mine
open Builtin
section
variable {W : Wld} {Γ : FEnv} {k : Nat} {cc : CC} {A : Around} {env : Env} {Ok : Addr → Prop} {ρ : List Slot} {s : Shared}

/-- a call of a builtin function or class by its name, with plain arguments -/
theorem call_named {name : Str} {f : Value} {p pos : Pos} {es : List Expr} {E Q : Value → Shared → Prop} (H : Here W A k cc env Ok ρ s) (hgl : cc.gl name = true) (hg : W.glob name = some f) (hd : (name == ("__debug__" : Str)) = false)
    (hf : (∃ id, f = .builtin id) ∨ ∃ T, f = .type T) (hpl : (backTo pos (starEach es env)).any (·.1) = false)
    (h : wpAny W.M A (spliced (backTo pos (starEach es env))) (fun vs s' => wpAny W.M A (call f vs) Q E s') E s) :
    wpAny W.M A (eval (.Call (.Name name p) es [] pos) env) Q E s := by
  refine wpAny_Call_ofName (name_global H hgl hg hd ?_)
  have ha : wpAny W.M A (evalArgs f true (backTo pos (starEach es env)) []) (fun a s₁ => wpAny W.M A (call f ([] ++ a.pos) a.kw) Q E s₁) E s := by
    refine evalArgs_of (fun x hx => ?_) h
    rw [hx] at hpl; cases hpl
  rcases hf with ⟨id, rfl⟩ | ⟨T, rfl⟩
  · exact Calls.callWith_builtin hpl ha
  · exact PySem.callWith_type hpl ha
theorem plain_one {e : Expr} {pos : Pos} (h : notStar e = true) : (backTo pos (starEach [e] env)).any (·.1) = false := by
  rw [starEach_plain h]; rfl
theorem plain_two {e e' : Expr} {pos : Pos} (h : notStar e = true) (h' : notStar e' = true) : (backTo pos (starEach [e, e'] env)).any (·.1) = false := by
  rw [starEach_plain h, starEach_plain h']; rfl
theorem spliced_one {e : Expr} {pos : Pos} {E : Value → Shared → Prop} {Q : List Value → Shared → Prop} (h : notStar e = true) (q : wpAny W.M A (eval e env) (fun v s' => Q [v] s') E s) :
    wpAny W.M A (spliced (backTo pos (starEach [e] env))) Q E s := by
  rw [starEach_plain h]
  show wpAny W.M A (spliced ((false, eval e env) :: [])) Q E s
  exact Calls.spliced_cons (wpAny_mono q (fun v s' hq => Calls.spliced_nil hq) fun _ _ x => x)
theorem spliced_two {e e' : Expr} {pos : Pos} {E : Value → Shared → Prop} {Q : List Value → Shared → Prop} (h : notStar e = true) (h' : notStar e' = true) (q : wpAny W.M A (eval e env) (fun v s' => wpAny W.M A (eval e' env) (fun u s'' => Q [v, u] s'') E s') E s) :
    wpAny W.M A (spliced (backTo pos (starEach [e, e'] env))) Q E s := by
  rw [starEach_plain h, starEach_plain h']
  show wpAny W.M A (spliced ((false, eval e env) :: (false, eval e' env) :: [])) Q E s
  exact Calls.spliced_cons (wpAny_mono q (fun v s' hq => Calls.spliced_cons (wpAny_mono hq (fun u s'' hq => Calls.spliced_nil hq) fun _ _ x => x)) fun _ _ x => x)

theorem se_bi1 {b : BI1} {a : ME} {e : Expr} {p pos : Pos} (hgl : cc.gl b.nameS = true) (hg : W.glob b.nameS = some b.valV) (hn : notStar e = true) (ha : SE W Γ k cc a e) :
    SE W Γ k cc (.bi1 b a) (.Call (.Name b.nameS p) [e] [] pos) := by
  intro A env Ok ρ s z lz H e' E Q q
  simp only [evA, Ans.of] at e'
  cases h1 : (evA Γ a ρ).val with
  | none => rw [h1] at e'; cases e'
  | some x =>
    obtain ⟨x, l⟩ := x
    rw [h1] at e'
    simp only [Option.bind_some] at e'
    cases h2 : bi1F b (x, l) with
    | none => rw [h2] at e'; cases e'
    | some w =>
      rw [h2] at e'; cases e'
      refine call_named H hgl hg (by cases b <;> decide) (by cases b <;> first | exact .inl ⟨_, rfl⟩ | exact .inr ⟨_, rfl⟩) (plain_one hn) (spliced_one hn (ha A env Ok ρ s x l H h1 E _ fun v s' e1 r1 => ?_))
      exact bi1_sound H.room.hd (H.fresh.ext e1) r1 h2 E Q fun v' s'' e2 r2 => q v' s'' (e1.trans e2) (.zero r2)
theorem se_bi2 {b : BI2} {a c : ME} {e f : Expr} {p pos : Pos} (hgl : cc.gl b.nameS = true) (hg : W.glob b.nameS = some b.valV) (hn : notStar e = true) (hn' : notStar f = true) (ha : SE W Γ k cc a e) (hc : SE W Γ k cc c f) :
    SE W Γ k cc (.bi2 b a c) (.Call (.Name b.nameS p) [e, f] [] pos) := by
  intro A env Ok ρ s z lz H e' E Q q
  simp only [evA, Ans.of] at e'
  split at e'
  · rename_i x y h1 h2
    cases h3 : bi2F b x y with
    | none => rw [h3] at e'; cases e'
    | some w =>
      rw [h3] at e'; cases e'
      obtain ⟨x, l⟩ := x
      obtain ⟨y, l'⟩ := y
      refine call_named H hgl hg (by cases b <;> decide) (by cases b <;> exact .inl ⟨_, rfl⟩) (plain_two hn hn') (spliced_two hn hn' (ha A env Ok ρ s x l H h1 E _ fun v s' e1 r1 => hc A env Ok ρ s' y l' (H.ext e1) h2 E _ fun u s'' e2 r2 => ?_))
      exact bi2_sound H.room.hd (r1.ext e2) r2 h3 E Q fun v' s3 e3 r3 => q v' s3 ((e1.trans e2).trans e3) (.zero r3)
  · cases e'

/-- the receiver is not the call of a name without arguments -/
def notSuper : Expr → Bool
  | .Call (.Name _ _) [] [] _ => false
  | _ => true
theorem base_plain {o : Expr} {name : Str} {whole : Sem Value} (h : notSuper o = true) : attributeBase o name env whole = whole := by
  unfold attributeBase
  split
  · cases h
  · rfl
theorem se_meth {m : Meth} {r a : ME} {o e : Expr} {apos pos : Pos} (ho : notSuper o = true) (hline : (apos.endLine == pos.line) = true) (hn : notStar e = true) (hr : SE W Γ k cc r o) (ha : SE W Γ k cc a e) :
    SE W Γ k cc (.meth m r a) (.Call (.Attribute o m.nameS apos) [e] [] pos) := by
  intro A env Ok ρ s z lz H e' E Q q
  simp only [evA, Ans.of] at e'
  split at e'
  · rename_i x lx y ly h1 h2
    split at e'
    · rename_i hl
      cases h3 : methF m x [y] with
      | none => rw [h3] at e'; cases e'
      | some w =>
        rw [h3] at e'; cases e'
        rw [arm_eval_Call, base_plain ho]
        refine wpAny_bind (hr A env Ok ρ s x lx H h1 E _ fun ov s1 e1 r1 => wpAny_bind (wpAny_standAt ?_))
        have hform : methodCallForm (([e] : List Expr).length + ([] : List Keyword).length) (backTo pos (starEach [e] env)) (backToKw pos (keywordEach [] env)) = true := by
          rw [starEach_plain hn]; rfl
        have hpos : methodCallPos true o env apos pos = pure pos := by unfold methodCallPos; simp [hline]
        unfold methodCall
        rw [hform]
        refine wpAny_bind (wpAny_holding (getMethod_sound r1 h3 ?_))
        refine wpAny_bind (wpAny_of_eq hpos ?_)
        refine Calls.callWith_builtin (plain_one hn) (evalArgs_of (fun x hx => ?_) (spliced_one hn (ha A env Ok ρ s1 y ly (H.ext e1) h2 E _ fun u s2 e2 r2 => ?_)))
        · rw [starEach_plain hn] at hx; cases hx
        · refine meth_sound (w := PV.none) (by have := H.room.un; omega) ((H.fresh.ext e1).ext e2) (r1.ext e2) r2 hl h3 E Q fun v' s3 e3 r3 => ?_
          exact q v' s3 ((e1.trans e2).trans e3) (.zero r3)
    · cases e'
  · cases e'

/-- sources of loops: at level z, the list walked is never turned -/
def SI (W : Wld) (Γ : FEnv) (k : Nat) (cc : CC) (z : Bool) (g : List Slot → Option (List PV)) (e : Expr) : Prop := ∀ A env Ok ρ s xs, Here W A k cc env Ok ρ s → g ρ = some xs →
  ∀ (E Q : Value → Shared → Prop), (∀ it s', Ext s s' → IterAt W Ok z s s' it xs → Q it s') → wpAny W.M A (eval e env) (fun v s' => wpAny W.M A (pyIter v) Q E s') E s

theorem items_iter {z : Bool} {v : Value} {x : PV} {l : Nat} {xs : List PV} {E Q : Value → Shared → Prop} (hv : BRep W s.heap Ok l v x) (hz : z = true → l = 0) (e : itemsOf (x, l) = some xs) (q : ∀ it s', Ext s s' → IterAt W Ok z s s' it xs → Q it s') :
    wpAny W.M A (pyIter v) Q E s := by
  cases x with
  | list ys =>
    simp only [itemsOf] at e
    split at e
    · rename_i h
      cases e
      obtain ⟨a, vs, rfl, q1, q2⟩ := hv.list01 h.1
      refine iter_list q1 q2 (fun hz' => ?_) q
      have := hz hz'
      subst this
      cases hv.rep0 with
      | list o _ _ => exact o
    · cases e
  | tup ys =>
    cases l with
    | zero =>
      simp only [itemsOf] at e
      split at e
      · cases e
        cases hv.rep0 with
        | tup o q1 q2 => exact iter_tup q1 q2 (fun _ => o) q
      · cases e
    | succ l => simp [itemsOf] at e
  | txt k cs =>
    cases k with
    | true => simp [itemsOf] at e
    | false =>
      simp only [itemsOf] at e
      split at e
      · cases e
        cases hv.scalar (by simp) (by simp)
        exact iter_str q
      · cases e
  | _ => simp [itemsOf] at e
theorem si_val {me : ME} {e : Expr} (h : SE W Γ k cc me e) (hm : ∀ ρ, (evA Γ me ρ).its = (evA Γ me ρ).val.bind itemsOf) : SI W Γ k cc false (fun ρ => (evA Γ me ρ).its) e := by
  intro A env Ok ρ s xs H e' E Q q
  have e' : (evA Γ me ρ).its = some xs := e'
  rw [hm] at e'
  cases h1 : (evA Γ me ρ).val with
  | none => rw [h1] at e'; cases e'
  | some x =>
    obtain ⟨x, l⟩ := x
    rw [h1] at e'
    exact h A env Ok ρ s x l H h1 E _ fun v s1 e1 r1 => items_iter r1 (by intro h; cases h) e' fun it s2 e2 hi => q it s2 (e1.trans e2) (hi.back e1)
/-- plain sources of a for statement -/
def plainSrc : ME → Bool
  | .range _ _ => false
  | .enum _ => false
  | _ => true
theorem itsF_plain {me : ME} {ρ : List Slot} (h : plainSrc me = true) : itsF Γ me ρ = match (evA Γ me ρ).val with
    | some (x, 0) => itemsOf (x, 0)
    | _ => none := by
  cases me <;> first | rfl | cases h
theorem si_for {me : ME} {e : Expr} (h : SE W Γ k cc me e) (hp : plainSrc me = true) : SI W Γ k cc true (itsF Γ me) e := by
  intro A env Ok ρ s xs H e' E Q q
  rw [itsF_plain hp] at e'
  split at e'
  · rename_i x h1
    exact h A env Ok ρ s x 0 H h1 E _ fun v s1 e1 r1 => items_iter r1 (fun _ => rfl) e' fun it s2 e2 hi => q it s2 (e1.trans e2) (hi.back e1)
  · cases e'
theorem si_range {z : Bool} {lo hi : ME} {e f : Expr} {p pos : Pos} (hgl : cc.gl "range" = true) (hg : W.glob "range" = some (.type "range")) (hn : notStar e = true) (hn' : notStar f = true) (ha : SE W Γ k cc lo e) (hc : SE W Γ k cc hi f) :
    SI W Γ k cc z (fun ρ => (evA Γ (.range lo hi) ρ).its) (.Call (.Name "range" p) [e, f] [] pos) := by
  intro A env Ok ρ s xs H e' E Q q
  simp only [evA] at e'
  split at e'
  · rename_i a la b lb h1 h2
    split at e'
    · rename_i h
      cases e'
      refine call_named H hgl hg (by decide) (.inr ⟨_, rfl⟩) (plain_two hn hn') (spliced_two hn hn' (ha A env Ok ρ s _ la H h1 E _ fun v s' e1 r1 => hc A env Ok ρ s' _ lb (H.ext e1) h2 E _ fun u s'' e2 r2 => ?_))
      exact iter_range h.1 h.2.1 h.2.2.1 h.2.2.2.1 ((r1.scalar (by simp) (by simp)).ext e2) (r2.scalar (by simp) (by simp)) fun it s3 e3 hi => q it s3 ((e1.trans e2).trans e3) (hi.back (e1.trans e2))
    · cases e'
  · cases e'
theorem si_range1 {z : Bool} {hi : ME} {f : Expr} {p pos : Pos} (hgl : cc.gl "range" = true) (hg : W.glob "range" = some (.type "range")) (hn' : notStar f = true) (hc : SE W Γ k cc hi f) :
    SI W Γ k cc z (fun ρ => (evA Γ (.range (.lit (.int 0)) hi) ρ).its) (.Call (.Name "range" p) [f] [] pos) := by
  intro A env Ok ρ s xs H e' E Q q
  simp only [evA, Ans.of] at e'
  split at e'
  · rename_i a la b lb h1 h2
    split at e'
    · rename_i h
      cases e'
      cases h1
      refine call_named H hgl hg (by decide) (.inr ⟨_, rfl⟩) (plain_one hn') (spliced_one hn' (hc A env Ok ρ s _ lb H h2 E _ fun u s'' e2 r2 => ?_))
      exact iter_range1 h.2.2.1 h.2.2.2.1 (r2.scalar (by simp) (by simp)) fun it s3 e3 hi => q it s3 (e2.trans e3) (hi.back e2)
    · cases e'
  · cases e'
end
end Mine
end
section
namespace Mine
open Builtin

/-- all but some places are kept -/
structure KeepBut (X : Addr → Prop) (s s' : Shared) : Prop where
  same : ∃ h tk, s' = { s with heap := h, toks := tk }
  keep : ∀ b o, ¬ X b → s.heap.get? b = some o → s'.heap.get? b = some o
theorem KeepBut.refl (X : Addr → Prop) (s : Shared) : KeepBut X s s := ⟨⟨_, _, rfl⟩, fun _ _ _ e => e⟩
theorem KeepBut.trans {X : Addr → Prop} {a b c : Shared} (x : KeepBut X a b) (y : KeepBut X b c) : KeepBut X a c :=
  ⟨by obtain ⟨h, t, rfl⟩ := x.same; obtain ⟨h', t', rfl⟩ := y.same; exact ⟨h', t', rfl⟩, fun b o hb e => y.keep b o hb (x.keep b o hb e)⟩
theorem Ext.but {X : Addr → Prop} {s s' : Shared} (e : Ext s s') : KeepBut X s s' := ⟨e.same, fun b o _ => e.keep b o⟩
theorem KeepBut.mono {X Y : Addr → Prop} {s s' : Shared} (e : KeepBut X s s') (h : ∀ b, X b → Y b) : KeepBut Y s s' := ⟨e.same, fun b o hb => e.keep b o fun hx => hb (h b hx)⟩
theorem KeepBut.of_same {X : Addr → Prop} {s : Shared} {a : Addr} {h' : Heap} (h : Heap.SameBut a s.heap h') (hx : X a) (t : Nat) : KeepBut X s { s with heap := h', toks := t } :=
  ⟨⟨_, _, rfl⟩, fun b o hb e => h.extBut b o (fun q => hb (q ▸ hx)) e⟩
/-- what is new to a state may be changed -/
theorem KeepBut.ext {X : Addr → Prop} {s s' : Shared} (e : KeepBut X s s') (h : ∀ b, X b → s.heap.get? b = none) : Ext s s' :=
  ⟨e.same, fun b o ho => e.keep b o (fun hx => by rw [h b hx] at ho; cases ho) ho⟩
theorem KeepBut.after {X : Addr → Prop} {s s1 s' : Shared} (e1 : Ext s s1) (e : KeepBut X s1 s') (h : ∀ b, X b → s.heap.get? b = none) : Ext s s' :=
  KeepBut.ext (X := X) (e1.but.trans e) h
theorem Rep.but {X Ok Ok' : Addr → Prop} {s s' : Shared} {v : Value} {x : PV} (r : Rep s.heap Ok v x) (e : KeepBut X s s') (h : ∀ b, Ok b → SeqAt s.heap b → Ok' b ∧ ¬ X b) : Rep s'.heap Ok' v x :=
  r.mono fun a ha hs => ⟨(h a ha hs).1, fun o => e.keep a o (h a ha hs).2⟩
theorem RepAll.but {X Ok Ok' : Addr → Prop} {s s' : Shared} {v : List Value} {x : List PV} (r : RepAll s.heap Ok v x) (e : KeepBut X s s') (h : ∀ b, Ok b → SeqAt s.heap b → Ok' b ∧ ¬ X b) : RepAll s'.heap Ok' v x :=
  r.mono fun a ha hs => ⟨(h a ha hs).1, fun o => e.keep a o (h a ha hs).2⟩
theorem BRep.ext' {W : Wld} {Ok Ok' : Addr → Prop} {l : Nat} {v : Value} {x : PV} {s s' : Shared} (r : BRep W s.heap Ok l v x) (e : Ext s s') (h : ∀ b, Ok b → SeqAt s.heap b → Ok' b) : BRep W s'.heap Ok' l v x := by
  have hk : ∀ a, Ok a → SeqAt s.heap a → Ok' a ∧ ∀ o, s.heap.get? a = some o → s'.heap.get? a = some o := fun a ha hs => ⟨h a ha hs, fun o => e.keep a o⟩
  cases r with
  | zero r => exact .zero (r.mono hk)
  | one q r => exact .one (q.at fun o => e.keep _ o) (r.mono hk)
  | two q r => exact .two (q.at fun o => e.keep _ o) (r.mono hk fun b _ o => e.keep b o)
  | dict q => exact .dict (q.mono hk fun o => e.keep _ o)
/-! ## comprehensions -/
def CC.comp (cc : CC) (scope : Scope) (x : Str) : CC where
  σ := fun y => if y = x then some cc.n else if scope.names.lookup y = some .free then cc.σ y else none
  gl := fun y => decide (scope.names.lookup y = some .globalImplicit)
  cl := fun y => decide (scope.names.lookup y = some .free)
  n := cc.n + 1
structure CompOk (cc : CC) (scope : Scope) (x : Str) : Prop where
  kind : scope.kind = .function
  free : ∀ y ∈ scope.names, y.2 = .free → cc.cl y.1 = true
  nocell : ∀ y ∈ scope.names, y.2 ≠ .cell
  names : ∀ y ∈ scope.names, y.2 = .local → scope.names.lookup y.1 = some .local
  loc : scope.names.lookup x = some .local

theorem lookup_mem {α β : Type} [BEq α] [LawfulBEq α] : ∀ {l : List (α × β)} {a : α} {b : β}, l.lookup a = some b → (a, b) ∈ l
  | [], _, _, h => by cases h
  | (x, y) :: r, a, b, h => by
    rw [List.lookup_cons] at h
    cases q : a == x with
    | true => rw [q] at h; cases h; rw [eq_of_beq q]; exact .head _
    | false => rw [q] at h; exact .tail _ (lookup_mem h)

theorem relabel_lookup {env : Env} : ∀ {names : List (Str × NameKind)} {x : Str} {k : NameKind}, names.lookup x = some k →
    (names.map fun (n, k) => if (k == NameKind.free && env.scope.kind == .function && env.kindOf n == some .cell) then (n, NameKind.cell) else (n, k)).lookup x = some k ∨
    (k = .free ∧ (names.map fun (n, k) => if (k == NameKind.free && env.scope.kind == .function && env.kindOf n == some .cell) then (n, NameKind.cell) else (n, k)).lookup x = some .cell)
  | [], _, _, h => by simp at h
  | (n, k') :: r, x, k, h => by
    have ih := @relabel_lookup env r x k
    show List.lookup x ((if (k' == NameKind.free && env.scope.kind == .function && env.kindOf n == some .cell) = true then (n, NameKind.cell) else (n, k')) :: _) = _ ∨ _ ∧ List.lookup x ((if (k' == NameKind.free && env.scope.kind == .function && env.kindOf n == some .cell) = true then (n, NameKind.cell) else (n, k')) :: _) = _
    cases hx : x == n with
    | true =>
      simp only [List.lookup_cons, hx] at h
      cases h
      by_cases hc : (k' == NameKind.free && env.scope.kind == .function && env.kindOf n == some .cell) = true
      · rw [if_pos hc]; simp only [List.lookup_cons, hx]
        simp only [Bool.and_eq_true] at hc
        exact .inr ⟨by cases k' <;> first | rfl | exact absurd hc.1.1 (by decide), trivial⟩
      · rw [if_neg hc]; simp only [List.lookup_cons, hx]; exact .inl trivial
    | false =>
      simp only [List.lookup_cons, hx] at h
      by_cases hc : (k' == NameKind.free && env.scope.kind == .function && env.kindOf n == some .cell) = true
      · rw [if_pos hc]; simp only [List.lookup_cons, hx]; exact ih h
      · rw [if_neg hc]; simp only [List.lookup_cons, hx]; exact ih h

theorem closure_go {env : Env} : ∀ (names : List (Str × NameKind)) (cs : List (Str × Addr)), (∀ y ∈ names, y.2 = .free → ∃ c, env.cells.lookup y.1 = some c) →
    (∀ y c, cs.lookup y = some c → env.cells.lookup y = some c) →
    ∃ cl : List (Str × Addr), (forIn names cs fun (p : Str × NameKind) (r : List (Str × Addr)) =>
      (if (p.2 == NameKind.free) = true then do
        let c ← cellOf env p.1
        pure (ForInStep.yield ((p.1, c) :: r))
      else pure (ForInStep.yield r) : Sem (ForInStep (List (Str × Addr))))) = pure cl ∧ (∀ y c, cl.lookup y = some c → env.cells.lookup y = some c) ∧
      ∀ y, ((y, NameKind.free) ∈ names ∨ (cs.lookup y).isSome = true) → (cl.lookup y).isSome = true
  | [], cs, _, h => ⟨cs, rfl, h, fun y hy => by rcases hy with hy | hy; cases hy; exact hy⟩
  | (n, k) :: r, cs, hn, h => by
    rw [List.forIn_cons]
    by_cases hk : (k == NameKind.free) = true
    · have hk' : k = .free := by cases k <;> first | rfl | exact absurd hk (by decide)
      obtain ⟨c, hc⟩ := hn (n, k) (.head _) hk'
      have e1 : cellOf env n = pure c := by unfold cellOf; rw [hc]
      obtain ⟨cl, h1, h2, h3⟩ := closure_go r ((n, c) :: cs) (fun y hy => hn y (.tail _ hy)) (fun y c' hy => by
        rw [List.lookup_cons] at hy
        cases q : y == n with
        | true => rw [q] at hy; cases hy; rw [eq_of_beq q]; exact hc
        | false => rw [q] at hy; exact h y c' hy)
      refine ⟨cl, ?_, h2, fun y hy => h3 y ?_⟩
      · rw [if_pos hk, e1]
        exact h1
      · rw [List.lookup_cons]
        cases q : y == n with
        | true => exact .inr rfl
        | false =>
          rcases hy with hy | hy
          · cases hy with
            | head => rw [beq_self_eq_true] at q; cases q
            | tail _ hy => exact .inl hy
          · exact .inr hy
    · obtain ⟨cl, h1, h2, h3⟩ := closure_go r cs (fun y hy => hn y (.tail _ hy)) h
      refine ⟨cl, ?_, h2, fun y hy => h3 y ?_⟩
      · rw [if_neg hk]
        exact h1
      · rcases hy with hy | hy
        · cases hy with
          | head => exact absurd rfl hk
          | tail _ hy => exact .inl hy
        · exact .inr hy
theorem closure_of {env : Env} {scope : Scope} (h : ∀ y ∈ scope.names, y.2 = .free → ∃ c, env.cells.lookup y.1 = some c) :
    ∃ cl, closureFor scope env = pure cl ∧ ∀ y, scope.names.lookup y = some .free → cl.lookup y = env.cells.lookup y := by
  obtain ⟨cl, h1, h2, h3⟩ := closure_go (env := env) scope.names [] h (fun y c hy => by cases hy)
  refine ⟨cl, ?_, fun y hy => ?_⟩
  · unfold closureFor
    show (forIn scope.names [] _ >>= fun cs => pure cs) = _
    rw [show (forIn scope.names ([] : List (Str × Addr)) _ : Sem (List (Str × Addr))) = pure cl from h1]
    rfl
  · have := h3 y (.inl (lookup_mem hy))
    cases q : cl.lookup y with
    | none => rw [q] at this; cases this
    | some c => rw [h2 y c q]
end Mine
end
section
namespace Mine
open Builtin
section
variable {W : Wld} {Γ : FEnv} {k : Nat} {cc : CC} {A : Around} {env : Env} {Ok Ok' : Addr → Prop} {ρ : List Slot} {s s' : Shared}

theorem here_comp {scope : Scope} {x : Str} {cl : List (Str × Addr)} {C : Addr} {m : Str → Option Value} {v : Value} {px : PV} (H : Here W A k cc env Ok ρ s) (hc : CompOk cc scope x) (hlt : ∀ y i, cc.σ y = some i → i < cc.n)
    (hcl : ∀ y, scope.names.lookup y = some .free → cl.lookup y = env.cells.lookup y) (e : Ext s s') (hn : s'.heap.Ns C m) (hv : m x = some v) (hr : Rep s'.heap Ok' v px) (fr : Fresh Ok' s') (hok : ∀ b, Ok b → SeqAt s.heap b → Ok' b) :
    Here W A k (cc.comp scope x) (compEnvC scope cl C env) Ok' (ρ ++ [some (px, 0)]) s' where
  room := H.room
  on := H.on.ext e
  fresh := fr
  kind := hc.kind
  globals := H.globals
  builtins := H.builtins
  len := by rw [List.length_append, H.len]; rfl
  get := by
    intro y i pv l hy hρ
    simp only [CC.comp] at hy
    split at hy
    · rename_i q
      subst q
      cases hy
      rw [List.getElem?_append_right (by rw [H.len]; exact Nat.le_refl _), H.len, Nat.sub_self] at hρ
      cases hρ
      refine ⟨v, .inl ⟨?_, m, hn, hv⟩, .zero hr⟩
      exact lookup_relabel_local hc.loc
    · split at hy
      · rename_i q
        have hi := hlt y i hy
        rw [List.getElem?_append_left (by rw [H.len]; exact hi)] at hρ
        obtain ⟨u, h1, h2⟩ := H.get y i pv l hy hρ
        obtain ⟨hk, c, hc'⟩ := H.cl y (hc.free _ (lookup_mem q) rfl)
        refine ⟨u, ?_, h2.ext' e hok⟩
        rcases h1 with ⟨h1, _⟩ | ⟨_, c', h3, h4⟩
        · rcases hk with hk | hk <;> (rw [h1] at hk; cases hk)
        · refine .inr ⟨?_, c', (hcl y q).trans h3, h4.keeps e.keep⟩
          rcases relabel_lookup (env := env) q with h | ⟨_, h⟩
          · exact .inr h
          · exact .inl h
      · cases hy
  gl := by
    intro y hy
    have q : scope.names.lookup y = some .globalImplicit := of_decide_eq_true hy
    rcases relabel_lookup (env := env) q with h | ⟨h, _⟩
    · exact h
    · cases h
  cl := by
    intro y hy
    have q : scope.names.lookup y = some .free := of_decide_eq_true hy
    obtain ⟨hk, c, hc'⟩ := H.cl y (hc.free _ (lookup_mem q) rfl)
    refine ⟨?_, c, (hcl y q).trans hc'⟩
    rcases relabel_lookup (env := env) q with h | ⟨_, h⟩
    · exact .inr h
    · exact .inl h

/-- the test of a comprehension -/
inductive IfsIs (W : Wld) (Γ : FEnv) (k : Nat) (cc : CC) : ME → List Expr → Prop
  | none : IfsIs W Γ k cc (.lit (.bool true)) []
  | some {c : ME} {e : Expr} : ST W Γ k cc c e → IfsIs W Γ k cc c [e]
theorem ifs_sound {cond : ME} {ifs : List Expr} {b : Bool} {E : Value → Shared → Prop} {Q : Bool → Shared → Prop} (hi : IfsIs W Γ k cc cond ifs) (H : Here W A k cc env Ok ρ s) (hb : (evA Γ cond ρ).tru = some b) (q : ∀ s', Ext s s' → Q b s') :
    wpAny W.M A (forIn ifs true fun c r => if r = true then do let ok ← isTrue c env (eval c env); pure (ForInStep.yield ok) else pure (ForInStep.yield r)) Q E s := by
  cases hi with
  | none => cases hb; exact wpAny_pure (q _ (.refl _))
  | some hc =>
    rw [List.forIn_cons]
    refine wpAny_bind ?_
    simp only [if_true]
    refine wpAny_bind (hc A env Ok ρ s b H hb E _ fun s' e => wpAny_pure ?_)
    exact wpAny_pure (q _ e)

theorem comp_loop {elt iter : Expr} {x : Str} {px : Pos} {ifs : List Expr} {scope : Scope} {pos : Pos} {cl : List (Str × Addr)} {me cond : ME} {s0 s1 s2 : Shared} {it : Value} {xs ys : List PV} {D C : Addr} {R : Result → Shared → Prop} {m : Str → Option Value}
    (H : Here W A k cc env Ok ρ s0) (hc : CompOk cc scope x) (hlt : ∀ y i, cc.σ y = some i → i < cc.n) (hcl : ∀ y, scope.names.lookup y = some .free → cl.lookup y = env.cells.lookup y)
    (he : SE W Γ k (cc.comp scope x) me elt) (hi : IfsIs W Γ k (cc.comp scope x) cond ifs)
    (e1 : Ext s0 s1) (hit : IterAt W Ok false s0 s1 it xs) (e2 : Ext s1 s2) (hD : s1.heap.get? D = none) (hC : s1.heap.get? C = none) (hDC : D ≠ C) (hD2 : s2.heap.PlainList D #[]) (hC2 : s2.heap.Ns C m) (hDl : s1.heap.objs.size ≤ D) (hCl : s1.heap.objs.size ≤ C)
    (hev : compF (fun x => (evA Γ cond (ρ ++ [some (x, 0)])).tru) (fun x => (evA Γ me (ρ ++ [some (x, 0)])).val) xs = some ys) (hz : ys.length ≤ LIM)
    (hR : ∀ s' vs m', Ext s0 s' → s'.heap.PlainList D vs.toArray → RepAll s'.heap (fun b => Ok b ∧ b ≠ D) vs ys → s'.heap.Ns C m' → R (.ok .next) s') :
    codeAny W.M A (.compLoop (.ListComp elt [⟨.Name x px, iter, ifs, 0⟩] scope pos) 0 it (.ref D) (compEnvC scope cl C env)) R s2 := by
  obtain ⟨I, fp, wr, P, St, rfl, h2, h3, h4, h5, _, h7, h8⟩ := hit
  have hw := h2 A H.room.hd
  have hDf : D ∉ fp := fun h => Nat.lt_irrefl D (Nat.lt_of_lt_of_le (h4 D h) hDl)
  have hCf : C ∉ fp := fun h => Nat.lt_irrefl C (Nat.lt_of_lt_of_le (h4 C h) hCl)
  have hDw : D ∉ wr := fun h => hDf (hw.sub _ h)
  have hCw : C ∉ wr := fun h => hCf (hw.sub _ h)
  have nw : ∀ b, (b = D ∨ b = C ∨ b ∈ wr) → s0.heap.get? b = none := by
    rintro b (rfl | rfl | hb)
    · exact e1.fresh hD
    · exact e1.fresh hC
    · exact h5 b hb
  have hok : ∀ b, Ok b → SeqAt s0.heap b → Ok b ∧ ¬ (b = D ∨ b = C ∨ b ∈ wr) := fun b hb hs => ⟨hb, fun h => by
    obtain ⟨o, _, _, ho, _⟩ := hs
    rw [nw b h] at ho; cases ho⟩
  have st2 : St 0 s2.heap := hw.frame _ _ _ h3 fun b _ o => e2.keep b o
  -- the loop
  refine codeAny_compLoop_tests (I := fun n s' => ∃ i vs ys1 ys2 m', n = xs.length - i ∧ i ≤ xs.length ∧ Ext s0 s' ∧ KeepBut (fun b => b = D ∨ b = C ∨ b ∈ wr) s1 s' ∧ St i s'.heap ∧ s'.heap.PlainList D vs.toArray ∧
      RepAll s'.heap (fun b => Ok b ∧ ¬ (b = D ∨ b = C ∨ b ∈ wr)) vs ys1 ∧ s'.heap.Ns C m' ∧
      compF (fun x => (evA Γ cond (ρ ++ [some (x, 0)])).tru) (fun x => (evA Γ me (ρ ++ [some (x, 0)])).val) (xs.drop i) = some ys2 ∧ ys1 ++ ys2 = ys) ?_ xs.length
    ⟨0, [], [], ys, m, rfl, Nat.zero_le _, e1.trans e2, e2.but, st2, hD2, .nil, hC2, hev, rfl⟩
  rintro n s' ⟨i, vs, ys1, ys2, m', rfl, hin, ex, kb, st, hpl, hra, hns, hcf, rfl⟩
  by_cases hlt' : i < xs.length
  · obtain ⟨x0, hx0⟩ : ∃ x0, xs[i]? = some x0 := ⟨xs[i], by rw [List.getElem?_eq_getElem hlt']⟩
    have hdrop : xs.drop i = x0 :: xs.drop (i + 1) := by
      rw [List.drop_eq_getElem_cons hlt']
      rw [List.getElem?_eq_getElem hlt'] at hx0
      cases hx0; rfl
    rw [hdrop] at hcf
    refine hw.item i s' _ _ hlt' st fun v h' tk hp st' hk => ?_
    generalize hsa : ({ s' with heap := h', toks := tk } : Shared) = sa
    have kba : KeepBut (fun b => b = D ∨ b = C ∨ b ∈ wr) s' sa := by
      subst hsa; exact ⟨⟨_, _, rfl⟩, fun b o hb ho => hk b o (fun h => hb (.inr (.inr h))) ho⟩
    have sta : St (i + 1) sa.heap := by subst hsa; exact st'
    have nsa : sa.heap.Ns C m' := by subst hsa; exact hns.at' fun o => hk C o hCw
    have pla : sa.heap.PlainList D vs.toArray := by subst hsa; exact hpl.at fun o => hk D o hDw
    refine wpAny_assign_Name (wpAny_storeName_local (m := m') (lookup_relabel_local hc.loc) nsa (fun hb nsb sbb => ?_) (by simp [compEnvC, relabel, hc.kind]))
    generalize hsb : ({ sa with heap := hb, toks := sa.toks + 1 } : Shared) = sb
    have kbb : KeepBut (fun b => b = D ∨ b = C ∨ b ∈ wr) sa sb := by subst hsb; exact KeepBut.of_same sbb (.inr (.inl rfl)) _
    have stb : St (i + 1) sb.heap := by subst hsb; exact hw.frame _ _ _ sta fun b hb o ho => sbb.extBut b o (fun h => by have h' : b = C := h; exact hCf (h' ▸ hb)) ho
    have nsb' : sb.heap.Ns C (fun y => if y = x then some v else m' y) := by subst hsb; exact nsb
    have plb : sb.heap.PlainList D vs.toArray := by subst hsb; exact pla.at fun o => sbb.extBut D o hDC
    have kb1 : KeepBut (fun b => b = D ∨ b = C ∨ b ∈ wr) s1 sb := kb.trans (kba.trans kbb)
    have exb : Ext s0 sb := KeepBut.after e1 kb1 nw
    have frb : Fresh (fun b => Ok b ∧ ¬ (b = D ∨ b = C ∨ b ∈ wr)) sb := fun a ha => ⟨H.fresh a (exb.fresh ha), by
      rintro (rfl | rfl | hb)
      · obtain ⟨_, ho⟩ := plb; rw [ho] at ha; cases ha
      · obtain ⟨_, _, _, ho, _⟩ := nsb'; rw [ho] at ha; cases ha
      · exact h8.1 _ _ stb a hb ha⟩
    have rv : Rep sb.heap (fun b => Ok b ∧ ¬ (b = D ∨ b = C ∨ b ∈ wr)) v x0 := by
      have r0 := h7 i v x0 hx0 hp
      refine r0.but kb1 fun b hb hs => ?_
      have : ¬ (b = D ∨ b = C ∨ b ∈ wr) := by
        obtain ⟨o, _, _, ho, _⟩ := hs
        rintro (rfl | rfl | h)
        · rw [hD] at ho; cases ho
        · rw [hC] at ho; cases ho
        · exact hb.2 h
      exact ⟨⟨hb.1, this⟩, this⟩
    have rab : RepAll sb.heap (fun b => Ok b ∧ ¬ (b = D ∨ b = C ∨ b ∈ wr)) vs ys1 := hra.but (kba.trans kbb) fun b hb _ => ⟨hb, hb.2⟩
    have Hb := here_comp H hc hlt hcl exb nsb' (by simp) rv frb fun b hb hs => hok b hb hs
    -- the test
    simp only [compF] at hcf
    split at hcf
    · rename_i ht
      split at hcf
      · rename_i y hy
        cases hr2 : compF (fun x => (evA Γ cond (ρ ++ [some (x, 0)])).tru) (fun x => (evA Γ me (ρ ++ [some (x, 0)])).val) (xs.drop (i + 1)) with
        | none => rw [hr2] at hcf; cases hcf
        | some ys3 =>
          rw [hr2] at hcf; cases hcf
          refine ifs_sound hi Hb ht fun sc ec => ?_
          rw [if_pos rfl]
          refine he A _ _ _ sc y 0 (Hb.ext ec) hy _ _ fun w sd ed rw_ => ?_
          have plD : sd.heap.PlainList D vs.toArray := (plb.at fun o => ec.keep D o).at fun o => ed.keep D o
          have hvl : vs.length ≤ LIM := by
            rw [rab.length]; rw [List.length_append] at hz; omega
          refine wpAny_list_append_plain plD (fun h5' pl5 sb5 => ?_) (by rw [List.size_toArray]; exact lim_size hvl)
          have kb5 : KeepBut (fun b => b = D ∨ b = C ∨ b ∈ wr) sd { sd with heap := h5' } := KeepBut.of_same sb5 (.inl rfl) sd.toks
          have kb6 := kb1.trans (ec.but.trans (ed.but.trans kb5))
          have std := hw.frame _ _ _ (hw.frame _ _ _ stb fun b _ o => ec.keep b o) fun b _ o => ed.keep b o
          refine ⟨xs.length - (i + 1), by omega, i + 1, vs ++ [w], ys1 ++ [y], ys3, _, rfl, hlt', KeepBut.after e1 kb6 nw, kb6, hw.frame _ _ _ std fun b hb o ho => sb5.extBut b o (fun h => hDf (h ▸ hb)) ho, ?_, ?_,
            ((nsb'.keeps ec.keep).keeps ed.keep).at' fun o => sb5.extBut C o (Ne.symm hDC), hr2, by rw [List.append_assoc]; rfl⟩
          · have e3 : vs.toArray.push w = (vs ++ [w]).toArray := by simp
            rw [← e3]; exact pl5
          · exact (((rab.ext ec).ext ed).append (.cons rw_.rep0 .nil)).but kb5 fun b hb _ => ⟨hb, hb.2⟩
      · cases hcf
    · rename_i ht
      refine ifs_sound hi Hb ht fun sc ec => ?_
      rw [if_neg (by decide)]
      refine ⟨xs.length - (i + 1), by omega, i + 1, vs, ys1, ys2, _, rfl, hlt', exb.trans ec, kb1.trans ec.but, hw.frame _ _ _ stb fun b _ o => ec.keep b o, plb.at fun o => ec.keep D o, rab.ext ec, nsb'.keeps ec.keep, hcf, rfl⟩
    · cases hcf
  · have hin' : i = xs.length := by omega
    subst hin'
    rw [List.drop_length] at hcf
    cases hcf
    refine hw.done s' _ _ st fun h' tk hk => ?_
    have kba : KeepBut (fun b => b = D ∨ b = C ∨ b ∈ wr) s' { s' with heap := h', toks := tk } := ⟨⟨_, _, rfl⟩, fun b o hb ho => hk b o (fun h => hb (.inr (.inr h))) ho⟩
    refine hR _ vs m' (KeepBut.after e1 (kb.trans kba) nw) (hpl.at fun o => hk D o hDw) ?_ (hns.at' fun o => hk C o hCw)
    rw [List.append_nil]
    exact hra.but kba fun b hb _ => ⟨⟨hb.1, fun h => hb.2 (.inl h)⟩, hb.2⟩
end
end Mine
end
section
namespace Mine
open Builtin
section
variable {W : Wld} {Γ : FEnv} {k : Nat} {cc : CC} {A : Around} {env : Env} {Ok Ok' : Addr → Prop} {ρ : List Slot} {s s' : Shared}

def notSet : Expr → Bool
  | .Set _ _ _ => false
  | _ => true
theorem folded_plain {e : Expr} (h : notSet e = true) (env : Env) (x : Value) : foldedSetIterable e env x = pure x := by
  unfold foldedSetIterable
  split
  · cases h
  · rfl

theorem comp_sound {elt iter : Expr} {x : Str} {px : Pos} {ifs : List Expr} {scope : Scope} {pos fpos : Pos} {me src cond : ME} {s0 : Shared} {xs ys : List PV} {use : Option (Value → Sem Unit)} {E Q : Value → Shared → Prop}
    (H : Here W A k cc env Ok ρ s0) (hc : CompOk cc scope x) (hlt : ∀ y i, cc.σ y = some i → i < cc.n) (hs : SI W Γ k cc false (fun ρ => (evA Γ src ρ).its) iter) (hns : notSet iter = true)
    (he : SE W Γ k (cc.comp scope x) me elt) (hi : IfsIs W Γ k (cc.comp scope x) cond ifs) (hsrc : (evA Γ src ρ).its = some xs)
    (hev : compF (fun x => (evA Γ cond (ρ ++ [some (x, 0)])).tru) (fun x => (evA Γ me (ρ ++ [some (x, 0)])).val) xs = some ys) (hz : ys.length ≤ LIM)
    (hR : ∀ D C s' vs m', s0.heap.get? D = none → s0.heap.get? C = none → D ≠ C → Ext s0 s' → s'.heap.PlainList D vs.toArray → RepAll s'.heap (fun b => Ok b ∧ b ≠ D) vs ys → s'.heap.Ns C m' → compPost W.M A E use Q (.ref D) C (.ok .next) s') :
    wpAny W.M A (comprehension (.ListComp elt [⟨.Name x px, iter, ifs, 0⟩] scope pos) scope env fpos (newList []) false (eval iter env) use) Q E s0 := by
  obtain ⟨cl, hclos, hcl⟩ := closure_of (env := env) (scope := scope) fun y hy hf => (H.cl y.1 (hc.free y hy hf)).2
  refine wpAny_comprehension_free (use := use) rfl (folded_plain hns env) hclos hc.kind hc.names ?_
  refine hs A env Ok ρ s0 xs H hsrc E _ fun it s1 e1 hit => ?_
  refine wpAny_newObj_type (wpAny_newFunctionEnv hc.nocell (by intro y hy; simp at hy) (fun h₁ hns₁ hsb₁ => ?_) hc.kind)
  dsimp only at hns₁ hsb₁ ⊢
  generalize hH2 : s1.heap.push { cls := .type "list", dict := none, data := .seq ([] : List Value).toArray } = H2 at hns₁ hsb₁ ⊢
  have hC : H2.objs.size = s1.heap.objs.size + 1 := by rw [← hH2, Heap.size_push]
  have hDC : s1.heap.objs.size ≠ H2.objs.size := by rw [hC]; exact Nat.ne_of_lt (Nat.lt_succ_self _)
  have hC2 : s1.heap.get? H2.objs.size = none := by
    cases q : s1.heap.get? H2.objs.size with
    | none => rfl
    | some o => have := Heap.lt_size q; rw [hC] at this; exact absurd (Nat.lt_of_succ_lt this) (Nat.lt_irrefl _)
  have old : ∀ b o, s1.heap.get? b = some o → h₁.get? b = some o := fun b o e => hsb₁.extBut b o (fun q => by rw [q, hC2] at e; cases e) (Heap.get?_push_of_some _ (hH2 ▸ Heap.get?_push_of_some _ e))
  have hacc : h₁.PlainList s1.heap.objs.size #[] := ⟨_, hsb₁.extBut _ _ hDC (Heap.get?_push_of_some _ (hH2 ▸ Heap.get?_push_size _ rfl))⟩
  have e2 : Ext s1 { s1 with heap := h₁, toks := s1.toks + ([] : List (Str × Value)).length } := ⟨⟨_, _, rfl⟩, old⟩
  have loop := comp_loop (elt := elt) (iter := iter) (px := px) (pos := pos) (D := s1.heap.objs.size) (C := H2.objs.size) (R := compPost W.M A E use Q (.ref s1.heap.objs.size) H2.objs.size) H hc hlt hcl he hi e1 hit e2 (get_size _) hC2 hDC hacc hns₁ (Nat.le_refl _) (by rw [hC]; exact Nat.le_succ _) hev hz
    fun s' vs m' ex pl ra ns => hR _ _ s' vs m' (e1.fresh (get_size _)) (e1.fresh hC2) hDC ex pl ra ns
  obtain ⟨I, fp, wr, P, St, rfl, h2, h3, h4, h5, _, h7, h8⟩ := hit
  have hw := h2 A H.room.hd
  exact codeAny_compStart_list loop (hw.self 0 _ _ _ (hw.frame _ _ _ h3 fun b _ o => old b o) loop)

theorem se_comp_list {elt iter : Expr} {x : Str} {px : Pos} {ifs : List Expr} {scope : Scope} {pos : Pos} {me src cond : ME}
    (hc : CompOk cc scope x) (hlt : ∀ y i, cc.σ y = some i → i < cc.n) (hs : SI W Γ k cc false (fun ρ => (evA Γ src ρ).its) iter) (hns : notSet iter = true)
    (he : SE W Γ k (cc.comp scope x) me elt) (hi : IfsIs W Γ k (cc.comp scope x) cond ifs) : SE W Γ k cc (.comp me src cond) (.ListComp elt [⟨.Name x px, iter, ifs, 0⟩] scope pos) := by
  intro A env Ok ρ s z lz H e E Q q
  simp only [evA, Ans.of] at e
  cases h1 : (evA Γ src ρ).its with
  | none => rw [h1] at e; cases e
  | some xs =>
    rw [h1] at e
    simp only [Option.bind_some] at e
    cases h2 : compF (fun x => (evA Γ cond (ρ ++ [some (x, 0)])).tru) (fun x => (evA Γ me (ρ ++ [some (x, 0)])).val) xs with
    | none => rw [h2] at e; cases e
    | some ys =>
      rw [h2] at e
      simp only [Option.bind_some, lim] at e
      split at e
      · rename_i hz
        cases e
        rw [eval_ListComp]
        refine comp_sound (use := none) H hc hlt hs hns he hi h1 h2 hz fun D C s' vs m' hD hC hDC ex pl ra ns => ?_
        refine ⟨m', ns, fun h' sb => ?_⟩
        have ex' : Ext s { s' with heap := h' } := KeepBut.ext (X := fun b => b = C) (ex.but.trans (KeepBut.of_same (X := fun b => b = C) sb rfl s'.toks)) (by rintro b rfl; exact hC)
        refine q _ _ ex' (.zero (.list (H.fresh D hD) (pl.at fun o => sb.extBut D o hDC) (ra.but (KeepBut.of_same (X := fun b => b = C) sb rfl s'.toks) fun b hb hs => ⟨hb.1, ?_⟩)))
        rintro rfl
        obtain ⟨o, _, _, ho, hd⟩ := hs
        obtain ⟨o', es, ep, ho', hd', _⟩ := ns
        rw [ho] at ho'; cases ho'
        rw [hd] at hd'; cases hd'
      · cases e
end
end Mine
end
section
namespace Mine
open Builtin

/-! ## the state of a def's frame -/
/-- what stands in a name, and whose places it owns -/
inductive BOwn (W : Wld) (h : Heap) (Ok o : Addr → Prop) : Nat → Value → PV → Prop
  | zero {v : Value} {x : PV} : Rep h Ok v x → BOwn W h Ok o 0 v x
  | one {a : Addr} {vs : List Value} {xs : List PV} : o a → h.PlainList a vs.toArray → RepAll h Ok vs xs → BOwn W h Ok o 1 (.ref a) (.list xs)
  | two {a : Addr} {bs : List Addr} {xs : List PV} : o a → (∀ b ∈ bs, o b) → (a :: bs).Nodup → h.PlainList a (bs.map Value.ref).toArray → RowsRep h Ok bs xs → BOwn W h Ok o 2 (.ref a) (.list xs)
  | dict {a : Addr} {es : List (Int × PV)} : o a → IsDictI W h Ok a es → BOwn W h Ok o 1 (.ref a) (.dict es)

section
variable {W : Wld} {h : Heap} {Ok Ok' o o' : Addr → Prop} {l : Nat} {v : Value} {x : PV} {s s' : Shared} {X : Addr → Prop}
theorem BOwn.b (r : BOwn W h Ok o l v x) : BRep W h Ok l v x := by
  cases r with
  | zero r => exact .zero r
  | one _ q r => exact .one q r
  | two _ _ _ q r => exact .two q r
  | dict _ q => exact .dict q
theorem BOwn.move (r : BOwn W s.heap Ok o l v x) (e : KeepBut X s s') (h1 : ∀ b, Ok b → SeqAt s.heap b → Ok' b ∧ ¬ X b) (h2 : ∀ b, o b → ¬ X b) (h3 : ∀ b, o b → o' b) : BOwn W s'.heap Ok' o' l v x := by
  have hk : ∀ a, Ok a → SeqAt s.heap a → Ok' a ∧ ∀ o, s.heap.get? a = some o → s'.heap.get? a = some o := fun a ha hs => ⟨(h1 a ha hs).1, fun o => e.keep a o (h1 a ha hs).2⟩
  cases r with
  | zero r => exact .zero (r.mono hk)
  | one ho q r => exact .one (h3 _ ho) (q.at fun o => e.keep _ o (h2 _ ho)) (r.mono hk)
  | two ho hb hn q r => exact .two (h3 _ ho) (fun b hm => h3 _ (hb b hm)) hn (q.at fun o => e.keep _ o (h2 _ ho)) (r.mono hk fun b hm o => e.keep b o (h2 _ (hb b hm)))
  | dict ho q => exact .dict (h3 _ ho) (q.mono hk fun o => e.keep _ o (h2 _ ho))
end

def Priv (env : Env) (own : Nat → Addr → Prop) (b : Addr) : Prop := b = env.locals ∨ (∃ x, env.cells.lookup x = some b) ∨ ∃ i, own i b
def Okc (Ok0 : Addr → Prop) (own : Nat → Addr → Prop) (b : Addr) : Prop := Ok0 b ∧ ∀ i, ¬ own i b

structure StR (W : Wld) (A : Around) (k : Nat) (cc : CC) (env : Env) (Kp : Addr → Obj → Prop) (g : Shared) (Ok0 : Addr → Prop) (own : Nat → Addr → Prop) (ρ : List Slot) (s : Shared) : Prop where
  room : Room A k
  on : ∀ h : Heap, (∀ b o, Kp b o → h.get? b = some o) → W.On h
  kept : ∀ b o, Kp b o → s.heap.get? b = some o
  same : ∃ h tk, s = { g with heap := h, toks := tk }
  fresh : Fresh Ok0 s
  kind : env.scope.kind = .function
  globals : env.globals = mainGlobals
  builtins : env.builtins = builtinsNs
  len : ρ.length = cc.n
  gl : ∀ x, cc.gl x = true → env.kindOf x = some .globalImplicit
  cl : ∀ x, cc.cl x = true → (env.kindOf x = some .cell ∨ env.kindOf x = some .free) ∧ ∃ c, env.cells.lookup x = some c
  st : ∀ x i, cc.σ x = some i → env.kindOf x = some .local ∨ (env.kindOf x = some .cell ∧ ∃ c, env.cells.lookup x = some c)
  get : ∀ x i pv l, cc.σ x = some i → (ρ[i]?).join = some (pv, l) → ∃ v, Holds s.heap env x v ∧ BOwn W s.heap (Okc Ok0 own) (own i) l v pv
  ns : ∃ m, s.heap.Ns env.locals m
  cells : ∀ x c, env.cells.lookup x = some c → ∃ v0, s.heap.IsCell c v0
  cinj : ∀ x y c, env.cells.lookup x = some c → env.cells.lookup y = some c → x = y
  priv : ∀ b, Priv env own b → ∀ o, ¬ Kp b o
  owned : ∀ i a, own i a → s.heap.get? a ≠ none ∧ a ≠ env.locals ∧ (∀ x, env.cells.lookup x ≠ some a) ∧ Ok0 a
  inj : ∀ i j a, own i a → own j a → i = j

structure CC.Good (cc : CC) : Prop where
  lt : ∀ x i, cc.σ x = some i → i < cc.n
  inj : ∀ x y i, cc.σ x = some i → cc.σ y = some i → x = y

section
variable {W : Wld} {Γ : FEnv} {k : Nat} {cc : CC} {A : Around} {env : Env} {Kp : Addr → Obj → Prop} {g : Shared} {Ok0 : Addr → Prop} {own own' : Nat → Addr → Prop} {ρ ρ' : List Slot} {s s' : Shared}

theorem StR.here (S : StR W A k cc env Kp g Ok0 own ρ s) : Here W A k cc env (Okc Ok0 own) ρ s where
  room := S.room
  on := S.on _ S.kept
  fresh := fun a ha => ⟨S.fresh a ha, fun i hi => (S.owned i a hi).1 ha⟩
  kind := S.kind
  globals := S.globals
  builtins := S.builtins
  len := S.len
  get := fun x i pv l h1 h2 => let ⟨v, a, b⟩ := S.get x i pv l h1 h2; ⟨v, a, b.b⟩
  gl := S.gl
  cl := S.cl

theorem ns_cell {h : Heap} {a c : Addr} {m : Str → Option Value} {v : Option Value} (x : h.Ns a m) (y : h.IsCell c v) : a ≠ c := by
  rintro rfl
  obtain ⟨o, es, ep, ho, hd, _⟩ := x
  obtain ⟨o', ho', hd'⟩ := y
  rw [ho] at ho'; cases ho'
  rw [hd] at hd'; cases hd'
theorem ns_seq {h : Heap} {a : Addr} {m : Str → Option Value} (x : h.Ns a m) : ¬ SeqAt h a := by
  rintro ⟨o', _, _, ho', hd'⟩
  obtain ⟨o, es, ep, ho, hd, _⟩ := x
  rw [ho] at ho'; cases ho'
  rw [hd] at hd'; cases hd'
theorem cell_seq {h : Heap} {a : Addr} {v : Option Value} (x : h.IsCell a v) : ¬ SeqAt h a := by
  rintro ⟨o', _, _, ho', hd'⟩
  obtain ⟨o, ho, hd⟩ := x
  rw [ho] at ho'; cases ho'
  rw [hd] at hd'; cases hd'

/-- what is walked by a value is not private -/
theorem StR.seen (S : StR W A k cc env Kp g Ok0 own ρ s) {b : Addr} (h : Okc Ok0 own b) (hs : SeqAt s.heap b) : ¬ Priv env own b := by
  rintro (rfl | ⟨x, hx⟩ | ⟨i, hi⟩)
  · obtain ⟨m, hm⟩ := S.ns; exact ns_seq hm hs
  · obtain ⟨v0, hv⟩ := S.cells x b hx; exact cell_seq hv hs
  · exact h.2 i hi

/-- a step that changes private places alone -/
theorem StR.step {X : Addr → Prop} (S : StR W A k cc env Kp g Ok0 own ρ s) (kb : KeepBut X s s') (hX : ∀ b, X b → ∀ o, ¬ Kp b o) (hex : ∀ b, X b → s'.heap.get? b = none → Ok0 b ∧ ∀ i, ¬ own i b)
    (ns : ∃ m, s'.heap.Ns env.locals m) (cells : ∀ x c, env.cells.lookup x = some c → ∃ v0, s'.heap.IsCell c v0) (len : ρ'.length = cc.n)
    (get : ∀ x i pv l, cc.σ x = some i → (ρ'[i]?).join = some (pv, l) → ∃ v, Holds s'.heap env x v ∧ BOwn W s'.heap (Okc Ok0 own') (own' i) l v pv)
    (ho : ∀ i a, own' i a → (∃ j, own j a) ∨ (s.heap.get? a = none ∧ s'.heap.get? a ≠ none)) (inj : ∀ i j a, own' i a → own' j a → i = j) : StR W A k cc env Kp g Ok0 own' ρ' s' := by
  have keepK : ∀ b o, Kp b o → s'.heap.get? b = some o := fun b o hb => kb.keep b o (fun hx => hX b hx o hb) (S.kept b o hb)
  have fr : Fresh Ok0 s' := fun a ha => by
    by_cases hx : X a
    · exact (hex a hx ha).1
    · refine S.fresh a ?_
      cases q : s.heap.get? a with
      | none => rfl
      | some o => rw [kb.keep a o hx q] at ha; cases ha
  have new : ∀ a, s.heap.get? a = none → a ≠ env.locals ∧ (∀ x, env.cells.lookup x ≠ some a) ∧ ∀ o, ¬ Kp a o := by
    intro a ha
    refine ⟨?_, ?_, ?_⟩
    · rintro rfl
      obtain ⟨m, o, _, _, ho, _⟩ := S.ns
      rw [ho] at ha; cases ha
    · intro x hx
      obtain ⟨_, o, ho, _⟩ := S.cells x a hx
      rw [ho] at ha; cases ha
    · intro o hk
      rw [S.kept a o hk] at ha; cases ha
  refine ⟨S.room, S.on, keepK, ?_, fr, S.kind, S.globals, S.builtins, len, S.gl, S.cl, S.st, get, ns, cells, S.cinj, ?_, ?_, inj⟩
  · obtain ⟨h1, t1, e1⟩ := S.same
    obtain ⟨h2, t2, e2⟩ := kb.same
    rw [e1] at e2
    exact ⟨h2, t2, e2⟩
  · rintro b (rfl | ⟨x, hx⟩ | ⟨i, hi⟩) o
    · exact S.priv _ (.inl rfl) o
    · exact S.priv _ (.inr (.inl ⟨x, hx⟩)) o
    · rcases ho i b hi with ⟨j, h⟩ | h
      · exact S.priv _ (.inr (.inr ⟨j, h⟩)) o
      · exact (new b h.1).2.2 o
  · intro i a hi
    rcases ho i a hi with ⟨j, h⟩ | h
    · obtain ⟨h1, h2, h3, h4⟩ := S.owned j a h
      refine ⟨?_, h2, h3, h4⟩
      by_cases hx : X a
      · exact fun hn => (hex a hx hn).2 j h
      · cases q : s.heap.get? a with
        | none => exact absurd q h1
        | some o => rw [kb.keep a o hx q]; exact fun h => nomatch h
    · exact ⟨h.2, (new a h.1).1, (new a h.1).2.1, S.fresh a h.1⟩

theorem StR.ext (S : StR W A k cc env Kp g Ok0 own ρ s) (e : Ext s s') : StR W A k cc env Kp g Ok0 own ρ s' := by
  refine S.step (X := fun _ => False) e.but (fun _ h => h.elim) (fun _ h => h.elim) (let ⟨m, h⟩ := S.ns; ⟨m, h.keeps e.keep⟩) (fun x c hx => let ⟨v, h⟩ := S.cells x c hx; ⟨v, h.keeps e.keep⟩) S.len ?_ (fun i a h => .inl ⟨i, h⟩) S.inj
  intro x i pv l h1 h2
  obtain ⟨v, h3, h4⟩ := S.get x i pv l h1 h2
  exact ⟨v, h3.keeps e.keep, h4.move (X := fun _ => False) e.but (fun b hb _ => ⟨hb, fun h => h⟩) (fun _ _ h => h) fun _ h => h⟩
end
end Mine
end
section
namespace Mine
open Builtin
section
variable {W : Wld} {Γ : FEnv} {k : Nat} {cc : CC} {A : Around} {env : Env} {Kp : Addr → Obj → Prop} {g : Shared} {Ok0 : Addr → Prop} {own own' : Nat → Addr → Prop} {ρ ρ' : List Slot} {s s' : Shared}

theorem ns_inj {h : Heap} {a : Addr} {m m' : Str → Option Value} (x : h.Ns a m) (y : h.Ns a m') : m = m' := by
  obtain ⟨o, es, ep, ho, hd, _, hf⟩ := x
  obtain ⟨o', es', ep', ho', hd', _, hf'⟩ := y
  rw [ho] at ho'; cases ho'
  rw [hd] at hd'; cases hd'
  funext n
  rw [← hf n, hf' n]

def setOwn (own : Nat → Addr → Prop) (i : Nat) (new : Addr → Prop) : Nat → Addr → Prop := fun j a => if j = i then new a else own j a

theorem get_set {i j : Nat} {v : Slot} (hi : i < ρ.length) : (ρ.set i v)[j]? = if j = i then some v else ρ[j]? := by
  rw [List.getElem?_set]
  by_cases h : i = j
  · subst h; rw [if_pos rfl, if_pos hi, if_pos rfl]
  · rw [if_neg h, if_neg (Ne.symm h)]

/-- the frame after a store -/
theorem StR.stored (G : cc.Good) {x : Str} {i : Nat} {new : Addr → Prop} {l : Nat} {v : Value} {pv : PV} {X : Addr → Prop} {s1 : Shared} (S : StR W A k cc env Kp g Ok0 own ρ s) (e : Ext s s1) (hx : cc.σ x = some i)
    (hnew : ∀ a, new a → s.heap.get? a = none ∧ s1.heap.get? a ≠ none) (hv : BOwn W s1.heap (fun b => Okc Ok0 own b ∧ ¬ new b) new l v pv)
    (kb : KeepBut X s1 s') (hX : ∀ b, X b → (b = env.locals ∨ ∃ y, env.cells.lookup y = some b)) (hex : ∀ b, X b → s'.heap.get? b ≠ none)
    (ns : ∃ m, s'.heap.Ns env.locals m) (cells : ∀ x c, env.cells.lookup x = some c → ∃ v0, s'.heap.IsCell c v0)
    (h1 : Holds s'.heap env x v) (h2 : ∀ y w, y ≠ x → Holds s.heap env y w → Holds s'.heap env y w) :
    StR W A k cc env Kp g Ok0 (setOwn own i new) (ρ.set i (some (pv, l))) s' := by
  have hi : i < ρ.length := by rw [S.len]; exact G.lt x i hx
  have hXp : ∀ b, X b → Priv env own b := fun b hb => by
    rcases hX b hb with h | h
    · exact .inl h
    · exact .inr (.inl h)
  have S1 := S.ext e
  refine S.step (X := X) (e.but.trans kb) (fun b hb => S.priv b (hXp b hb)) (fun b hb hn => absurd hn (hex b hb)) ns cells (by rw [List.length_set]; exact S.len) ?_ ?_ ?_
  · intro y j pv' l' hy hj
    rw [get_set hi] at hj
    by_cases hji : j = i
    · subst hji
      rw [if_pos rfl] at hj
      cases hj
      have : y = x := G.inj y x j hy hx
      subst this
      refine ⟨v, h1, hv.move kb (fun b hb hs => ⟨⟨hb.1.1, fun j' hj' => ?_⟩, fun hxb => ?_⟩) (fun b hb hxb => ?_) fun b hb => ?_⟩
      · unfold setOwn at hj'
        split at hj'
        · exact hb.2 hj'
        · exact hb.1.2 j' hj'
      · exact S1.seen hb.1 hs (hXp b hxb)
      · rcases hX b hxb with rfl | ⟨y', hy'⟩
        · obtain ⟨m, o, _, _, ho, _⟩ := S.ns
          rw [(hnew _ hb).1] at ho; cases ho
        · obtain ⟨_, o, ho, _⟩ := S.cells y' b hy'
          rw [(hnew _ hb).1] at ho; cases ho
      · unfold setOwn; rw [if_pos rfl]; exact hb
    · rw [if_neg hji] at hj
      have hyx : y ≠ x := by
        rintro rfl
        rw [hx] at hy; cases hy; exact hji rfl
      obtain ⟨w, h3, h4⟩ := S.get y j pv' l' hy hj
      refine ⟨w, h2 y w hyx h3, h4.move (X := X) (e.but.trans kb) (fun b hb hs => ⟨⟨hb.1, fun j' hj' => ?_⟩, fun hxb => S.seen hb hs (hXp b hxb)⟩) (fun b hb hxb => ?_) fun b hb => ?_⟩
      · unfold setOwn at hj'
        split at hj'
        · obtain ⟨o, _, _, ho, _⟩ := hs
          rw [(hnew b hj').1] at ho; cases ho
        · exact hb.2 j' hj'
      · obtain ⟨_, q1, q2, _⟩ := S.owned j b hb
        rcases hX b hxb with rfl | ⟨y', hy'⟩
        · exact q1 rfl
        · exact q2 y' hy'
      · unfold setOwn; rw [if_neg hji]; exact hb
  · intro j a hj
    unfold setOwn at hj
    split at hj
    · obtain ⟨q1, q2⟩ := hnew a hj
      refine .inr ⟨q1, ?_⟩
      by_cases hxa : X a
      · exact hex a hxa
      · cases q : s1.heap.get? a with
        | none => exact absurd q q2
        | some o => rw [kb.keep a o hxa q]; exact fun h => nomatch h
    · exact .inl ⟨j, hj⟩
  · intro j j' a hj hj'
    unfold setOwn at hj hj'
    split at hj <;> split at hj'
    · rename_i p q; rw [p, q]
    · exact absurd (hnew a hj).1 (S.owned j' a hj').1
    · exact absurd (hnew a hj').1 (S.owned j a hj).1
    · exact S.inj j j' a hj hj'

theorem StR.store (G : cc.Good) {x : Str} {i : Nat} {new : Addr → Prop} {l : Nat} {v : Value} {pv : PV} {s1 : Shared} {E : Value → Shared → Prop} {Q : Unit → Shared → Prop} (S : StR W A k cc env Kp g Ok0 own ρ s) (e : Ext s s1) (hx : cc.σ x = some i)
    (hnew : ∀ a, new a → s.heap.get? a = none ∧ s1.heap.get? a ≠ none) (hv : BOwn W s1.heap (fun b => Okc Ok0 own b ∧ ¬ new b) new l v pv)
    (q : ∀ s', KeepBut (fun b => b = env.locals ∨ ∃ y, env.cells.lookup y = some b) s1 s' → StR W A k cc env Kp g Ok0 (setOwn own i new) (ρ.set i (some (pv, l))) s' → Q () s') : wpAny W.M A (storeName env x v) Q E s1 := by
  have S1 := S.ext e
  obtain ⟨m, hm⟩ := S1.ns
  rcases S.st x i hx with hl | ⟨hl, c, hc⟩
  · refine wpAny_storeName_local hl hm (fun h' hn' sb => ?_) (by rw [S.kind]; rfl)
    have kb : KeepBut (fun b => b = env.locals) s1 { s1 with heap := h', toks := s1.toks + 1 } := KeepBut.of_same (X := fun b => b = env.locals) sb rfl _
    refine q _ (kb.mono fun b hb => .inl hb) (S.stored G e hx hnew hv kb (fun b hb => .inl hb) (fun b hb => ?_) ⟨_, hn'⟩ (fun y c hy => ?_) (.inl ⟨hl, _, hn', by simp⟩) fun y w hyx hw => ?_)
    · have hb' : b = env.locals := hb
      subst hb'
      obtain ⟨o, _, _, ho, _⟩ := hn'
      rw [ho]; exact fun h => nomatch h
    · obtain ⟨v0, hv0⟩ := S1.cells y c hy
      refine ⟨v0, ?_⟩
      obtain ⟨o, ho, hd⟩ := hv0
      exact ⟨o, sb.extBut c o (fun q => ns_cell hm ⟨o, ho, hd⟩ q.symm) ho, hd⟩
    · rcases hw.keeps e.keep with ⟨h1, m1, h2, h3⟩ | ⟨h1, c, h2, h3⟩
      · refine .inl ⟨h1, _, hn', ?_⟩
        rw [if_neg hyx, ns_inj hm h2]; exact h3
      · refine .inr ⟨h1, c, h2, ?_⟩
        obtain ⟨o, ho, hd⟩ := h3
        exact ⟨o, sb.extBut c o (fun q => ns_cell hm ⟨o, ho, hd⟩ q.symm) ho, hd⟩
  · obtain ⟨v0, hv0⟩ := S1.cells x c hc
    refine wpAny_storeName_cell S.kind hl hc hv0 fun h' hn' sb => ?_
    have kb : KeepBut (fun b => b = c) s1 { s1 with heap := h' } := KeepBut.of_same (X := fun b => b = c) sb rfl s1.toks
    have nl : env.locals ≠ c := fun q => ns_cell hm hv0 q
    refine q _ (kb.mono fun b hb => .inr ⟨x, by have hb' : b = c := hb; rw [hb']; exact hc⟩) (S.stored G e hx hnew hv kb (fun b hb => .inr ⟨x, by have hb' : b = c := hb; rw [hb']; exact hc⟩) (fun b hb => ?_) ⟨m, hm.at' fun o => sb.extBut _ o nl⟩ (fun y c' hy => ?_) (.inr ⟨.inl hl, c, hc, hn'⟩) fun y w hyx hw => ?_)
    · have hb' : b = c := hb
      subst hb'
      obtain ⟨o, ho, _⟩ := hn'
      rw [ho]; exact fun h => nomatch h
    · by_cases hcc : c' = c
      · subst hcc; exact ⟨_, hn'⟩
      · obtain ⟨v1, o, ho, hd⟩ := S1.cells y c' hy
        exact ⟨v1, o, sb.extBut c' o hcc ho, hd⟩
    · rcases hw.keeps e.keep with ⟨h1, m1, h2, h3⟩ | ⟨h1, c', h2, h3⟩
      · refine .inl ⟨h1, m1, h2.at' fun o => sb.extBut _ o nl, h3⟩
      · refine .inr ⟨h1, c', h2, ?_⟩
        obtain ⟨o, ho, hd⟩ := h3
        exact ⟨o, sb.extBut c' o (fun q => hyx (S.cinj y x c' h2 (q ▸ hc))) ho, hd⟩

/-- a turn of an owned place -/
theorem StR.turn (G : cc.Good) {x : Str} {i : Nat} {l : Nat} {v : Value} {pv : PV} {X : Addr → Prop} {s1 : Shared} (S : StR W A k cc env Kp g Ok0 own ρ s) (e : Ext s s1) (hx : cc.σ x = some i) (hX : ∀ b, X b → own i b)
    {new : Addr → Prop} (hnew : ∀ a, new a → s.heap.get? a = none ∧ s'.heap.get? a ≠ none)
    (kb : KeepBut X s1 s') (hex : ∀ b, X b → s'.heap.get? b ≠ none) (h1 : Holds s.heap env x v) (hv : BOwn W s'.heap (fun b => Okc Ok0 own b ∧ ¬ new b) (fun a => own i a ∨ new a) l v pv) :
    StR W A k cc env Kp g Ok0 (setOwn own i fun a => own i a ∨ new a) (ρ.set i (some (pv, l))) s' := by
  have hi : i < ρ.length := by rw [S.len]; exact G.lt x i hx
  have kb' := (e.but (X := X)).trans kb
  have xl : ¬ X env.locals := fun h => (S.owned i _ (hX _ h)).2.1 rfl
  have xc : ∀ y c, env.cells.lookup y = some c → ¬ X c := fun y c hy h => (S.owned i _ (hX _ h)).2.2.1 y hy
  have hold : ∀ y w, Holds s.heap env y w → Holds s'.heap env y w := by
    intro y w hw
    rcases hw with ⟨h1, m1, h2, h3⟩ | ⟨h1, c, h2, h3⟩
    · exact .inl ⟨h1, m1, h2.at' fun o => kb'.keep _ o xl, h3⟩
    · obtain ⟨o, ho, hd⟩ := h3
      exact .inr ⟨h1, c, h2, o, kb'.keep c o (xc y c h2) ho, hd⟩
  refine S.step (X := X) kb' (fun b hb => S.priv b (.inr (.inr ⟨i, hX b hb⟩))) (fun b hb hn => absurd hn (hex b hb)) (let ⟨m, h⟩ := S.ns; ⟨m, h.at' fun o => kb'.keep _ o xl⟩) (fun y c hy => let ⟨v0, o, ho, hd⟩ := S.cells y c hy; ⟨v0, o, kb'.keep c o (xc y c hy) ho, hd⟩) (by rw [List.length_set]; exact S.len) ?_ ?_ ?_
  · intro y j pv' l' hy hj
    rw [get_set hi] at hj
    by_cases hji : j = i
    · subst hji
      rw [if_pos rfl] at hj
      cases hj
      have : y = x := G.inj y x j hy hx
      subst this
      refine ⟨v, hold _ _ h1, hv.move (X := fun _ => False) (KeepBut.refl _ _) (fun b hb hs => ⟨⟨hb.1.1, fun j' hj' => ?_⟩, fun h => h⟩) (fun b _ h => h) fun b hb => ?_⟩
      · unfold setOwn at hj'
        split at hj'
        · rcases hj' with h | h
          · exact hb.1.2 _ h
          · exact hb.2 h
        · exact hb.1.2 j' hj'
      · unfold setOwn; rw [if_pos rfl]; exact hb
    · rw [if_neg hji] at hj
      obtain ⟨w, h3, h4⟩ := S.get y j pv' l' hy hj
      refine ⟨w, hold y w h3, h4.move (X := X) kb' (fun b hb hs => ⟨⟨hb.1, fun j' hj' => ?_⟩, fun hxb => hb.2 i (hX b hxb)⟩) (fun b hb hxb => hji (S.inj j i b hb (hX b hxb))) fun b hb => ?_⟩
      · unfold setOwn at hj'
        split at hj'
        · rcases hj' with h | h
          · exact hb.2 _ h
          · obtain ⟨o, _, _, ho, _⟩ := hs
            rw [(hnew b h).1] at ho; cases ho
        · exact hb.2 j' hj'
      · unfold setOwn; rw [if_neg hji]; exact hb
  · intro j a hj
    unfold setOwn at hj
    split at hj
    · rename_i h
      subst h
      rcases hj with hj | hj
      · exact .inl ⟨_, hj⟩
      · exact .inr (hnew a hj)
    · exact .inl ⟨j, hj⟩
  · intro j j' a hj hj'
    unfold setOwn at hj hj'
    split at hj <;> split at hj'
    · rename_i p q; rw [p, q]
    · rename_i p q
      rcases hj with hj | hj
      · rw [p]; exact S.inj i j' a hj hj'
      · exact absurd (hnew a hj).1 (S.owned j' a hj').1
    · rename_i p q
      rcases hj' with hj' | hj'
      · rw [q]; exact S.inj j i a hj hj'
      · exact absurd (hnew a hj').1 (S.owned j a hj).1
    · exact S.inj j j' a hj hj'

/-- a scratch place that no name sees -/
theorem StR.scratch {C : Addr} {h' : Heap} {tk : Nat} (S : StR W A k cc env Kp g Ok0 own ρ s) (sb : Heap.SameBut C s.heap h') (hC : ¬ SeqAt s.heap C) (hp : ¬ Priv env own C) (hk : ∀ o, ¬ Kp C o) (hex : Ok0 C) :
    StR W A k cc env Kp g Ok0 own ρ { s with heap := h', toks := tk } := by
  have kb : KeepBut (fun b => b = C) s { s with heap := h', toks := tk } := KeepBut.of_same (X := fun b => b = C) sb rfl tk
  have xl : ¬ env.locals = C := fun h => hp (.inl h.symm)
  have xc : ∀ y c, env.cells.lookup y = some c → ¬ c = C := fun y c hy h => hp (.inr (.inl ⟨y, h ▸ hy⟩))
  refine S.step (X := fun b => b = C) kb (fun b hb => by have hb' : b = C := hb; rw [hb']; exact hk) (fun b hb _ => by have hb' : b = C := hb; rw [hb']; exact ⟨hex, fun i hi => hp (.inr (.inr ⟨i, hi⟩))⟩)
    (let ⟨m, h⟩ := S.ns; ⟨m, h.at' fun o => kb.keep _ o xl⟩) (fun y c hy => let ⟨v0, o, ho, hd⟩ := S.cells y c hy; ⟨v0, o, kb.keep c o (xc y c hy) ho, hd⟩) S.len ?_ (fun i a h => .inl ⟨i, h⟩) S.inj
  intro y j pv l hy hj
  obtain ⟨w, h3, h4⟩ := S.get y j pv l hy hj
  refine ⟨w, ?_, h4.move kb (fun b hb hs => ⟨hb, fun q => hC ?_⟩) (fun b hb q => hp (.inr (.inr ⟨j, ?_⟩))) fun _ h => h⟩
  · rcases h3 with ⟨h1, m1, h2, h3⟩ | ⟨h1, c, h2, o, ho, hd⟩
    · exact .inl ⟨h1, m1, h2.at' fun o => kb.keep _ o xl, h3⟩
    · exact .inr ⟨h1, c, h2, o, kb.keep c o (xc y c h2) ho, hd⟩
  · have hb' : b = C := q
    exact hb' ▸ hs
  · have hb' : b = C := q
    exact hb' ▸ hb
end
end Mine
end
section
namespace Mine
open Builtin
section
variable {W : Wld} {Γ : FEnv} {k : Nat} {cc : CC} {A : Around} {env : Env} {Kp : Addr → Obj → Prop} {g : Shared} {Ok0 : Addr → Prop} {own own' : Nat → Addr → Prop} {ρ ρ' : List Slot} {s s' : Shared}

theorem rows_all {h : Heap} {Ok Ok' : Addr → Prop} (hk : ∀ b, Ok b → Ok' b) : ∀ {bs : List Addr} {xs : List PV}, (∀ b ∈ bs, Ok' b) → RowsRep h Ok bs xs → RepAll h Ok' (bs.map Value.ref) xs
  | _, _, _, .nil => .nil
  | _, _, hb, .cons q r t => .cons (.list (hb _ (.head _)) q (r.weaken hk)) (rows_all hk (fun b hm => hb b (.tail _ hm)) t)

def thaw : Slot → Slot := fun s => s.bind fun x => match x.1 with | .dict _ => none | y => some (y, 0)
theorem freeze1_eq (ρ : List Slot) (i : Nat) : freeze1 ρ i = ρ.modify i thaw := rfl
theorem get_freeze1 (i j : Nat) : ((freeze1 ρ i)[j]?).join = if i = j then thaw (ρ[j]?).join else (ρ[j]?).join := by
  rw [freeze1_eq, List.getElem?_modify]
  by_cases h : i = j
  · subst h
    simp only [if_true]
    cases ρ[i]? with
    | none => rfl
    | some o => rfl
  · simp only [if_neg h]
    cases ρ[j]? <;> rfl

theorem StR.freeze1 (S : StR W A k cc env Kp g Ok0 own ρ s) (i : Nat) : StR W A k cc env Kp g Ok0 (setOwn own i fun _ => False) (freeze1 ρ i) s := by
  have ok' : ∀ b, Okc Ok0 own b → Okc Ok0 (setOwn own i fun _ => False) b := fun b hb => ⟨hb.1, fun j hj => by
    unfold setOwn at hj
    split at hj
    · exact hj
    · exact hb.2 j hj⟩
  have okown : ∀ b, own i b → Okc Ok0 (setOwn own i fun _ => False) b := fun b hb => ⟨(S.owned i b hb).2.2.2, fun j hj => by
    unfold setOwn at hj
    split at hj
    · exact hj
    · rename_i h; exact h (S.inj j i b hj hb)⟩
  refine S.step (X := fun _ => False) (KeepBut.refl _ _) (fun _ h => h.elim) (fun _ h => h.elim) S.ns S.cells (by rw [freeze1_eq, List.length_modify]; exact S.len) ?_ ?_ ?_
  · intro y j pv l hy hj
    rw [get_freeze1] at hj
    by_cases h : i = j
    · subst h
      rw [if_pos rfl] at hj
      cases hρ : (ρ[i]?).join with
      | none => rw [hρ] at hj; cases hj
      | some x =>
        obtain ⟨pv0, l0⟩ := x
        rw [hρ] at hj
        obtain ⟨w, h3, h4⟩ := S.get y i pv0 l0 hy hρ
        refine ⟨w, h3, ?_⟩
        have pl : pv = pv0 ∧ l = 0 ∧ ∀ es, pv0 ≠ .dict es := by
          cases pv0 <;> first | (cases hj; exact ⟨rfl, rfl, fun es h => nomatch h⟩) | cases hj
        obtain ⟨rfl, rfl, hnd⟩ := pl
        cases h4 with
        | zero r => exact .zero (r.weaken ok')
        | one ho q r => exact .zero (.list (okown _ ho) q (r.weaken ok'))
        | two ho hb hn q r => exact .zero (.list (okown _ ho) q (rows_all ok' (fun b hm => okown b (hb b hm)) r))
        | dict ho q => exact absurd rfl (hnd _)
    · rw [if_neg h] at hj
      obtain ⟨w, h3, h4⟩ := S.get y j pv l hy hj
      refine ⟨w, h3, h4.move (X := fun _ => False) (KeepBut.refl _ _) (fun b hb _ => ⟨ok' b hb, fun h => h⟩) (fun _ _ h => h) fun b hb => ?_⟩
      unfold setOwn; rw [if_neg (Ne.symm h)]; exact hb
  · intro j a hj
    unfold setOwn at hj
    split at hj
    · exact hj.elim
    · exact .inl ⟨j, hj⟩
  · intro j j' a hj hj'
    unfold setOwn at hj hj'
    split at hj
    · exact hj.elim
    · split at hj'
      · exact hj'.elim
      · exact S.inj j j' a hj hj'
theorem StR.freeze (is : List Nat) : ∀ {own : Nat → Addr → Prop} {ρ : List Slot}, StR W A k cc env Kp g Ok0 own ρ s → ∃ own', StR W A k cc env Kp g Ok0 own' (freeze is ρ) s := by
  induction is with
  | nil => exact fun S => ⟨_, S⟩
  | cons i is ih => exact fun S => ih (S.freeze1 i)

/-! ## statements -/
/-- how a block ends -/
def FlowIs (W : Wld) (Ok0 : Addr → Prop) (s : Shared) : Fl → Flow → Prop
  | .next, f => f = .next
  | .brk, f => f = .brk
  | .cont, f => f = .cont
  | .ret z, f => ∃ v, f = .ret v ∧ Rep s.heap Ok0 v z

/-- what a piece of code does to the frame -/
def Steps (W : Wld) (k : Nat) (cc : CC) (run : List Slot → Option (Fl × List Slot)) (t : Env → Sem Flow) : Prop :=
  ∀ A env Kp g Ok0 own ρ s fl ρ', StR W A k cc env Kp g Ok0 own ρ s → run ρ = some (fl, ρ') →
    ∀ (E : Value → Shared → Prop) (Q : Flow → Shared → Prop), (∀ own' s' f, StR W A k cc env Kp g Ok0 own' ρ' s' → FlowIs W Ok0 s' fl f → Q f s') → wpAny W.M A (t env) Q E s
def SS (W : Wld) (Γ : FEnv) (k : Nat) (cc : CC) (m : MS) (st : Stmt) : Prop := Steps W k cc (Mine.exec Γ m) (PySem.exec st)
def SB (W : Wld) (Γ : FEnv) (k : Nat) (cc : CC) (m : MS) (b : List Stmt) : Prop := Steps W k cc (Mine.exec Γ m) (PySem.execs b)
end
end Mine
end
section
namespace Mine
open Builtin
section
variable {W : Wld} {Γ : FEnv} {k : Nat} {cc : CC}

theorem sb_skip : SB W Γ k cc .skip [] := by
  intro A env Kp g Ok0 own ρ s fl ρ' S e E Q q
  cases e
  exact wpAny_execs_nil (q own s _ S rfl)
theorem sb_seq {a b : MS} {st : Stmt} {rest : List Stmt} (ha : SS W Γ k cc a st) (hb : SB W Γ k cc b rest) : SB W Γ k cc (.seq a b) (st :: rest) := by
  intro A env Kp g Ok0 own ρ s fl ρ' S e E Q q
  simp only [Mine.exec] at e
  split at e
  · rename_i ρ1 h1
    refine wpAny_execs_cons (ha A env Kp g Ok0 own ρ s _ _ S h1 E _ fun own' s' f S' hf => ?_)
    cases hf
    exact hb A env Kp g Ok0 own' ρ1 s' fl ρ' S' e E Q q
  · rename_i hne
    refine wpAny_execs_cons (ha A env Kp g Ok0 own ρ s _ _ S e E _ fun own' s' f S' hf => ?_)
    cases fl with
    | next => exact absurd e (hne ρ')
    | brk => cases hf; exact q own' s' _ S' rfl
    | cont => cases hf; exact q own' s' _ S' rfl
    | ret z => obtain ⟨v, rfl, hv⟩ := hf; exact q own' s' _ S' ⟨v, rfl, hv⟩
theorem ss_pass {p : Pos} : SS W Γ k cc .skip (.Pass p) := by
  intro A env Kp g Ok0 own ρ s fl ρ' S e E Q q
  cases e
  exact wpAny_Pass (q own s _ S rfl)
theorem ss_brk {p : Pos} : SS W Γ k cc .brk (.Break p) := by
  intro A env Kp g Ok0 own ρ s fl ρ' S e E Q q
  cases e
  exact wpAny_Break (q own s _ S rfl)
theorem ss_cont {p : Pos} : SS W Γ k cc .cont (.Continue p) := by
  intro A env Kp g Ok0 own ρ s fl ρ' S e E Q q
  cases e
  exact wpAny_Continue (q own s _ S rfl)
theorem ss_ret {me : ME} {e : Expr} {p : Pos} (h : SE W Γ k cc me e) : SS W Γ k cc (.ret me) (.Return (some e) p) := by
  intro A env Kp g Ok0 own ρ s fl ρ' S e' E Q q
  simp only [Mine.exec] at e'
  split at e'
  · rename_i v h1
    cases e'
    obtain ⟨own', S'⟩ := S.freeze (esc me)
    refine wpAny_Return_some (h A env _ _ s v 0 S'.here h1 E _ fun w s' ex r => ?_)
    exact q own' s' _ (S'.ext ex) ⟨w, rfl, r.rep0.weaken fun b hb => hb.1⟩
  · cases e'
theorem ss_ret_none {p : Pos} : SS W Γ k cc (.ret (.lit .none)) (.Return none p) := by
  intro A env Kp g Ok0 own ρ s fl ρ' S e' E Q q
  simp only [Mine.exec, esc, freeze, List.foldl_nil, evA, Ans.of] at e'
  cases e'
  exact wpAny_Return_none (q own s _ S ⟨.none, rfl, .none⟩)
theorem ss_ite {c : ME} {a b : MS} {e : Expr} {body orelse : List Stmt} {p : Pos} (hc : ST W Γ k cc c e) (ha : SB W Γ k cc a body) (hb : SB W Γ k cc b orelse) : SS W Γ k cc (.ite c a b) (.If e body orelse p) := by
  intro A env Kp g Ok0 own ρ s fl ρ' S e' E Q q
  obtain ⟨own', S'⟩ := S.freeze (escT c)
  simp only [Mine.exec] at e'
  split at e'
  · rename_i h1
    refine wpAny_If (hc A env _ _ s true S'.here h1 E _ fun s' ex => ?_)
    rw [if_pos rfl]
    exact ha A env Kp g Ok0 own' _ s' fl ρ' (S'.ext ex) e' E Q q
  · rename_i h1
    refine wpAny_If (hc A env _ _ s false S'.here h1 E _ fun s' ex => ?_)
    rw [if_neg (by decide)]
    exact hb A env Kp g Ok0 own' _ s' fl ρ' (S'.ext ex) e' E Q q
  · cases e'

def notComp : Expr → Bool
  | .ListComp _ _ _ _ => false
  | .SetComp _ _ _ _ => false
  | .DictComp _ _ _ _ _ => false
  | _ => true
theorem swaps_plain {e : Expr} (h : notComp e = true) (t : Option Expr) (n : Nat) (env : Env) : swapsWith e t n env = pure false := by
  unfold swapsWith
  cases e <;> first | rfl | cases h
theorem ss_asg (G : cc.Good) {x : Str} {i : Nat} {me : ME} {e : Expr} {p p' : Pos} (hx : cc.σ x = some i) (hn : notComp e = true) (h : SE W Γ k cc me e) : SS W Γ k cc (.asg i false me) (.Assign [.Name x p'] e p) := by
  intro A env Kp g Ok0 own ρ s fl ρ' S e' E Q q
  simp only [Mine.exec] at e'
  split at e'
  · rename_i v h1
    cases e'
    obtain ⟨own', S'⟩ := S.freeze (esc me)
    refine wpAny_Assign_Name (h A env _ _ s v 0 S'.here h1 E _ fun w s' ex r => ?_) (swaps_plain hn _ _ _)
    have hown : ownOf false v = 0 := by cases v <;> rfl
    rw [hown] at q
    exact S'.store G (new := fun _ => False) ex hx (fun _ h => h.elim) (.zero (r.rep0.weaken fun b hb => ⟨hb, fun h => h⟩)) fun s'' _ S'' => q _ s'' _ S'' rfl
  · cases e'
/-- a list made anew -/
def SN (W : Wld) (Γ : FEnv) (k : Nat) (cc : CC) (me : ME) (e : Expr) : Prop := ∀ A env Ok ρ s x l, Here W A k cc env Ok ρ s → (evA Γ me ρ).val = some (x, l) → l = 0 ∧ ∃ xs, x = .list xs ∧ GetsL W A Ok s (eval e env) xs
theorem sn_list {me : ME} {es : List Expr} {pos : Pos} (h : SL W Γ k cc me es) : SN W Γ k cc (.list me) (.List es pos) := by
  intro A env Ok ρ s z lz H e
  simp only [evA, Ans.of] at e
  cases h1 : (evA Γ me ρ).lst with
  | none => rw [h1] at e; cases e
  | some xs =>
    rw [h1] at e
    simp only [Option.bind_some, lim] at e
    split at e
    · rename_i hz
      cases e
      refine ⟨rfl, xs, rfl, fun E Q q => ?_⟩
      refine List_ (h A env Ok ρ s xs pos H h1 E _ fun vs s' e1 r1 => ?_)
      refine wpAny_newList ?_ (by rw [r1.length]; exact lim_size hz)
      refine newlist_at 0 r1 E _ fun a vs s'' e2 ha hl r => ?_
      exact q a vs s'' (e1.trans e2) (e1.fresh ha) hl r
    · cases e
theorem ss_own (G : cc.Good) {x : Str} {i : Nat} {me : ME} {e : Expr} {p p' : Pos} (hx : cc.σ x = some i) (hn : notComp e = true) (h : SN W Γ k cc me e) : SS W Γ k cc (.asg i true me) (.Assign [.Name x p'] e p) := by
  intro A env Kp g Ok0 own ρ s fl ρ' S e' E Q q
  simp only [Mine.exec] at e'
  split at e'
  · rename_i v h1
    cases e'
    obtain ⟨own', S'⟩ := S.freeze (esc me)
    obtain ⟨_, xs, rfl, hg⟩ := h A env _ _ s v 0 S'.here h1
    refine wpAny_Assign_Name (hg E _ fun a vs s' ex ha hl r => ?_) (swaps_plain hn _ _ _)
    refine S'.store G (new := fun b => b = a) ex hx (fun b hb => ?_) (.one rfl hl r) fun s'' _ S'' => q _ s'' _ S'' rfl
    have hb' : b = a := hb
    subst hb'
    obtain ⟨_, ho⟩ := hl
    exact ⟨ha, by rw [ho]; exact fun h => nomatch h⟩
  · cases e'

/-- a list comprehension that is stored -/
theorem ss_comp (G : cc.Good) {y : Str} {i : Nat} {own : Bool} {elt iter : Expr} {x : Str} {px : Pos} {ifs : List Expr} {scope : Scope} {pos p p' : Pos} {me src cond : ME} (hy : cc.σ y = some i)
    (hc : CompOk cc scope x) (hs : SI W Γ k cc false (fun ρ => (evA Γ src ρ).its) iter) (hns : notSet iter = true)
    (he : SE W Γ k (cc.comp scope x) me elt) (hi : IfsIs W Γ k (cc.comp scope x) cond ifs) : SS W Γ k cc (.asg i own (.comp me src cond)) (.Assign [.Name y p'] (.ListComp elt [⟨.Name x px, iter, ifs, 0⟩] scope pos) p) := by
  intro A env Kp g Ok0 own0 ρ s fl ρ' S e E Q q
  simp only [Mine.exec] at e
  split at e
  · rename_i z h0
    obtain ⟨own1, S1⟩ := S.freeze (esc (.comp me src cond))
    generalize freeze (esc (.comp me src cond)) ρ = ρ1 at *
    simp only [evA, Ans.of] at h0
    cases h1 : (evA Γ src ρ1).its with
    | none => rw [h1] at h0; cases h0
    | some xs =>
      rw [h1] at h0
      simp only [Option.bind_some] at h0
      cases h2 : compF (fun x => (evA Γ cond (ρ1 ++ [some (x, 0)])).tru) (fun x => (evA Γ me (ρ1 ++ [some (x, 0)])).val) xs with
      | none => rw [h2] at h0; cases h0
      | some ys =>
        rw [h2] at h0
        simp only [Option.bind_some, lim] at h0
        split at h0
        · rename_i hz
          cases h0
          cases e
          -- the stored state
          have store : ∀ (D C : Addr) (s' : Shared) (vs : List Value) (Q' : Unit → Shared → Prop), s.heap.get? D = none → Ext s s' → s'.heap.PlainList D vs.toArray → RepAll s'.heap (fun b => Okc Ok0 own1 b ∧ b ≠ D) vs ys →
              (∀ s'' own2, (∀ j a, own2 j a → own1 j a ∨ a = D) → KeepBut (fun b => b = env.locals ∨ ∃ y, env.cells.lookup y = some b) s' s'' → StR W A k cc env Kp g Ok0 own2 (ρ1.set i (some (.list ys, ownOf own (.list ys)))) s'' → Q' () s'') → wpAny W.M A (storeName env y (.ref D)) Q' E s' := by
            intro D C s' vs Q' hD ex pl ra q'
            cases own with
            | true =>
              refine S1.store G (new := fun b => b = D) ex hy (fun b hb => ?_) (.one rfl pl ra) fun s'' kb S'' => q' s'' _ (fun j a h => ?_) kb S''
              · have hb' : b = D := hb
                subst hb'
                obtain ⟨_, ho⟩ := pl
                exact ⟨hD, by rw [ho]; exact fun h => nomatch h⟩
              · unfold setOwn at h
                split at h
                · exact .inr h
                · exact .inl h
            | false =>
              refine S1.store G (new := fun _ => False) ex hy (fun _ h => h.elim) (.zero (.list ⟨S1.here.fresh D hD, fun h => h⟩ pl (ra.weaken fun b hb => ⟨hb.1, fun h => h⟩))) fun s'' kb S'' => q' s'' _ (fun j a h => ?_) kb S''
              unfold setOwn at h
              split at h
              · exact h.elim
              · exact .inl h
          by_cases hsw : (env.blockKind == .function && env.kindOf y == some .local && p'.line == pos.line && !(scope.names.any fun (n, k) => n == y && (k == .local || k == .cell))) = true
          · have hw : swapsWith (.ListComp elt [⟨.Name x px, iter, ifs, 0⟩] scope pos) (some (.Name y p')) p.line env = pure true := by
              rw [← hsw]; rfl
            rw [exec_Assign_Name_used _ _ _ _ hw]
            refine wpAny_bind (wpAny_standAt (wpAny_bind ?_))
            show wpAny _ A (do let _ ← comprehension (.ListComp elt [⟨.Name x px, iter, ifs, 0⟩] scope pos) scope env _ (newList []) false (eval iter env) (some (assign (.Name y p') env))) _ _ s
            refine wpAny_bind (comp_sound (use := some (assign (.Name y p') env)) (Q := fun _ s' => wpAny W.M A _ _ E s') S1.here hc G.lt hs hns he hi h1 h2 hz fun D C s' vs m' hD hC hDC ex pl ra ns => ?_)
            show wpAny W.M A (assign (.Name y p') env (.ref D)) _ E s'
            refine wpAny_assign_Name (store D C s' vs _ hD ex pl ra fun s'' own2 how kb S2 => ?_)
            have hCX : ¬ (C = env.locals ∨ ∃ y, env.cells.lookup y = some C) := by
              rintro (rfl | ⟨y', hy'⟩)
              · obtain ⟨_, _, _, _, ho, _⟩ := S1.ns; rw [hC] at ho; cases ho
              · obtain ⟨_, _, ho, _⟩ := S1.cells y' C hy'; rw [hC] at ho; cases ho
            have ns2 : s''.heap.Ns C m' := ns.at' fun o => kb.keep C o hCX
            refine ⟨m', ns2, fun h' sb => wpAny_pure (wpAny_pure (q own2 _ _ (S2.scratch (tk := s''.toks) sb (ns_seq ns2) ?_ (fun o hk => ?_) ?_) rfl))⟩
            · rintro (h | h | ⟨j, h⟩)
              · exact hCX (.inl h)
              · exact hCX (.inr h)
              · rcases how j C h with h | h
                · exact (S1.owned j C h).1 hC
                · exact hDC h.symm
            · have := S1.kept C o hk
              rw [hC] at this; cases this
            · exact S1.fresh C hC
          · have hw : swapsWith (.ListComp elt [⟨.Name x px, iter, ifs, 0⟩] scope pos) (some (.Name y p')) p.line env = pure false := by
              rw [← Bool.eq_false_iff.mpr hsw]; rfl
            refine wpAny_Assign_Name ?_ hw
            rw [eval_ListComp]
            refine comp_sound (use := none) S1.here hc G.lt hs hns he hi h1 h2 hz fun D C s' vs m' hD hC hDC ex pl ra ns => ?_
            refine ⟨m', ns, fun h' sb => ?_⟩
            have kbc := KeepBut.of_same (X := fun b => b = C) sb rfl s'.toks
            have ex' : Ext s { s' with heap := h' } := KeepBut.ext (X := fun b => b = C) (ex.but.trans kbc) (by rintro b rfl; exact hC)
            refine store D C _ vs _ hD ex' (pl.at fun o => sb.extBut D o hDC) (ra.but kbc fun b hb hs => ⟨hb, ?_⟩) fun s'' own2 _ kb S2 => q own2 s'' _ S2 rfl
            rintro rfl
            exact ns_seq ns hs
        · cases h0
  · cases e
end
end Mine
end
section
namespace Mine
open Builtin
section
variable {W : Wld} {Γ : FEnv} {k : Nat} {cc : CC} {A : Around} {env : Env} {Kp : Addr → Obj → Prop} {g : Shared} {Ok0 : Addr → Prop} {own own' : Nat → Addr → Prop} {ρ ρ' : List Slot} {s s' : Shared}

theorem okc_none (i : Nat) {b : Addr} (h : Okc Ok0 own b) : Okc Ok0 (setOwn own i fun _ => False) b := ⟨h.1, fun j hj => by
  unfold setOwn at hj
  split at hj
  · exact hj
  · exact h.2 j hj⟩
theorem StR.frame_not (S : StR W A k cc env Kp g Ok0 own ρ s) {b : Addr} (hs : SeqAt s.heap b) : ¬ (b = env.locals ∨ ∃ y, env.cells.lookup y = some b) := by
  rintro (rfl | ⟨x, hx⟩)
  · obtain ⟨m, hm⟩ := S.ns; exact ns_seq hm hs
  · obtain ⟨v0, hv⟩ := S.cells x b hx; exact cell_seq hv hs

/-- a value at level 0 is stored -/
theorem StR.store0 (G : cc.Good) {x : Str} {i : Nat} {v : Value} {pv : PV} {E : Value → Shared → Prop} {Q : Unit → Shared → Prop} (S : StR W A k cc env Kp g Ok0 own ρ s) (hx : cc.σ x = some i) (hv : Rep s.heap (Okc Ok0 own) v pv)
    (q : ∀ s', KeepBut (fun b => b = env.locals ∨ ∃ y, env.cells.lookup y = some b) s s' → StR W A k cc env Kp g Ok0 (setOwn own i fun _ => False) (ρ.set i (some (pv, 0))) s' → Q () s') : wpAny W.M A (storeName env x v) Q E s :=
  S.store G (.refl s) hx (new := fun _ => False) (fun _ h => h.elim) (.zero (hv.weaken fun b hb => ⟨hb, fun h => h⟩)) q

/-- names that are stored in order -/
inductive Names (cc : CC) : List Expr → List Nat → Prop
  | nil : Names cc [] []
  | cons {x : Str} {p : Pos} {i : Nat} {es : List Expr} {is : List Nat} : cc.σ x = some i → Names cc es is → Names cc (.Name x p :: es) (i :: is)
theorem Names.length {es : List Expr} {is : List Nat} (h : Names cc es is) : (assignEach es env).length = is.length := by
  induction h with
  | nil => rfl
  | cons _ _ ih => show (_ :: assignEach _ env).length = _; rw [List.length_cons, ih, List.length_cons]
theorem Names.nostar {es : List Expr} {is : List Nat} (h : Names cc es is) : (assignEach es env).findIdx? (·.1) = none := by
  induction h with
  | nil => rfl
  | cons _ _ ih =>
    show ((false, _) :: assignEach _ env).findIdx? (·.1) = none
    rw [List.findIdx?_cons, ih]; rfl
theorem storeAll (G : cc.Good) {E : Value → Shared → Prop} {Q : Unit → Shared → Prop} {es : List Expr} {is : List Nat} (h : Names cc es is) : ∀ {own : Nat → Addr → Prop} {ρ : List Slot} {s : Shared} {vs : List Value} {xs : List PV},
    StR W A k cc env Kp g Ok0 own ρ s → RepAll s.heap (Okc Ok0 own) vs xs → is.length = xs.length → (∀ own' s', StR W A k cc env Kp g Ok0 own' (setAll is xs ρ) s' → Q () s') →
    wpAny W.M A (assignInOrder ((assignEach es env).map (·.2)) vs) Q E s := by
  induction h with
  | nil =>
    intro own ρ s vs xs S r hl q
    cases r with
    | nil => exact wpAny_assignInOrder_none (q own s S)
    | cons _ _ => simp at hl
  | cons hx hr ih =>
    intro own ρ s vs xs S r hl q
    cases r with
    | nil => simp at hl
    | cons r rs =>
      refine wpAny_assignInOrder_more (wpAny_assign_Name (S.store0 G hx r fun s' kb S' => ?_))
      refine ih S' (rs.but kb fun b hb hs => ⟨okc_none _ hb, S.frame_not hs⟩) (by simpa using hl) q

/-- what a loop's target does -/
inductive Target (cc : CC) : Expr → List Nat → Prop
  | name {x : Str} {p : Pos} {i : Nat} : cc.σ x = some i → Target cc (.Name x p) [i]
  | tup {es : List Expr} {is : List Nat} {n : Nat} {p : Pos} : Names cc es is → is.length ≠ 1 → Target cc (.Tuple es n p) is

theorem tuple_stored (G : cc.Good) {es : List Expr} {is : List Nat} {n : Nat} {p : Pos} {a : Addr} {vs : List Value} {xs : List PV} {E : Value → Shared → Prop} {Q : Unit → Shared → Prop} (h : Names cc es is) (S : StR W A k cc env Kp g Ok0 own ρ s)
    (ht : PlainTup s.heap a vs.toArray) (r : RepAll s.heap (Okc Ok0 own) vs xs) (hl : is.length = xs.length) (q : ∀ own' s', StR W A k cc env Kp g Ok0 own' (setAll is xs ρ) s' → Q () s') :
    wpAny W.M A (assign (.Tuple es n p) env (.ref a)) Q E s := by
  obtain ⟨m, ho⟩ := ht
  refine wpAny_assign_Tuple S.room.hd ⟨_, ho, rfl, m, rfl⟩ (by rw [h.length, hl, List.size_toArray, r.length]) h.nostar fun h' hx => ?_
  have e : Ext s { s with heap := h' } := ⟨⟨_, _, rfl⟩, fun b o hb => hx b o (fun q => by rw [q, get_size] at hb; cases hb) hb⟩
  have := storeAll (W := W) (A := A) G h (E := E) (Q := Q) (S.ext e) (r.ext e) hl q
  simpa using this

theorem target_stored (G : cc.Good) {t : Expr} {is : List Nat} {v : Value} {x : PV} {E : Value → Shared → Prop} {Q : Unit → Shared → Prop} (h : Target cc t is) (S : StR W A k cc env Kp g Ok0 own ρ s)
    (r : Rep s.heap (Okc Ok0 own) v x) (hb : bindT is x ρ = some ρ') (q : ∀ own' s', StR W A k cc env Kp g Ok0 own' ρ' s' → Q () s') : wpAny W.M A (assign t env v) Q E s := by
  cases h with
  | name hx =>
    cases hb
    exact wpAny_assign_Name (S.store0 G hx r fun s' _ S' => q _ s' S')
  | tup hn h1 =>
    have hb' : ∃ xs, x = .tup xs ∧ is.length = xs.length ∧ ρ' = setAll is xs ρ := by
      cases is with
      | nil =>
        cases x <;> simp only [bindT] at hb <;> try (cases hb; done)
        split at hb
        · cases hb; exact ⟨_, rfl, by assumption, rfl⟩
        · cases hb
      | cons i is =>
        cases is with
        | nil => simp at h1
        | cons j is =>
          cases x <;> simp only [bindT] at hb <;> try (cases hb; done)
          split at hb
          · cases hb; exact ⟨_, rfl, by assumption, rfl⟩
          · cases hb
    obtain ⟨xs, rfl, hl, rfl⟩ := hb'
    cases r with
    | tup _ ht ra => exact tuple_stored G hn S ht ra hl q
end
end Mine
end
section
namespace Mine
open Builtin
section
variable {W : Wld} {Γ : FEnv} {k : Nat} {cc : CC} {A : Around} {env : Env} {Kp Kp' : Addr → Obj → Prop} {g : Shared} {Ok0 Ok0' : Addr → Prop} {own own' : Nat → Addr → Prop} {ρ ρ' : List Slot} {s s' : Shared}

/-! while -/
theorem ss_while {c : ME} {m : MS} {e : Expr} {body : List Stmt} {p : Pos} (hc : ST W Γ k cc c e) (hm : SB W Γ k cc m body) : SS W Γ k cc (.while_ c m) (.While e body [] p) := by
  intro A env Kp g Ok0 own ρ s fl ρ' S e' E Q q
  simp only [Mine.exec] at e'
  refine wpAny_While (codeAny_whileLoop (I := fun n s' => ∃ own1 ρ1, StR W A k cc env Kp g Ok0 own1 ρ1 s' ∧ whileL (fun ρ => (evA Γ c (freeze (escT c) ρ)).tru.map fun t => (t, freeze (escT c) ρ)) (Mine.exec Γ m) n ρ1 = some (fl, ρ')) ?_ FUEL ⟨own, ρ, S, e'⟩)
  rintro n s' ⟨own1, ρ1, S1, h1⟩
  cases n with
  | zero => cases h1
  | succ n =>
    obtain ⟨own2, S2⟩ := S1.freeze (escT c)
    simp only [whileL] at h1
    cases ht : (evA Γ c (freeze (escT c) ρ1)).tru with
    | none => rw [ht] at h1; cases h1
    | some t =>
      rw [ht] at h1
      simp only [Option.map_some] at h1
      refine hc A env _ _ s' t S2.here ht _ _ fun s'' ex => ?_
      have S3 := S2.ext ex
      cases t with
      | false =>
        rw [if_neg (by decide)]
        simp only at h1
        cases h1
        exact wpAny_execs_nil (q own2 s'' _ S3 rfl)
      | true =>
        rw [if_pos rfl]
        simp only at h1
        cases hb : Mine.exec Γ m (freeze (escT c) ρ1) with
        | none => rw [hb] at h1; cases h1
        | some r =>
          obtain ⟨fl1, ρ2⟩ := r
          refine hm A env Kp g Ok0 own2 _ s'' fl1 ρ2 S3 hb _ _ fun own3 s3 f S4 hf => ?_
          rw [hb] at h1
          cases fl1 with
          | next => cases hf; exact ⟨n, Nat.lt_succ_self n, own3, ρ2, S4, h1⟩
          | cont => cases hf; exact ⟨n, Nat.lt_succ_self n, own3, ρ2, S4, h1⟩
          | brk => cases hf; cases h1; exact q own3 s3 _ S4 rfl
          | ret z => obtain ⟨v, rfl, hv⟩ := hf; cases h1; exact q own3 s3 _ S4 ⟨v, rfl, hv⟩

/-! for -/
theorem StR.scratchX {X : Addr → Prop} (S : StR W A k cc env Kp g Ok0 own ρ s) (kb : KeepBut X s s') (hC : ∀ b, X b → ¬ Okc Ok0 own b) (hp : ∀ b, X b → ¬ Priv env own b) (hk : ∀ b, X b → ∀ o, ¬ Kp b o) (hex : ∀ b, X b → s'.heap.get? b ≠ none) :
    StR W A k cc env Kp g Ok0 own ρ s' := by
  have xl : ¬ X env.locals := fun h => hp _ h (.inl rfl)
  have xc : ∀ y c, env.cells.lookup y = some c → ¬ X c := fun y c hy h => hp _ h (.inr (.inl ⟨y, hy⟩))
  refine S.step (X := X) kb hk (fun b hb hn => absurd hn (hex b hb))
    (let ⟨m, h⟩ := S.ns; ⟨m, h.at' fun o => kb.keep _ o xl⟩) (fun y c hy => let ⟨v0, o, ho, hd⟩ := S.cells y c hy; ⟨v0, o, kb.keep c o (xc y c hy) ho, hd⟩) S.len ?_ (fun i a h => .inl ⟨i, h⟩) S.inj
  intro y j pv l hy hj
  obtain ⟨w, h3, h4⟩ := S.get y j pv l hy hj
  refine ⟨w, ?_, h4.move kb (fun b hb hs => ⟨hb, fun q => hC b q hb⟩) (fun b hb q => hp b q (.inr (.inr ⟨j, hb⟩))) fun _ h => h⟩
  rcases h3 with ⟨h1, m1, h2, h3⟩ | ⟨h1, c, h2, o, ho, hd⟩
  · exact .inl ⟨h1, m1, h2.at' fun o => kb.keep _ o xl, h3⟩
  · exact .inr ⟨h1, c, h2, o, kb.keep c o (xc y c h2) ho, hd⟩

/-- more is kept, less is ok -/
theorem StR.more (S : StR W A k cc env Kp g Ok0 own ρ s) (hK : ∀ b o, Kp b o → Kp' b o) (hk : ∀ b o, Kp' b o → s.heap.get? b = some o) (hp : ∀ b, Priv env own b → ∀ o, ¬ Kp' b o) (hfr : Fresh Ok0' s)
    (ho : ∀ i a, own i a → Ok0' a) (hok : ∀ b, Okc Ok0 own b → SeqAt s.heap b → (∀ x, x = b → ∃ y i pv l, cc.σ y = some i ∧ (ρ[i]?).join = some (pv, l)) → Ok0' b) : StR W A k cc env Kp' g Ok0' own ρ s := by
  refine ⟨S.room, fun h hh => S.on h fun b o hb => hh b o (hK b o hb), hk, S.same, hfr, S.kind, S.globals, S.builtins, S.len, S.gl, S.cl, S.st, ?_, S.ns, S.cells, S.cinj, hp, fun i a h => ?_, S.inj⟩
  · intro y j pv l hy hj
    obtain ⟨w, h3, h4⟩ := S.get y j pv l hy hj
    refine ⟨w, h3, h4.move (X := fun _ => False) (KeepBut.refl _ _) (fun b hb hs => ⟨⟨hok b hb hs fun _ _ => ⟨y, j, pv, l, hy, hj⟩, hb.2⟩, fun h => h⟩) (fun _ _ h => h) fun _ h => h⟩
  · obtain ⟨h1, h2, h3, _⟩ := S.owned i a h
    exact ⟨h1, h2, h3, ho i a h⟩

/-- less is kept, more is ok -/
theorem StR.less (S : StR W A k cc env Kp' g Ok0' own ρ s) (hK : ∀ b o, Kp b o → Kp' b o) (hon : ∀ h : Heap, (∀ b o, Kp b o → h.get? b = some o) → W.On h) (hok : ∀ b, Ok0' b → Ok0 b) : StR W A k cc env Kp g Ok0 own ρ s := by
  refine ⟨S.room, hon, fun b o hb => S.kept b o (hK b o hb), S.same, fun a ha => hok a (S.fresh a ha), S.kind, S.globals, S.builtins, S.len, S.gl, S.cl, S.st, ?_, S.ns, S.cells, S.cinj, fun b hb o hk => S.priv b hb o (hK b o hk), fun i a h => ?_, S.inj⟩
  · intro y j pv l hy hj
    obtain ⟨w, h3, h4⟩ := S.get y j pv l hy hj
    exact ⟨w, h3, h4.move (X := fun _ => False) (KeepBut.refl _ _) (fun b hb hs => ⟨⟨hok b hb.1, hb.2⟩, fun h => h⟩) (fun _ _ h => h) fun _ h => h⟩
  · obtain ⟨h1, h2, h3, h4⟩ := S.owned i a h
    exact ⟨h1, h2, h3, hok a h4⟩

theorem forL_drop {f : List Slot → Option (Fl × List Slot)} {xs : List Nat} {vs : List PV} {i : Nat} {x : PV} (hx : vs[i]? = some x) (ρ : List Slot) : forL f xs (vs.drop i) ρ = (match bindT xs x ρ with
    | none => none
    | some ρ1 => match f ρ1 with
      | some (.next, ρ') => forL f xs (vs.drop (i + 1)) ρ'
      | some (.cont, ρ') => forL f xs (vs.drop (i + 1)) ρ'
      | some (.brk, ρ') => some (.next, ρ')
      | some (.ret r, ρ') => some (.ret r, ρ')
      | none => none) := by
  have hlt : i < vs.length := by
    rcases Nat.lt_or_ge i vs.length with h | h
    · exact h
    · rw [List.getElem?_eq_none h] at hx; cases hx
  rw [List.drop_eq_getElem_cons hlt]
  rw [List.getElem?_eq_getElem hlt] at hx
  cases hx
  rfl

theorem ss_for (G : cc.Good) {is : List Nat} {src : ME} {m : MS} {t e : Expr} {body : List Stmt} {p : Pos} (ht : Target cc t is) (hs : SI W Γ k cc true (itsF Γ src) e) (hns : notSet e = true) (hm : SB W Γ k cc m body) :
    SS W Γ k cc (.for_ is src m) (.For t e body [] p) := by
  intro A env Kp g Ok0 own0 ρ0 s fl ρ' S0 e' E Q q
  simp only [Mine.exec] at e'
  split at e'
  · rename_i vs hvs
    obtain ⟨own, S1⟩ := S0.freeze (esc src)
    generalize freeze (esc src) ρ0 = ρ at *
    refine wpAny_For (hs A env _ _ s vs S1.here hvs E _ fun it s2 e2 hit => ?_) (folded_plain hns env)
    obtain ⟨I, fp, wr, P, St, rfl, h2, h3, h4, h5, h6, h7, h8, h9⟩ := hit
    have hw := h2 A S1.room.hd
    have S2 := S1.ext e2
    have wrnew : ∀ b ∈ wr, b ≠ env.locals ∧ (∀ y, env.cells.lookup y ≠ some b) ∧ (∀ i, ¬ own i b) ∧ ∀ o, ¬ Kp b o := by
      intro b hb
      have hn := h5 b hb
      refine ⟨?_, fun y hy => ?_, fun i hi => (S1.owned i b hi).1 hn, fun o hk => ?_⟩
      · rintro rfl; obtain ⟨_, _, _, _, ho, _⟩ := S1.ns; rw [hn] at ho; cases ho
      · obtain ⟨_, _, ho, _⟩ := S1.cells y b hy; rw [hn] at ho; cases ho
      · have := S1.kept b o hk; rw [hn] at this; cases this
    -- what the loop keeps
    let Kp' : Addr → Obj → Prop := fun b o => Kp b o ∨ (s2.heap.get? b = some o ∧ ¬ Priv env own b ∧ b ∉ wr)
    let Ok0' : Addr → Prop := fun b => Ok0 b ∧ b ∉ wr
    have hK : ∀ b o, Kp b o → Kp' b o := fun b o h => .inl h
    have S3 : StR W A k cc env Kp' g Ok0' own ρ s2 := by
      refine ⟨S2.room, fun h hh => S2.on h fun b o hb => hh b o (hK b o hb), ?_, S2.same, fun a ha => ⟨S2.fresh a ha, fun hb => h8 0 _ h3 a hb ha⟩, S2.kind, S2.globals, S2.builtins, S2.len, S2.gl, S2.cl, S2.st, ?_, S2.ns, S2.cells, S2.cinj, ?_, fun i a h => ?_, S2.inj⟩
      · rintro b o (h | h)
        · exact S2.kept b o h
        · exact h.1
      · intro y j pv l hy hj
        obtain ⟨w, h10, h11⟩ := S1.get y j pv l hy hj
        refine ⟨w, h10.keeps e2.keep, h11.move (X := fun _ => False) e2.but (fun b hb hs => ⟨⟨⟨hb.1, fun hbw => ?_⟩, hb.2⟩, fun h => h⟩) (fun _ _ h => h) fun _ h => h⟩
        obtain ⟨_, _, _, ho, _⟩ := hs
        rw [h5 b hbw] at ho; cases ho
      · rintro b hb o (h | h)
        · exact S2.priv b hb o h
        · exact h.2.1 hb
      · obtain ⟨q1, q2, q3, q4⟩ := S2.owned i a h
        exact ⟨q1, q2, q3, q4, fun hb => (wrnew a hb).2.2.1 i h⟩
    have hfpK : ∀ b ∈ fp, b ∉ wr → ∀ o, s2.heap.get? b = some o → Kp' b o := fun b hb hbw o ho => by
      rcases h6 rfl b hb with h | h
      · exact absurd h hbw
      · exact .inr ⟨ho, S2.seen h.1 h.2, hbw⟩
    have back : ∀ {own1 : Nat → Addr → Prop} {ρ1 : List Slot} {s1 : Shared}, StR W A k cc env Kp' g Ok0' own1 ρ1 s1 → StR W A k cc env Kp g Ok0 own1 ρ1 s1 := fun S => S.less hK S1.on fun b hb => hb.1
    -- the loop
    refine codeAny_forLoop_any (I := fun n s' => ∃ i own1 ρ1, n = vs.length - i ∧ i ≤ vs.length ∧ StR W A k cc env Kp' g Ok0' own1 ρ1 s' ∧ St i s'.heap ∧ forL (Mine.exec Γ m) is (vs.drop i) ρ1 = some (fl, ρ')) ?_ vs.length ⟨0, own, ρ, rfl, Nat.zero_le _, S3, h3, e'⟩
    rintro n s' ⟨i, own1, ρ1, rfl, hi, S4, st4, hfor⟩
    have wr1 : ∀ b ∈ wr, ¬ Priv env own1 b := by
      rintro b hb (h | ⟨y, h⟩ | ⟨j, h⟩)
      · exact (wrnew b hb).1 h
      · exact (wrnew b hb).2.1 y h
      · exact (S4.owned j b h).2.2.2.2 hb
    have scr : ∀ {h' : Heap} {tk : Nat} {n : Nat}, (∀ b o, b ∉ wr → s'.heap.get? b = some o → h'.get? b = some o) → (∀ b ∈ wr, h'.get? b ≠ none) → StR W A k cc env Kp' g Ok0' own1 ρ1 { s' with heap := h', toks := tk } := by
      intro h' tk n hk hx
      exact S4.scratchX (X := fun b => b ∈ wr) ⟨⟨_, _, rfl⟩, hk⟩ (fun b hb hok => hok.1.2 hb) wr1 (fun b hb o h => by
        rcases h with h | h
        · exact (wrnew b hb).2.2.2 o h
        · exact h.2.2 hb) hx
    by_cases hlt : i < vs.length
    · obtain ⟨x0, hx0⟩ : ∃ x0, vs[i]? = some x0 := ⟨vs[i], by rw [List.getElem?_eq_getElem hlt]⟩
      rw [forL_drop hx0] at hfor
      refine hw.item i s' _ _ hlt st4 fun v h' tk hp st5 hk => ?_
      have S5 := scr (tk := tk) (n := 0) hk (fun b hb => h8 _ _ st5 b hb)
      generalize hsa : ({ s' with heap := h', toks := tk } : Shared) = sa at S5
      have st5 : St (i + 1) sa.heap := by subst hsa; exact st5
      have rv : Rep sa.heap (Okc Ok0' own1) v x0 := by
        refine (h7 i v x0 hx0 hp).mono fun b hb hs => ?_
        have hK' : ∀ o, s2.heap.get? b = some o → Kp' b o := fun o ho => .inr ⟨ho, S2.seen hb.1 hs, hb.2⟩
        refine ⟨⟨⟨hb.1.1, hb.2⟩, fun j hj => ?_⟩, fun o ho => S5.kept b o (hK' o ho)⟩
        obtain ⟨o, _, _, ho, _⟩ := hs
        exact S5.priv b (.inr (.inr ⟨j, hj⟩)) o (hK' o ho)
      have go : ∀ (Q' : Unit → Shared → Prop) (E' : Value → Shared → Prop), Q' () sa → wpAny W.M A (letOwnedTupleGo t (.ref I) v) Q' E' sa := by
        intro Q' E' hq
        cases ht with
        | name _ => exact wpAny_pure hq
        | tup _ _ =>
          unfold letOwnedTupleGo
          cases v with
          | ref a =>
            obtain ⟨o, nm, ho, hc, hown⟩ := h9 _ _ st5
            refine wpAny_bind (wpAny_load ho ?_)
            rw [hc]
            cases hd : o.data with
            | fields fs =>
              show wpAny W.M A (if (ownsTup nm && fs[0]? == some (rawInt a)) = true then _ else _) Q' E' sa
              rw [hown]
              exact wpAny_pure hq
            | _ => exact wpAny_pure hq
          | _ => exact wpAny_pure hq
      refine go _ _ ?_
      cases hbt : bindT is x0 ρ1 with
      | none => rw [hbt] at hfor; cases hfor
      | some ρ2 =>
        rw [hbt] at hfor
        simp only at hfor
        -- the items' place is kept in the turn
        let Kw : Addr → Obj → Prop := fun b o => Kp' b o ∨ (b ∈ wr ∧ sa.heap.get? b = some o)
        have S6 : StR W A k cc env Kw g Ok0' own1 ρ1 sa := by
          refine ⟨S5.room, fun h hh => S5.on h fun b o hb => hh b o (.inl hb), ?_, S5.same, S5.fresh, S5.kind, S5.globals, S5.builtins, S5.len, S5.gl, S5.cl, S5.st, S5.get, S5.ns, S5.cells, S5.cinj, ?_, S5.owned, S5.inj⟩
          · rintro b o (h | h)
            · exact S5.kept b o h
            · exact h.2
          · rintro b hb o (h | h)
            · exact S5.priv b hb o h
            · exact wr1 b h.1 hb
        refine target_stored G ht S6 rv hbt fun own2 s6 S7 => ?_
        cases hb : Mine.exec Γ m ρ2 with
        | none => rw [hb] at hfor; cases hfor
        | some r =>
          obtain ⟨fl1, ρ3⟩ := r
          rw [hb] at hfor
          refine hm A env Kw g Ok0' own2 ρ2 s6 fl1 ρ3 S7 hb _ _ fun own3 s7 f S8 hf => ?_
          have st7 : St (i + 1) s7.heap := hw.frame _ _ _ st5 fun b hb o ho => S8.kept b o (by
            by_cases hbw : b ∈ wr
            · exact .inr ⟨hbw, ho⟩
            · refine .inl (hfpK b hb hbw o ?_)
              -- what stood there before still stands
              obtain ⟨o2, ho2⟩ : ∃ o2, s2.heap.get? b = some o2 := by
                rcases h6 rfl b hb with h | ⟨_, o2, _, _, ho2, _⟩
                · exact absurd h hbw
                · exact ⟨o2, ho2⟩
              have := S5.kept b o2 (hfpK b hb hbw o2 ho2)
              rw [ho] at this; cases this; exact ho2)
          have S9 : StR W A k cc env Kp' g Ok0' own3 ρ3 s7 := S8.less (fun b o h => .inl h) S5.on fun b h => h
          cases fl1 with
          | next => cases hf; exact ⟨vs.length - (i + 1), by omega, i + 1, own3, ρ3, rfl, hlt, S9, st7, hfor⟩
          | cont => cases hf; exact ⟨vs.length - (i + 1), by omega, i + 1, own3, ρ3, rfl, hlt, S9, st7, hfor⟩
          | brk => cases hf; cases hfor; exact q own3 s7 _ (back S9) rfl
          | ret z => obtain ⟨v', rfl, hv⟩ := hf; cases hfor; exact q own3 s7 _ (back S9) ⟨v', rfl, hv.weaken fun b hb => hb.1⟩
    · have hi' : i = vs.length := by omega
      subst hi'
      rw [List.drop_length] at hfor
      cases hfor
      refine hw.done s' _ _ st4 fun h' tk hk => ?_
      refine wpAny_execs_nil (q own1 _ _ ?_ rfl)
      have kb : KeepBut (fun b => b ∈ wr) s' { s' with heap := h', toks := tk } := ⟨⟨_, _, rfl⟩, hk⟩
      have xl : ¬ env.locals ∈ wr := fun h => wr1 _ h (.inl rfl)
      have xc : ∀ y c, env.cells.lookup y = some c → ¬ c ∈ wr := fun y c hy h => wr1 _ h (.inr (.inl ⟨y, hy⟩))
      have S5 := back S4
      refine S5.step (X := fun b => b ∈ wr) kb (fun b hb => (wrnew b hb).2.2.2) (fun b hb _ => ⟨S1.fresh b (h5 b hb), fun i hi => wr1 b hb (.inr (.inr ⟨i, hi⟩))⟩)
        (let ⟨m, h⟩ := S5.ns; ⟨m, h.at' fun o => kb.keep _ o xl⟩) (fun y c hy => let ⟨v0, o, ho, hd⟩ := S5.cells y c hy; ⟨v0, o, kb.keep c o (xc y c hy) ho, hd⟩) S5.len ?_ (fun i a h => .inl ⟨i, h⟩) S5.inj
      intro y j pv l hy hj
      obtain ⟨w, h10, h11⟩ := S4.get y j pv l hy hj
      refine ⟨w, ?_, h11.move kb (fun b hb hs => ⟨⟨hb.1.1, hb.2⟩, hb.1.2⟩) (fun b hb q => wr1 b q (.inr (.inr ⟨j, hb⟩))) fun _ h => h⟩
      rcases h10 with ⟨h1, m1, h2, h3⟩ | ⟨h1, c, h2, o, ho, hd⟩
      · exact .inl ⟨h1, m1, h2.at' fun o => kb.keep _ o xl, h3⟩
      · exact .inr ⟨h1, c, h2, o, kb.keep c o (xc y c h2) ho, hd⟩
  · cases e'
end
end Mine
end
section
namespace Mine
open Builtin
section
variable {W : Wld} {Γ : FEnv} {k : Nat} {cc : CC} {A : Around} {env : Env} {Kp Kp' : Addr → Obj → Prop} {g : Shared} {Ok0 Ok0' : Addr → Prop} {own own' : Nat → Addr → Prop} {ρ ρ' : List Slot} {s s' : Shared}

/-! ## places that no name sees yet: they are owned behind the last slot -/
def addOwn (own : Nat → Addr → Prop) (N : Nat) (new : Addr → Prop) : Nat → Addr → Prop := fun j a => if j = N then own N a ∨ new a else own j a
def moveOwn (own : Nat → Addr → Prop) (N i : Nat) (new : Addr → Prop) : Nat → Addr → Prop := fun j a => if j = i then new a else if j = N then own N a ∧ ¬ new a else own j a

theorem StR.hide (G : cc.Good) {N : Nat} {new : Addr → Prop} (S : StR W A k cc env Kp g Ok0 own ρ s) (e : Ext s s') (hN : cc.n ≤ N) (hnew : ∀ a, new a → s.heap.get? a = none ∧ s'.heap.get? a ≠ none) : StR W A k cc env Kp g Ok0 (addOwn own N new) ρ s' := by
  refine S.step (X := fun _ => False) e.but (fun _ h => h.elim) (fun _ h => h.elim) (let ⟨m, h⟩ := S.ns; ⟨m, h.keeps e.keep⟩) (fun x c hx => let ⟨v, h⟩ := S.cells x c hx; ⟨v, h.keeps e.keep⟩) S.len ?_ ?_ ?_
  · intro x i pv l h1 h2
    obtain ⟨v, h3, h4⟩ := S.get x i pv l h1 h2
    refine ⟨v, h3.keeps e.keep, h4.move (X := fun _ => False) e.but (fun b hb hs => ⟨⟨hb.1, fun j hj => ?_⟩, fun h => h⟩) (fun _ _ h => h) fun b hb => ?_⟩
    · unfold addOwn at hj
      split at hj
      · rcases hj with h | h
        · exact hb.2 N h
        · obtain ⟨_, _, _, ho, _⟩ := hs
          rw [(hnew b h).1] at ho; cases ho
      · exact hb.2 j hj
    · unfold addOwn
      split
      · rename_i q; rw [q] at hb; exact .inl hb
      · exact hb
  · intro j a hj
    unfold addOwn at hj
    split at hj
    · rename_i q
      rcases hj with h | h
      · exact .inl ⟨N, h⟩
      · exact .inr (hnew a h)
    · exact .inl ⟨j, hj⟩
  · intro j j' a hj hj'
    unfold addOwn at hj hj'
    split at hj <;> split at hj'
    · rename_i p q; rw [p, q]
    · rename_i p q
      rcases hj with h | h
      · rw [p]; exact S.inj N j' a h hj'
      · exact absurd (hnew a h).1 (S.owned j' a hj').1
    · rename_i p q
      rcases hj' with h | h
      · rw [q]; exact S.inj j N a hj h
      · exact absurd (hnew a h).1 (S.owned j a hj).1
    · exact S.inj j j' a hj hj'

/-- a hidden place gets its name -/
theorem StR.storedH (G : cc.Good) {N : Nat} {x : Str} {i : Nat} {new : Addr → Prop} {l : Nat} {v : Value} {pv : PV} {X : Addr → Prop} (S : StR W A k cc env Kp g Ok0 own ρ s) (hx : cc.σ x = some i) (hN : cc.n ≤ N)
    (hnew : ∀ a, new a → own N a) (hv : BOwn W s.heap (Okc Ok0 own) new l v pv)
    (kb : KeepBut X s s') (hX : ∀ b, X b → (b = env.locals ∨ ∃ y, env.cells.lookup y = some b)) (hex : ∀ b, X b → s'.heap.get? b ≠ none)
    (ns : ∃ m, s'.heap.Ns env.locals m) (cells : ∀ x c, env.cells.lookup x = some c → ∃ v0, s'.heap.IsCell c v0)
    (h1 : Holds s'.heap env x v) (h2 : ∀ y w, y ≠ x → Holds s.heap env y w → Holds s'.heap env y w) :
    StR W A k cc env Kp g Ok0 (moveOwn own N i new) (ρ.set i (some (pv, l))) s' := by
  have hin : i < cc.n := G.lt x i hx
  have hi : i < ρ.length := by rw [S.len]; exact hin
  have hXp : ∀ b, X b → Priv env own b := fun b hb => by
    rcases hX b hb with h | h
    · exact .inl h
    · exact .inr (.inl h)
  have ok' : ∀ b, Okc Ok0 own b → Okc Ok0 (moveOwn own N i new) b := fun b hb => ⟨hb.1, fun j hj => by
    unfold moveOwn at hj
    split at hj
    · exact hb.2 N (hnew b hj)
    · split at hj
      · exact hb.2 N hj.1
      · exact hb.2 j hj⟩
  refine S.step (X := X) kb (fun b hb => S.priv b (hXp b hb)) (fun b hb hn => absurd hn (hex b hb)) ns cells (by rw [List.length_set]; exact S.len) ?_ ?_ ?_
  · intro y j pv' l' hy hj
    rw [get_set hi] at hj
    by_cases hji : j = i
    · subst hji
      rw [if_pos rfl] at hj
      cases hj
      have : y = x := G.inj y x j hy hx
      subst this
      refine ⟨v, h1, hv.move kb (fun b hb hs => ⟨ok' b hb, fun hxb => S.seen hb hs (hXp b hxb)⟩) (fun b hb hxb => ?_) fun b hb => ?_⟩
      · obtain ⟨_, q1, q2, _⟩ := S.owned N b (hnew b hb)
        rcases hX b hxb with rfl | ⟨y', hy'⟩
        · exact q1 rfl
        · exact q2 y' hy'
      · unfold moveOwn; rw [if_pos rfl]; exact hb
    · rw [if_neg hji] at hj
      have hyx : y ≠ x := by
        rintro rfl
        rw [hx] at hy; cases hy; exact hji rfl
      obtain ⟨w, h3, h4⟩ := S.get y j pv' l' hy hj
      have hjn : j < cc.n := G.lt y j hy
      refine ⟨w, h2 y w hyx h3, h4.move (X := X) kb (fun b hb hs => ⟨ok' b hb, fun hxb => S.seen hb hs (hXp b hxb)⟩) (fun b hb hxb => ?_) fun b hb => ?_⟩
      · obtain ⟨_, q1, q2, _⟩ := S.owned j b hb
        rcases hX b hxb with rfl | ⟨y', hy'⟩
        · exact q1 rfl
        · exact q2 y' hy'
      · unfold moveOwn; rw [if_neg hji, if_neg (by omega)]; exact hb
  · intro j a hj
    unfold moveOwn at hj
    split at hj
    · exact .inl ⟨N, hnew a hj⟩
    · split at hj
      · exact .inl ⟨N, hj.1⟩
      · exact .inl ⟨j, hj⟩
  · intro j j' a hj hj'
    unfold moveOwn at hj hj'
    split at hj <;> split at hj'
    · rename_i p q; rw [p, q]
    · split at hj'
      · exact absurd hj hj'.2
      · rename_i q; exact absurd (S.inj N j' a (hnew a hj) hj') (Ne.symm q)
    · split at hj
      · exact absurd hj' hj.2
      · rename_i q; exact absurd (S.inj j N a hj (hnew a hj')) q
    · split at hj <;> split at hj'
      · rename_i p q; rw [p, q]
      · rename_i p q; exact absurd (S.inj N j' a hj.1 hj') (Ne.symm q)
      · rename_i p q; exact absurd (S.inj j N a hj hj'.1) p
      · exact S.inj j j' a hj hj'

theorem StR.phys {x : Str} {i : Nat} {v : Value} {E : Value → Shared → Prop} {Q : Unit → Shared → Prop} (S1 : StR W A k cc env Kp g Ok0 own ρ s) (hx : cc.σ x = some i)
    (q : ∀ (X : Addr → Prop) s', KeepBut X s s' → (∀ b, X b → (b = env.locals ∨ ∃ y, env.cells.lookup y = some b)) → (∀ b, X b → s'.heap.get? b ≠ none) → (∃ m, s'.heap.Ns env.locals m) →
      (∀ x c, env.cells.lookup x = some c → ∃ v0, s'.heap.IsCell c v0) → Holds s'.heap env x v → (∀ y w, y ≠ x → Holds s.heap env y w → Holds s'.heap env y w) → Q () s') : wpAny W.M A (storeName env x v) Q E s := by
  obtain ⟨m, hm⟩ := S1.ns
  rcases S1.st x i hx with hl | ⟨hl, c, hc⟩
  · refine wpAny_storeName_local hl hm (fun h' hn' sb => ?_) (by rw [S1.kind]; rfl)
    have kb : KeepBut (fun b => b = env.locals) s { s with heap := h', toks := s.toks + 1 } := KeepBut.of_same (X := fun b => b = env.locals) sb rfl _
    refine q _ _ kb (fun b hb => .inl hb) (fun b hb => ?_) ⟨_, hn'⟩ (fun y c hy => ?_) (.inl ⟨hl, _, hn', by simp⟩) fun y w hyx hw => ?_
    · have hb' : b = env.locals := hb
      subst hb'
      obtain ⟨o, _, _, ho, _⟩ := hn'
      rw [ho]; exact fun h => nomatch h
    · obtain ⟨v0, o, ho, hd⟩ := S1.cells y c hy
      exact ⟨v0, o, sb.extBut c o (fun q => ns_cell hm ⟨o, ho, hd⟩ q.symm) ho, hd⟩
    · rcases hw with ⟨h1, m1, h2, h3⟩ | ⟨h1, c, h2, h3⟩
      · refine .inl ⟨h1, _, hn', ?_⟩
        rw [if_neg hyx, ns_inj hm h2]; exact h3
      · refine .inr ⟨h1, c, h2, ?_⟩
        obtain ⟨o, ho, hd⟩ := h3
        exact ⟨o, sb.extBut c o (fun q => ns_cell hm ⟨o, ho, hd⟩ q.symm) ho, hd⟩
  · obtain ⟨v0, hv0⟩ := S1.cells x c hc
    refine wpAny_storeName_cell S1.kind hl hc hv0 fun h' hn' sb => ?_
    have kb : KeepBut (fun b => b = c) s { s with heap := h' } := KeepBut.of_same (X := fun b => b = c) sb rfl s.toks
    have nl : env.locals ≠ c := fun q => ns_cell hm hv0 q
    refine q _ _ kb (fun b hb => .inr ⟨x, by have hb' : b = c := hb; rw [hb']; exact hc⟩) (fun b hb => ?_) ⟨m, hm.at' fun o => sb.extBut _ o nl⟩ (fun y c' hy => ?_) (.inr ⟨.inl hl, c, hc, hn'⟩) fun y w hyx hw => ?_
    · have hb' : b = c := hb
      subst hb'
      obtain ⟨o, ho, _⟩ := hn'
      rw [ho]; exact fun h => nomatch h
    · by_cases hcc : c' = c
      · subst hcc; exact ⟨_, hn'⟩
      · obtain ⟨v1, o, ho, hd⟩ := S1.cells y c' hy
        exact ⟨v1, o, sb.extBut c' o hcc ho, hd⟩
    · rcases hw with ⟨h1, m1, h2, h3⟩ | ⟨h1, c', h2, h3⟩
      · exact .inl ⟨h1, m1, h2.at' fun o => sb.extBut _ o nl, h3⟩
      · refine .inr ⟨h1, c', h2, ?_⟩
        obtain ⟨o, ho, hd⟩ := h3
        exact ⟨o, sb.extBut c' o (fun q => hyx (S1.cinj y x c' h2 (q ▸ hc))) ho, hd⟩

/-- values that stand ready for their names: some are lists that N owns -/
inductive MItems (h : Heap) (Ok : Addr → Prop) : List Bool → List Value → List PV → List Addr → Prop
  | nil : MItems h Ok [] [] [] []
  | plain {v : Value} {x : PV} {os : List Bool} {vs : List Value} {xs : List PV} {as : List Addr} : Rep h Ok v x → MItems h Ok os vs xs as → MItems h Ok (false :: os) (v :: vs) (x :: xs) as
  | own {a : Addr} {ws : List Value} {ys : List PV} {os : List Bool} {vs : List Value} {xs : List PV} {as : List Addr} : h.PlainList a ws.toArray → RepAll h Ok ws ys → MItems h Ok os vs xs as → MItems h Ok (true :: os) (.ref a :: vs) (.list ys :: xs) (a :: as)
theorem MItems.move {X Ok Ok' : Addr → Prop} {os : List Bool} {vs : List Value} {xs : List PV} {as : List Addr} (r : MItems s.heap Ok os vs xs as) (e : KeepBut X s s') (h1 : ∀ b, Ok b → SeqAt s.heap b → Ok' b ∧ ¬ X b) (h2 : ∀ b ∈ as, ¬ X b) : MItems s'.heap Ok' os vs xs as := by
  induction r with
  | nil => exact .nil
  | plain r _ ih => exact .plain (r.but e h1) (ih h2)
  | own q r _ ih => exact .own (q.at fun o => e.keep _ o (h2 _ (.head _))) (r.but e h1) (ih fun b hb => h2 b (.tail _ hb))
theorem MItems.append {h : Heap} {Ok : Addr → Prop} {os os' : List Bool} {vs vs' : List Value} {xs xs' : List PV} {as as' : List Addr} (r : MItems h Ok os vs xs as) (r' : MItems h Ok os' vs' xs' as') : MItems h Ok (os ++ os') (vs ++ vs') (xs ++ xs') (as ++ as') := by
  induction r with
  | nil => exact r'
  | plain r _ ih => exact .plain r ih
  | own q r _ ih => exact .own q r ih
theorem MItems.reverse {h : Heap} {Ok : Addr → Prop} {os : List Bool} {vs : List Value} {xs : List PV} {as : List Addr} (r : MItems h Ok os vs xs as) : MItems h Ok os.reverse vs.reverse xs.reverse as.reverse := by
  induction r with
  | nil => exact .nil
  | plain r _ ih => rw [List.reverse_cons, List.reverse_cons, List.reverse_cons]; exact by simpa using ih.append (.plain r .nil)
  | own q r _ ih => rw [List.reverse_cons, List.reverse_cons, List.reverse_cons, List.reverse_cons]; exact ih.append (.own q r .nil)
theorem MItems.length {h : Heap} {Ok : Addr → Prop} {os : List Bool} {vs : List Value} {xs : List PV} {as : List Addr} (r : MItems h Ok os vs xs as) : vs.length = xs.length ∧ os.length = xs.length := by
  induction r with
  | nil => exact ⟨rfl, rfl⟩
  | plain _ _ ih => simp [ih.1, ih.2]
  | own _ _ _ ih => simp [ih.1, ih.2]

theorem moveOwn_ok {N i : Nat} {new : Addr → Prop} (hnew : ∀ a, new a → own N a) {b : Addr} (hb : Okc Ok0 own b) : Okc Ok0 (moveOwn own N i new) b := ⟨hb.1, fun j hj => by
  unfold moveOwn at hj
  split at hj
  · exact hb.2 N (hnew b hj)
  · split at hj
    · exact hb.2 N hj.1
    · exact hb.2 j hj⟩

/-- stores into names -/
inductive Sts (W : Wld) (A : Around) (cc : CC) (env : Env) : List (Value → Sem Unit) → List (Str × Nat) → Prop
  | nil : Sts W A cc env [] []
  | cons {st : Value → Sem Unit} {x : Str} {i : Nat} {sts : List (Value → Sem Unit)} {ns : List (Str × Nat)} : cc.σ x = some i → (∀ (v : Value) (s : Shared) (E : Value → Shared → Prop) (Q : Unit → Shared → Prop), wpAny W.M A (storeName env x v) Q E s → wpAny W.M A (st v) Q E s) →
      Sts W A cc env sts ns → Sts W A cc env (st :: sts) ((x, i) :: ns)
theorem Sts.append {st st' : List (Value → Sem Unit)} {ns ns' : List (Str × Nat)} (h : Sts W A cc env st ns) (h' : Sts W A cc env st' ns') : Sts W A cc env (st ++ st') (ns ++ ns') := by
  induction h with
  | nil => exact h'
  | cons a b _ ih => exact .cons a b ih
/-- names that are stored one after the other -/
theorem storeMany (G : cc.Good) {N : Nat} (hN : cc.n ≤ N) {E : Value → Shared → Prop} {Q : Unit → Shared → Prop} : ∀ {stores : List (Value → Sem Unit)} {ns : List (Str × Nat)} {own : Nat → Addr → Prop} {ρ : List Slot} {s : Shared} {os : List Bool} {vs : List Value} {xs : List PV} {as : List Addr},
    Sts W A cc env stores ns →
    StR W A k cc env Kp g Ok0 own ρ s → MItems s.heap (Okc Ok0 own) os vs xs as → as.Nodup → (∀ a ∈ as, own N a) → ns.length = xs.length →
    (∀ own' s', StR W A k cc env Kp g Ok0 own' (setOwns (ns.map (·.2)) os xs ρ) s' → Q () s') → wpAny W.M A (assignInOrder stores vs) Q E s
  | _, _, own, ρ, s, _, _, _, _, .nil, S, .nil, _, _, _, q => wpAny_assignInOrder_none (q own s S)
  | _, _, own, ρ, s, _, _, _, _, .cons h h' hs, S, .plain (v := v) (x := x) r rs, hnd, has, hl, q => by
    refine wpAny_assignInOrder_more (h' v s _ _ (S.phys h fun X s' kb hX hex hns hcells h1 h2 => ?_))
    have S' := S.storedH G (N := N) (new := fun _ => False) h hN (fun _ h => h.elim) (.zero r) kb hX hex hns hcells h1 h2
    refine storeMany G hN hs S' (rs.move kb (fun b hb hs => ⟨moveOwn_ok (fun _ h => h.elim) hb, fun hx => S.frame_not hs (hX b hx)⟩) fun b hb hx => ?_) hnd (fun a ha => ?_) (by simpa using hl) (fun own' s'' S'' => q own' s'' ?_)
    · obtain ⟨_, q1, q2, _⟩ := S.owned N b (has b hb)
      rcases hX b hx with rfl | ⟨y, hy⟩
      · exact q1 rfl
      · exact q2 y hy
    · unfold moveOwn
      have := G.lt _ _ h
      rw [if_neg (by omega), if_pos rfl]
      exact ⟨has a ha, fun h => h⟩
    · have e : ownOf false x = 0 := by cases x <;> rfl
      rw [List.map_cons, setOwns, e]; exact S''
  | _, _, own, ρ, s, _, _, _, _, .cons h h' hs, S, .own (a := a) (ws := ws) (ys := ys) pl r rs, hnd, has, hl, q => by
    refine wpAny_assignInOrder_more (h' _ s _ _ (S.phys h fun X s' kb hX hex hns hcells h1 h2 => ?_))
    have hnew : ∀ b, b = a → own N b := fun b hb => hb ▸ has a (.head _)
    have S' := S.storedH G (N := N) (new := fun b => b = a) h hN hnew (.one rfl pl r) kb hX hex hns hcells h1 h2
    obtain ⟨hna, hnd'⟩ := List.nodup_cons.mp hnd
    refine storeMany G hN hs S' (rs.move kb (fun b hb hs => ⟨moveOwn_ok hnew hb, fun hx => S.frame_not hs (hX b hx)⟩) fun b hb hx => ?_) hnd' (fun b hb => ?_) (by simpa using hl) (fun own' s'' S'' => q own' s'' ?_)
    · obtain ⟨_, q1, q2, _⟩ := S.owned N b (has b (.tail _ hb))
      rcases hX b hx with rfl | ⟨y, hy⟩
      · exact q1 rfl
      · exact q2 y hy
    · unfold moveOwn
      have := G.lt _ _ h
      rw [if_neg (by omega), if_pos rfl]
      exact ⟨has b (.tail _ hb), fun q => hna (q ▸ hb)⟩
    · rw [List.map_cons, setOwns]; exact S''
end
end Mine
end
section
namespace Mine
open Builtin
section
variable {W : Wld} {Γ : FEnv} {k : Nat} {cc : CC} {A : Around} {env : Env} {Kp Kp' : Addr → Obj → Prop} {g : Shared} {Ok0 Ok0' : Addr → Prop} {own own' : Nat → Addr → Prop} {ρ ρ' : List Slot} {s s' : Shared}

theorem setOwns_snoc {i : Nat} {o : Bool} {x : PV} : ∀ {is : List Nat} {os : List Bool} {xs : List PV} {ρ : List Slot}, is.length = xs.length → os.length = xs.length → i ∉ is →
    setOwns (is ++ [i]) (os ++ [o]) (xs ++ [x]) ρ = setOwns is os xs (ρ.set i (some (x, ownOf o x)))
  | [], [], [], ρ, _, _, _ => rfl
  | j :: is, p :: os, y :: xs, ρ, h1, h2, hi => by
    show setOwns (is ++ [i]) (os ++ [o]) (xs ++ [x]) (ρ.set j _) = setOwns is os xs ((ρ.set i _).set j _)
    rw [setOwns_snoc (by simpa using h1) (by simpa using h2) (fun h => hi (.tail _ h)), List.set_comm]
    rintro rfl; exact hi (.head _)
  | [], _ :: _, [], _, _, h2, _ => by simp at h2
  | [], _, _ :: _, _, h1, _, _ => by simp at h1
  | _ :: _, _, [], _, h1, _, _ => by simp at h1
  | _ :: _, [], _ :: _, _, _, h2, _ => by simp at h2
theorem setOwns_reverse : ∀ {is : List Nat} {os : List Bool} {xs : List PV} {ρ : List Slot}, is.length = xs.length → os.length = xs.length → is.Nodup → setOwns is.reverse os.reverse xs.reverse ρ = setOwns is os xs ρ
  | [], [], [], ρ, _, _, _ => rfl
  | j :: is, p :: os, y :: xs, ρ, h1, h2, hn => by
    obtain ⟨h3, h4⟩ := List.nodup_cons.mp hn
    rw [List.reverse_cons, List.reverse_cons, List.reverse_cons, setOwns_snoc (by simpa using h1) (by simpa using h2) (fun h => h3 (List.mem_reverse.mp h)), setOwns_reverse (by simpa using h1) (by simpa using h2) h4]
    rfl
  | [], _ :: _, [], _, _, h2, _ => by simp at h2
  | [], _, _ :: _, _, h1, _, _ => by simp at h1
  | _ :: _, _, [], _, h1, _, _ => by simp at h1
  | _ :: _, [], _ :: _, _, _, h2, _ => by simp at h2

/-- the values of a display, some of them lists made anew -/
inductive ML (W : Wld) (Γ : FEnv) (k : Nat) (cc : CC) : List Bool → ME → List Expr → Prop
  | nil : ML W Γ k cc [] .nil []
  | plain {os : List Bool} {a r : ME} {e : Expr} {es : List Expr} : notStar e = true → SE W Γ k cc a e → ML W Γ k cc os r es → ML W Γ k cc (false :: os) (.cons a r) (e :: es)
  | own {os : List Bool} {a r : ME} {e : Expr} {es : List Expr} : notStar e = true → SN W Γ k cc a e → ML W Γ k cc os r es → ML W Γ k cc (true :: os) (.cons a r) (e :: es)

theorem addOwn_ok {N : Nat} {new : Addr → Prop} {b : Addr} (hb : Okc Ok0 own b) (hn : ¬ new b) : Okc Ok0 (addOwn own N new) b := ⟨hb.1, fun j hj => by
  unfold addOwn at hj
  split at hj
  · rcases hj with h | h
    · exact hb.2 N h
    · exact hn h
  · exact hb.2 j hj⟩

theorem ml_sound (G : cc.Good) {N : Nat} (hN : cc.n ≤ N) {pos : Pos} {E : Value → Shared → Prop} {os : List Bool} {me : ME} {es : List Expr} (h : ML W Γ k cc os me es) : ∀ {own : Nat → Addr → Prop} {s : Shared} {xs : List PV} {Q : List Value → Shared → Prop},
    StR W A k cc env Kp g Ok0 own ρ s → (evA Γ me ρ).lst = some xs →
    (∀ vs as own' s', StR W A k cc env Kp g Ok0 own' ρ s' → Ext s s' → MItems s'.heap (Okc Ok0 own') os vs xs as → as.Nodup → (∀ a ∈ as, own' N a ∧ s.heap.get? a = none) → (∀ b, Okc Ok0 own b → s.heap.get? b ≠ none → Okc Ok0 own' b) → (∀ b, own N b → own' N b) → Q vs s') →
    wpAny W.M A (spliced (backTo pos (starEach es env))) Q E s := by
  induction h with
  | nil =>
    intro own s xs Q S e q
    cases e
    exact Calls.spliced_nil (q [] [] own s S (.refl s) .nil .nil (fun _ h => nomatch h) (fun b hb _ => hb) fun _ h => h)
  | plain hn ha hr ih =>
    intro own s xs Q S e q
    simp only [evA] at e
    split at e
    · rename_i x h1
      cases h2 : (evA Γ _ ρ).lst with
      | none => rw [h2] at e; cases e
      | some ys =>
        rw [h2] at e; cases e
        rw [starEach_plain hn]
        show wpAny W.M A (spliced ((false, eval _ env) :: backTo pos (starEach _ env))) Q E s
        refine Calls.spliced_cons (ha A env _ ρ s x 0 S.here h1 E _ fun v s' e1 r1 => ih (S.ext e1) h2 fun vs as own' s'' S'' e2 mi hnd has hok hown => ?_)
        refine q (v :: vs) as own' s'' S'' (e1.trans e2) (.plain (r1.rep0.mono fun b hb hs => ?_) mi) hnd (fun a ha' => ⟨(has a ha').1, e1.fresh (has a ha').2⟩) (fun b hb hx => hok b hb ?_) hown
        · refine ⟨hok b hb ?_, fun o => e2.keep b o⟩
          obtain ⟨_, _, _, ho, _⟩ := hs
          rw [ho]; exact fun h => nomatch h
        · cases q' : s.heap.get? b with
          | none => exact absurd q' hx
          | some o => rw [e1.keep b o q']; exact fun h => nomatch h
    · cases e
  | own hn ha hr ih =>
    intro own s xs Q S e q
    simp only [evA] at e
    split at e
    · rename_i x h1
      cases h2 : (evA Γ _ ρ).lst with
      | none => rw [h2] at e; cases e
      | some ys =>
        rw [h2] at e; cases e
        rw [starEach_plain hn]
        show wpAny W.M A (spliced ((false, eval _ env) :: backTo pos (starEach _ env))) Q E s
        obtain ⟨_, zs, rfl, hg⟩ := ha A env _ ρ s x 0 S.here h1
        refine Calls.spliced_cons (hg E _ fun a ws s' e1 hfr hpl hra => ?_)
        have hex : s'.heap.get? a ≠ none := by obtain ⟨_, ho⟩ := hpl; rw [ho]; exact fun h => nomatch h
        have S1 := S.hide G (N := N) (new := fun b => b = a) e1 hN fun b hb => by
          have hb' : b = a := hb
          rw [hb']; exact ⟨hfr, hex⟩
        refine ih S1 h2 fun vs as own' s'' S'' e2 mi hnd has hok hown => ?_
        have hNa : own' N a := hown a (by unfold addOwn; rw [if_pos rfl]; exact .inr rfl)
        refine q (.ref a :: vs) (a :: as) own' s'' S'' (e1.trans e2) (.own (hpl.at fun o => e2.keep a o) (hra.mono fun b hb hs => ?_) mi) (List.nodup_cons.mpr ⟨fun hm => ?_, hnd⟩) (fun b hb => ?_) (fun b hb hx => ?_) fun b hb => hown b ?_
        · refine ⟨hok b (addOwn_ok hb.1 hb.2) ?_, fun o => e2.keep b o⟩
          obtain ⟨_, _, _, ho, _⟩ := hs
          rw [ho]; exact fun h => nomatch h
        · exact hex (has a hm).2
        · cases hb with
          | head => exact ⟨hNa, hfr⟩
          | tail _ hb => exact ⟨(has b hb).1, e1.fresh (has b hb).2⟩
        · refine hok b (addOwn_ok hb fun q' => ?_) ?_
          · have q'' : b = a := q'
            rw [q''] at hx; exact hx hfr
          · cases q' : s.heap.get? b with
            | none => exact absurd q' hx
            | some o => rw [e1.keep b o q']; exact fun h => nomatch h
        · unfold addOwn; rw [if_pos rfl]; exact .inl hb
    · cases e

/-! the stores of a tuple display -/
def nameOf : Expr → Option Str
  | .Name nm _ => some nm
  | _ => none
def nameIf (P : Str → Pos → Bool) : Expr → Option Str
  | .Name nm p => if P nm p = true then some nm else none
  | _ => none
theorem Names.sts {es : List Expr} {is : List Nat} (h : Names cc es is) : ∃ ns : List (Str × Nat), Sts W A cc env ((assignEach es env).map (·.2)) ns ∧ ns.map (·.2) = is ∧ es.filterMap nameOf = ns.map (·.1) := by
  induction h with
  | nil => exact ⟨[], .nil, rfl, rfl⟩
  | cons hx _ ih =>
    obtain ⟨ns, h1, h2, h3⟩ := ih
    refine ⟨(_, _) :: ns, .cons hx (fun v s E Q hq => wpAny_assign_Name hq) h1, by rw [List.map_cons, h2], ?_⟩
    rw [List.filterMap_cons, h3]; rfl
theorem sts_bind : ∀ {stores : List (Value → Sem Unit)} {ns : List (Str × Nat)}, Sts W A cc env stores ns → Sts W A cc env (ns.map fun x => bindName env x.1) ns
  | _, _, .nil => .nil
  | _, _, .cons hx _ r => .cons hx (fun v s E Q hq => bindName_ hq) (sts_bind r)
theorem sts_reverse {stores : List (Value → Sem Unit)} {ns : List (Str × Nat)} (h : Sts W A cc env stores ns) : Sts W A cc env (ns.reverse.map fun x => bindName env x.1) ns.reverse := by
  induction h with
  | nil => exact .nil
  | cons hx _ _ ih =>
    rw [List.reverse_cons, List.map_append]
    exact ih.append (.cons hx (fun v s E Q hq => bindName_ hq) .nil)

theorem filter_names {P : Str → Pos → Bool} {es : List Expr} {is : List Nat} (h : Names cc es is) : (es.filterMap (nameIf P)).length = es.length →
    (es.filterMap (nameIf P)) = es.filterMap nameOf := by
  induction h with
  | nil => exact fun _ => rfl
  | cons hx hr ih =>
    rename_i x p i es' is'
    intro hl
    by_cases hp : P x p = true
    · have e1 : nameIf P (.Name x p) = some x := if_pos hp
      have e2 : nameOf (.Name x p) = some x := rfl
      rw [List.filterMap_cons_some e1] at hl ⊢
      rw [List.filterMap_cons_some e2, ih (by simpa using hl)]
    · have e1 : nameIf P (.Name x p) = none := if_neg hp
      rw [List.filterMap_cons_none e1, List.length_cons] at hl
      have := List.length_filterMap_le (nameIf P) es'
      omega
theorem swapped_cases {es vs : List Expr} {is : List Nat} {n m : Nat} {p q : Pos} (h : Names cc es is) (hc : vs.all (constantsAlone 8) = false) :
    swappedStores [.Tuple es n p] (.Tuple vs m q) env = pure none ∨ swappedStores [.Tuple es n p] (.Tuple vs m q) env = pure (some (es.filterMap nameOf)) := by
  unfold swappedStores
  dsimp only
  split
  · exact .inl rfl
  · split
    · exact .inl rfl
    · split
      · exact .inl rfl
      · split
        · exact .inl rfl
        · rename_i a1 a2 a3 a4
          rw [if_neg (by rw [hc]; decide)]
          right
          have key : (es.filterMap (nameIf fun nm pos => env.kindOf nm == some NameKind.local && pos.line == (Option.map (fun x => x.pos.line) es.head?).getD 0)).length = es.length := by
            have a5 := a3
            simp only [Bool.or_eq_true, not_or, bne_iff_ne, ne_eq, Decidable.not_not] at a5
            exact a5.1
          exact congrArg (fun z => (pure (some z) : Sem (Option (List Str)))) (filter_names h key)

theorem names_rev {ns : List (Str × Nat)} : (ns.map (·.1)).reverse.map (fun n => bindName env n) = ns.reverse.map (fun x => bindName env x.1) := by
  rw [← List.map_reverse, List.map_map]; rfl

theorem starNone : ∀ {es : List Expr} {is : List Nat}, Names cc es is → (assignEach es env).findIdx? (·.1) = none := fun h => h.nostar

theorem nodup_rev {α : Type} {l : List α} (h : l.Nodup) : l.reverse.Nodup := by
  unfold List.Nodup at h ⊢
  rw [List.pairwise_reverse]
  exact h.imp fun h q => h q.symm
theorem made_items (G : cc.Good) {vs : List Expr} {os : List Bool} {me : ME} {m N : Nat} {q : Pos} {xs : List PV} {E : Value → Shared → Prop} {Q1 : Shared → Prop} (hv : ML W Γ k cc os me vs) (S : StR W A k cc env Kp g Ok0 own ρ s) (hxs : (evA Γ me ρ).lst = some xs) (hN : N = xs.length) (hz : xs.length ≤ LIM)
    (F : List Value → Sem Unit) (hF : ∀ vs' as own' s', StR W A k cc env Kp g Ok0 own' ρ s' → MItems s'.heap (Okc Ok0 own') os vs' xs as → as.Nodup → (∀ a ∈ as, own' cc.n a) → wpAny W.M A (F vs') (fun _ => Q1) E s') :
    wpAny W.M A (eval (.Tuple vs m q) env) (fun v s₁ => wpAny W.M A (unpackItems v N none) (fun items s₂ => wpAny W.M A (F items) (fun _ => Q1) E s₂) E s₁) E s := by
  subst hN
  refine Tuple_ (ml_sound G (Nat.le_refl _) hv S hxs fun vs' as own' s' S' e1 mi hd has _ _ => ?_)
  have hlv : vs'.length = xs.length := mi.length.1
  refine wpAny_newTuple ?_ (by rw [hlv]; exact lim_size hz)
  have e2 := Ext.push s' { cls := .type "tuple", data := .seq vs'.toArray 0 }
  have hun := wpAny_unpackItems_tuple (prog := W.prog) (w := W.w) (A := A) (E := E) (t := s'.heap.objs.size) (items := vs'.toArray) (s := { s' with heap := s'.heap.push { cls := .type "tuple", data := .seq vs'.toArray 0 } })
    (Q := fun items s₂ => wpAny W.M A (F items) (fun _ => Q1) E s₂) S.room.hd ⟨_, Heap.get?_push_size _ rfl, rfl, 0, rfl⟩ fun h' hx => ?_
  · have hsz : vs'.toArray.size = xs.length := by rw [List.size_toArray, hlv]
    rw [hsz] at hun
    exact hun
  · have e3 : Ext { s' with heap := s'.heap.push { cls := .type "tuple", data := .seq vs'.toArray 0 } } { s' with heap := h' } := ⟨⟨_, _, rfl⟩, fun b o hb => hx b o (fun q => by rw [q, get_size] at hb; cases hb) hb⟩
    have e4 := e2.trans e3
    exact hF vs' as own' _ (S'.ext e4) (mi.move (X := fun _ => False) e4.but (fun b hb _ => ⟨hb, fun h => h⟩) fun _ _ h => h) hd fun a ha => (has a ha).1

/-- a tuple of names takes the values of a tuple display -/
theorem ss_multi (G : cc.Good) {es vs : List Expr} {is : List Nat} {os : List Bool} {me : ME} {n m : Nat} {p q pos : Pos} (hn : Names cc es is) (hnd : is.Nodup) (hc : vs.all (constantsAlone 8) = false) (hv : ML W Γ k cc os me vs) :
    SS W Γ k cc (.multi is os me) (.Assign [.Tuple es n p] (.Tuple vs m q) pos) := by
  intro A env Kp g Ok0 own0 ρ0 s fl ρ' S0 e' E Q q'
  simp only [Mine.exec] at e'
  split at e'
  · rename_i xs hxs
    split at e'
    · rename_i hl
      cases e'
      obtain ⟨own, S⟩ := S0.freeze (esc me)
      generalize freeze (esc me) ρ0 = ρ at *
      obtain ⟨ns, h1, h2, h3⟩ := hn.sts (W := W) (A := A) (env := env)
      have hsw : swapsWithSole [.Tuple es n p] (.Tuple vs m q) pos.line env = pure false := rfl
      have hnl : ns.length = xs.length := by rw [← h2, List.length_map] at hl; exact hl.1
      have hq : ∀ own' s', StR W A k cc env Kp g Ok0 own' (setOwns is os xs ρ) s' → Q .next s' := fun own' s' S' => q' own' s' _ S' rfl
      clear q'
      rcases swapped_cases (env := env) (n := n) (m := m) (p := p) (q := q) hn hc with hw | hw
      · refine Assign_Tuple ?_ hsw hw
        have h4 := made_items (Q1 := Q .next) (E := E) (m := m) (q := q) G hv S hxs rfl hl.2 (fun items => assignInOrder ((assignEach es env).map (·.2)) items) fun vs' as own' s' S' mi hd has =>
          storeMany G (Nat.le_refl _) h1 S' mi hd has hnl fun own'' s'' S'' => by rw [h2] at S''; exact hq own'' s'' S''
        refine wpAny_mono h4 (fun v s₁ h => ?_) fun _ _ x => x
        rw [arm_assign_Tuple]
        refine wpAny_bind (wpAny_standAt ?_)
        unfold unpack
        rw [hn.length, starNone hn, hl.1]
        exact wpAny_bind (wpAny_holding h)
      · refine Assign_Tuple_swapped (names := es.filterMap nameOf) ?_ hsw hw
        have hlen : (ns.map (·.1)).length = xs.length := by rw [List.length_map, hnl]
        rw [h3, hlen, names_rev]
        have h4 := made_items (Q1 := Q .next) (E := E) (m := m) (q := q) G hv S hxs rfl hl.2 (fun items => assignInOrder (ns.reverse.map fun x => bindName env x.1) items.reverse) fun vs' as own' s' S' mi hd has =>
          storeMany G (Nat.le_refl _) (sts_reverse h1) S' mi.reverse (nodup_rev hd) (fun a ha => has a (List.mem_reverse.mp ha)) (by rw [List.length_reverse, List.length_reverse]; exact hnl) fun own'' s'' S'' => by
            rw [List.map_reverse, h2, setOwns_reverse hl.1 mi.length.2 hnd] at S''
            exact hq own'' s'' S''
        exact h4
    · cases e'
  · cases e'

def notTuple : Expr → Bool
  | .Tuple _ _ _ => false
  | _ => true
theorem swapped_plain {ts : List Expr} {e : Expr} (h : notTuple e = true) : swappedStores ts e env = pure none := by
  unfold swappedStores
  cases e <;> first | cases h | skip
  all_goals
    cases ts with
    | nil => rfl
    | cons t r => cases t <;> cases r <;> rfl
/-- a tuple of names takes a tuple's items -/
theorem ss_unpack (G : cc.Good) {es : List Expr} {is : List Nat} {me : ME} {e : Expr} {n : Nat} {p pos : Pos} (hn : Names cc es is) (hnc : notComp e = true) (hnt : notTuple e = true) (h : SE W Γ k cc me e) :
    SS W Γ k cc (.unpack is me) (.Assign [.Tuple es n p] e pos) := by
  intro A env Kp g Ok0 own0 ρ0 s fl ρ' S0 e' E Q q
  simp only [Mine.exec] at e'
  split at e'
  · rename_i xs hxs
    split at e'
    · rename_i hl
      cases e'
      obtain ⟨own, S⟩ := S0.freeze (esc me)
      refine Assign_Tuple (h A env _ _ s _ 0 S.here hxs E _ fun v s' ex r => ?_) (show swapsWithSole [.Tuple es n p] e pos.line env = pure false from swaps_plain hnc (some (.Tuple es n p)) pos.line env) (swapped_plain hnt)
      cases r with
      | zero r =>
        cases r with
        | tup _ ht ra => exact tuple_stored G hn (S.ext ex) ht ra hl fun own' s'' S'' => q own' s'' _ S'' rfl
    · cases e'
  · cases e'
end
end Mine
end
section
namespace Mine
open Builtin
section
variable {W : Wld} {Γ : FEnv} {k : Nat} {cc : CC} {A : Around} {env : Env} {Kp Kp' : Addr → Obj → Prop} {g : Shared} {Ok0 Ok0' : Addr → Prop} {own own' : Nat → Addr → Prop} {ρ ρ' : List Slot} {s s' : Shared}

theorem plain_update {h : Heap} {a : Addr} {items : Array Value} {n : Nat} (f : Array Value → Array Value) (ho : h.get? a = some { cls := .type "list", data := .seq items n }) : (h.update a (Obj.mapSeq f)).PlainList a (f items) := by
  have hf : (Obj.mapSeq f { cls := .type "list", data := .seq items n }).isFreed = false := by simp [Obj.mapSeq, Obj.isFreed]
  have e := Heap.get?_update_self (Obj.mapSeq f) ho hf
  unfold Heap.PlainList
  rw [e]
  simp only [Obj.mapSeq]
  exact ⟨_, rfl⟩

theorem StR.load (S : StR W A k cc env Kp g Ok0 own ρ s) {x : Str} {v : Value} {E Q : Value → Shared → Prop} (H : Holds s.heap env x v) (hcd : (x == ("__classdict__" : Str)) = false) (q : Q v s) : wpAny W.M A (loadName env x) Q E s := by
  rcases H with ⟨hl, m, hn, hv⟩ | ⟨hl | hl, c, hc, hv⟩
  · exact wpAny_loadName_local S.kind hl hn hv q
  · exact wpAny_loadName_cell S.kind hl hc hv q
  · exact wpAny_loadName_free S.kind hl hc hv q hcd

theorem not_inter (S : StR W A k cc env Kp g Ok0 own ρ s) : interactive env = false := by
  unfold interactive; rw [S.kind]; rfl

theorem own_id (i : Nat) : (setOwn own i fun a => own i a ∨ False) = own := by
  funext j a
  unfold setOwn
  split
  · rename_i h; rw [h]; simp
  · rfl

/-- a method of a list that a name holds -/
theorem call_own {x : Str} {p apos pos : Pos} {name : Str} {id : String} {es : List Expr} {a : Addr} {vs : Array Value} {E : Value → Shared → Prop} {Q : Value → Shared → Prop} (S : StR W A k cc env Kp g Ok0 own ρ s)
    (H : Holds s.heap env x (.ref a)) (hd : (x == ("__debug__" : Str)) = false) (hcd : (x == ("__classdict__" : Str)) = false) (hl : s.heap.PlainList a vs) (hline : (apos.endLine == pos.line) = true)
    (slot : PySem.Slot "list" name id) (hty : typeOf (.builtin id) = pure (.type "method_descriptor")) (hfew : methodCallForm (es.length + ([] : List Keyword).length) (backTo pos (starEach es env)) (backToKw pos (keywordEach [] env)) = true)
    (hpl : (backTo pos (starEach es env)).any (·.1) = false)
    (h : wpAny W.M A (spliced (backTo pos (starEach es env))) (fun ws s' => wpAny W.M A (call (.builtin id) (.ref a :: ws)) Q E s') E s) :
    wpAny W.M A (eval (.Call (.Attribute (.Name x p) name apos) es [] pos) env) Q E s := by
  rw [arm_eval_Call, base_plain (o := .Name x p) rfl]
  refine wpAny_bind (H.load (h := s.heap) S.kind hd hcd (wpAny_bind (wpAny_standAt ?_)))
  have hpos : methodCallPos true (.Name x p) env apos pos = pure pos := by unfold methodCallPos; simp [hline]
  unfold methodCall
  rw [hfew]
  refine wpAny_bind (wpAny_holding (getMethod_lst hl slot hty ?_))
  refine wpAny_bind (wpAny_of_eq hpos ?_)
  exact Calls.callWith_builtin hpl (evalArgs_of (fun x hx => by rw [hx] at hpl; cases hpl) h)

theorem ss_append (G : cc.Good) {x : Str} {i : Nat} {me : ME} {e : Expr} {p apos pos pos' : Pos} (hx : cc.σ x = some i) (hd : (x == ("__debug__" : Str)) = false) (hcd : (x == ("__classdict__" : Str)) = false)
    (hline : (apos.endLine == pos.line) = true) (hn : notStar e = true) (h : SE W Γ k cc me e) : SS W Γ k cc (.append i me) (.Expr (.Call (.Attribute (.Name x p) "append" apos) [e] [] pos) pos') := by
  intro A env Kp g Ok0 own0 ρ0 s fl ρ' S0 e' E Q q
  simp only [Mine.exec] at e'
  obtain ⟨own, S⟩ := S0.freeze (esc me)
  generalize freeze (esc me) ρ0 = ρ at *
  split at e'
  · rename_i xs v h1 h2
    split at e'
    · rename_i hz
      cases e'
      obtain ⟨w, hw, hb⟩ := S.get x i _ _ hx h1
      cases hb with
      | one ho hpl hra =>
        rename_i a vs
        refine wpAny_Expr ?_ (not_inter S) rfl
        refine call_own S hw hd hcd hpl hline F.slot_list_append F.type_list_append (by rw [starEach_plain hn]; rfl) (plain_one hn) (spliced_one hn (h A env _ ρ s v 0 S.here h2 E _ fun u s1 e1 r1 => ?_))
        have hpl1 : s1.heap.PlainList a vs.toArray := hpl.at fun o => e1.keep a o
        have hvl : vs.length < LIM := by rw [hra.length]; exact hz
        refine wpAny_list_append_plain hpl1 (fun h' pl' sb => ?_) (by rw [List.size_toArray]; exact lim_size (Nat.le_of_lt hvl))
        have kb := KeepBut.of_same (X := fun b => b = a) sb rfl s1.toks
        have hex : ∀ b, b = a → h'.get? b ≠ none := fun b hb => by rw [hb]; obtain ⟨_, ho⟩ := pl'; rw [ho]; exact fun h => nomatch h
        have e3 : vs.toArray.push u = (vs ++ [u]).toArray := by simp
        rw [e3] at pl'
        have S' := S.turn G (s' := { s1 with heap := h' }) (l := 1) (pv := .list (xs ++ [v])) (new := fun _ => False) e1 hx (fun b hb => by have hb' : b = a := hb; rw [hb']; exact ho) (fun _ h => h.elim) kb hex hw
          (.one (.inl ho) pl' (((hra.ext e1).append (.cons r1.rep0 .nil)).but kb fun b hb hs => ⟨⟨hb, fun h => h⟩, fun h => hb.2 i (by have h' : b = a := h; rw [h']; exact ho)⟩))
        exact q _ _ _ S' rfl
    · cases e'
  · cases e'

theorem RepAll.snoc_inv {h : Heap} {Ok : Addr → Prop} {x : PV} : ∀ {xs : List PV} {vs : List Value}, RepAll h Ok vs (xs ++ [x]) → ∃ ws u, vs = ws ++ [u] ∧ RepAll h Ok ws xs ∧ Rep h Ok u x
  | [], _, .cons r .nil => ⟨[], _, rfl, .nil, r⟩
  | y :: xs, _, .cons r rs => by
    obtain ⟨ws, u, rfl, h1, h2⟩ := RepAll.snoc_inv rs
    exact ⟨_ :: ws, u, rfl, .cons r h1, h2⟩
theorem ss_pop (G : cc.Good) {x : Str} {i : Nat} {p apos pos pos' : Pos} (hx : cc.σ x = some i) (hd : (x == ("__debug__" : Str)) = false) (hcd : (x == ("__classdict__" : Str)) = false)
    (hline : (apos.endLine == pos.line) = true) : SS W Γ k cc (.pop i) (.Expr (.Call (.Attribute (.Name x p) "pop" apos) [] [] pos) pos') := by
  intro A env Kp g Ok0 own ρ s fl ρ' S e' E Q q
  simp only [Mine.exec] at e'
  split at e'
  · rename_i xs h1
    split at e'
    · rename_i tk cs r hr
      split at e'
      · rename_i hz
        cases e'
        obtain ⟨w, hw, hb⟩ := S.get x i _ _ hx h1
        cases hb with
        | one ho hpl hra =>
          rename_i a vs
          have hxs : xs = r.reverse ++ [.txt tk cs] := by rw [← List.reverse_reverse xs, hr, List.reverse_cons]
          subst hxs
          obtain ⟨ws, u, rfl, r1, r2⟩ := hra.snoc_inv
          obtain ⟨n, ho1⟩ := hpl
          refine wpAny_Expr ?_ (not_inter S) rfl
          refine call_own S hw hd hcd ⟨n, ho1⟩ hline F.slot_list_pop F.type_list_pop rfl rfl (Calls.spliced_nil ?_)
          have hy : (ws ++ [u]).toArray[(ws ++ [u]).toArray.size - 1]? = some u := by simp
          have hvl : (ws ++ [u]).toArray.size ≤ sizeLine := by
            rw [List.size_toArray, List.length_append, r1.length]
            rw [List.length_append] at hz
            exact lim_size hz
          have hT : s.TypeIs (.ref a) "list" := ⟨_, ho1, rfl⟩
          refine call_meets F.slot_list_pop hT F.entry_list_pop (F.args_list_pop_1 _) (PySem.MeetsSeq.list_pop_last a (ws ++ [u]).toArray n u hy hvl) ⟨ho1, ?_⟩
          have pl' := plain_update (fun xs => xs.eraseIdxIfInBounds ((ws ++ [u]).toArray.size - 1)) ho1
          have e3 : (ws ++ [u]).toArray.eraseIdxIfInBounds ((ws ++ [u]).toArray.size - 1) = ws.toArray := by
            have := kl_erase ws [] u
            rw [List.append_nil] at this
            rw [← this]
            congr 1
            simp
          simp only [e3] at pl'
          have sb := Heap.SameBut.update s.heap a (Obj.mapSeq fun xs => xs.eraseIdxIfInBounds ((ws ++ [u]).toArray.size - 1))
          have fin : Q .next { s with heap := s.heap.update a (Obj.mapSeq fun xs => xs.eraseIdxIfInBounds ((ws ++ [u]).toArray.size - 1)) } := by
            refine q _ _ _ (S.turn G (l := 1) (pv := .list r.reverse) (new := fun _ => False) (.refl s) hx (X := fun b => b = a) (fun b hb => by have hb' : b = a := hb; rw [hb']; exact ho) (fun _ h => h.elim) (KeepBut.of_same (X := fun b => b = a) sb rfl s.toks) (fun b hb => ?_) hw
              (.one (.inl ho) pl' (r1.but (KeepBut.of_same (X := fun b => b = a) sb rfl s.toks) fun b hb hs => ⟨⟨hb, fun h => h⟩, fun h => hb.2 i (by have h' : b = a := h; rw [h']; exact ho)⟩))) rfl
            have hb' : b = a := hb
            rw [hb']; obtain ⟨_, ho⟩ := pl'; rw [ho]; exact fun h => nomatch h
          cases r2 <;> exact fin
      · cases e'
    · cases e'
  · cases e'

/-! in place -/
theorem seqSlot_list_iadd : seqSlot? (.type "list") (dunderI "add") = pure (some (.builtin "list.__iadd__")) := PySem.seqSlot_of F.slot_list_iadd.lookup (by decide +kernel)
theorem inplace_lists {a b : Addr} {vs ws : List Value} {E Q : Value → Shared → Prop} (ha : s.heap.PlainList a vs.toArray) (hb : s.heap.PlainList b ws.toArray) (hz : vs.length + ws.length ≤ LIM)
    (q : ∀ h', h'.PlainList a (vs ++ ws).toArray → Heap.SameBut a s.heap h' → Q (.ref a) { s with heap := h' }) : wpAny W.M A (inplaceOp .Add (.ref a) (.ref b)) Q E s := by
  obtain ⟨n, ho⟩ := ha
  obtain ⟨n2, ho2⟩ := hb
  have hT : s.TypeIs (.ref a) "list" := ⟨_, ho, rfl⟩
  have hT2 : s.TypeIs (.ref b) "list" := ⟨_, ho2, rfl⟩
  unfold inplaceOp
  refine wpAny_holding ?_
  have hfi : fillsInplaceSlot (.type "list") "add" (Operator.Add == .Add) = pure false := by
    unfold fillsInplaceSlot
    show (typeLookup (.type "list") (dunderI "add") >>= fun fi => pure (fi.isSome && !isSeqSlot fi)) = pure false
    rw [F.slot_list_iadd.lookup]; rfl
  refine wpAny_bind (wpAny_typeOf hT (wpAny_bind (wpAny_of_eq hfi ?_)))
  show wpAny W.M A (if false = true then _ else _) Q E s
  rw [if_neg Bool.false_ne_true]
  refine wpAny_bind (wpAny_binaryOp1_none (nm := "add") hT hT2 noFill_list_add ?_)
  refine wpAny_bind (wpAny_of_eq seqSlot_list_iadd ?_)
  refine wpAny_bind (wpAny_rule ?_)
  have hs1 : vs.toArray.size ≤ sizeLine := by rw [List.size_toArray]; exact lim_size (by omega)
  have hs2 : vs.toArray.size + ws.toArray.size ≤ sizeLine + 1 := by
    rw [List.size_toArray, List.size_toArray]; have := lim_size hz; omega
  refine call_meets F.slot_list_iadd hT F.entry_list_iadd (F.args_list_iadd_2 _ _) (AutoSeq1.list___iadd___list_list_0 a vs.toArray n b ws.toArray n2 ?_ hs1 hs2) ⟨ho, ho2, ?_⟩
  · rw [List.size_toArray, List.size_toArray]
    have : Builtin.List.listTooLong (vs.length + ws.length) = false := by
      have hz' := lim_size hz
      unfold Builtin.List.listTooLong
      simp only [decide_eq_false_iff_not]
      omega
    rw [this, Bool.and_false]; decide
  · have pl' := plain_update (fun x => x ++ ws.toArray) ho
    have e3 : vs.toArray ++ ws.toArray = (vs ++ ws).toArray := by simp
    simp only [e3] at pl'
    exact q _ pl' (Heap.SameBut.update ..)

/-- the same value is stored again -/
theorem StR.again (G : cc.Good) {x : Str} {i : Nat} {v : Value} {pv : PV} {l : Nat} {E : Value → Shared → Prop} {Q : Unit → Shared → Prop} (S : StR W A k cc env Kp g Ok0 own ρ s) (hx : cc.σ x = some i) (hρ : (ρ[i]?).join = some (pv, l))
    (hv : BOwn W s.heap (Okc Ok0 own) (own i) l v pv) (q : ∀ s', StR W A k cc env Kp g Ok0 own ρ s' → Q () s') : wpAny W.M A (storeName env x v) Q E s := by
  refine S.phys hx fun X s' kb hX hex hns hcells h1 h2 => q s' ?_
  have hXp : ∀ b, X b → Priv env own b := fun b hb => by
    rcases hX b hb with h | h
    · exact .inl h
    · exact .inr (.inl h)
  have mv : ∀ {j : Nat} {w : Value} {pv' : PV} {l' : Nat}, BOwn W s.heap (Okc Ok0 own) (own j) l' w pv' → BOwn W s'.heap (Okc Ok0 own) (own j) l' w pv' := by
    intro j w pv' l' hb
    refine hb.move kb (fun b hb hs => ⟨hb, fun hx => S.frame_not hs (hX b hx)⟩) (fun b hb hx => ?_) fun _ h => h
    obtain ⟨_, q1, q2, _⟩ := S.owned j b hb
    rcases hX b hx with rfl | ⟨y, hy⟩
    · exact q1 rfl
    · exact q2 y hy
  refine S.step (X := X) kb (fun b hb => S.priv b (hXp b hb)) (fun b hb hn => absurd hn (hex b hb)) hns hcells S.len ?_ (fun i a h => .inl ⟨i, h⟩) S.inj
  intro y j pv' l' hy hj
  by_cases hyx : y = x
  · subst hyx
    rw [hx] at hy; cases hy
    rw [hρ] at hj; cases hj
    exact ⟨v, h1, mv hv⟩
  · obtain ⟨w, h3, h4⟩ := S.get y j pv' l' hy hj
    exact ⟨w, h2 y w hyx h3, mv h4⟩

theorem ss_extend (G : cc.Good) {x : Str} {i : Nat} {me : ME} {e : Expr} {p pos : Pos} (hx : cc.σ x = some i) (hcd : (x == ("__classdict__" : Str)) = false) (h : SE W Γ k cc me e) :
    SS W Γ k cc (.extend i me) (.AugAssign (.Name x p) .Add e pos) := by
  intro A env Kp g Ok0 own0 ρ0 s fl ρ' S0 e' E Q q
  simp only [Mine.exec] at e'
  obtain ⟨own, S⟩ := S0.freeze (escT me)
  generalize freeze (escT me) ρ0 = ρ at *
  split at e'
  · rename_i xs ys h1 h2
    split at e'
    · rename_i hz
      cases e'
      obtain ⟨w, hw, hb⟩ := S.get x i _ _ hx h1
      cases hb with
      | one ho hpl hra =>
        rename_i a vs
        refine wpAny_AugAssign_Name (S.load hw hcd (h A env _ ρ s _ 0 S.here h2 E _ fun u s1 e1 r1 => ?_))
        cases r1.rep0 with
        | list hob hplb hrb =>
          rename_i b ws
          have hpl1 : s1.heap.PlainList a vs.toArray := hpl.at fun o => e1.keep a o
          refine inplace_lists hpl1 hplb (by rw [hra.length, hrb.length]; exact hz) fun h' pl' sb => ?_
          have kb := KeepBut.of_same (X := fun b => b = a) sb rfl s1.toks
          have hex : ∀ b, b = a → h'.get? b ≠ none := fun b hb => by rw [hb]; obtain ⟨_, ho⟩ := pl'; rw [ho]; exact fun h => nomatch h
          have ra' : RepAll h' (Okc Ok0 own) (vs ++ ws) (xs ++ ys) := ((hra.ext e1).append hrb).but (s' := { s1 with heap := h' }) kb fun b hb hs => ⟨hb, fun h => hb.2 i (by have h' : b = a := h; rw [h']; exact ho)⟩
          have S' := S.turn G (s' := { s1 with heap := h' }) (l := 1) (pv := .list (xs ++ ys)) (new := fun _ => False) e1 hx (fun b hb => by have hb' : b = a := hb; rw [hb']; exact ho) (fun _ h => h.elim) kb hex hw
            (.one (.inl ho) pl' (ra'.weaken fun b hb => ⟨hb, fun h => h⟩))
          rw [own_id] at S'
          have hil : i < ρ.length := by rw [S.len]; exact G.lt x i hx
          refine S'.again G hx (pv := .list (xs ++ ys)) (l := 1) (by rw [get_set hil, if_pos rfl]; rfl) (.one ho pl' ra') fun s'' S'' => q _ s'' _ S'' rfl
    · cases e'
  · cases e'

theorem aug_sound {o : BOp} {v u : Value} {x y z : PV} {Ok : Addr → Prop} (hv : Rep s.heap Ok v x) (hu : Rep s.heap Ok u y) (ha : augOk o x y = true) (e : binF o x y = some z) : Gets W A Ok s (inplaceOp o.op v u) z := by
  cases o <;> cases x <;> cases y <;> simp only [augOk] at ha <;> try (cases ha; done)
  · cases e; exact iadd_ints hv hu
  · simp only [binF] at e
    split at e
    · rename_i h; obtain ⟨rfl, h⟩ := h; cases e; exact iadd_txts h hv hu
    · cases e
  · cases e
    cases hv; cases hu
    exact fun E Q q => PySem.P.isub_int (q _ _ (.toks _ _) (.int _ _))
  · simp only [binF] at e
    split at e
    · rename_i h
      cases e
      cases hv; cases hu
      exact fun E Q q => ifloordiv_int h.1 (q _ _ (.toks _ _) (.int _ _)) (.inl (no_pylong h.2))
    · cases e

theorem ss_aug (G : cc.Good) {x : Str} {i : Nat} {o : BOp} {me : ME} {e : Expr} {p pos : Pos} (hx : cc.σ x = some i) (hcd : (x == ("__classdict__" : Str)) = false) (h : SE W Γ k cc me e) :
    SS W Γ k cc (.aug i o me) (.AugAssign (.Name x p) o.op e pos) := by
  intro A env Kp g Ok0 own0 ρ0 s fl ρ' S0 e' E Q q
  simp only [Mine.exec] at e'
  obtain ⟨own, S⟩ := S0.freeze (escT me)
  generalize freeze (escT me) ρ0 = ρ at *
  split at e'
  · rename_i v w h1 h2
    split at e'
    · rename_i hok
      cases h3 : binF o v w with
      | none => rw [h3] at e'; cases e'
      | some z =>
        rw [h3] at e'; cases e'
        obtain ⟨u, hu, hb⟩ := S.get x i _ _ hx h1
        cases hb with
        | zero r0 =>
          refine wpAny_AugAssign_Name (S.load hu hcd (h A env _ ρ s _ 0 S.here h2 E _ fun t s1 e1 r1 => aug_sound (r0.ext e1) r1.rep0 hok h3 E _ fun t' s2 e2 r2 => ?_))
          exact (S.ext (e1.trans e2)).store0 G hx r2 fun s'' _ S'' => q _ s'' _ S'' rfl
    · cases e'
  · cases e'

theorem ss_augIdx (G : cc.Good) {x : Str} {i : Nat} {o : BOp} {mi me : ME} {e ei : Expr} {p p' pos : Pos} (hx : cc.σ x = some i) (hd : (x == ("__debug__" : Str)) = false) (hcd : (x == ("__classdict__" : Str)) = false) (hi : SE W Γ k cc mi ei) (h : SE W Γ k cc me e)
    (hst : ∀ ov iv new, augStore ei ov iv new = (do holding [new, ov, iv] (setItem ov iv new); release [new, ov, iv] []; pure .next)) :
    SS W Γ k cc (.augIdx i mi o me) (.AugAssign (.Subscript (.Name x p) ei p') o.op e pos) := by
  intro A env Kp g Ok0 own ρ s fl ρ' S e' E Q q
  simp only [Mine.exec] at e'
  split at e'
  · rename_i xs kk lk w h1 h2 h3
    split at e'
    · rename_i v hv
      split at e'
      · rename_i hz
        cases h4 : binF o v w with
        | none => rw [h4] at e'; cases e'
        | some z =>
          rw [h4] at e'; cases e'
          obtain ⟨u, hu, hb⟩ := S.get x i _ _ hx h1
          cases hb with
          | one ho hpl hra =>
            rename_i a vs
            have hzl : vs.length ≤ LIM := by rw [hra.length]; exact hz.1
            obtain ⟨n, hn, hxn, hcase⟩ := idxAt_lt hv
            refine wpAny_AugAssign_SubscriptAny (hu.load (h := s.heap) S.kind hd hcd (hi A env _ ρ s _ _ S.here h2 E _ fun iv s1 e1 r1 => ?_)) hst
            have hpl1 : s1.heap.PlainList a vs.toArray := hpl.at fun o => e1.keep a o
            obtain ⟨v0, hv0, rv0⟩ := hra.get n v hxn
            cases r1.scalar (by simp) (by simp)
            rename_i ti
            have hcase' : (0 ≤ kk ∧ n = kk.toNat) ∨ (kk < 0 ∧ -(vs.length : Int) ≤ kk ∧ n = (kk + vs.length).toNat) := by rw [hra.length]; exact hcase
            refine getItem_raw hpl1 hzl hv0 hcase' ?_
            refine h A env _ ρ s1 _ 0 (S.ext e1).here h3 E _ fun t s2 e2 r2 => aug_sound ((rv0.ext e1).ext e2) r2.rep0 hz.2 h4 E _ fun t' s3 e3 r3 => ?_
            have e13 := (e1.trans e2).trans e3
            obtain ⟨nn, ho3⟩ := hpl.at fun o => e13.keep a o
            have hset : ∀ h', h'.PlainList a (vs.set n t').toArray → Heap.SameBut a s3.heap h' → Q .next { s3 with heap := h' } := by
              intro h' pl' sb
              have kb := KeepBut.of_same (X := fun b => b = a) sb rfl s3.toks
              have hex : ∀ b, b = a → h'.get? b ≠ none := fun b hb => by rw [hb]; obtain ⟨_, ho⟩ := pl'; rw [ho]; exact fun h => nomatch h
              have ra' : RepAll h' (Okc Ok0 own) (vs.set n t') (xs.set n z) := ((hra.ext e13).set r3 n).but (s' := { s3 with heap := h' }) kb fun b hb hs => ⟨hb, fun h => hb.2 i (by have h' : b = a := h; rw [h']; exact ho)⟩
              have S' := S.turn G (s' := { s3 with heap := h' }) (l := 1) (pv := .list (xs.set n z)) (new := fun _ => False) e13 hx (fun b hb => by have hb' : b = a := hb; rw [hb']; exact ho) (fun _ h => h.elim) kb hex hu
                (.one (.inl ho) pl' (ra'.weaken fun b hb => ⟨hb, fun h => h⟩))
              have hn' : n = (if 0 ≤ kk then kk.toNat else (kk + xs.length).toNat) := by
                rcases hcase with ⟨h0, rfl⟩ | ⟨h0, _, rfl⟩
                · rw [if_pos h0]
                · rw [if_neg (by omega)]
              rw [hn'] at S'
              exact q _ _ _ S' rfl
            have upd : (s3.heap.update a (Obj.mapSeq (·.setIfInBounds n t'))).PlainList a (vs.set n t').toArray := by
              have := plain_update (·.setIfInBounds n t') ho3
              have e3 : vs.toArray.setIfInBounds n t' = (vs.set n t').toArray := by simp
              simp only [e3] at this
              exact this
            have hnl : n < vs.length := by rw [hra.length]; exact hn
            unfold LIM at hzl
            rcases hcase' with ⟨h0, rfl⟩ | ⟨h0, h5, rfl⟩
            · exact ki_setAt (n := nn) ho3 h0 (by omega) (by rw [List.size_toArray]; omega) (hset _ upd (Heap.SameBut.update ..))
            · exact ki_setBack (n := nn) ho3 h0 (by rw [List.size_toArray]; exact h5) (by omega) (by rw [List.size_toArray]; exact hset _ upd (Heap.SameBut.update ..))
      · cases e'
    · cases e'
  · cases e'

/-! dicts by ints -/
theorem ss_newDict (G : cc.Good) {x : Str} {i : Nat} {p p' pos : Pos} (hx : cc.σ x = some i) : SS W Γ k cc (.newDict i) (.Assign [.Name x p] (.Dict [] [] p') pos) := by
  intro A env Kp g Ok0 own ρ s fl ρ' S e' E Q q
  cases e'
  refine wpAny_Assign_Name (wpAny_Dict_empty ?_) (swaps_plain rfl _ _ _)
  have e1 := Ext.push s { cls := .type "dict", data := .dict #[] }
  refine S.store G (new := fun b => b = s.heap.objs.size) e1 hx (fun b hb => ?_) (.dict rfl ⟨[], ?_, rfl, .nil⟩) fun s'' _ S'' => q _ s'' _ S'' rfl
  · have hb' : b = s.heap.objs.size := hb
    rw [hb']
    exact ⟨get_size _, by rw [Heap.get?_push_size _ rfl]; exact fun h => nomatch h⟩
  · exact ⟨_, #[], 0, Heap.get?_push_size _ rfl, ⟨rfl, rfl, rfl⟩, rfl, by intro e he; simp at he, .nil, by simp⟩
theorem stored_map {h : Heap} {Ok : Addr → Prop} {i : Int} {v : Value} {x : PV} (hv : Rep h Ok v x) : ∀ {kvs : List (Int × Value)} {es : List (Int × PV)}, kvs.map (·.1) = es.map (·.1) → RepAll h Ok (kvs.map (·.2)) (es.map (·.2)) →
    (kvs.map fun kv => if kv.1 = i then (kv.1, v) else kv).map (·.1) = (es.map fun e => if e.1 = i then (e.1, x) else e).map (·.1) ∧ RepAll h Ok ((kvs.map fun kv => if kv.1 = i then (kv.1, v) else kv).map (·.2)) ((es.map fun e => if e.1 = i then (e.1, x) else e).map (·.2))
  | [], [], _, _ => ⟨rfl, .nil⟩
  | [], _ :: _, e, _ => by simp at e
  | _ :: _, [], e, _ => by simp at e
  | (a, w) :: r, (b, y) :: t, e, .cons h1 h2 => by
    simp only [List.map_cons, List.cons.injEq] at e
    obtain ⟨e1, e2⟩ := e
    obtain ⟨i1, i2⟩ := stored_map hv e2 h2
    subst e1
    simp only [List.map_cons]
    by_cases q : a = i
    · simp only [if_pos q]
      exact ⟨by rw [i1], .cons hv i2⟩
    · simp only [if_neg q]
      exact ⟨by rw [i1], .cons h1 i2⟩
theorem any_keys {i : Int} : ∀ {kvs : List (Int × Value)} {es : List (Int × PV)}, kvs.map (·.1) = es.map (·.1) → (kvs.any fun kv => decide (kv.1 = i)) = (es.any fun e => decide (e.1 = i))
  | [], [], _ => rfl
  | [], _ :: _, e => by simp at e
  | _ :: _, [], e => by simp at e
  | (a, w) :: r, (b, y) :: t, e => by
    simp only [List.map_cons, List.cons.injEq] at e
    rw [List.any_cons, List.any_cons, any_keys e.2, e.1]
theorem setDict_stored {kvs : List (Int × Value)} {es : List (Int × PV)} {h : Heap} {Ok : Addr → Prop} {i : Int} {v : Value} {x : PV} (h1 : kvs.map (·.1) = es.map (·.1)) (h2 : RepAll h Ok (kvs.map (·.2)) (es.map (·.2))) (hv : Rep h Ok v x) :
    (stored kvs i v).map (·.1) = (setDict es i x).map (·.1) ∧ RepAll h Ok ((stored kvs i v).map (·.2)) ((setDict es i x).map (·.2)) := by
  unfold stored setDict
  rw [any_keys h1]
  split
  · exact stored_map (kvs := kvs) (es := es) hv h1 h2
  · simp only [List.map_append, List.map_cons, List.map_nil]
    exact ⟨by rw [h1], h2.append (.cons hv .nil)⟩
theorem ss_setIdx (G : cc.Good) {x : Str} {i : Nat} {mi me : ME} {e ei : Expr} {p p' pos : Pos} (hx : cc.σ x = some i) (hd : (x == ("__debug__" : Str)) = false) (hcd : (x == ("__classdict__" : Str)) = false) (hnc : notComp e = true) (hi : SE W Γ k cc mi ei) (h : SE W Γ k cc me e) :
    SS W Γ k cc (.setIdx i mi me) (.Assign [.Subscript (.Name x p) ei p'] e pos) := by
  intro A env Kp g Ok0 own0 ρ0 s fl ρ' S0 e' E Q q
  simp only [Mine.exec] at e'
  obtain ⟨own, S⟩ := S0.freeze (esc me)
  generalize freeze (esc me) ρ0 = ρ at *
  split at e'
  · rename_i es kk lk v h1 h2 h3
    split at e'
    · rename_i hz
      cases e'
      obtain ⟨u, hu, hb⟩ := S.get x i _ _ hx h1
      cases hb with
      | dict ho hdi =>
        rename_i a
        refine wpAny_Assign_Subscript (h A env _ ρ s _ 0 S.here h3 E _ fun w s1 e1 r1 => ?_) (swaps_plain hnc _ _ _)
        refine (hu.keeps e1.keep).load (h := s1.heap) S.kind hd hcd (hi A env _ ρ s1 _ _ (S.ext e1).here h2 E _ fun iv s2 e2 r2 => ?_)
        cases r2.scalar (by simp) (by simp)
        rename_i ti
        have e12 := e1.trans e2
        obtain ⟨kvs, k1, k2, k3⟩ := hdi
        have k1' : s2.heap.DictOf (intKind W.prog W.w) a kvs := k1.keep e12.keep
        refine wpAny_setItem_pairs (intKind_is W.prog W.w kk ti) k1' (fun h' hd' sb => ?_) ?_
        · have kb := KeepBut.of_same (X := fun b => b = a) sb rfl (s2.toks + 1)
          have hex : ∀ b, b = a → h'.get? b ≠ none := fun b hb => by rw [hb]; obtain ⟨_, _, _, ho, _⟩ := hd'; rw [ho]; exact fun h => nomatch h
          have hx' : ∀ b, Okc Ok0 own b → SeqAt s2.heap b → Okc Ok0 own b ∧ ¬ b = a := fun b hb hs => ⟨hb, fun h => hb.2 i (by rw [h]; exact ho)⟩
          have k4 := setDict_stored (i := kk) k2 (k3.but (e12.but.trans kb) fun b hb hs => ⟨hb, fun h => hb.2 i (by have h' : b = a := h; rw [h']; exact ho)⟩) ((r1.rep0.ext e2).but kb hx')
          have S' := S.turn G (s' := { s2 with heap := h', toks := s2.toks + 1 }) (l := 1) (pv := .dict (setDict es kk v)) (new := fun _ => False) e12 hx (fun b hb => by have hb' : b = a := hb; rw [hb']; exact ho) (fun _ h => h.elim) kb hex hu
            (.dict (.inl ho) ⟨stored kvs kk w, hd', k4.1, k4.2.weaken fun b hb => ⟨hb, fun h => h⟩⟩)
          exact q _ _ _ S' rfl
        · have : kvs.length = es.length := by have := congrArg List.length k2; simpa using this
          rw [this]
          exact lim_size (by unfold LIM; omega)
    · cases e'
  · cases e'

theorem ss_try {m : MS} {body : List Stmt} {h₀ : ExceptHandler} {hs : List ExceptHandler} {pos : Pos} (h : SB W Γ k cc m body) : SS W Γ k cc (.try_ m) (.Try body (h₀ :: hs) [] [] pos) := by
  intro A env Kp g Ok0 own ρ s fl ρ' S e' E Q q
  refine wpAny_Try_except (h A env Kp g Ok0 own ρ s fl ρ' S e' _ _ fun own' s' f S' hf => ?_)
  cases fl with
  | next => cases hf; exact wpAny_execs_nil (q own' s' _ S' rfl)
  | brk => cases hf; exact q own' s' _ S' rfl
  | cont => cases hf; exact q own' s' _ S' rfl
  | ret z => obtain ⟨v, rfl, hv⟩ := hf; exact q own' s' _ S' ⟨v, rfl, hv⟩
end
end Mine
end
section
namespace Mine
open Builtin

/-! ## a def of the program, from its body -/
theorem bindL_other {kd : Str → Option NameKind} {x : Str} : ∀ {bs : List (Str × Value)} {m : Str → Option Value}, (∀ b ∈ bs, b.1 ≠ x) → bindL kd bs m x = m x
  | [], _, _ => rfl
  | (n, v) :: r, m, h => by
    unfold bindL
    rw [bindL_other fun b hb => h b (.tail _ hb)]
    split
    · exact if_neg (Ne.symm (h _ (.head _)))
    · rfl
theorem bindL_at {kd : Str → Option NameKind} {x : Str} {w : Value} (hk : kd x = some .local) : ∀ {ps : List Str} {ws : List Value} {i : Nat} {m : Str → Option Value}, ps.Nodup → ps[i]? = some x → ws[i]? = some w → bindL kd (ps.zip ws) m x = some w
  | [], _, _, _, _, h, _ => by simp at h
  | _ :: _, [], _, _, _, _, h => by simp at h
  | p :: ps, u :: ws, 0, m, hn, h1, h2 => by
    simp at h1 h2
    subst h1 h2
    obtain ⟨h3, h4⟩ := List.nodup_cons.mp hn
    show bindL kd ((p, u) :: ps.zip ws) m p = some u
    unfold bindL
    rw [bindL_other fun b hb => ?_, if_pos hk, if_pos rfl]
    rintro rfl
    exact h3 (List.of_mem_zip hb).1
  | p :: ps, u :: ws, i + 1, m, hn, h1, h2 => by
    obtain ⟨h3, h4⟩ := List.nodup_cons.mp hn
    show bindL kd ((p, u) :: ps.zip ws) m x = some w
    unfold bindL
    exact bindL_at hk h4 (by simpa using h1) (by simpa using h2)
theorem bindC_other {kd : Str → Option NameKind} {x : Str} : ∀ {bs : List (Str × Value)} {m : Str → Option Value}, (∀ b ∈ bs, b.1 ≠ x) → bindC kd bs m x = m x
  | [], _, _ => rfl
  | (n, v) :: r, m, h => by
    unfold bindC
    rw [bindC_other fun b hb => h b (.tail _ hb)]
    split
    · rfl
    · exact if_neg (Ne.symm (h _ (.head _)))
theorem bindC_at {kd : Str → Option NameKind} {x : Str} {w : Value} (hk : kd x ≠ some .local) : ∀ {ps : List Str} {ws : List Value} {i : Nat} {m : Str → Option Value}, ps.Nodup → ps[i]? = some x → ws[i]? = some w → bindC kd (ps.zip ws) m x = some w
  | [], _, _, _, _, h, _ => by simp at h
  | _ :: _, [], _, _, _, _, h => by simp at h
  | p :: ps, u :: ws, 0, m, hn, h1, h2 => by
    simp at h1 h2
    subst h1 h2
    obtain ⟨h3, h4⟩ := List.nodup_cons.mp hn
    show bindC kd ((p, u) :: ps.zip ws) m p = some u
    unfold bindC
    rw [bindC_other fun b hb => ?_, if_neg hk, if_pos rfl]
    rintro rfl
    exact h3 (List.of_mem_zip hb).1
  | p :: ps, u :: ws, i + 1, m, hn, h1, h2 => by
    obtain ⟨h3, h4⟩ := List.nodup_cons.mp hn
    show bindC kd ((p, u) :: ps.zip ws) m x = some w
    unfold bindC
    exact bindC_at hk h4 (by simpa using h1) (by simpa using h2)
theorem cellsFrom_acc {x : Str} : ∀ {names : List (Str × NameKind)} {n : Nat} {acc : List (Str × Addr)}, (acc.lookup x).isSome = true → ((cellsFrom n names acc).lookup x).isSome = true
  | [], _, _, h => h
  | (nm, kd) :: r, n, acc, h => by
    unfold cellsFrom
    split
    · refine cellsFrom_acc ?_
      rw [List.lookup_cons]
      split
      · rfl
      · exact h
    · exact cellsFrom_acc h
theorem cellsFrom_mem {x : Str} : ∀ {names : List (Str × NameKind)} {n : Nat} {acc : List (Str × Addr)}, (x, NameKind.cell) ∈ names → ((cellsFrom n names acc).lookup x).isSome = true
  | (nm, kd) :: r, n, acc, h => by
    unfold cellsFrom
    cases h with
    | head =>
      rw [if_pos (by decide)]
      refine cellsFrom_acc ?_
      rw [List.lookup_cons, beq_self_eq_true]
      rfl
    | tail _ h => split <;> exact cellsFrom_mem h

/-- the names of a def's scope -/
structure ScopeOk (cc : CC) (scope : Scope) (ps : List Str) : Prop where
  good : cc.Good
  gl : ∀ x, cc.gl x = true → scope.names.lookup x = some .globalImplicit
  cl : ∀ x, cc.cl x = true → scope.names.lookup x = some .cell
  st : ∀ x i, cc.σ x = some i → scope.names.lookup x = some .local ∨ scope.names.lookup x = some .cell
  par : ∀ i x, ps[i]? = some x → cc.σ x = some i
  nodup : ps.Nodup
  kind : scope.kind = .function

/-- how a call's arguments meet the parameters -/
def Packs (fd : FuncData) (ps : List Str) (pack : List PV → Option (List PV)) : Prop :=
  ∀ (W : Wld) (A : Around) (s : Shared) (Ok : Addr → Prop) (vs : List Value) (xs ys : List PV) (E : Value → Shared → Prop) (Q : List (Str × Value) → Shared → Prop), W.On s.heap → Fresh Ok s → RepAll s.heap Ok vs xs → pack xs = some ys →
    (∀ ws s', Ext s s' → RepAll s'.heap Ok ws ys → ws.length = ps.length → Q (ps.zip ws) s') → wpAny W.M A (bindArgs fd ⟨vs, []⟩) Q E s

theorem fun_ok {W : Wld} {Γ : FEnv} {k : Nat} {cc : CC} {fa : Addr} {o : Obj} {fd : FuncData} {body : List Stmt} {ms : MS} {ps : List Str} {pack : List PV → Option (List PV)}
    (hK : W.K.lookup fa = some o) (hd : o.data = .func fd) (hbody : fd.body = .stmts body) (hcode : ∀ h : Heap, W.On h → h.CodeRec fd.code fd.qualname) (hgl : fd.globals = mainGlobals) (hbi : fd.builtins = builtinsNs) (hclo : fd.closure = [])
    (hpack : Packs fd ps pack) (hsc : ScopeOk cc fd.scope ps) (hsb : SB W Γ k cc ms body) (hco : fd.scope.isCoroutine = false) (hgen : fd.scope.isGenerator = false) :
    FunOk W (k + 1) fa fun xs => (pack xs).bind (callF Γ cc.n ms) := by
  intro A s Ok vs xs z hr hon hfr hra hz R q
  have hz : (pack xs).bind (callF Γ cc.n ms) = some z := hz
  cases hp : pack xs with
  | none => rw [hp] at hz; cases hz
  | some ys =>
    rw [hp] at hz
    simp only [Option.bind_some] at hz
    have ho : s.heap.get? fa = some o := hon.frag _ _ hK
    have hdep : A.depth < recursionLimit := by have := hr.dep; unfold recursionLimit; omega
    refine codeAny_call_function hdep ho hd hco hgen hbody (hcode _ hon) ?_
    refine hpack W A.in1 s Ok vs xs ys _ _ hon hfr hra hp fun ws s1 e1 rw_ hlen => ?_
    rw [hclo, hgl, hbi]
    have hon1 := hon.ext e1
    have kindAt : ∀ x ∈ ps.zip ws, fd.scope.names.lookup x.1 = some .local ∨ (fd.scope.names.lookup x.1 = some .cell ∧ ((cellsFrom (s1.heap.objs.size + 1) fd.scope.names []).lookup x.1).isSome = true) := by
      intro x hx
      obtain ⟨i, hi⟩ := List.mem_iff_getElem?.mp (List.of_mem_zip hx).1
      rcases hsc.st _ _ (hsc.par i _ hi) with h | h
      · exact .inl h
      · exact .inr ⟨h, cellsFrom_mem (lookup_mem h)⟩
    refine wpAny_newFunctionEnv_cells hsc.kind kindAt fun env he s2 x => ?_
    obtain ⟨hsame, hns, hkeep, hfre⟩ := x.toInCall
    refine ⟨hon1.nolimit.keeps hkeep, codeAny_func ?_⟩
    have e2 : Ext s1 s2 := ⟨hsame, hkeep⟩
    have henvl : env.locals = s1.heap.objs.size := by rw [he]; rfl
    have henvs : env.scope = fd.scope := by rw [he]; rfl
    have henvc : env.cells = cellsFrom (s1.heap.objs.size + 1) fd.scope.names [] := by rw [he]; rfl
    have hkd : ∀ y, env.kindOf y = fd.scope.names.lookup y := fun y => by unfold Env.kindOf; rw [henvs]
    -- the frame at the start
    have S : StR W (A.deeper env) k cc env (fun b o => s1.heap.get? b = some o) s1 Ok (fun _ _ => False) ((ys.map fun v => some (v, 0)) ++ List.replicate (cc.n - ys.length) none) s2 := by
      have hyl : ys.length = ps.length := by rw [← rw_.length, hlen]
      refine ⟨⟨?_, ?_, ?_⟩, fun h hh => hon1.keeps hh, hkeep, hsame, fun a ha => hfr a ((e1.trans e2).fresh ha), by rw [henvs]; exact hsc.kind, by rw [he]; rfl, by rw [he]; rfl, ?_, fun y hy => by rw [hkd]; exact hsc.gl y hy, fun y hy => ?_, fun y i hy => ?_, ?_, ⟨_, hns⟩,
        fun y c hc => ⟨_, x.cell y c hc⟩, fun y y' c h1 h2 => ?_, ?_, fun _ _ h => h.elim, fun _ _ _ h => h.elim⟩
      · exact hr.hd
      · have := hr.dep; show A.depth + 1 + 2 * k < 900; omega
      · have := hr.un; show A.units + 3 + 200 * k + 200 < cLine; omega
      · rw [List.length_append, List.length_map, List.length_replicate]
        have : ys.length ≤ cc.n := by
          rw [hyl]
          rcases Nat.eq_zero_or_pos ps.length with h0 | h0
          · omega
          · have hl : ps[ps.length - 1]? = some ps[ps.length - 1] := List.getElem?_eq_getElem (by omega)
            have := hsc.good.lt _ _ (hsc.par _ _ hl)
            omega
        omega
      · rw [hkd, henvc]
        have h := hsc.cl y hy
        have := cellsFrom_mem (n := s1.heap.objs.size + 1) (acc := []) (lookup_mem h)
        exact ⟨.inl h, Option.isSome_iff_exists.mp this⟩
      · rw [hkd, henvc]
        rcases hsc.st y i hy with h | h
        · exact .inl h
        · have := cellsFrom_mem (n := s1.heap.objs.size + 1) (acc := []) (lookup_mem h)
          exact .inr ⟨h, Option.isSome_iff_exists.mp this⟩
      · intro y i pv l hy hi
        have hlt : i < ys.length := by
          rcases Nat.lt_or_ge i ys.length with h | h
          · exact h
          · rw [List.getElem?_append_right (by rw [List.length_map]; exact h), List.getElem?_replicate] at hi
            split at hi <;> cases hi
        rw [List.getElem?_append_left (by rw [List.length_map]; exact hlt), List.getElem?_map] at hi
        obtain ⟨yv, hyv⟩ : ∃ yv, ys[i]? = some yv := ⟨ys[i], List.getElem?_eq_getElem hlt⟩
        rw [hyv] at hi
        cases hi
        obtain ⟨w, hw, rw1⟩ := rw_.get i _ hyv
        have hpi : ∃ p, ps[i]? = some p := ⟨ps[i], List.getElem?_eq_getElem (by rw [← hyl]; exact hlt)⟩
        obtain ⟨p, hpi⟩ := hpi
        have : p = y := hsc.good.inj _ _ _ (hsc.par i p hpi) hy
        subst this
        refine ⟨w, ?_, .zero ((rw1.ext e2).weaken fun b hb => ⟨hb, fun _ h => h⟩)⟩
        rcases hsc.st p i hy with h | h
        · exact .inl ⟨by rw [hkd]; exact h, _, hns, bindL_at (by rw [hkd]; exact h) hsc.nodup hpi hw⟩
        · have hc := cellsFrom_mem (n := s1.heap.objs.size + 1) (acc := []) (lookup_mem h)
          obtain ⟨c, hc⟩ := Option.isSome_iff_exists.mp hc
          rw [← henvc] at hc
          have hcell := x.cell p c hc
          rw [bindC_at (by rw [hkd, h]; decide) hsc.nodup hpi hw] at hcell
          exact .inr ⟨.inl (by rw [hkd]; exact h), c, hc, hcell⟩
      · exact name_of_addr x.apart (mem_of_lookup h1) (mem_of_lookup h2)
      · rintro b (rfl | ⟨y, hy⟩ | ⟨i, hi⟩) o hb
        · rw [henvl, get_size] at hb; cases hb
        · have h1 := x.above y b (mem_of_lookup hy)
          rw [henvl] at h1
          exact absurd (Heap.lt_size hb) (Nat.not_lt.mpr (Nat.le_of_lt h1))
        · exact hi
    unfold callF at hz
    split at hz
    · rename_i v ρ' hex
      cases hz
      refine hsb (A.deeper env) env _ _ _ _ _ s2 _ _ S hex _ _ fun own' s' f S' hf => ?_
      obtain ⟨w, rfl, hw⟩ := hf
      have e3 : Ext s1 s' := ⟨S'.same, S'.kept⟩
      exact q w s' (e1.trans e3) hw
    · rename_i ρ' hex
      cases hz
      refine hsb (A.deeper env) env _ _ _ _ _ s2 _ _ S hex _ _ fun own' s' f S' hf => ?_
      cases hf
      have e3 : Ext s1 s' := ⟨S'.same, S'.kept⟩
      exact q .none s' (e1.trans e3) .none
    · cases hz

theorem packs_plain {fd : FuncData} {ps : List Str} {n : Nat} (hn : ps.length = n) (h : ∀ vs : List Value, vs.length = n → bindArgs fd ⟨vs, []⟩ = pure (ps.zip vs)) : Packs fd ps (fun xs => if xs.length = n then some xs else none) := by
  intro W A s Ok vs xs ys E Q hon fr r e q
  dsimp only at e
  split at e
  · rename_i hl
    cases e
    have hv : vs.length = n := by rw [r.length, hl]
    rw [h vs hv]
    exact wpAny_pure (q vs s (.refl s) r (by rw [hv, hn]))
  · cases e
def packVar : List PV → Option (List PV)
  | x :: xs => if xs.length ≤ LIM then some [x, .tup xs] else none
  | [] => none
theorem packs_var {fd : FuncData} {pa pp : Str} (h : ∀ (v : Value) (vs : List Value), bindArgs fd ⟨v :: vs, []⟩ = (do let t ← newTuple vs; pure [(pa, v), (pp, t)])) : Packs fd [pa, pp] packVar := by
  intro W A s Ok vs xs ys E Q hon fr r e q
  cases r with
  | nil => cases e
  | cons r1 rs =>
    rename_i v0 vs0 x0 xs0
    simp only [packVar] at e
    split at e
    · rename_i hl
      cases e
      rw [h]
      refine wpAny_bind (wpAny_newTuple (wpAny_pure ?_) (by rw [rs.length]; exact lim_size hl))
      have ep := Ext.push s { cls := .type "tuple", data := .seq vs0.toArray 0 }
      refine q [_, _] _ ep (.cons (r1.ext ep) (.cons (.tup (fr _ (get_size _)) ⟨0, Heap.get?_push_size _ rfl⟩ (rs.ext ep)) .nil)) rfl
    · cases e
end Mine
end
section
namespace Mine
open Builtin

/-! ## from the program's text to the small language -/
def bopOf : Operator → Option BOp
  | .Add => some .add | .Sub => some .sub | .Mult => some .mul | .FloorDiv => some .fdiv | .Mod => some .fmod | .Pow => some .pow | _ => none
def copOf : CmpOp → Option COp
  | .Eq => some .eq | .NotEq => some .ne | .Lt => some .lt | .LtE => some .le | .Gt => some .gt | .GtE => some .ge | .In => some .isin | .NotIn => some .notin | _ => none
def methOf (x : Str) : Option Meth := ([.split, .join, .startswith, .endswith, .lstrip, .rstrip, .rfind, .count, .index] : List Meth).find? fun m => m.nameS == x
def bi1Of (x : Str) : Option BI1 := ([.len, .abs, .chr, .ord, .sum, .min, .max, .bytes, .typ, .sortedset, .tuple] : List BI1).find? fun b => b.nameS == x
def bi2Of (x : Str) : Option BI2 := ([.min, .max, .isinst, .issub] : List BI2).find? fun b => b.nameS == x
def clsNameOf (x : Str) : Option String := (["str", "bytes", "bool", "int", "list", "tuple"] : List String).find? fun c => (Str.ofString c) == x

def cL (f : Expr → ME) : List Expr → ME
  | [] => .nil
  | .Starred e _ :: r => .star (f e) (cL f r)
  | e :: r => .cons (f e) (cL f r)
def cBool (op : BoolOp) (f : Expr → ME) : List Expr → ME
  | [] => .bad
  | [e] => f e
  | e :: e2 :: r => match op with
    | .And => .and_ (f e) (cBool op f (e2 :: r))
    | .Or => .or_ (f e) (cBool op f (e2 :: r))
def cPart (f : Expr → ME) : Option Expr → ME
  | none => .lit .none
  | some e => f e
def cName (cc : CC) (x : Str) : ME :=
  if x == ("__debug__" : Str) || x == ("__classdict__" : Str) then .bad else
  match cc.σ x with
  | some i => .var i
  | none => if cc.gl x then (match clsNameOf x with | some c => .lit (.cls c) | none => .bad) else .bad
def cSub (f : Expr → ME) (v : Expr) : Expr → ME
  | .Slice l u none _ => .cut (f v) (cPart f l) (cPart f u)
  | .Slice none none (some (.UnaryOp .USub (.Constant (.int 1) _ _) _)) _ => .rev (f v)
  | .Slice _ _ _ _ => .bad
  | i => .idx (f v) (f i)
def cCall (fns : List Str) (cc : CC) (f : Expr → ME) (x : Str) (es : List Expr) : ME :=
  if cc.gl x && !(x == ("__debug__" : Str)) then
    match fns.findIdx? (· == x) with
    | some i => .fn i (cL f es)
    | none => match es with
      | [e] => if notStar e then (match bi1Of x with | some b => .bi1 b (f e) | none => .bad) else .bad
      | [e, e2] => if notStar e && notStar e2 then (match bi2Of x with | some b => .bi2 b (f e) (f e2) | none => .bad) else .bad
      | _ => .bad
  else .bad
def cMeth (f : Expr → ME) (o : Expr) (m : Str) (apos : Pos) (es : List Expr) (pos : Pos) : ME :=
  match es with
  | [e] => if notSuper o && apos.endLine == pos.line && notStar e then (match methOf m with | some mm => .meth mm (f o) (f e) | none => .bad) else .bad
  | _ => .bad
def isRange (cc : CC) (e : Expr) : Bool := match e with
  | .Call (.Name x _) _ [] _ => x == ("range" : Str) && cc.gl x
  | _ => false
def plainOr (m : ME) : ME := if plainSrc m then m else .bad
def cSrc (cc : CC) (f : Expr → ME) (e : Expr) : ME :=
  if isRange cc e then
    match e with
    | .Call _ [a] _ _ => if notStar a then .range (.lit (.int 0)) (f a) else .bad
    | .Call _ [a, b] _ _ => if notStar a && notStar b then .range (f a) (f b) else .bad
    | _ => .bad
  else plainOr (f e)
def cIfs (f : Expr → ME) : List Expr → ME
  | [] => .lit (.bool true)
  | [e] => f e
  | _ => .bad
def compOkB (cc : CC) (scope : Scope) (x : Str) : Bool :=
  (scope.kind == .function) && scope.names.all (fun y => (!(y.2 == .free) || cc.cl y.1) && !(y.2 == .cell) && (!(y.2 == .local) || scope.names.lookup y.1 == some .local)) && scope.names.lookup x == some .local
def cComp (cc : CC) (f : CC → Expr → ME) (elt : Expr) (gens : List Comprehension) (scope : Scope) : ME :=
  match gens with
  | [⟨.Name x _, iter, ifs, 0⟩] => if compOkB cc scope x && notSet iter && ifs.length ≤ 1 then .comp (f (cc.comp scope x) elt) (cSrc cc (f cc) iter) (cIfs (f (cc.comp scope x)) ifs) else .bad
  | _ => .bad

def cE (fns : List Str) : Nat → CC → Expr → ME
  | 0, _, _ => .bad
  | n + 1, cc, e => match e with
    | .Name x _ => cName cc x
    | .Constant c _ _ => match constPV c with | some x => .lit x | none => .bad
    | .BinOp l op r _ => match bopOf op with | some o => .bin o (cE fns n cc l) (cE fns n cc r) | none => .bad
    | .Compare l [op] [r] _ => match copOf op with | some o => if behindInMarks op r then .bad else .cmp o (cE fns n cc l) (cE fns n cc r) | none => .bad
    | .BoolOp op es _ => cBool op (cE fns n cc) es
    | .UnaryOp .Not x _ => .not_ (cE fns n cc x)
    | .UnaryOp .USub x _ => .neg (cE fns n cc x)
    | .IfExp t a b _ => .ite (cE fns n cc t) (cE fns n cc a) (cE fns n cc b)
    | .List es _ => .list (cL (cE fns n cc) es)
    | .Tuple es _ _ => .tup (cL (cE fns n cc) es)
    | .Subscript v i _ => cSub (cE fns n cc) v i
    | .Call (.Name x _) es [] _ => cCall fns cc (cE fns n cc) x es
    | .Call (.Attribute o m apos) es [] pos => cMeth (cE fns n cc) o m apos es pos
    | .ListComp elt gens scope _ => cComp cc (cE fns n) elt gens scope
    | _ => .bad

/-- what stands behind the names that the text may call -/
structure BG (W : Wld) : Prop where
  b1 : ∀ b : BI1, W.glob b.nameS = some b.valV
  b2 : ∀ b : BI2, W.glob b.nameS = some b.valV
  range : W.glob "range" = some (.type "range")
  cls : ∀ c ∈ (["str", "bytes", "bool", "int", "list", "tuple"] : List String), W.glob (Str.ofString c) = some (.type c)

section
variable {W : Wld} {Γ : FEnv} {k : Nat} {fns : List Str}

structure Both (W : Wld) (Γ : FEnv) (k : Nat) (cc : CC) (me : ME) (e : Expr) : Prop where
  se : SE W Γ k cc me e
  st : ST W Γ k cc me e

theorem both_bad {cc : CC} {e : Expr} : Both W Γ k cc .bad e := by
  constructor
  · intro A env Ok ρ s x l H h; cases h
  · intro A env Ok ρ s b H h; cases h
theorem both_plain {cc : CC} {me : ME} {e : Expr} (h : SE W Γ k cc me e) (hm : ∀ ρ, (evA Γ me ρ).tru = (evA Γ me ρ).val.bind fun x => truthPV x.1)
    (he : ∀ env, isTrue e env (eval e env) = (do let v ← eval e env; standAt e.pos; holding [v] (truthy v))) : Both W Γ k cc me e := ⟨h, st_plain h hm he⟩

theorem CC.Good.comp {cc : CC} (G : cc.Good) (scope : Scope) (x : Str) : (cc.comp scope x).Good where
  lt := fun y i h => by
    simp only [CC.comp] at h ⊢
    split at h
    · cases h; exact Nat.lt_succ_self _
    · split at h
      · exact Nat.lt_succ_of_lt (G.lt y i h)
      · cases h
  inj := fun y z i h1 h2 => by
    simp only [CC.comp] at h1 h2
    split at h1 <;> split at h2
    · rename_i p q; rw [p, q]
    · cases h1
      split at h2
      · exact absurd (G.lt z _ h2) (Nat.lt_irrefl _)
      · cases h2
    · cases h2
      split at h1
      · exact absurd (G.lt y _ h1) (Nat.lt_irrefl _)
      · cases h1
    · split at h1
      · split at h2
        · exact G.inj y z i h1 h2
        · cases h2
      · cases h1
theorem compOk_of {cc : CC} {scope : Scope} {x : Str} (h : compOkB cc scope x = true) : CompOk cc scope x := by
  unfold compOkB at h
  simp only [Bool.and_eq_true, List.all_eq_true, Bool.or_eq_true, Bool.not_eq_true', beq_iff_eq] at h
  obtain ⟨⟨h1, h2⟩, h3⟩ := h
  refine ⟨h1, fun y hy hf => ?_, fun y hy hf => ?_, fun y hy hf => ?_, h3⟩
  · rcases (h2 y hy).1.1 with h | h
    · rw [hf] at h; cases h
    · exact h
  · have := (h2 y hy).1.2
    rw [hf] at this; cases this
  · rcases (h2 y hy).2 with h | h
    · rw [hf] at h; cases h
    · exact h

theorem cL_sound {cc : CC} {f : Expr → ME} (hf : ∀ e, SE W Γ k cc (f e) e) : ∀ es : List Expr, SL W Γ k cc (cL f es) es
  | [] => sl_nil
  | e :: r => by
    have ih := cL_sound hf r
    by_cases hs : notStar e = true
    · have : cL f (e :: r) = .cons (f e) (cL f r) := by cases e <;> first | rfl | cases hs
      rw [this]
      exact sl_cons hs (hf e) ih
    · cases e <;> first | (exfalso; exact hs rfl) | skip
      exact sl_star (hf _) ih
theorem cL_lone {cc : CC} {f : Expr → ME} (hf : ∀ e, SE W Γ k cc (f e) e) (es : List Expr) : ∀ e p, es = [.Starred e p] → ∃ a, cL f es = .star a .nil ∧ SE W Γ k cc a e := by
  rintro e p rfl
  exact ⟨f e, rfl, hf e⟩
theorem cBool_sound {cc : CC} {op : BoolOp} {f : Expr → ME} {pos : Pos} (hf : ∀ e, Both W Γ k cc (f e) e) : ∀ es : List Expr, Both W Γ k cc (cBool op f es) (.BoolOp op es pos)
  | [] => both_bad
  | [e] => ⟨se_bool1 (hf e).se, by cases op; exact st_and1 (hf e).st; exact st_or1 (hf e).st⟩
  | e :: e2 :: r => by
    have ih := cBool_sound hf (op := op) (pos := pos) (e2 :: r)
    cases op with
    | And => exact ⟨se_and (hf e).se ih.se, st_and (hf e).st ih.st⟩
    | Or => exact ⟨se_or (hf e).se ih.se, st_or (hf e).st ih.st⟩
theorem find_eq {α : Type} {l : List α} {p : α → Bool} {a : α} (h : l.find? p = some a) : p a = true := List.find?_some h

theorem se_bad {cc : CC} {e : Expr} : SE W Γ k cc .bad e := both_bad.se
theorem cPart_sound {cc : CC} {f : Expr → ME} (hf : ∀ e, SE W Γ k cc (f e) e) : ∀ o : Option Expr, SPt W Γ k cc (cPart f o) o
  | none => spt_none
  | some e => spt_some (hf e)
theorem cName_sound (B : BG W) {cc : CC} {x : Str} {p : Pos} : Both W Γ k cc (cName cc x) (.Name x p) := by
  unfold cName
  split
  · exact both_bad
  · rename_i hd
    rw [Bool.or_eq_true, not_or] at hd
    have h1 : (x == ("__debug__" : Str)) = false := by simpa using hd.1
    have h2 : (x == ("__classdict__" : Str)) = false := by simpa using hd.2
    split
    · rename_i i hi
      exact both_plain (se_name hi h1 h2) (fun _ => rfl) fun _ => rfl
    · split
      · rename_i hg
        split
        · rename_i c hc
          have hm := List.mem_of_find?_eq_some hc
          have he : Str.ofString c = x := eq_of_beq (List.find?_some (p := fun c => Str.ofString c == x) hc)
          have hgl := B.cls c hm
          rw [he] at hgl
          exact both_plain (se_cls hg hgl h1) (fun _ => rfl) fun _ => rfl
        · exact both_bad
      · exact both_bad
theorem cSub_sound {cc : CC} {f : Expr → ME} (hf : ∀ e, SE W Γ k cc (f e) e) {v i : Expr} {p : Pos} : Both W Γ k cc (cSub f v i) (.Subscript v i p) := by
  unfold cSub
  split
  · exact both_plain (se_cut (hf v) (cPart_sound hf _) (cPart_sound hf _)) (fun _ => rfl) fun _ => rfl
  · exact both_plain (se_rev (st := .neg (.lit (.int 1))) (hf v) (se_neg (se_const rfl)) (fun _ => rfl)) (fun _ => rfl) fun _ => rfl
  · exact both_bad
  · exact both_plain (se_idx (hf v) (hf _)) (fun _ => rfl) fun _ => rfl
theorem cCall_sound (B : BG W) (G : GOk W Γ k fns) {cc : CC} {f : Expr → ME} (hf : ∀ e, SE W Γ k cc (f e) e) {x : Str} {es : List Expr} {p pos : Pos} : Both W Γ k cc (cCall fns cc f x es) (.Call (.Name x p) es [] pos) := by
  unfold cCall
  split
  · rename_i hg
    rw [Bool.and_eq_true] at hg
    have hd : (x == ("__debug__" : Str)) = false := by simpa using hg.2
    split
    · rename_i i hi
      obtain ⟨hlt, hx, _⟩ := List.findIdx?_eq_some_iff_getElem.mp hi
      have hx' : fns[i]? = some x := by rw [List.getElem?_eq_getElem hlt, eq_of_beq hx]
      exact both_plain (se_fn G hx' hg.1 hd (cL_sound hf es) (cL_lone hf es)) (fun _ => rfl) fun _ => rfl
    · split
      · split
        · rename_i hn
          split
          · rename_i b hb
            have he : b.nameS = x := eq_of_beq (List.find?_some (p := fun b => BI1.nameS b == x) hb)
            subst he
            exact both_plain (se_bi1 hg.1 (B.b1 b) hn (hf _)) (fun _ => rfl) fun _ => rfl
          · exact both_bad
        · exact both_bad
      · split
        · rename_i hn
          rw [Bool.and_eq_true] at hn
          split
          · rename_i b hb
            have he : b.nameS = x := eq_of_beq (List.find?_some (p := fun b => BI2.nameS b == x) hb)
            subst he
            exact both_plain (se_bi2 hg.1 (B.b2 b) hn.1 hn.2 (hf _) (hf _)) (fun _ => rfl) fun _ => rfl
          · exact both_bad
        · exact both_bad
      · exact both_bad
  · exact both_bad
theorem cMeth_sound {cc : CC} {f : Expr → ME} (hf : ∀ e, SE W Γ k cc (f e) e) {o : Expr} {m : Str} {apos pos : Pos} {es : List Expr} : Both W Γ k cc (cMeth f o m apos es pos) (.Call (.Attribute o m apos) es [] pos) := by
  unfold cMeth
  split
  · split
    · rename_i hn
      rw [Bool.and_eq_true, Bool.and_eq_true] at hn
      split
      · rename_i mm hm
        have he : mm.nameS = m := eq_of_beq (List.find?_some (p := fun m' => Meth.nameS m' == m) hm)
        subst he
        exact both_plain (se_meth hn.1.1 hn.1.2 hn.2 (hf _) (hf _)) (fun _ => rfl) fun _ => rfl
      · exact both_bad
    · exact both_bad
  · exact both_bad
theorem its_plain {me : ME} (h : plainSrc me = true) (ρ : List Slot) : (evA Γ me ρ).its = (evA Γ me ρ).val.bind itemsOf := by
  cases me <;> first | rfl | cases h | skip
  · simp only [evA]
    split <;> rfl
theorem range_src (B : BG W) {cc : CC} {f : Expr → ME} (hf : ∀ e, SE W Γ k cc (f e) e) {z : Bool} {e : Expr} (hr : isRange cc e = true) : SI W Γ k cc z (fun ρ => (evA Γ (cSrc cc f e) ρ).its) e := by
  have bad : SI W Γ k cc z (fun ρ => (evA Γ .bad ρ).its) e := fun A env Ok ρ s xs H h => by cases h
  unfold cSrc
  rw [if_pos hr]
  unfold isRange at hr
  split at hr
  · rename_i x p es pos
    rw [Bool.and_eq_true] at hr
    have hx : x = ("range" : Str) := eq_of_beq hr.1
    subst hx
    split
    · rename_i h
      cases h
      split
      · rename_i hn; exact si_range1 hr.2 B.range hn (hf _)
      · exact bad
    · rename_i h
      cases h
      split
      · rename_i hn
        rw [Bool.and_eq_true] at hn
        exact si_range hr.2 B.range hn.1 hn.2 (hf _) (hf _)
      · exact bad
    · exact bad
  · cases hr
theorem cSrc_comp (B : BG W) {cc : CC} {f : Expr → ME} (hf : ∀ e, SE W Γ k cc (f e) e) (e : Expr) : SI W Γ k cc false (fun ρ => (evA Γ (cSrc cc f e) ρ).its) e := by
  by_cases hr : isRange cc e = true
  · exact range_src B hf hr
  · unfold cSrc
    rw [if_neg hr]
    unfold plainOr
    split
    · rename_i h
      exact si_val (hf e) fun ρ => its_plain h ρ
    · intro A env Ok ρ s xs H h; cases h
theorem cSrc_for (B : BG W) {cc : CC} {f : Expr → ME} (hf : ∀ e, SE W Γ k cc (f e) e) (e : Expr) : SI W Γ k cc true (itsF Γ (cSrc cc f e)) e := by
  by_cases hr : isRange cc e = true
  · have h := range_src (Γ := Γ) (z := true) B hf hr
    intro A env Ok ρ s xs H h'
    refine h A env Ok ρ s xs H ?_
    have bad : itsF Γ .bad ρ = none := rfl
    unfold cSrc at h' ⊢
    rw [if_pos hr] at h' ⊢
    split at h' <;> (try split at h') <;> first | exact h' | (rw [if_pos (by assumption)]; exact h') | (rw [bad] at h'; cases h')
  · unfold cSrc
    rw [if_neg hr]
    unfold plainOr
    split
    · rename_i h
      exact si_for (hf e) h
    · intro A env Ok ρ s xs H h; cases h
theorem cIfs_sound {cc : CC} {f : Expr → ME} (hf : ∀ e, Both W Γ k cc (f e) e) : ∀ ifs : List Expr, ifs.length ≤ 1 → IfsIs W Γ k cc (cIfs f ifs) ifs
  | [], _ => .none
  | [e], _ => .some (hf e).st
  | _ :: _ :: _, h => by simp at h
theorem cComp_sound (B : BG W) {cc : CC} (G : cc.Good) {f : CC → Expr → ME} (hf : ∀ cc : CC, cc.Good → ∀ e, Both W Γ k cc (f cc e) e) {elt : Expr} {gens : List Comprehension} {scope : Scope} {pos : Pos} :
    Both W Γ k cc (cComp cc f elt gens scope) (.ListComp elt gens scope pos) := by
  unfold cComp
  split
  · rename_i x px iter ifs
    split
    · rename_i h
      rw [Bool.and_eq_true, Bool.and_eq_true] at h
      have hc := compOk_of h.1.1
      have G' := G.comp scope x
      have hsrc := cSrc_comp B (fun e => (hf cc G e).se) iter
      exact both_plain (se_comp_list hc G.lt hsrc h.1.2 (hf _ G' elt).se (cIfs_sound (hf (cc.comp scope x) G') ifs (of_decide_eq_true h.2))) (fun _ => rfl) fun _ => rfl
    · exact both_bad
  · exact both_bad

theorem bopOf_op {op : Operator} {o : BOp} (h : bopOf op = some o) : op = o.op := by
  cases op <;> simp only [bopOf] at h <;> first | (cases h; rfl) | cases h
theorem copOf_op {op : CmpOp} {o : COp} (h : copOf op = some o) : op = o.op := by
  cases op <;> simp only [copOf] at h <;> first | (cases h; rfl) | cases h
/-- the expressions' walk is right -/
theorem cE_sound (B : BG W) (GG : GOk W Γ k fns) : ∀ (n : Nat) (cc : CC), cc.Good → ∀ e : Expr, Both W Γ k cc (cE fns n cc e) e
  | 0, _, _, _ => both_bad
  | n + 1, cc, G, e => by
    have ih := cE_sound B GG n cc G
    have ihs : ∀ e, SE W Γ k cc (cE fns n cc e) e := fun e => (ih e).se
    unfold cE
    split
    · exact cName_sound B
    · split
      · rename_i h; exact both_plain (se_const h) (fun _ => rfl) fun _ => rfl
      · exact both_bad
    · split
      · rename_i h
        rw [bopOf_op h]
        exact both_plain (se_bin (ihs _) (ihs _)) (fun _ => rfl) fun _ => rfl
      · exact both_bad
    · split
      · rename_i h
        split
        · exact both_bad
        · rename_i hm
          rw [copOf_op h] at hm ⊢
          exact ⟨se_cmp (ihs _) (ihs _) (by simpa using hm), st_cmp (ihs _) (ihs _) (by simpa using hm)⟩
      · exact both_bad
    · exact cBool_sound ih _
    · exact ⟨se_not (ihs _), st_not (ih _).st⟩
    · exact both_plain (se_neg (ihs _)) (fun _ => rfl) fun _ => rfl
    · exact ⟨se_ite (ih _).st (ihs _) (ihs _), st_ite (ih _).st (ih _).st (ih _).st⟩
    · exact both_plain (se_list (cL_sound ihs _)) (fun _ => rfl) fun _ => rfl
    · exact both_plain (se_tup (cL_sound ihs _)) (fun _ => rfl) fun _ => rfl
    · exact cSub_sound ihs
    · exact cCall_sound B GG ihs
    · exact cMeth_sound ihs
    · exact cComp_sound B G (fun cc' G' e => cE_sound B GG n cc' G' e)
    · exact both_bad
end
end Mine
end
section
namespace Mine
open Builtin

def isListD : Expr → Bool
  | .List _ _ => true
  | _ => false
def badName (x : Str) : Bool := x == ("__debug__" : Str) || x == ("__classdict__" : Str)
def namesOf (cc : CC) : List Expr → Option (List Nat)
  | [] => some []
  | .Name x _ :: r => match cc.σ x, namesOf cc r with
    | some i, some is => some (i :: is)
    | _, _ => none
  | _ => none
def slotsOf (cc : CC) : Expr → Option (List Nat)
  | .Name x _ => (cc.σ x).map fun i => [i]
  | .Tuple es _ _ => match namesOf cc es with
    | some is => if is.length = 1 then none else some is
    | none => none
  | _ => none
def ownsOf (owns : List Str) : List Expr → List Expr → List Bool
  | .Name x _ :: ts, e :: es => (owns.contains x && isListD e) :: ownsOf owns ts es
  | _ :: ts, _ :: es => false :: ownsOf owns ts es
  | _, _ => []
def nodupB : List Nat → Bool
  | [] => true
  | i :: r => !(r.contains i) && nodupB r

def cAsg (cc : CC) (owns : List Str) (f : Expr → ME) (x : Str) (e : Expr) : MS :=
  match cc.σ x with
  | none => .bad
  | some i => match e with
    | .Dict [] [] _ => .newDict i
    | .ListComp _ _ _ _ => .asg i (owns.contains x) (f e)
    | .List _ _ => .asg i (owns.contains x) (f e)
    | _ => if notComp e then .asg i false (f e) else .bad
def cTup (cc : CC) (owns : List Str) (f : Expr → ME) (es : List Expr) (e : Expr) : MS :=
  match namesOf cc es with
  | none => .bad
  | some is => match e with
    | .Tuple vs _ _ => if nodupB is && !(vs.all (constantsAlone 8)) && vs.all notStar && es.length == vs.length then .multi is (ownsOf owns es vs) (cL f vs) else .bad
    | _ => if notComp e && notTuple e then .unpack is (f e) else .bad
def cSet (cc : CC) (f : Expr → ME) (x : Str) (i e : Expr) : MS :=
  match cc.σ x with
  | none => .bad
  | some j => if badName x || !notComp e then .bad else .setIdx j (f i) (f e)
def cAug (cc : CC) (owns : List Str) (f : Expr → ME) (x : Str) (op : Operator) (e : Expr) : MS :=
  match cc.σ x with
  | none => .bad
  | some i => if badName x then .bad else if owns.contains x then (match op with | .Add => .extend i (f e) | _ => .bad) else match bopOf op with
    | some o => .aug i o (f e)
    | none => .bad
def cAugI (cc : CC) (f : Expr → ME) (x : Str) (i : Expr) (op : Operator) (e : Expr) : MS :=
  match cc.σ x with
  | none => .bad
  | some j => if badName x then .bad else match i with
    | .Slice _ _ _ _ => .bad
    | _ => match bopOf op with
      | some o => .augIdx j (f i) o (f e)
      | none => .bad
def cMStm (cc : CC) (f : Expr → ME) (x m : Str) (apos : Pos) (es : List Expr) (pos : Pos) : MS :=
  match cc.σ x with
  | none => .bad
  | some i => if badName x || !(apos.endLine == pos.line) then .bad else match es with
    | [] => if m == ("pop" : Str) then .pop i else .bad
    | [e] => if m == ("append" : Str) && notStar e then .append i (f e) else .bad
    | _ => .bad
def cBk (g : Stmt → MS) : List Stmt → MS
  | [] => .skip
  | s :: r => .seq (g s) (cBk g r)
def cS (fns owns : List Str) : Nat → CC → Stmt → MS
  | 0, _, _ => .bad
  | n + 1, cc, st => match st with
    | .Pass _ => .skip
    | .Break _ => .brk
    | .Continue _ => .cont
    | .Return none _ => .ret (.lit .none)
    | .Return (some e) _ => .ret (cE fns n cc e)
    | .If t b o _ => .ite (cE fns n cc t) (cBk (cS fns owns n cc) b) (cBk (cS fns owns n cc) o)
    | .While t b [] _ => .while_ (cE fns n cc t) (cBk (cS fns owns n cc) b)
    | .For t iter b [] _ => match slotsOf cc t with
      | some is => if notSet iter then .for_ is (cSrc cc (cE fns n cc) iter) (cBk (cS fns owns n cc) b) else .bad
      | none => .bad
    | .Assign [.Name x _] e _ => cAsg cc owns (cE fns n cc) x e
    | .Assign [.Tuple es _ _] e _ => cTup cc owns (cE fns n cc) es e
    | .Assign [.Subscript (.Name x _) i _] e _ => cSet cc (cE fns n cc) x i e
    | .AugAssign (.Name x _) op e _ => cAug cc owns (cE fns n cc) x op e
    | .AugAssign (.Subscript (.Name x _) i _) op e _ => cAugI cc (cE fns n cc) x i op e
    | .Expr (.Call (.Attribute (.Name x _) m apos) es [] pos) _ => cMStm cc (cE fns n cc) x m apos es pos
    | .Try b (_ :: _) [] [] _ => .try_ (cBk (cS fns owns n cc) b)
    | _ => .bad
/-- a def's body -/
def cB (fns owns : List Str) (n : Nat) (cc : CC) (b : List Stmt) : MS := cBk (cS fns owns n cc) b

section
variable {W : Wld} {Γ : FEnv} {k : Nat} {fns owns : List Str} {cc : CC}

theorem ss_bad {st : Stmt} : SS W Γ k cc .bad st := by
  intro A env Kp g Ok0 own ρ s fl ρ' S e; cases e
theorem names_of : ∀ {es : List Expr} {is : List Nat}, namesOf cc es = some is → Names cc es is
  | [], _, h => by cases h; exact .nil
  | e :: r, is, h => by
    cases e <;> simp only [namesOf] at h <;> try (cases h; done)
    rename_i x p
    cases h1 : cc.σ x with
    | none => rw [h1] at h; cases h
    | some i =>
      cases h2 : namesOf cc r with
      | none => rw [h1, h2] at h; cases h
      | some js => rw [h1, h2] at h; cases h; exact .cons h1 (names_of h2)
theorem slots_of {t : Expr} {is : List Nat} (h : slotsOf cc t = some is) : Target cc t is := by
  cases t <;> simp only [slotsOf] at h <;> try (cases h; done)
  · rename_i x p
    cases h1 : cc.σ x with
    | none => rw [h1] at h; cases h
    | some i => rw [h1] at h; cases h; exact .name h1
  · split at h
    · rename_i js hj
      split at h
      · cases h
      · rename_i hl; cases h; exact .tup (names_of hj) hl
    · cases h
theorem nodup_of : ∀ {is : List Nat}, nodupB is = true → is.Nodup
  | [], _ => .nil
  | i :: r, h => by
    simp only [nodupB, Bool.and_eq_true, Bool.not_eq_true', List.contains_eq_mem, decide_eq_false_iff_not] at h
    exact List.nodup_cons.mpr ⟨h.1, nodup_of h.2⟩
theorem badName_of {x : Str} (h : badName x = false) : (x == ("__debug__" : Str)) = false ∧ (x == ("__classdict__" : Str)) = false := by
  unfold badName at h
  rw [Bool.or_eq_false_iff] at h
  exact h

theorem sn_cE (B : BG W) (GG : GOk W Γ k fns) (G : cc.Good) : ∀ (n : Nat) {e : Expr}, isListD e = true → SN W Γ k cc (cE fns n cc e) e
  | 0, e, _ => by intro A env Ok ρ s x l H h; cases h
  | n + 1, e, h => by
    cases e <;> first | cases h | skip
    exact sn_list (cL_sound (fun e => (cE_sound B GG n cc G e).se) _)
theorem ml_of {f : Expr → ME} (hf : ∀ e, SE W Γ k cc (f e) e) (hn : ∀ e, isListD e = true → SN W Γ k cc (f e) e) : ∀ {ts vs : List Expr}, (vs.all notStar) = true → ts.length = vs.length → ML W Γ k cc (ownsOf owns ts vs) (cL f vs) vs
  | [], [], _, _ => .nil
  | [], _ :: _, _, h => by simp at h
  | _ :: _, [], _, h => by simp at h
  | t :: ts, v :: vs, h, hl => by
    rw [List.all_cons, Bool.and_eq_true] at h
    have ih := ml_of hf hn (ts := ts) (vs := vs) h.2 (by simpa using hl)
    have e1 : cL f (v :: vs) = .cons (f v) (cL f vs) := by cases v <;> first | rfl | cases h.1
    rw [e1]
    cases t <;> try (exact .plain h.1 (hf v) ih)
    rename_i x p
    show ML W Γ k cc ((owns.contains x && isListD v) :: ownsOf owns ts vs) _ _
    by_cases hb : (owns.contains x && isListD v) = true
    · rw [hb]
      rw [Bool.and_eq_true] at hb
      exact .own h.1 (hn v hb.2) ih
    · rw [Bool.eq_false_iff.mpr hb]
      exact .plain h.1 (hf v) ih

theorem cAsg_sound (B : BG W) (GG : GOk W Γ k fns) (G : cc.Good) {n : Nat} {x : Str} {e : Expr} {p p' : Pos} : SS W Γ k cc (cAsg cc owns (cE fns n cc) x e) (.Assign [.Name x p'] e p) := by
  have ih := cE_sound (Γ := Γ) B GG n cc G
  unfold cAsg
  split
  · exact ss_bad
  · rename_i i hi
    split
    · exact ss_newDict G hi
    · rename_i elt gens scope pos
      cases n with
      | zero =>
        intro A env Kp g Ok0 own ρ s fl ρ' S e'
        cases e'
      | succ n =>
        show SS W Γ k cc (.asg i (owns.contains x) (cComp cc (cE fns n) elt gens scope)) _
        unfold cComp
        split
        · rename_i y py iter ifs
          split
          · rename_i h
            rw [Bool.and_eq_true, Bool.and_eq_true] at h
            have ihn := cE_sound (Γ := Γ) B GG n
            exact ss_comp G hi (compOk_of h.1.1) (cSrc_comp B (fun e => (ihn cc G e).se) iter) h.1.2 (ihn _ (G.comp scope y) elt).se (cIfs_sound (ihn (cc.comp scope y) (G.comp scope y)) ifs (of_decide_eq_true h.2))
          · intro A env Kp g Ok0 own ρ s fl ρ' S e'; cases e'
        · intro A env Kp g Ok0 own ρ s fl ρ' S e'; cases e'
    · rename_i es pos
      cases owns.contains x with
      | true => exact ss_own G hi rfl (sn_cE B GG G n rfl)
      | false => exact ss_asg G hi rfl (ih _).se
    · split
      · rename_i hn; exact ss_asg G hi hn (ih _).se
      · exact ss_bad
theorem cTup_sound (B : BG W) (GG : GOk W Γ k fns) (G : cc.Good) {n m : Nat} {es : List Expr} {e : Expr} {p p' : Pos} : SS W Γ k cc (cTup cc owns (cE fns n cc) es e) (.Assign [.Tuple es m p'] e p) := by
  have ih := cE_sound (Γ := Γ) B GG n cc G
  unfold cTup
  split
  · exact ss_bad
  · rename_i is hi
    split
    · split
      · rename_i h
        rw [Bool.and_eq_true, Bool.and_eq_true, Bool.and_eq_true] at h
        exact ss_multi G (names_of hi) (nodup_of h.1.1.1) (by simpa using h.1.1.2) (ml_of (fun e => (ih e).se) (fun e he => sn_cE B GG G n he) h.1.2 (by simpa using h.2))
      · exact ss_bad
    · split
      · rename_i h
        rw [Bool.and_eq_true] at h
        exact ss_unpack G (names_of hi) h.1 h.2 (ih _).se
      · exact ss_bad
theorem cSet_sound (G : cc.Good) {f : Expr → ME} (hf : ∀ e, Both W Γ k cc (f e) e) {x : Str} {i e : Expr} {p p' pos : Pos} : SS W Γ k cc (cSet cc f x i e) (.Assign [.Subscript (.Name x p) i p'] e pos) := by
  unfold cSet
  split
  · exact ss_bad
  · rename_i j hj
    split
    · exact ss_bad
    · rename_i h
      rw [Bool.or_eq_true, not_or] at h
      have hb := badName_of (x := x) (by simpa using h.1)
      exact ss_setIdx G hj hb.1 hb.2 (by simpa using h.2) (hf _).se (hf _).se
theorem cAug_sound (G : cc.Good) {f : Expr → ME} (hf : ∀ e, Both W Γ k cc (f e) e) {x : Str} {op : Operator} {e : Expr} {p pos : Pos} : SS W Γ k cc (cAug cc owns f x op e) (.AugAssign (.Name x p) op e pos) := by
  unfold cAug
  split
  · exact ss_bad
  · rename_i i hi
    split
    · exact ss_bad
    · rename_i h
      have hb := badName_of (x := x) (by simpa using h)
      split
      · split
        · exact ss_extend G hi hb.2 (hf _).se
        · exact ss_bad
      · split
        · rename_i ho
          rw [bopOf_op ho]
          exact ss_aug G hi hb.2 (hf _).se
        · exact ss_bad
theorem cAugI_sound (G : cc.Good) {f : Expr → ME} (hf : ∀ e, Both W Γ k cc (f e) e) {x : Str} {i : Expr} {op : Operator} {e : Expr} {p p' pos : Pos} : SS W Γ k cc (cAugI cc f x i op e) (.AugAssign (.Subscript (.Name x p) i p') op e pos) := by
  unfold cAugI
  split
  · exact ss_bad
  · rename_i j hj
    split
    · exact ss_bad
    · rename_i h
      have hb := badName_of (x := x) (by simpa using h)
      split
      · exact ss_bad
      · rename_i hs
        split
        · rename_i ho
          rw [bopOf_op ho]
          refine ss_augIdx G hj hb.1 hb.2 (hf _).se (hf _).se fun ov iv new => ?_
          unfold augStore
          split
          · exact absurd rfl (hs _ _ _ _)
          · rfl
        · exact ss_bad
theorem cMStm_sound (G : cc.Good) {f : Expr → ME} (hf : ∀ e, Both W Γ k cc (f e) e) {x m : Str} {apos : Pos} {es : List Expr} {p pos pos' : Pos} : SS W Γ k cc (cMStm cc f x m apos es pos) (.Expr (.Call (.Attribute (.Name x p) m apos) es [] pos) pos') := by
  unfold cMStm
  split
  · exact ss_bad
  · rename_i i hi
    split
    · exact ss_bad
    · rename_i h
      rw [Bool.or_eq_true, not_or] at h
      have hb := badName_of (x := x) (by simpa using h.1)
      have hl : (apos.endLine == pos.line) = true := by simpa using h.2
      split
      · split
        · rename_i hm
          have := eq_of_beq hm
          subst this
          exact ss_pop G hi hb.1 hb.2 hl
        · exact ss_bad
      · split
        · rename_i hm
          rw [Bool.and_eq_true] at hm
          have := eq_of_beq hm.1
          subst this
          exact ss_append G hi hb.1 hb.2 hl hm.2 (hf _).se
        · exact ss_bad
      · exact ss_bad
theorem cBk_sound {g : Stmt → MS} (hg : ∀ st, SS W Γ k cc (g st) st) : ∀ b : List Stmt, SB W Γ k cc (cBk g b) b
  | [] => sb_skip
  | s :: r => sb_seq (hg s) (cBk_sound hg r)

/-- the statements' walk is right -/
theorem cS_sound (B : BG W) (GG : GOk W Γ k fns) (G : cc.Good) : ∀ (n : Nat) (st : Stmt), SS W Γ k cc (cS fns owns n cc st) st
  | 0, _ => ss_bad
  | n + 1, st => by
    have ih := cE_sound (Γ := Γ) B GG n cc G
    have ihb : ∀ b, SB W Γ k cc (cBk (cS fns owns n cc) b) b := cBk_sound (cS_sound B GG G n)
    unfold cS
    split
    · exact ss_pass
    · exact ss_brk
    · exact ss_cont
    · exact ss_ret_none
    · exact ss_ret (ih _).se
    · exact ss_ite (ih _).st (ihb _) (ihb _)
    · exact ss_while (ih _).st (ihb _)
    · split
      · rename_i hi
        split
        · rename_i hn; exact ss_for G (slots_of hi) (cSrc_for B (fun e => (ih e).se) _) hn (ihb _)
        · exact ss_bad
      · exact ss_bad
    · exact cAsg_sound B GG G
    · exact cTup_sound B GG G
    · exact cSet_sound G ih
    · exact cAug_sound G ih
    · exact cAugI_sound G ih
    · exact cMStm_sound G ih
    · exact ss_try (ihb _)
    · exact ss_bad
theorem cB_sound (B : BG W) (GG : GOk W Γ k fns) (G : cc.Good) (n : Nat) (b : List Stmt) : SB W Γ k cc (cB fns owns n cc b) b := cBk_sound (cS_sound B GG G n) b
end
end Mine
end
section
namespace Mine
open Builtin

/-! ## a def of the heap -/
def CC.of (slots : List Str) (scope : Scope) : CC where
  σ := fun x => slots.findIdx? (· == x)
  gl := fun x => decide (scope.names.lookup x = some .globalImplicit)
  cl := fun x => decide (scope.names.lookup x = some .cell)
  n := slots.length
def nodupS : List Str → Bool
  | [] => true
  | x :: r => !(r.contains x) && nodupS r
def scopeOkB (slots : List Str) (scope : Scope) (np : Nat) : Bool :=
  nodupS slots && slots.all (fun x => decide (scope.names.lookup x = some .local) || decide (scope.names.lookup x = some .cell)) && decide (np ≤ slots.length) && decide (scope.kind = .function)
theorem nodupS_of : ∀ {l : List Str}, nodupS l = true → l.Nodup
  | [], _ => .nil
  | x :: r, h => by
    simp only [nodupS, Bool.and_eq_true, Bool.not_eq_true', List.contains_eq_mem, decide_eq_false_iff_not] at h
    exact List.nodup_cons.mpr ⟨h.1, nodupS_of h.2⟩
theorem find_at {l : List Str} {x : Str} {i : Nat} (h : l.findIdx? (· == x) = some i) : l[i]? = some x := by
  obtain ⟨hlt, hx, _⟩ := List.findIdx?_eq_some_iff_getElem.mp h
  rw [List.getElem?_eq_getElem hlt, eq_of_beq hx]
theorem find_of {x : Str} : ∀ {l : List Str} {i : Nat}, l.Nodup → l[i]? = some x → l.findIdx? (· == x) = some i
  | [], _, _, h => by simp at h
  | y :: r, 0, _, h => by
    simp at h; subst h
    rw [List.findIdx?_cons, if_pos (beq_self_eq_true y)]
  | y :: r, i + 1, hn, h => by
    obtain ⟨h1, h2⟩ := List.nodup_cons.mp hn
    have hr : r[i]? = some x := by simpa using h
    have hm : x ∈ r := List.mem_of_getElem? hr
    have hne : (y == x) = false := Bool.eq_false_iff.mpr fun q => h1 (eq_of_beq q ▸ hm)
    rw [List.findIdx?_cons, hne, find_of h2 hr]
    rfl
theorem scopeOk_of {slots : List Str} {scope : Scope} {np : Nat} (h : scopeOkB slots scope np = true) : ScopeOk (CC.of slots scope) scope (slots.take np) := by
  unfold scopeOkB at h
  simp only [Bool.and_eq_true, List.all_eq_true, Bool.or_eq_true, decide_eq_true_eq] at h
  obtain ⟨⟨⟨h1, h2⟩, h3⟩, h4⟩ := h
  have hn := nodupS_of h1
  refine ⟨⟨fun x i hx => ?_, fun x y i hx hy => ?_⟩, fun x hx => of_decide_eq_true hx, fun x hx => of_decide_eq_true hx, fun x i hx => h2 x (List.mem_of_getElem? (find_at hx)), fun i x hx => ?_, hn.sublist (List.take_sublist np slots), h4⟩
  · have := find_at hx
    rcases Nat.lt_or_ge i slots.length with h | h
    · exact h
    · rw [List.getElem?_eq_none h] at this; cases this
  · have a := find_at hx
    have b := find_at hy
    rw [a] at b; cases b; rfl
  · refine find_of hn ?_
    rw [List.getElem?_take] at hx
    split at hx
    · exact hx
    · cases hx

def fdAt (K : Frag) (a : Addr) : FuncData := match K.lookup a with
  | some o => (match o.data with | .func fd => fd | _ => default)
  | none => default
def bodyOf (fd : FuncData) : List Stmt := match fd.body with
  | .stmts b => b
  | _ => []
def isFnB (K : Frag) (a : Addr) : Bool := match K.lookup a with
  | some o => (match o.data with | .func fd => (match fd.body with | .stmts _ => true | _ => false) | _ => false)
  | none => false
def fdOkB (K : Frag) (a : Addr) (slots : List Str) (np : Nat) : Bool :=
  isFnB K a && decide ((fdAt K a).globals = mainGlobals) && decide ((fdAt K a).builtins = builtinsNs) && (fdAt K a).closure.isEmpty && !(fdAt K a).scope.isCoroutine && !(fdAt K a).scope.isGenerator && codeIn K (fdAt K a).code (fdAt K a).qualname && scopeOkB slots (fdAt K a).scope np

theorem fun_at {W : Wld} {Γ : FEnv} {k : Nat} {fns owns : List Str} {a : Addr} {slots : List Str} {np n : Nat} {pack : List PV → Option (List PV)} {F : List PV → Option PV} (B : BG W) (GG : GOk W Γ k fns)
    (h : fdOkB W.K a slots np = true) (hp : Packs (fdAt W.K a) (slots.take np) pack)
    (hF : ∀ xs z, F xs = some z → (pack xs).bind (callF Γ slots.length (cB fns owns n (CC.of slots (fdAt W.K a).scope) (bodyOf (fdAt W.K a)))) = some z) : FunOk W (k + 1) a F := by
  unfold fdOkB at h
  simp only [Bool.and_eq_true, decide_eq_true_eq, Bool.not_eq_true', List.isEmpty_iff] at h
  obtain ⟨⟨⟨⟨⟨⟨⟨h1, h2⟩, h3⟩, h4⟩, h5⟩, h6⟩, h7⟩, h8⟩ := h
  have hsc := scopeOk_of h8
  obtain ⟨o, ho, hd, hb⟩ : ∃ o, W.K.lookup a = some o ∧ o.data = .func (fdAt W.K a) ∧ (fdAt W.K a).body = .stmts (bodyOf (fdAt W.K a)) := by
    unfold isFnB at h1
    split at h1
    · rename_i o ho
      split at h1
      · rename_i fd hd
        split at h1
        · rename_i b hb
          have e1 : fdAt W.K a = fd := by unfold fdAt; rw [ho]; dsimp only; rw [hd]
          refine ⟨o, ho, by rw [e1]; exact hd, ?_⟩
          rw [e1]
          unfold bodyOf
          rw [hb]
        · cases h1
      · cases h1
    · cases h1
  have main := fun_ok (Γ := Γ) (k := k) (cc := CC.of slots (fdAt W.K a).scope) (ms := cB fns owns n (CC.of slots (fdAt W.K a).scope) (bodyOf (fdAt W.K a))) ho hd hb (fun hh hon => codeRec_of hon.frag h7) h2 h3 h4 hp hsc (cB_sound B GG hsc.good n _) h5 h6
  intro A s Ok vs xs z r on fr ra hz R q
  exact main A s Ok vs xs z r on fr ra (hF xs z hz) R q

/-- one more def -/
theorem GOk.nil {W : Wld} {k : Nat} : GOk W [] k [] := ⟨fun f F name h => by simp at h⟩
theorem GOk.mono {W : Wld} {Γ : FEnv} {k k' : Nat} {fns : List Str} (G : GOk W Γ k fns) (h : k ≤ k') : GOk W Γ k' fns := ⟨fun f F name h1 h2 =>
  let ⟨fa, o, fd, a, b, c, d⟩ := G.fn f F name h1 h2; ⟨fa, o, fd, a, b, c, d.mono h⟩⟩
theorem GOk.snoc {W : Wld} {Γ : FEnv} {k : Nat} {fns : List Str} {name : Str} {a : Addr} {F : List PV → Option PV} (G : GOk W Γ k fns) (hl : Γ.length = fns.length) (hg : W.glob name = some (.ref a)) (h1 : isFnB W.K a = true) (hf : FunOk W k a F) :
    GOk W (Γ ++ [F]) k (fns ++ [name]) := by
  refine ⟨fun f F' name' hF hn => ?_⟩
  rcases Nat.lt_trichotomy f Γ.length with h | h | h
  · rw [List.getElem?_append_left h] at hF
    rw [List.getElem?_append_left (hl ▸ h)] at hn
    exact G.fn f F' name' hF hn
  · subst h
    rw [List.getElem?_append_right (Nat.le_refl _), Nat.sub_self] at hF
    rw [List.getElem?_append_right (by rw [hl]; exact Nat.le_refl _), ← hl, Nat.sub_self] at hn
    cases hF; cases hn
    unfold isFnB at h1
    split at h1
    · rename_i o ho
      split at h1
      · rename_i fd hd
        exact ⟨a, o, fd, hg, ho, hd, hf⟩
      · cases h1
    · cases h1
  · rw [List.getElem?_eq_none (by rw [List.length_append, List.length_singleton]; omega)] at hF
    cases hF
end Mine
end
section
namespace Mine
open Builtin

/-! ## the world that a head leaves -/
def bgNames : List Str := (["len", "abs", "chr", "ord", "sum", "min", "max", "bytes", "type", "sorted", "tuple", "isinstance", "issubclass", "range", "str", "bool", "int", "list"] : List String).map Str.ofString
def optNone : Option (Option Value) → Bool
  | some none => true
  | _ => false
def bgB (K : Frag) : Bool := bgNames.all fun n => optNone (nsIn K mainGlobals n)
theorem optNone_of {o : Option (Option Value)} (h : optNone o = true) : o = some none := by
  cases o with
  | none => cases h
  | some v => cases v with
    | none => rfl
    | some v => cases h
theorem boot_len : bootBuiltins "len" = some (.builtin "len") := by kernel_rfl
theorem boot_abs : bootBuiltins "abs" = some (.builtin "abs") := by kernel_rfl
theorem boot_chr : bootBuiltins "chr" = some (.builtin "chr") := by kernel_rfl
theorem boot_ord : bootBuiltins "ord" = some (.builtin "ord") := by kernel_rfl
theorem boot_sum : bootBuiltins "sum" = some (.builtin "sum") := by kernel_rfl
theorem boot_min : bootBuiltins "min" = some (.builtin "min") := by kernel_rfl
theorem boot_max : bootBuiltins "max" = some (.builtin "max") := by kernel_rfl
theorem boot_sorted : bootBuiltins "sorted" = some (.builtin "sorted") := by kernel_rfl
theorem boot_isinstance : bootBuiltins "isinstance" = some (.builtin "isinstance") := by kernel_rfl
theorem boot_issubclass : bootBuiltins "issubclass" = some (.builtin "issubclass") := by kernel_rfl
theorem boot_bytes : bootBuiltins "bytes" = some (.type "bytes") := by kernel_rfl
theorem boot_type : bootBuiltins "type" = some (.type "type") := by kernel_rfl
theorem boot_tuple : bootBuiltins "tuple" = some (.type "tuple") := by kernel_rfl
theorem boot_range : bootBuiltins "range" = some (.type "range") := by kernel_rfl
theorem boot_str : bootBuiltins "str" = some (.type "str") := by kernel_rfl
theorem boot_bool : bootBuiltins "bool" = some (.type "bool") := by kernel_rfl
theorem boot_int : bootBuiltins "int" = some (.type "int") := by kernel_rfl
theorem boot_list : bootBuiltins "list" = some (.type "list") := by kernel_rfl

structure HeadOk (mg mb : Str → Option Value) (K : Frag) (h : Heap) : Prop where
  g : h.Ns mainGlobals mg
  b : h.Ns builtinsNs mb
  nolimit : h.NoLimit
  frag : K.In h
  boot : ∀ x : Str, x ≠ "__name__" → mb x = bootBuiltins x

section
variable {prog : Program} {w : World} {mg mb : Str → Option Value} {K : Frag} {h : Heap}
theorem HeadOk.on (H : HeadOk mg mb K h) : Wld.On ⟨prog, w, mg, mb, K⟩ h := ⟨H.g, H.b, H.nolimit, H.frag⟩
theorem HeadOk.glob (H : HeadOk mg mb K h) {x : Str} {v : Value} (e : nsIn K mainGlobals x = some (some v)) : Wld.glob ⟨prog, w, mg, mb, K⟩ x = some v := by
  unfold Wld.glob
  dsimp only
  rw [mg_of H.frag H.g e]
theorem HeadOk.built (H : HeadOk mg mb K h) {x : Str} {v : Value} (hb : bgB K = true) (hm : x ∈ bgNames) (hn : x ≠ "__name__") (hv : bootBuiltins x = some v) : Wld.glob ⟨prog, w, mg, mb, K⟩ x = some v := by
  unfold bgB at hb
  rw [List.all_eq_true] at hb
  unfold Wld.glob
  dsimp only
  rw [mg_none_of H.frag H.g (optNone_of (hb x hm))]
  dsimp only
  rw [H.boot x hn, hv]
theorem HeadOk.bg (H : HeadOk mg mb K h) (hb : bgB K = true) : BG ⟨prog, w, mg, mb, K⟩ where
  b1 := fun b => by
    cases b
    · exact H.built hb (by decide +kernel) (by decide) boot_len
    · exact H.built hb (by decide +kernel) (by decide) boot_abs
    · exact H.built hb (by decide +kernel) (by decide) boot_chr
    · exact H.built hb (by decide +kernel) (by decide) boot_ord
    · exact H.built hb (by decide +kernel) (by decide) boot_sum
    · exact H.built hb (by decide +kernel) (by decide) boot_min
    · exact H.built hb (by decide +kernel) (by decide) boot_max
    · exact H.built hb (by decide +kernel) (by decide) boot_bytes
    · exact H.built hb (by decide +kernel) (by decide) boot_type
    · exact H.built hb (by decide +kernel) (by decide) boot_sorted
    · exact H.built hb (by decide +kernel) (by decide) boot_tuple
  b2 := fun b => by
    cases b
    · exact H.built hb (by decide +kernel) (by decide) boot_min
    · exact H.built hb (by decide +kernel) (by decide) boot_max
    · exact H.built hb (by decide +kernel) (by decide) boot_isinstance
    · exact H.built hb (by decide +kernel) (by decide) boot_issubclass
  range := H.built hb (by decide +kernel) (by decide) boot_range
  cls := fun c hc => by
    simp only [List.mem_cons, List.not_mem_nil, or_false] at hc
    rcases hc with rfl | rfl | rfl | rfl | rfl | rfl
    · exact H.built hb (by decide +kernel) (by decide) boot_str
    · exact H.built hb (by decide +kernel) (by decide) boot_bytes
    · exact H.built hb (by decide +kernel) (by decide) boot_bool
    · exact H.built hb (by decide +kernel) (by decide) boot_int
    · exact H.built hb (by decide +kernel) (by decide) boot_list
    · exact H.built hb (by decide +kernel) (by decide) boot_tuple
end
end Mine
end
section
namespace Mine
theorem rep_ints {h : Heap} {Ok : Addr → Prop} : ∀ {vs : List Value} {ns : List Int}, IntsAre vs ns → RepAll h Ok vs (ns.map .int)
  | _, _, .nil => .nil
  | _, _, .cons n t r => .cons (.int n t) (rep_ints r)
/-- the frame of a law that the head has entered: one argument, no cells -/
theorem top_frame {W : Wld} {A : Around} {k : Nat} {cc : CC} {env : Env} {s0 s1 : Shared} {m : Str → Option Value} {x : Str} {v : Value} {pv : PV} (hroom : Room A k) (hon : W.On s0.heap) (hk : env.scope.kind = .function) (hg : env.globals = mainGlobals) (hb : env.builtins = builtinsNs)
    (hcells : env.cells = []) (hL : env.locals = s0.heap.objs.size) (hns : s1.heap.Ns env.locals m) (hkeep : ∀ b o, s0.heap.get? b = some o → s1.heap.get? b = some o) (hsame : ∃ h tk, s1 = { s0 with heap := h, toks := tk })
    (hsc : ScopeOk cc env.scope [x]) (hnc : ∀ y, cc.cl y = false) (hloc : ∀ y i, cc.σ y = some i → env.scope.names.lookup y = some .local) (hm : m x = some v) (hn : 1 ≤ cc.n) (hr : Rep s0.heap (fun _ => True) v pv) :
    StR W A k cc env (fun b o => s0.heap.get? b = some o) s0 (fun _ => True) (fun _ _ => False) ([some (pv, 0)] ++ List.replicate (cc.n - 1) none) s1 := by
  refine ⟨hroom, fun h hh => hon.keeps hh, hkeep, hsame, fun _ _ => trivial, hk, hg, hb, ?_, fun y hy => hsc.gl y hy, fun y hy => ?_, fun y i hy => .inl (hloc y i hy), ?_, ⟨m, hns⟩, fun y c hy => ?_, fun y z c hy => ?_, ?_, fun _ _ h => h.elim, fun _ _ _ h => h.elim⟩
  · rw [List.length_append, List.length_singleton, List.length_replicate]; omega
  · rw [hnc y] at hy; cases hy
  · intro y i pv' l hy hi
    cases i with
    | zero =>
      cases hi
      have : x = y := hsc.good.inj _ _ _ (hsc.par 0 x rfl) hy
      subst this
      exact ⟨v, .inl ⟨hloc x 0 hy, m, hns, hm⟩, .zero (hr.mono fun b _ _ => ⟨⟨trivial, fun _ h => h⟩, fun o => hkeep b o⟩)⟩
    | succ i =>
      rw [List.getElem?_append_right (by simp), List.getElem?_replicate] at hi
      split at hi <;> cases hi
  · rw [hcells] at hy; cases hy
  · rw [hcells] at hy; cases hy
  · rintro b (rfl | ⟨y, hy⟩ | ⟨i, hi⟩) o hb
    · rw [hL, get_size] at hb; cases hb
    · rw [hcells] at hy; cases hy
    · exact hi
end Mine
end
section
namespace Mine
def msFspath : MS :=
  (.seq (.asg 1 false (.bi1 .typ (.var 0))) (.seq (.ite (.bi2 .issub (.var 1) (.tup (.cons (.lit (.cls "str")) (.cons (.lit (.cls "bytes")) .nil)))) (.seq (.ret (.var 0)) .skip) .skip) (.seq .bad (.seq (.asg 2 false .bad) (.seq (.ite .bad (.seq .bad .skip) .skip) (.seq (.ite .bad (.seq .bad .skip) .skip) (.seq (.asg 3 false .bad) (.seq (.ite (.bi2 .issub (.bi1 .typ (.var 3)) (.tup (.cons (.lit (.cls "str")) (.cons (.lit (.cls "bytes")) .nil)))) (.seq (.ret (.var 3)) .skip) .skip) (.seq (.ite (.cmp .gt (.bi1 .len .bad) (.lit (.int 200))) (.seq .bad .skip) .skip) (.seq .bad .skip))))))))))
def msSep : MS :=
  (.seq (.ite (.bi2 .isinst (.var 0) (.lit (.cls "bytes"))) (.seq (.ret (.lit (.txt true [47]))) .skip) (.seq (.ret (.lit (.txt false [47]))) .skip)) .skip)
def msJoin : MS :=
  (.seq (.asg 0 false (.fn 0 (.cons (.var 0) .nil))) (.seq (.asg 2 false (.fn 1 (.cons (.var 0) .nil))) (.seq (.asg 3 false (.var 0)) (.seq (.try_ (.seq (.for_ [4] (.var 1) (.seq (.asg 4 false (.fn 0 (.cons (.var 4) .nil))) (.seq (.ite (.or_ (.meth .startswith (.var 4) (.var 2)) (.not_ (.var 3))) (.seq (.asg 3 false (.var 4)) .skip) (.seq (.ite (.meth .endswith (.var 3) (.var 2)) (.seq (.aug 3 .add (.var 4)) .skip) (.seq (.aug 3 .add (.bin .add (.var 2) (.var 4))) .skip)) .skip)) .skip))) .skip)) (.seq (.ret (.var 3)) .skip)))))
def msSplitroot : MS :=
  (.seq (.asg 0 false (.fn 0 (.cons (.var 0) .nil))) (.seq (.ite (.bi2 .isinst (.var 0) (.lit (.cls "bytes"))) (.seq (.asg 1 false (.lit (.txt true [47]))) (.seq (.asg 2 false (.lit (.txt true []))) .skip)) (.seq (.asg 1 false (.lit (.txt false [47]))) (.seq (.asg 2 false (.lit (.txt false []))) .skip))) (.seq (.ite (.cmp .ne (.cut (.var 0) (.lit .none) (.lit (.int 1))) (.var 1)) (.seq (.ret (.tup (.cons (.var 2) (.cons (.var 2) (.cons (.var 0) .nil))))) .skip) (.seq (.ite (.or_ (.cmp .ne (.cut (.var 0) (.lit (.int 1)) (.lit (.int 2))) (.var 1)) (.cmp .eq (.cut (.var 0) (.lit (.int 2)) (.lit (.int 3))) (.var 1))) (.seq (.ret (.tup (.cons (.var 2) (.cons (.var 1) (.cons (.cut (.var 0) (.lit (.int 1)) (.lit .none)) .nil))))) .skip) (.seq (.ret (.tup (.cons (.var 2) (.cons (.cut (.var 0) (.lit .none) (.lit (.int 2))) (.cons (.cut (.var 0) (.lit (.int 2)) (.lit .none)) .nil))))) .skip)) .skip)) .skip)))
def msNormpath : MS :=
  (.seq (.asg 0 false (.fn 0 (.cons (.var 0) .nil))) (.seq (.ite (.bi2 .isinst (.var 0) (.lit (.cls "bytes"))) (.seq (.asg 1 false (.lit (.txt true [47]))) (.seq (.asg 2 false (.lit (.txt true [46]))) (.seq (.asg 3 false (.lit (.txt true [46, 46]))) .skip))) (.seq (.asg 1 false (.lit (.txt false [47]))) (.seq (.asg 2 false (.lit (.txt false [46]))) (.seq (.asg 3 false (.lit (.txt false [46, 46]))) .skip)))) (.seq (.ite (.not_ (.var 0)) (.seq (.ret (.var 2)) .skip) .skip) (.seq (.unpack [4, 5, 0] (.fn 3 (.cons (.var 0) .nil))) (.seq (.asg 6 false (.meth .split (.var 0) (.var 1))) (.seq (.asg 7 true (.list .nil)) (.seq (.for_ [8] (.var 6) (.seq (.ite (.or_ (.not_ (.var 8)) (.cmp .eq (.var 8) (.var 2))) (.seq .cont .skip) .skip) (.seq (.ite (.or_ (.cmp .ne (.var 8) (.var 3)) (.or_ (.and_ (.not_ (.var 5)) (.not_ (.var 7))) (.and_ (.var 7) (.cmp .eq (.idx (.var 7) (.neg (.lit (.int 1)))) (.var 3))))) (.seq (.append 7 (.var 8)) .skip) (.seq (.ite (.var 7) (.seq (.pop 7) .skip) .skip) .skip)) .skip))) (.seq (.asg 6 false (.var 7)) (.seq (.asg 0 false (.bin .add (.var 5) (.meth .join (.var 1) (.var 6)))) (.seq (.ret (.or_ (.var 0) (.var 2))) .skip))))))))))

theorem fspath_run (Γ : FEnv) (k : Bool) (cs : List Nat) : callF Γ 4 msFspath [.txt k cs] = some (.txt k cs) := by
  cases k <;> rfl
theorem sep_run (Γ : FEnv) (k : Bool) (cs : List Nat) : callF Γ 1 msSep [.txt k cs] = some (.txt k [47]) := by
  cases k <;> rfl
def fspathF : List PV → Option PV
  | [.txt k cs] => some (.txt k cs)
  | _ => none
def sepF : List PV → Option PV
  | [.txt k _] => some (.txt k [47])
  | _ => none
end Mine
end
section
namespace Mine

theorem clip_nat (n i : Nat) : clipAt n (i : Int) = min i n := by unfold clipAt; omega
theorem cut_to {α : Type} (xs : List α) (i : Nat) : cut xs none (some (i : Int)) = xs.take i := by
  unfold cut
  simp only [Option.elim_none, Option.elim_some, clip_nat, List.drop_zero, Nat.sub_zero]
  rcases Nat.le_total i xs.length with h | h
  · rw [Nat.min_eq_left h]
  · rw [Nat.min_eq_right h, List.take_of_length_le (Nat.le_refl _), List.take_of_length_le h]
theorem cut_from {α : Type} (xs : List α) (i : Nat) : cut xs (some (i : Int)) none = xs.drop i := by
  unfold cut
  simp only [Option.elim_none, Option.elim_some, clip_nat]
  rcases Nat.le_total i xs.length with h | h
  · rw [Nat.min_eq_left h, List.take_of_length_le (by rw [List.length_drop]; exact Nat.le_refl _)]
  · rw [Nat.min_eq_right h, List.drop_of_length_le (Nat.le_refl _), List.drop_of_length_le h, List.take_nil]
theorem cut_mid {α : Type} (xs : List α) (i j : Nat) : cut xs (some (i : Int)) (some (j : Int)) = (xs.drop i).take (j - i) := by
  unfold cut
  simp only [Option.elim_some, clip_nat]
  rcases Nat.le_total i xs.length with h | h
  · rw [Nat.min_eq_left h]
    rcases Nat.le_total j xs.length with h' | h'
    · rw [Nat.min_eq_left h']
    · rw [Nat.min_eq_right h', List.take_of_length_le (by rw [List.length_drop]; exact Nat.le_refl _), List.take_of_length_le (by rw [List.length_drop]; omega)]
  · rw [Nat.min_eq_right h, List.drop_of_length_le (Nat.le_refl _), List.drop_of_length_le h, List.take_nil, List.take_nil]

/-- what splitroot splits off -/
def rootS (cs : List Nat) : List Nat × List Nat :=
  if cs.take 1 ≠ [47] then ([], cs) else if (cs.drop 1).take 1 ≠ [47] ∨ (cs.drop 2).take 1 = [47] then ([47], cs.drop 1) else (cs.take 2, cs.drop 2)
def splitrootF : List PV → Option PV
  | [.txt k cs] => if cs.length ≤ LIM then some (.tup [.txt k [], .txt k (rootS cs).1, .txt k (rootS cs).2]) else none
  | _ => none

theorem cut_1 {α : Type} (xs : List α) : cut xs none (some 1) = xs.take 1 := cut_to xs 1
theorem cut_2 {α : Type} (xs : List α) : cut xs none (some 2) = xs.take 2 := cut_to xs 2
theorem cut_12 {α : Type} (xs : List α) : cut xs (some 1) (some 2) = (xs.drop 1).take 1 := cut_mid xs 1 2
theorem cut_23 {α : Type} (xs : List α) : cut xs (some 2) (some 3) = (xs.drop 2).take 1 := cut_mid xs 2 3
theorem cut_f1 {α : Type} (xs : List α) : cut xs (some 1) none = xs.drop 1 := cut_from xs 1
theorem cut_f2 {α : Type} (xs : List α) : cut xs (some 2) none = xs.drop 2 := cut_from xs 2

theorem lim_lit1 : (1 ≤ LIM) = True := eq_true (by decide)
theorem lim_lit2 : (2 ≤ LIM) = True := eq_true (by decide)
theorem lim_lit3 : (3 ≤ LIM) = True := eq_true (by decide)
theorem lim_lit4 : (4 ≤ LIM) = True := eq_true (by decide)
theorem lim_lit8 : (8 ≤ LIM) = True := eq_true (by decide)
theorem lim_lit0 : (0 ≤ LIM) = True := eq_true (by decide)
theorem beq_list (a b : List Nat) : (a == b) = decide (a = b) := by
  by_cases h : a = b
  · subst h; simp
  · rw [decide_eq_false h]; exact beq_false_of_ne h

theorem splitroot_run (Γ : FEnv) (h0 : Γ[0]? = some fspathF) (k : Bool) (cs : List Nat) (hz : cs.length ≤ LIM) :
    callF Γ 3 msSplitroot [.txt k cs] = some (.tup [.txt k [], .txt k (rootS cs).1, .txt k (rootS cs).2]) := by
  unfold rootS
  by_cases c1 : List.take 1 cs = [47] <;> by_cases c2 : List.take 1 cs.tail = [47] <;> by_cases c3 : List.take 1 (List.drop 2 cs) = [47] <;>
    cases k <;> simp [beq_list, callF, Mine.exec, evA, Ans.of, freeze, freeze1, esc, escB, escT, fspathF, sepF, bi2F, bi1F, clsOf, isSub, cmpF, pvEq, cutF, partOf, truthPV, ownOf, lim, lim_lit0, lim_lit1, lim_lit2, lim_lit3, lim_lit4, lim_lit8, binF, methF, setAll, itemsOf, itsF, msSplitroot, h0, cut_1, cut_12, cut_23, cut_f1, cut_f2, cut_2, hz, c1, c2, c3]

/-! join -/
def joinStep (path b : List Nat) : List Nat :=
  if [47].isPrefixOf b = true ∨ path = [] then b else if [47].isSuffixOf path = true then path ++ b else path ++ [47] ++ b
def joinP (a : List Nat) (bs : List (List Nat)) : List Nat := bs.foldl joinStep a
def sumL (bs : List (List Nat)) : Nat := (bs.map fun b => b.length + 1).sum
theorem joinStep_len (path b : List Nat) : (joinStep path b).length ≤ path.length + b.length + 1 := by
  unfold joinStep
  split
  · omega
  · split <;> simp [beq_list, callF, Mine.exec, evA, Ans.of, freeze, freeze1, esc, escB, escT, fspathF, sepF, bi2F, bi1F, clsOf, isSub, cmpF, pvEq, cutF, partOf, truthPV, ownOf, lim, lim_lit0, lim_lit1, lim_lit2, lim_lit3, lim_lit4, lim_lit8, binF, methF, setAll, itemsOf, itsF] <;> omega

def bJoin : MS := .seq (.asg 4 false (.fn 0 (.cons (.var 4) .nil))) (.seq (.ite (.or_ (.meth .startswith (.var 4) (.var 2)) (.not_ (.var 3))) (.seq (.asg 3 false (.var 4)) .skip) (.seq (.ite (.meth .endswith (.var 3) (.var 2)) (.seq (.aug 3 .add (.var 4)) .skip) (.seq (.aug 3 .add (.bin .add (.var 2) (.var 4))) .skip)) .skip)) .skip)
theorem join_turn (Γ : FEnv) (h0 : Γ[0]? = some fspathF) (k : Bool) (a0 ps : PV) (b path : List Nat) (hz : path.length + b.length + 1 ≤ LIM) :
    Mine.exec Γ bJoin [some (a0, 0), some (ps, 0), some (.txt k [47], 0), some (.txt k path, 0), some (.txt k b, 0)] = some (.next, [some (a0, 0), some (ps, 0), some (.txt k [47], 0), some (.txt k (joinStep path b), 0), some (.txt k b, 0)]) := by
  have h1 : path.length ≤ LIM := by omega
  have h2 : path.length + b.length ≤ LIM := by omega
  have h3 : b.length + 1 ≤ LIM := by omega
  have h4 : path.length + (b.length + 1) ≤ LIM := by omega
  have h5 : 1 + b.length ≤ LIM := by omega
  have h6 : path.length + (1 + b.length) ≤ LIM := by omega
  unfold joinStep
  cases c1 : [47].isPrefixOf b
  · cases path with
    | nil => simp [beq_list, callF, Mine.exec, evA, Ans.of, freeze, freeze1, esc, escB, escT, fspathF, sepF, bi2F, bi1F, clsOf, isSub, cmpF, pvEq, cutF, partOf, truthPV, ownOf, lim, lim_lit0, lim_lit1, lim_lit2, lim_lit3, lim_lit4, lim_lit8, binF, methF, setAll, itemsOf, itsF, augOk, bJoin, h0, c1]
    | cons p path =>
      cases c3 : [47].isSuffixOf (p :: path)
      · simp only [List.length_cons] at h1 h2 h4 h6
        simp [beq_list, callF, Mine.exec, evA, Ans.of, freeze, freeze1, esc, escB, escT, fspathF, sepF, bi2F, bi1F, clsOf, isSub, cmpF, pvEq, cutF, partOf, truthPV, ownOf, lim, lim_lit0, lim_lit1, lim_lit2, lim_lit3, lim_lit4, lim_lit8, binF, methF, setAll, itemsOf, itsF, augOk, bJoin, h0, c1, c3, h1, h2, h3, h4, h5, h6]
      · simp only [List.length_cons] at h1 h2 h4 h6
        simp [beq_list, callF, Mine.exec, evA, Ans.of, freeze, freeze1, esc, escB, escT, fspathF, sepF, bi2F, bi1F, clsOf, isSub, cmpF, pvEq, cutF, partOf, truthPV, ownOf, lim, lim_lit0, lim_lit1, lim_lit2, lim_lit3, lim_lit4, lim_lit8, binF, methF, setAll, itemsOf, itsF, augOk, bJoin, h0, c1, c3, h1, h2, h3, h4, h5, h6]
  · simp [beq_list, callF, Mine.exec, evA, Ans.of, freeze, freeze1, esc, escB, escT, fspathF, sepF, bi2F, bi1F, clsOf, isSub, cmpF, pvEq, cutF, partOf, truthPV, ownOf, lim, lim_lit0, lim_lit1, lim_lit2, lim_lit3, lim_lit4, lim_lit8, binF, methF, setAll, itemsOf, itsF, augOk, bJoin, h0, c1]
theorem join_loop_run (Γ : FEnv) (h0 : Γ[0]? = some fspathF) (k : Bool) (a0 ps : PV) : ∀ (bs : List (List Nat)) (path : List Nat) (sl : Slot), path.length + sumL bs ≤ LIM →
    ∃ sl', forL (Mine.exec Γ bJoin) [4] (bs.map (.txt k)) [some (a0, 0), some (ps, 0), some (.txt k [47], 0), some (.txt k path, 0), sl] = some (.next, [some (a0, 0), some (ps, 0), some (.txt k [47], 0), some (.txt k (joinP path bs), 0), sl'])
  | [], path, sl, _ => ⟨sl, rfl⟩
  | b :: bs, path, sl, hz => by
    have hz' : path.length + (b.length + 1 + sumL bs) ≤ LIM := by simpa [beq_list, callF, Mine.exec, evA, Ans.of, freeze, freeze1, esc, escB, escT, fspathF, sepF, bi2F, bi1F, clsOf, isSub, cmpF, pvEq, cutF, partOf, truthPV, ownOf, lim, lim_lit0, lim_lit1, lim_lit2, lim_lit3, lim_lit4, lim_lit8, binF, methF, setAll, itemsOf, itsF, augOk, sumL] using hz
    have hl := joinStep_len path b
    obtain ⟨sl', ih⟩ := join_loop_run Γ h0 k a0 ps bs (joinStep path b) (some (.txt k b, 0)) (by omega)
    refine ⟨sl', ?_⟩
    rw [List.map_cons, forL]
    show (match Mine.exec Γ bJoin [some (a0, 0), some (ps, 0), some (.txt k [47], 0), some (.txt k path, 0), some (.txt k b, 0)] with
      | some (.next, ρ') => forL (Mine.exec Γ bJoin) [4] (bs.map (.txt k)) ρ'
      | some (.cont, ρ') => forL (Mine.exec Γ bJoin) [4] (bs.map (.txt k)) ρ'
      | some (.brk, ρ') => some (.next, ρ')
      | some (.ret r, ρ') => some (.ret r, ρ')
      | none => none) = _
    rw [join_turn Γ h0 k a0 ps b path (by omega)]
    exact ih
def joinF : List PV → Option PV
  | .txt k a :: r => match asTxts k r with
    | some bs => if a.length + sumL bs ≤ LIM ∧ bs.length ≤ LIM then some (.txt k (joinP a bs)) else none
    | none => none
  | _ => none
theorem join_run (Γ : FEnv) (h0 : Γ[0]? = some fspathF) (h1 : Γ[1]? = some sepF) (k : Bool) (a : List Nat) (bs : List (List Nat)) (hz : a.length + sumL bs ≤ LIM) (hb : bs.length ≤ LIM) :
    callF Γ 5 msJoin [.txt k a, .tup (bs.map (.txt k))] = some (.txt k (joinP a bs)) := by
  obtain ⟨sl', h⟩ := join_loop_run Γ h0 k (.txt k a) (.tup (bs.map (.txt k))) bs a none hz
  have e : msJoin = .seq (.asg 0 false (.fn 0 (.cons (.var 0) .nil))) (.seq (.asg 2 false (.fn 1 (.cons (.var 0) .nil))) (.seq (.asg 3 false (.var 0)) (.seq (.try_ (.seq (.for_ [4] (.var 1) bJoin) .skip)) (.seq (.ret (.var 3)) .skip)))) := rfl
  rw [e]
  simp [beq_list, callF, Mine.exec, evA, Ans.of, freeze, freeze1, esc, escB, escT, fspathF, sepF, bi2F, bi1F, clsOf, isSub, cmpF, pvEq, cutF, partOf, truthPV, ownOf, lim, lim_lit0, lim_lit1, lim_lit2, lim_lit3, lim_lit4, lim_lit8, binF, methF, setAll, itemsOf, itsF, augOk, h0, h1, hb, h]
end Mine
end
section
namespace Mine

/-! normpath -/
def normStep (abs : Bool) (acc : List (List Nat)) (c : List Nat) : List (List Nat) :=
  if c = [] ∨ c = [46] then acc
  else if c ≠ [46, 46] ∨ (abs = false ∧ acc = []) ∨ acc.getLast? = some [46, 46] then acc ++ [c]
  else acc.dropLast
def bNorm : MS := .seq (.ite (.or_ (.not_ (.var 8)) (.cmp .eq (.var 8) (.var 2))) (.seq .cont .skip) .skip) (.seq (.ite (.or_ (.cmp .ne (.var 8) (.var 3)) (.or_ (.and_ (.not_ (.var 5)) (.not_ (.var 7))) (.and_ (.var 7) (.cmp .eq (.idx (.var 7) (.neg (.lit (.int 1)))) (.var 3))))) (.seq (.append 7 (.var 8)) .skip) (.seq (.ite (.var 7) (.seq (.pop 7) .skip) .skip) .skip)) .skip)
theorem normStep_len (abs : Bool) (acc : List (List Nat)) (c : List Nat) : (normStep abs acc c).length ≤ acc.length + 1 := by
  unfold normStep
  split
  · omega
  · split
    · simp [beq_list, callF, Mine.exec, evA, Ans.of, freeze, freeze1, esc, escB, escT, fspathF, sepF, bi2F, bi1F, clsOf, isSub, cmpF, pvEq, cutF, partOf, truthPV, ownOf, lim, lim_lit0, lim_lit1, lim_lit2, lim_lit3, lim_lit4, lim_lit8, binF, methF, setAll, itemsOf, itsF, augOk]
    · simp [beq_list, callF, Mine.exec, evA, Ans.of, freeze, freeze1, esc, escB, escT, fspathF, sepF, bi2F, bi1F, clsOf, isSub, cmpF, pvEq, cutF, partOf, truthPV, ownOf, lim, lim_lit0, lim_lit1, lim_lit2, lim_lit3, lim_lit4, lim_lit8, binF, methF, setAll, itemsOf, itsF, augOk]; omega
theorem idx_snoc {α : Type} (xs : List α) (x : α) : idxAt (xs ++ [x]) (-1) = some x := by
  unfold idxAt
  rw [if_neg (by decide), if_pos (by simp [beq_list, callF, Mine.exec, evA, Ans.of, freeze, freeze1, esc, escB, escT, fspathF, sepF, bi2F, bi1F, clsOf, isSub, cmpF, pvEq, cutF, partOf, truthPV, ownOf, lim, lim_lit0, lim_lit1, lim_lit2, lim_lit3, lim_lit4, lim_lit8, binF, methF, setAll, itemsOf, itsF, augOk]; omega)]
  have : ((-1 : Int) + (xs ++ [x]).length).toNat = xs.length := by simp [beq_list, callF, Mine.exec, evA, Ans.of, freeze, freeze1, esc, escB, escT, fspathF, sepF, bi2F, bi1F, clsOf, isSub, cmpF, pvEq, cutF, partOf, truthPV, ownOf, lim, lim_lit0, lim_lit1, lim_lit2, lim_lit3, lim_lit4, lim_lit8, binF, methF, setAll, itemsOf, itsF, augOk]; omega
  rw [this]
  simp [beq_list, callF, Mine.exec, evA, Ans.of, freeze, freeze1, esc, escB, escT, fspathF, sepF, bi2F, bi1F, clsOf, isSub, cmpF, pvEq, cutF, partOf, truthPV, ownOf, lim, lim_lit0, lim_lit1, lim_lit2, lim_lit3, lim_lit4, lim_lit8, binF, methF, setAll, itemsOf, itsF, augOk]
theorem isEmpty_snoc {α : Type} (xs : List α) (x : α) : (xs ++ [x]).isEmpty = false := by cases xs <;> rfl
theorem lim_pos : (0 < LIM) = True := eq_true (by decide)
def dots (k : Bool) (s : List Nat) (a0 : PV) (cs : PV) (r : Slot) (acc : List (List Nat)) (c : Slot) : List Slot :=
  [some (a0, 0), some (.txt k [47], 0), some (.txt k [46], 0), some (.txt k [46, 46], 0), r, some (.txt k s, 0), some (cs, 0), some (.list (acc.map (.txt k)), 1), c]
theorem norm_turn (Γ : FEnv) (k : Bool) (s : List Nat) (a0 cs : PV) (r : Slot) (acc : List (List Nat)) (c : List Nat) (h1 : c.length ≤ LIM) (h2 : acc.length < LIM) (h3 : s.length ≤ LIM) :
    ∃ fl, (fl = .next ∨ fl = .cont) ∧ Mine.exec Γ bNorm (dots k s a0 cs r acc (some (.txt k c, 0))) = some (fl, dots k s a0 cs r (normStep (!s.isEmpty) acc c) (some (.txt k c, 0))) := by
  have h4 : acc.length ≤ LIM := Nat.le_of_lt h2
  unfold normStep dots
  by_cases c0 : c = []
  · subst c0
    exact ⟨.cont, .inr rfl, by simp [beq_list, callF, Mine.exec, evA, Ans.of, freeze, freeze1, esc, escB, escT, fspathF, sepF, bi2F, bi1F, clsOf, isSub, cmpF, pvEq, cutF, partOf, truthPV, ownOf, lim, lim_lit0, lim_lit1, lim_lit2, lim_lit3, lim_lit4, lim_lit8, binF, methF, setAll, itemsOf, itsF, augOk, bNorm]⟩
  · have c0' : c.isEmpty = false := by cases c <;> first | rfl | exact absurd rfl c0
    by_cases c1 : c = [46]
    · subst c1
      exact ⟨.cont, .inr rfl, by simp [beq_list, callF, Mine.exec, evA, Ans.of, freeze, freeze1, esc, escB, escT, fspathF, sepF, bi2F, bi1F, clsOf, isSub, cmpF, pvEq, cutF, partOf, truthPV, ownOf, lim, lim_lit0, lim_lit1, lim_lit2, lim_lit3, lim_lit4, lim_lit8, binF, methF, setAll, itemsOf, itsF, augOk, bNorm]⟩
    · refine ⟨.next, .inl rfl, ?_⟩
      by_cases c2 : c = [46, 46]
      · subst c2
        rcases List.eq_nil_or_concat acc with rfl | ⟨acc', l, rfl⟩
        · cases s with
          | nil => simp [beq_list, callF, Mine.exec, evA, Ans.of, freeze, freeze1, esc, escB, escT, fspathF, sepF, bi2F, bi1F, clsOf, isSub, cmpF, pvEq, cutF, partOf, truthPV, ownOf, lim, lim_lit0, lim_lit1, lim_lit2, lim_lit3, lim_lit4, lim_lit8, binF, methF, setAll, itemsOf, itsF, augOk, bNorm, h1, h2, lim_pos]
          | cons x s => simp only [List.length_cons] at h3; simp [beq_list, callF, Mine.exec, evA, Ans.of, freeze, freeze1, esc, escB, escT, fspathF, sepF, bi2F, bi1F, clsOf, isSub, cmpF, pvEq, cutF, partOf, truthPV, ownOf, lim, lim_lit0, lim_lit1, lim_lit2, lim_lit3, lim_lit4, lim_lit8, binF, methF, setAll, itemsOf, itsF, augOk, bNorm, h1, h2, h3, lim_pos]
        · by_cases c3 : l = [46, 46]
          · subst c3
            simp only [List.concat_eq_append, List.length_append, List.length_singleton] at h2 h4
            cases s with
            | nil => simp [beq_list, callF, Mine.exec, evA, Ans.of, freeze, freeze1, esc, escB, escT, fspathF, sepF, bi2F, bi1F, clsOf, isSub, cmpF, pvEq, cutF, partOf, truthPV, ownOf, lim, lim_lit0, lim_lit1, lim_lit2, lim_lit3, lim_lit4, lim_lit8, binF, methF, setAll, itemsOf, itsF, augOk, bNorm, h1, h2, h4, idxF, idx_snoc, isEmpty_snoc]
            | cons x s => simp only [List.length_cons] at h3; simp [beq_list, callF, Mine.exec, evA, Ans.of, freeze, freeze1, esc, escB, escT, fspathF, sepF, bi2F, bi1F, clsOf, isSub, cmpF, pvEq, cutF, partOf, truthPV, ownOf, lim, lim_lit0, lim_lit1, lim_lit2, lim_lit3, lim_lit4, lim_lit8, binF, methF, setAll, itemsOf, itsF, augOk, bNorm, h1, h2, h3, h4, idxF, idx_snoc, isEmpty_snoc]
          · simp only [List.concat_eq_append, List.length_append, List.length_singleton] at h2 h4
            cases s with
            | nil => simp [beq_list, callF, Mine.exec, evA, Ans.of, freeze, freeze1, esc, escB, escT, fspathF, sepF, bi2F, bi1F, clsOf, isSub, cmpF, pvEq, cutF, partOf, truthPV, ownOf, lim, lim_lit0, lim_lit1, lim_lit2, lim_lit3, lim_lit4, lim_lit8, binF, methF, setAll, itemsOf, itsF, augOk, bNorm, h1, h2, h4, idxF, idx_snoc, isEmpty_snoc, c3]
            | cons x s => simp only [List.length_cons] at h3; simp [beq_list, callF, Mine.exec, evA, Ans.of, freeze, freeze1, esc, escB, escT, fspathF, sepF, bi2F, bi1F, clsOf, isSub, cmpF, pvEq, cutF, partOf, truthPV, ownOf, lim, lim_lit0, lim_lit1, lim_lit2, lim_lit3, lim_lit4, lim_lit8, binF, methF, setAll, itemsOf, itsF, augOk, bNorm, h1, h2, h3, h4, idxF, idx_snoc, isEmpty_snoc, c3]
      · simp [beq_list, callF, Mine.exec, evA, Ans.of, freeze, freeze1, esc, escB, escT, fspathF, sepF, bi2F, bi1F, clsOf, isSub, cmpF, pvEq, cutF, partOf, truthPV, ownOf, lim, lim_lit0, lim_lit1, lim_lit2, lim_lit3, lim_lit4, lim_lit8, binF, methF, setAll, itemsOf, itsF, augOk, bNorm, h1, h2, c0, c1, c2, c0']

def szL (ps : List (List Nat)) : Nat := (ps.map fun p => p.length + 1).sum
theorem szL_append (a b : List (List Nat)) : szL (a ++ b) = szL a + szL b := by unfold szL; rw [List.map_append, List.sum_append]
theorem szL_cons (a : List Nat) (b : List (List Nat)) : szL (a :: b) = a.length + 1 + szL b := by unfold szL; rw [List.map_cons, List.sum_cons]
theorem len_le_szL : ∀ ps : List (List Nat), ps.length ≤ szL ps
  | [] => Nat.le_refl _
  | p :: ps => by rw [szL_cons, List.length_cons]; have := len_le_szL ps; omega
theorem szL_eq : ∀ ps : List (List Nat), szL ps = (ps.map List.length).sum + ps.length
  | [] => rfl
  | p :: ps => by rw [szL_cons, List.map_cons, List.sum_cons, List.length_cons, szL_eq ps]; omega
theorem joinC_len1 (c : Nat) : ∀ ps : List (List Nat), (joinC [c] ps).length ≤ szL ps ∧ (ps ≠ [] → (joinC [c] ps).length + 1 = szL ps)
  | [] => ⟨Nat.zero_le _, fun h => absurd rfl h⟩
  | [p] => ⟨by rw [szL_cons]; show p.length ≤ _; omega, fun _ => by rw [szL_cons]; rfl⟩
  | p :: q :: r => by
    have ih := joinC_len1 c (q :: r)
    rw [szL_cons]
    have e : (joinC [c] (p :: q :: r)).length = p.length + 1 + (joinC [c] (q :: r)).length := by
      show (p ++ [c] ++ joinC [c] (q :: r)).length = _
      simp [beq_list, callF, Mine.exec, evA, Ans.of, freeze, freeze1, esc, escB, escT, fspathF, sepF, bi2F, bi1F, clsOf, isSub, cmpF, pvEq, cutF, partOf, truthPV, ownOf, lim, lim_lit0, lim_lit1, lim_lit2, lim_lit3, lim_lit4, lim_lit8, binF, methF, setAll, itemsOf, itsF, augOk]; omega
    rw [e]
    exact ⟨by omega, fun _ => by have := ih.2 (by simp [beq_list, callF, Mine.exec, evA, Ans.of, freeze, freeze1, esc, escB, escT, fspathF, sepF, bi2F, bi1F, clsOf, isSub, cmpF, pvEq, cutF, partOf, truthPV, ownOf, lim, lim_lit0, lim_lit1, lim_lit2, lim_lit3, lim_lit4, lim_lit8, binF, methF, setAll, itemsOf, itsF, augOk]); omega⟩
theorem szL_split (c : Nat) (cs : List Nat) : szL (splitC c cs) = cs.length + 1 := by
  have := (joinC_len1 c (splitC c cs)).2 (splitC_ne c cs)
  rw [joinC_split] at this
  exact this.symm
theorem szL_dropLast : ∀ ps : List (List Nat), szL ps.dropLast ≤ szL ps
  | [] => Nat.le_refl _
  | [p] => by simp [beq_list, callF, Mine.exec, evA, Ans.of, freeze, freeze1, esc, escB, escT, fspathF, sepF, bi2F, bi1F, clsOf, isSub, cmpF, pvEq, cutF, partOf, truthPV, ownOf, lim, lim_lit0, lim_lit1, lim_lit2, lim_lit3, lim_lit4, lim_lit8, binF, methF, setAll, itemsOf, itsF, augOk, szL]
  | p :: q :: r => by
    rw [List.dropLast_cons_cons, szL_cons, szL_cons]
    have := szL_dropLast (q :: r)
    omega
theorem normStep_sz (abs : Bool) (acc : List (List Nat)) (c : List Nat) : szL (normStep abs acc c) ≤ szL acc + (c.length + 1) := by
  unfold normStep
  split
  · omega
  · split
    · rw [szL_append, szL_cons]; show _ ≤ _; simp [beq_list, callF, Mine.exec, evA, Ans.of, freeze, freeze1, esc, escB, escT, fspathF, sepF, bi2F, bi1F, clsOf, isSub, cmpF, pvEq, cutF, partOf, truthPV, ownOf, lim, lim_lit0, lim_lit1, lim_lit2, lim_lit3, lim_lit4, lim_lit8, binF, methF, setAll, itemsOf, itsF, augOk, szL]
    · have := szL_dropLast acc; omega
def normA (abs : Bool) (acc cs : List (List Nat)) : List (List Nat) := cs.foldl (normStep abs) acc
theorem normA_sz (abs : Bool) : ∀ (cs acc : List (List Nat)), szL (normA abs acc cs) ≤ szL acc + szL cs
  | [], acc => Nat.le_add_right _ _
  | c :: cs, acc => by
    have h1 := normStep_sz abs acc c
    have h2 := normA_sz abs cs (normStep abs acc c)
    rw [szL_cons]
    show szL (normA abs (normStep abs acc c) cs) ≤ _
    omega

theorem norm_loop (Γ : FEnv) (k : Bool) (s : List Nat) (a0 cs : PV) (r : Slot) (hs : s.length ≤ LIM) : ∀ (ps acc : List (List Nat)) (sl : Slot), szL acc + szL ps ≤ LIM →
    ∃ sl', forL (Mine.exec Γ bNorm) [8] (ps.map (.txt k)) (dots k s a0 cs r acc sl) = some (.next, dots k s a0 cs r (normA (!s.isEmpty) acc ps) sl')
  | [], acc, sl, _ => ⟨sl, rfl⟩
  | p :: ps, acc, sl, hz => by
    rw [szL_cons] at hz
    have h1 := normStep_sz (!s.isEmpty) acc p
    have h2 := len_le_szL acc
    obtain ⟨sl', ih⟩ := norm_loop Γ k s a0 cs r hs ps (normStep (!s.isEmpty) acc p) (some (.txt k p, 0)) (by omega)
    refine ⟨sl', ?_⟩
    obtain ⟨fl, hfl, ht⟩ := norm_turn Γ k s a0 cs r acc p (by omega) (by omega) hs
    rw [List.map_cons, forL]
    show (match Mine.exec Γ bNorm (dots k s a0 cs r acc (some (.txt k p, 0))) with
      | some (.next, ρ') => forL (Mine.exec Γ bNorm) [8] (ps.map (.txt k)) ρ'
      | some (.cont, ρ') => forL (Mine.exec Γ bNorm) [8] (ps.map (.txt k)) ρ'
      | some (.brk, ρ') => some (.next, ρ')
      | some (.ret r, ρ') => some (.ret r, ρ')
      | none => none) = _
    rw [ht]
    rcases hfl with rfl | rfl <;> exact ih

def normP (cs : List Nat) : List Nat :=
  if cs = [] then [46] else
  if (rootS cs).1 ++ joinC [47] (normA (!(rootS cs).1.isEmpty) [] (splitC 47 (rootS cs).2)) = [] then [46] else (rootS cs).1 ++ joinC [47] (normA (!(rootS cs).1.isEmpty) [] (splitC 47 (rootS cs).2))
theorem rootS_len (cs : List Nat) : (rootS cs).1.length + (rootS cs).2.length = cs.length ∧ (rootS cs).1.length ≤ 2 := by
  unfold rootS
  split
  · exact ⟨by simp [beq_list, callF, Mine.exec, evA, Ans.of, freeze, freeze1, esc, escB, escT, fspathF, sepF, bi2F, bi1F, clsOf, isSub, cmpF, pvEq, cutF, partOf, truthPV, ownOf, lim, lim_lit0, lim_lit1, lim_lit2, lim_lit3, lim_lit4, lim_lit8, binF, methF, setAll, itemsOf, itsF, augOk], by simp [beq_list, callF, Mine.exec, evA, Ans.of, freeze, freeze1, esc, escB, escT, fspathF, sepF, bi2F, bi1F, clsOf, isSub, cmpF, pvEq, cutF, partOf, truthPV, ownOf, lim, lim_lit0, lim_lit1, lim_lit2, lim_lit3, lim_lit4, lim_lit8, binF, methF, setAll, itemsOf, itsF, augOk]⟩
  · rename_i h1
    have h1 : cs.take 1 = [47] := Classical.not_not.mp h1
    cases cs with
    | nil => cases h1
    | cons a r =>
      split
      · exact ⟨by simp [beq_list, callF, Mine.exec, evA, Ans.of, freeze, freeze1, esc, escB, escT, fspathF, sepF, bi2F, bi1F, clsOf, isSub, cmpF, pvEq, cutF, partOf, truthPV, ownOf, lim, lim_lit0, lim_lit1, lim_lit2, lim_lit3, lim_lit4, lim_lit8, binF, methF, setAll, itemsOf, itsF, augOk]; omega, by simp [beq_list, callF, Mine.exec, evA, Ans.of, freeze, freeze1, esc, escB, escT, fspathF, sepF, bi2F, bi1F, clsOf, isSub, cmpF, pvEq, cutF, partOf, truthPV, ownOf, lim, lim_lit0, lim_lit1, lim_lit2, lim_lit3, lim_lit4, lim_lit8, binF, methF, setAll, itemsOf, itsF, augOk]⟩
      · refine ⟨?_, by simp [beq_list, callF, Mine.exec, evA, Ans.of, freeze, freeze1, esc, escB, escT, fspathF, sepF, bi2F, bi1F, clsOf, isSub, cmpF, pvEq, cutF, partOf, truthPV, ownOf, lim, lim_lit0, lim_lit1, lim_lit2, lim_lit3, lim_lit4, lim_lit8, binF, methF, setAll, itemsOf, itsF, augOk]; omega⟩
        rw [List.length_take, List.length_drop]; omega
def normpathF : List PV → Option PV
  | [.txt k cs] => if cs.length + 4 ≤ LIM then some (.txt k (normP cs)) else none
  | _ => none
theorem normpath_run (Γ : FEnv) (h0 : Γ[0]? = some fspathF) (h3 : Γ[3]? = some splitrootF) (k : Bool) (cs : List Nat) (hz : cs.length + 4 ≤ LIM) :
    callF Γ 9 msNormpath [.txt k cs] = some (.txt k (normP cs)) := by
  have e : ∃ m1 m2, msNormpath = .seq (.asg 0 false (.fn 0 (.cons (.var 0) .nil))) (.seq (.ite (.bi2 .isinst (.var 0) (.lit (.cls "bytes"))) m1 m2) (.seq (.ite (.not_ (.var 0)) (.seq (.ret (.var 2)) .skip) .skip) (.seq (.unpack [4, 5, 0] (.fn 3 (.cons (.var 0) .nil))) (.seq (.asg 6 false (.meth .split (.var 0) (.var 1))) (.seq (.asg 7 true (.list .nil)) (.seq (.for_ [8] (.var 6) bNorm) (.seq (.asg 6 false (.var 7)) (.seq (.asg 0 false (.bin .add (.var 5) (.meth .join (.var 1) (.var 6)))) (.seq (.ret (.or_ (.var 0) (.var 2))) .skip)))))))))
      ∧ m1 = (.seq (.asg 1 false (.lit (.txt true [47]))) (.seq (.asg 2 false (.lit (.txt true [46]))) (.seq (.asg 3 false (.lit (.txt true [46, 46]))) .skip))) ∧ m2 = (.seq (.asg 1 false (.lit (.txt false [47]))) (.seq (.asg 2 false (.lit (.txt false [46]))) (.seq (.asg 3 false (.lit (.txt false [46, 46]))) .skip))) := ⟨_, _, rfl, rfl, rfl⟩
  obtain ⟨m1, m2, e, rfl, rfl⟩ := e
  rw [e]
  unfold normP
  by_cases hc : cs = []
  · subst hc
    cases k <;> simp [beq_list, callF, Mine.exec, evA, Ans.of, freeze, freeze1, esc, escB, escT, fspathF, sepF, bi2F, bi1F, clsOf, isSub, cmpF, pvEq, cutF, partOf, truthPV, ownOf, lim, lim_lit0, lim_lit1, lim_lit2, lim_lit3, lim_lit4, lim_lit8, binF, methF, setAll, itemsOf, itsF, augOk, h0]
  · rw [if_neg hc]
    obtain ⟨l1, l2⟩ := rootS_len cs
    have hs : (rootS cs).1.length ≤ LIM := by unfold LIM at *; omega
    have hne : cs.isEmpty = false := by cases cs <;> first | rfl | exact absurd rfl hc
    have hz1 : cs.length ≤ LIM := by omega
    have hz2 : (rootS cs).2.length < LIM := by omega
    generalize hR : (rootS cs).1 = s at *
    generalize hT : (rootS cs).2 = r at *
    have hsz : szL ([] : List (List Nat)) + szL (splitC 47 r) ≤ LIM := by rw [szL_split]; show 0 + _ ≤ _; omega
    have hlen : (splitC 47 r).length ≤ LIM := by have := len_le_szL (splitC 47 r); omega
    obtain ⟨sl', hl⟩ := norm_loop Γ k s (.txt k r) (.list ((splitC 47 r).map (.txt k))) (some (.txt k [], 0)) hs (splitC 47 r) [] none hsz
    have hA := normA_sz (!s.isEmpty) (splitC 47 r) []
    generalize normA (!s.isEmpty) [] (splitC 47 r) = A at *
    have hA' : szL A ≤ r.length + 1 := by rw [szL_split] at hA; simpa [beq_list, callF, Mine.exec, evA, Ans.of, freeze, freeze1, esc, escB, escT, fspathF, sepF, bi2F, bi1F, clsOf, isSub, cmpF, pvEq, cutF, partOf, truthPV, ownOf, lim, lim_lit0, lim_lit1, lim_lit2, lim_lit3, lim_lit4, lim_lit8, binF, methF, setAll, itemsOf, itsF, augOk, szL] using hA
    have hA2 : (A.map List.length).sum + A.length ≤ LIM := by rw [← szL_eq]; omega
    have hA3 := (joinC_len1 47 A).1
    have hJ : s.length + (joinC [47] A).length ≤ LIM := by omega
    have hJ2 : (s ++ joinC [47] A).length ≤ LIM := by rw [List.length_append]; exact hJ
    unfold dots at hl
    have hf : splitrootF [.txt k cs] = some (.tup [.txt k [], .txt k s, .txt k r]) := by
      show (if cs.length ≤ LIM then _ else _) = _
      rw [if_pos hz1, hR, hT]
    have hj : asTxts k (A.map (PV.txt k)) = some A := asTxts_map k A
    by_cases hE : s ++ joinC [47] A = []
    · rw [if_pos hE]
      have hE' : (s = [] ∧ joinC [47] A = []) := List.append_eq_nil_iff.mp hE
      rw [hE'.1] at hl hf
      cases k <;> simp [beq_list, callF, Mine.exec, evA, Ans.of, freeze, freeze1, esc, escB, escT, fspathF, sepF, bi2F, bi1F, clsOf, isSub, cmpF, pvEq, cutF, partOf, truthPV, ownOf, lim, lim_lit0, lim_lit1, lim_lit2, lim_lit3, lim_lit4, lim_lit8, binF, methF, setAll, itemsOf, itsF, augOk] at hl <;> simp [beq_list, callF, Mine.exec, evA, Ans.of, freeze, freeze1, esc, escB, escT, fspathF, sepF, bi2F, bi1F, clsOf, isSub, cmpF, pvEq, cutF, partOf, truthPV, ownOf, lim, lim_lit0, lim_lit1, lim_lit2, lim_lit3, lim_lit4, lim_lit8, binF, methF, setAll, itemsOf, itsF, augOk, h0, h3, hf, hne, hz1, hz2, hlen, hl, hj, hA2, hE'.2]
    · rw [if_neg hE]
      have hE2 : (s ++ joinC [47] A).isEmpty = false := by cases h : s ++ joinC [47] A <;> first | rfl | exact absurd h hE
      cases k <;> simp [beq_list, callF, Mine.exec, evA, Ans.of, freeze, freeze1, esc, escB, escT, fspathF, sepF, bi2F, bi1F, clsOf, isSub, cmpF, pvEq, cutF, partOf, truthPV, ownOf, lim, lim_lit0, lim_lit1, lim_lit2, lim_lit3, lim_lit4, lim_lit8, binF, methF, setAll, itemsOf, itsF, augOk] at hl <;> simp [beq_list, callF, Mine.exec, evA, Ans.of, freeze, freeze1, esc, escB, escT, fspathF, sepF, bi2F, bi1F, clsOf, isSub, cmpF, pvEq, cutF, partOf, truthPV, ownOf, lim, lim_lit0, lim_lit1, lim_lit2, lim_lit3, lim_lit4, lim_lit8, binF, methF, setAll, itemsOf, itsF, augOk, h0, h3, hf, hne, hz1, hz2, hlen, hl, hj, hA2, hJ, hE2]
end Mine
end
section
namespace Mine

/-! the base defs, as a law's stage asks for them -/
theorem run_fspath (Γ : FEnv) : ∀ xs z, fspathF xs = some z → ((fun xs => if xs.length = 1 then some xs else none) xs : Option (List PV)).bind (callF Γ 4 msFspath) = some z
  | [.txt k cs], z, h => by cases h; exact fspath_run Γ k cs
theorem run_sep (Γ : FEnv) : ∀ xs z, sepF xs = some z → ((fun xs => if xs.length = 1 then some xs else none) xs : Option (List PV)).bind (callF Γ 1 msSep) = some z
  | [.txt k cs], z, h => by cases h; exact sep_run Γ k cs
theorem run_join (Γ : FEnv) (h0 : Γ[0]? = some fspathF) (h1 : Γ[1]? = some sepF) : ∀ xs z, joinF xs = some z → (packVar xs).bind (callF Γ 5 msJoin) = some z
  | .txt k a :: r, z, h => by
    simp only [joinF] at h
    split at h
    · rename_i bs hb
      split at h
      · rename_i hz
        cases h
        have e := asTxts_some hb
        subst e
        simp only [packVar]
        rw [if_pos (by rw [List.length_map]; exact hz.2)]
        exact join_run Γ h0 h1 k a bs hz.1 hz.2
      · cases h
    · cases h
  | [], z, h => by cases h
  | .none :: _, z, h => by cases h
  | .bool _ :: _, z, h => by cases h
  | .int _ :: _, z, h => by cases h
  | .list _ :: _, z, h => by cases h
  | .tup _ :: _, z, h => by cases h
  | .dict _ :: _, z, h => by cases h
  | .cls _ :: _, z, h => by cases h
theorem run_splitroot (Γ : FEnv) (h0 : Γ[0]? = some fspathF) : ∀ xs z, splitrootF xs = some z → ((fun xs => if xs.length = 1 then some xs else none) xs : Option (List PV)).bind (callF Γ 3 msSplitroot) = some z
  | [.txt k cs], z, h => by
    simp only [splitrootF] at h
    split at h
    · rename_i hz; cases h; exact splitroot_run Γ h0 k cs hz
    · cases h
theorem run_normpath (Γ : FEnv) (h0 : Γ[0]? = some fspathF) (h3 : Γ[3]? = some splitrootF) : ∀ xs z, normpathF xs = some z → ((fun xs => if xs.length = 1 then some xs else none) xs : Option (List PV)).bind (callF Γ 9 msNormpath) = some z
  | [.txt k cs], z, h => by
    simp only [normpathF] at h
    split at h
    · rename_i hz; cases h; exact normpath_run Γ h0 h3 k cs hz
    · cases h
def isabsF : List PV → Option PV
  | [.txt k cs] => some (.bool ([47].isPrefixOf cs))
  | _ => none
def msIsabs : MS := (.seq (.asg 0 false (.fn 0 (.cons (.var 0) .nil))) (.seq (.asg 1 false (.fn 1 (.cons (.var 0) .nil))) (.seq (.ret (.meth .startswith (.var 0) (.var 1))) .skip)))
theorem run_isabs (Γ : FEnv) (h0 : Γ[0]? = some fspathF) (h1 : Γ[1]? = some sepF) : ∀ xs z, isabsF xs = some z → ((fun xs => if xs.length = 1 then some xs else none) xs : Option (List PV)).bind (callF Γ 2 msIsabs) = some z
  | [.txt k cs], z, h => by
    cases h
    simp [msIsabs, h0, h1, callF, Mine.exec, evA, Ans.of, freeze, freeze1, esc, escB, escT, fspathF, sepF, methF, truthPV, ownOf]
end Mine
end
section
namespace Mine

/-! the law's kind: a text, or its octets -/
def msKind : MS := (.seq (.ret (.ite (.var 1) (.bi1 .bytes (.comp (.bi1 .ord (.var 2)) (.var 0) (.lit (.bool true)))) (.var 0))) .skip)
def small (cs : List Nat) : Bool := cs.all fun c => decide (c < 256)
def kindF : List PV → Option PV
  | [.txt false cs, .bool b] => if small cs = true ∧ cs.length ≤ LIM then some (.txt b cs) else none
  | _ => none
theorem ord_comp (Γ : FEnv) (cs0 : List Nat) (b : Bool) : ∀ cs : List Nat,
    compF (fun x => (evA Γ (.lit (.bool true)) ([some (.txt false cs0, 0), some (.bool b, 0)] ++ [some (x, 0)])).tru) (fun x => (evA Γ (.bi1 .ord (.var 2)) ([some (.txt false cs0, 0), some (.bool b, 0)] ++ [some (x, 0)])).val) (cs.map fun c => .txt false [c]) = some (cs.map fun (c : Nat) => PV.int (c : Int))
  | [] => rfl
  | c :: cs => by
    have ih := ord_comp Γ cs0 b cs
    rw [List.map_cons, compF, ih]
    rfl
theorem ints_of (cs : List Nat) : intsOf (cs.map fun (c : Nat) => PV.int (c : Int)) = some (cs.map fun (c : Nat) => (c : Int)) := by
  have := intsOf_map (cs.map fun (c : Nat) => (c : Int))
  rw [List.map_map] at this
  exact this
theorem kind_run (Γ : FEnv) (cs : List Nat) (b : Bool) (hs : small cs = true) (hz : cs.length ≤ LIM) : callF Γ 2 msKind [.txt false cs, .bool b] = some (.txt b cs) := by
  have hc := ord_comp Γ cs b cs
  simp only [List.cons_append, List.nil_append] at hc
  have hr : ((cs.map fun (c : Nat) => (c : Int)).all fun i => decide (0 ≤ i) && decide (i < 256)) = true := by
    rw [List.all_map]
    unfold small at hs
    rw [List.all_eq_true] at hs ⊢
    intro c hc
    have := of_decide_eq_true (hs c hc)
    simp [beq_list, callF, Mine.exec, evA, Ans.of, freeze, freeze1, esc, escB, escT, fspathF, sepF, bi2F, bi1F, clsOf, isSub, cmpF, pvEq, cutF, partOf, truthPV, ownOf, lim, lim_lit0, lim_lit1, lim_lit2, lim_lit3, lim_lit4, lim_lit8, binF, methF, setAll, itemsOf, itsF, augOk]; omega
  cases b with
  | false => simp [beq_list, callF, Mine.exec, evA, Ans.of, freeze, freeze1, esc, escB, escT, fspathF, sepF, bi2F, bi1F, clsOf, isSub, cmpF, pvEq, cutF, partOf, truthPV, ownOf, lim, lim_lit0, lim_lit1, lim_lit2, lim_lit3, lim_lit4, lim_lit8, binF, methF, setAll, itemsOf, itsF, augOk, msKind]
  | true =>
    have e : (evA Γ (.comp (.bi1 .ord (.var 2)) (.var 0) (.lit (.bool true))) [some (.txt false cs, 0), some (.bool true, 0)]).val = some (.list (cs.map fun (c : Nat) => PV.int (c : Int)), 0) := by
      show (((if cs.length ≤ LIM then some (cs.map fun c => PV.txt false [c]) else none).bind fun xs => ((compF (fun x => (evA Γ (.lit (.bool true)) ([some (.txt false cs, 0), some (.bool true, 0)] ++ [some (x, 0)])).tru) (fun x => (evA Γ (.bi1 .ord (.var 2)) ([some (.txt false cs, 0), some (.bool true, 0)] ++ [some (x, 0)])).val) xs).bind lim).map fun ys => (PV.list ys, 0))) = _
      rw [if_pos hz]
      simp only [Option.bind_some]
      rw [ord_comp Γ cs true cs]
      simp only [Option.bind_some, lim, List.length_map, if_pos hz, Option.map_some]
    have e2 : bi1F .bytes (.list (cs.map fun (c : Nat) => PV.int (c : Int)), 0) = some (.txt true cs) := by
      simp only [bi1F, ints_of]
      rw [if_pos ⟨Nat.zero_le _, by rw [List.length_map]; exact hz, hr⟩, List.map_map]
      congr 2
      conv => rhs; rw [← List.map_id cs]
      exact List.map_congr_left fun c _ => by simp [beq_list, callF, Mine.exec, evA, Ans.of, freeze, freeze1, esc, escB, escT, fspathF, sepF, bi2F, bi1F, clsOf, isSub, cmpF, pvEq, cutF, partOf, truthPV, ownOf, lim, lim_lit0, lim_lit1, lim_lit2, lim_lit3, lim_lit4, lim_lit8, binF, methF, setAll, itemsOf, itsF, augOk]
    obtain ⟨C, hC⟩ : ∃ C, C = ME.comp (.bi1 .ord (.var 2)) (.var 0) (.lit (.bool true)) := ⟨_, rfl⟩
    have hB : escB C (esc C) = [] := by subst hC; rfl
    have em : msKind = (.seq (.ret (.ite (.var 1) (.bi1 .bytes C) (.var 0))) .skip) := by subst hC; rfl
    rw [← hC] at e
    rw [em]
    have hf : freeze (esc (.ite (.var 1) (.bi1 .bytes C) (.var 0))) [some (.txt false cs, 0), some (.bool true, 0)] = [some (.txt false cs, 0), some (.bool true, 0)] := by
      simp only [esc, hB, escT]; rfl
    have ev : (evA Γ (.ite (.var 1) (.bi1 .bytes C) (.var 0)) [some (.txt false cs, 0), some (.bool true, 0)]).val = some (.txt true cs, 0) := by
      have h1 : (evA Γ (.bi1 .bytes C) [some (.txt false cs, 0), some (.bool true, 0)]).val = some (.txt true cs, 0) := by
        show ((evA Γ C _).val.bind fun x => (bi1F .bytes x).map fun z => (z, 0)) = _
        rw [e]
        simp only [Option.bind_some]
        rw [e2]; rfl
      show (match (evA Γ (.var 1) [some (.txt false cs, 0), some (.bool true, 0)]).tru with
        | some true => { (Ans.of (evA Γ (.bi1 .bytes C) [some (.txt false cs, 0), some (.bool true, 0)]).val) with tru := (evA Γ (.bi1 .bytes C) [some (.txt false cs, 0), some (.bool true, 0)]).tru }
        | some false => { (Ans.of (evA Γ (.var 0) [some (.txt false cs, 0), some (.bool true, 0)]).val) with tru := (evA Γ (.var 0) [some (.txt false cs, 0), some (.bool true, 0)]).tru }
        | none => .of none).val = _
      rw [show (evA Γ (.var 1) [some (.txt false cs, 0), some (.bool true, 0)]).tru = some true from rfl]
      exact h1
    show (match (match (match (evA Γ (.ite (.var 1) (.bi1 .bytes C) (.var 0)) (freeze (esc (.ite (.var 1) (.bi1 .bytes C) (.var 0))) [some (.txt false cs, 0), some (.bool true, 0)])).val with
        | some (v, 0) => some (Fl.ret v, freeze (esc (.ite (.var 1) (.bi1 .bytes C) (.var 0))) [some (.txt false cs, 0), some (.bool true, 0)])
        | _ => none) with
      | some (.next, ρ') => Mine.exec Γ .skip ρ'
      | r => r) with
    | some (.ret v, _) => some v
    | some (.next, _) => some PV.none
    | _ => none) = _
    rw [hf, ev]
    rfl
theorem run_kind (Γ : FEnv) : ∀ xs z, kindF xs = some z → ((fun xs => if xs.length = 2 then some xs else none) xs : Option (List PV)).bind (callF Γ 2 msKind) = some z
  | [.txt false cs, .bool b], z, h => by
    simp only [kindF] at h
    split at h
    · rename_i hz; cases h; exact kind_run Γ cs b hz.1 hz.2
    · cases h
end Mine
end
section
namespace Mine

/-! pieces: a text is split sign by sign -/
def pieceStep (ps : List (List Nat)) (c : Nat) : List (List Nat) := if c = 47 then ps ++ [[]] else ps.dropLast ++ [(ps.getLast?.getD []) ++ [c]]
def prep (cur : List Nat) : List (List Nat) → List (List Nat)
  | [] => [cur]
  | h :: t => (cur ++ h) :: t
theorem pieces_fold : ∀ (cs cur : List Nat) (init : List (List Nat)), cs.foldl pieceStep (init ++ [cur]) = init ++ prep cur (splitC 47 cs)
  | [], cur, init => by simp [beq_list, callF, Mine.exec, evA, Ans.of, freeze, freeze1, esc, escB, escT, fspathF, sepF, bi2F, bi1F, clsOf, isSub, cmpF, pvEq, cutF, partOf, truthPV, ownOf, lim, lim_lit0, lim_lit1, lim_lit2, lim_lit3, lim_lit4, lim_lit8, binF, methF, setAll, itemsOf, itsF, augOk, splitC, prep]
  | c :: cs, cur, init => by
    rw [List.foldl_cons]
    by_cases hc : c = 47
    · subst hc
      have e : pieceStep (init ++ [cur]) 47 = (init ++ [cur]) ++ [[]] := by unfold pieceStep; rw [if_pos rfl]
      rw [e, pieces_fold cs [] (init ++ [cur])]
      have e2 : splitC 47 (47 :: cs) = [] :: splitC 47 cs := splitC_app 47 [] (by simp [beq_list, callF, Mine.exec, evA, Ans.of, freeze, freeze1, esc, escB, escT, fspathF, sepF, bi2F, bi1F, clsOf, isSub, cmpF, pvEq, cutF, partOf, truthPV, ownOf, lim, lim_lit0, lim_lit1, lim_lit2, lim_lit3, lim_lit4, lim_lit8, binF, methF, setAll, itemsOf, itsF, augOk]) cs
      rw [e2]
      cases h : splitC 47 cs with
      | nil => exact absurd h (splitC_ne 47 cs)
      | cons a r => simp [beq_list, callF, Mine.exec, evA, Ans.of, freeze, freeze1, esc, escB, escT, fspathF, sepF, bi2F, bi1F, clsOf, isSub, cmpF, pvEq, cutF, partOf, truthPV, ownOf, lim, lim_lit0, lim_lit1, lim_lit2, lim_lit3, lim_lit4, lim_lit8, binF, methF, setAll, itemsOf, itsF, augOk, prep]
    · have e : pieceStep (init ++ [cur]) c = init ++ [cur ++ [c]] := by unfold pieceStep; rw [if_neg hc]; simp [beq_list, callF, Mine.exec, evA, Ans.of, freeze, freeze1, esc, escB, escT, fspathF, sepF, bi2F, bi1F, clsOf, isSub, cmpF, pvEq, cutF, partOf, truthPV, ownOf, lim, lim_lit0, lim_lit1, lim_lit2, lim_lit3, lim_lit4, lim_lit8, binF, methF, setAll, itemsOf, itsF, augOk]
      rw [e, pieces_fold cs (cur ++ [c]) init]
      have e2 : splitC 47 (c :: cs) = prep [c] (splitC 47 cs) := by
        cases h : splitC 47 cs with
        | nil => exact absurd h (splitC_ne 47 cs)
        | cons a r =>
          unfold splitC
          rw [if_neg hc, h]; rfl
      rw [e2]
      cases h : splitC 47 cs with
      | nil => exact absurd h (splitC_ne 47 cs)
      | cons a r => simp [beq_list, callF, Mine.exec, evA, Ans.of, freeze, freeze1, esc, escB, escT, fspathF, sepF, bi2F, bi1F, clsOf, isSub, cmpF, pvEq, cutF, partOf, truthPV, ownOf, lim, lim_lit0, lim_lit1, lim_lit2, lim_lit3, lim_lit4, lim_lit8, binF, methF, setAll, itemsOf, itsF, augOk, prep]
theorem pieces_split (cs : List Nat) : cs.foldl pieceStep [[]] = splitC 47 cs := by
  have := pieces_fold cs [] []
  rw [List.nil_append, List.nil_append] at this
  rw [this]
  cases h : splitC 47 cs with
  | nil => exact absurd h (splitC_ne 47 cs)
  | cons a r => simp [beq_list, callF, Mine.exec, evA, Ans.of, freeze, freeze1, esc, escB, escT, fspathF, sepF, bi2F, bi1F, clsOf, isSub, cmpF, pvEq, cutF, partOf, truthPV, ownOf, lim, lim_lit0, lim_lit1, lim_lit2, lim_lit3, lim_lit4, lim_lit8, binF, methF, setAll, itemsOf, itsF, augOk, prep]
def bPieces (p s : Nat) : MS := .seq (.ite (.cmp .eq (.var s) (.lit (.txt false [47]))) (.seq (.append p (.lit (.txt false []))) .skip) (.seq (.augIdx p (.neg (.lit (.int 1))) .add (.var s)) .skip)) .skip

theorem set_snoc {α : Type} : ∀ (l : List α) (x y : α), (l ++ [x]).set l.length y = l ++ [y]
  | [], _, _ => rfl
  | a :: l, x, y => by show a :: (l ++ [x]).set l.length y = _; rw [set_snoc l x y]; rfl
theorem set4 {ρ : List Slot} {p s : Nat} {a b c d : Slot} (h : p ≠ s) : (((ρ.set s a).set p b).set s c).set p d = (ρ.set s c).set p d := by
  rw [List.set_comm b c h, List.set_set, List.set_set]
theorem freeze_nil (ρ : List Slot) : freeze [] ρ = ρ := rfl
theorem pieces_turn (Γ : FEnv) {p s : Nat} {ρ : List Slot} {ps : List (List Nat)} {c : Nat} (hps : p ≠ s) (h1 : ρ[s]? = some (some (.txt false [c], 0))) (h2 : ρ[p]? = some (some (.list (ps.map (.txt false)), 1))) (hne : ps ≠ []) (hz : szL ps + 2 ≤ LIM) :
    Mine.exec Γ (bPieces p s) ρ = some (.next, ρ.set p (some (.list ((pieceStep ps c).map (.txt false)), 1))) := by
  obtain ⟨init, cur, rfl⟩ : ∃ init cur, ps = init ++ [cur] := ⟨ps.dropLast, ps.getLast hne, (List.dropLast_concat_getLast hne).symm⟩
  have hlen := len_le_szL (init ++ [cur])
  rw [szL_append, szL_cons] at hz
  rw [List.length_append, List.length_singleton, szL_append, szL_cons] at hlen
  have e0 : szL [] = 0 := rfl
  rw [e0] at hz hlen
  have h3 : init.length + 1 < LIM := by omega
  have h3' : init.length + 1 ≤ LIM := by omega
  have h4 : cur.length + 1 ≤ LIM := by omega
  unfold pieceStep
  by_cases hc : c = 47
  · subst hc
    rw [if_pos rfl]
    simp [beq_list, callF, Mine.exec, evA, Ans.of, freeze, freeze1, esc, escB, escT, fspathF, sepF, bi2F, bi1F, clsOf, isSub, cmpF, pvEq, cutF, partOf, truthPV, ownOf, lim, lim_lit0, lim_lit1, lim_lit2, lim_lit3, lim_lit4, lim_lit8, binF, methF, setAll, itemsOf, itsF, augOk, bPieces, h1, h2, h3]
  · rw [if_neg hc]
    have hi : ((-1 : Int) + ((init.length : Int) + 1)).toNat = init.length := by omega
    have hc' : (c == 47) = false := beq_false_of_ne hc
    have hst : (List.map (PV.txt false) init ++ [PV.txt false cur]).set init.length (PV.txt false (cur ++ [c])) = List.map (PV.txt false) init ++ [PV.txt false (cur ++ [c])] := by
      have := set_snoc (List.map (PV.txt false) init) (PV.txt false cur) (PV.txt false (cur ++ [c]))
      rw [List.length_map] at this; exact this
    simp [beq_list, callF, Mine.exec, evA, Ans.of, freeze, freeze1, esc, escB, escT, fspathF, sepF, bi2F, bi1F, clsOf, isSub, cmpF, pvEq, cutF, partOf, truthPV, ownOf, lim, lim_lit0, lim_lit1, lim_lit2, lim_lit3, lim_lit4, lim_lit8, binF, methF, setAll, itemsOf, itsF, augOk, bPieces, h1, h2, hc', idx_snoc, h3', h4, hi, hst]
theorem set_self {ρ : List Slot} {p : Nat} {x : Slot} (h : ρ[p]? = some x) : ρ.set p x = ρ := by
  apply List.ext_getElem?
  intro i
  rw [List.getElem?_set]
  by_cases q : p = i
  · subst q
    rw [if_pos rfl]
    rcases Nat.lt_or_ge p ρ.length with h' | h'
    · rw [if_pos h', h]
    · rw [List.getElem?_eq_none h'] at h; cases h
  · rw [if_neg q]
theorem get_set_self {ρ : List Slot} {p : Nat} {x y : Slot} (h : ρ[p]? = some x) : (ρ.set p y)[p]? = some y := by
  rw [List.getElem?_set, if_pos rfl]
  rcases Nat.lt_or_ge p ρ.length with h' | h'
  · rw [if_pos h']
  · rw [List.getElem?_eq_none h'] at h; cases h
theorem get_set_ne {ρ : List Slot} {p q : Nat} {y : Slot} (h : p ≠ q) : (ρ.set p y)[q]? = ρ[q]? := by
  rw [List.getElem?_set, if_neg h]
theorem pieceStep_ne (ps : List (List Nat)) (c : Nat) : pieceStep ps c ≠ [] := by unfold pieceStep; split <;> simp [beq_list, callF, Mine.exec, evA, Ans.of, freeze, freeze1, esc, escB, escT, fspathF, sepF, bi2F, bi1F, clsOf, isSub, cmpF, pvEq, cutF, partOf, truthPV, ownOf, lim, lim_lit0, lim_lit1, lim_lit2, lim_lit3, lim_lit4, lim_lit8, binF, methF, setAll, itemsOf, itsF, augOk]
theorem pieceStep_sz (ps : List (List Nat)) (c : Nat) (h : ps ≠ []) : szL (pieceStep ps c) = szL ps + 1 := by
  obtain ⟨init, cur, rfl⟩ : ∃ init cur, ps = init ++ [cur] := ⟨ps.dropLast, ps.getLast h, (List.dropLast_concat_getLast h).symm⟩
  unfold pieceStep
  split
  · rw [szL_append, szL_append]; simp [beq_list, callF, Mine.exec, evA, Ans.of, freeze, freeze1, esc, escB, escT, fspathF, sepF, bi2F, bi1F, clsOf, isSub, cmpF, pvEq, cutF, partOf, truthPV, ownOf, lim, lim_lit0, lim_lit1, lim_lit2, lim_lit3, lim_lit4, lim_lit8, binF, methF, setAll, itemsOf, itsF, augOk, szL]
  · simp [beq_list, callF, Mine.exec, evA, Ans.of, freeze, freeze1, esc, escB, escT, fspathF, sepF, bi2F, bi1F, clsOf, isSub, cmpF, pvEq, cutF, partOf, truthPV, ownOf, lim, lim_lit0, lim_lit1, lim_lit2, lim_lit3, lim_lit4, lim_lit8, binF, methF, setAll, itemsOf, itsF, augOk, szL_append, szL]; omega
theorem pieces_loop (Γ : FEnv) {p s : Nat} (hps : p ≠ s) : ∀ (cs : List Nat) (ρ : List Slot) (ps : List (List Nat)) (sl : Slot), ρ[s]? = some sl → ρ[p]? = some (some (.list (ps.map (.txt false)), 1)) → ps ≠ [] → szL ps + cs.length + 2 ≤ LIM →
    ∃ sl', forL (Mine.exec Γ (bPieces p s)) [s] (cs.map fun c => .txt false [c]) ρ = some (.next, (ρ.set s sl').set p (some (.list ((cs.foldl pieceStep ps).map (.txt false)), 1)))
  | [], ρ, ps, sl, h1, h2, _, _ => ⟨sl, by rw [set_self h1, List.foldl_nil, set_self h2]; rfl⟩
  | c :: cs, ρ, ps, sl, h1, h2, hne, hz => by
    rw [List.length_cons] at hz
    have hsz := pieceStep_sz ps c hne
    have g1 : (ρ.set s (some (.txt false [c], 0)))[s]? = some (some (.txt false [c], 0)) := get_set_self h1
    have g2 : (ρ.set s (some (.txt false [c], 0)))[p]? = some (some (.list (ps.map (.txt false)), 1)) := by rw [get_set_ne (Ne.symm hps)]; exact h2
    have ht := pieces_turn Γ hps g1 g2 hne (by omega)
    have g3 : ((ρ.set s (some (.txt false [c], 0))).set p (some (.list ((pieceStep ps c).map (.txt false)), 1)))[s]? = some (some (.txt false [c], 0)) := by rw [get_set_ne hps]; exact g1
    obtain ⟨sl', ih⟩ := pieces_loop Γ hps cs _ (pieceStep ps c) _ g3 (get_set_self g2) (pieceStep_ne ps c) (by omega)
    refine ⟨sl', ?_⟩
    rw [List.map_cons, forL]
    show (match Mine.exec Γ (bPieces p s) (ρ.set s (some (.txt false [c], 0))) with
      | some (.next, ρ') => forL (Mine.exec Γ (bPieces p s)) [s] (cs.map fun c => .txt false [c]) ρ'
      | some (.cont, ρ') => forL (Mine.exec Γ (bPieces p s)) [s] (cs.map fun c => .txt false [c]) ρ'
      | some (.brk, ρ') => some (.next, ρ')
      | some (.ret r, ρ') => some (.ret r, ρ')
      | none => none) = _
    rw [ht]
    show forL _ _ _ _ = _
    rw [ih, List.foldl_cons]
    congr 2
    exact set4 hps
end Mine
end
section
namespace Mine

/-! heights: names and ups of a way -/
abbrev Way := Nat × List (List Nat)
def wStep (w : Way) (c : List Nat) : Way :=
  if c = [46, 46] then (if w.2 = [] then (w.1 + 1, []) else (w.1, w.2.dropLast)) else if c = [] ∨ c = [46] then w else (w.1, w.2 ++ [c])
def wRun (w : Way) (cs : List (List Nat)) : Way := cs.foldl wStep w

def lookD (es : List (Int × PV)) (j : Int) : Option PV := (es.find? fun e => e.1 == j).map (·.2)
theorem lookD_map (i j : Int) (v : PV) : ∀ es : List (Int × PV), lookD (es.map fun e => if e.1 = i then (e.1, v) else e) j = if j = i then (lookD es j).map fun _ => v else lookD es j
  | [] => by unfold lookD; simp [beq_list, callF, Mine.exec, evA, Ans.of, freeze, esc, escB, escT, fspathF, sepF, bi2F, bi1F, clsOf, isSub, cmpF, pvEq, cutF, partOf, truthPV, ownOf, lim, lim_lit0, lim_lit1, lim_lit2, lim_lit3, lim_lit4, lim_lit8, binF, methF, setAll, itemsOf, itsF, augOk]
  | (a, w) :: r => by
    have ih := lookD_map i j v r
    unfold lookD at ih ⊢
    rw [List.map_cons, List.find?_cons, List.find?_cons]
    by_cases h1 : a = i
    · subst h1
      rw [if_pos rfl]
      by_cases h2 : a = j
      · subst h2; simp [beq_list, callF, Mine.exec, evA, Ans.of, freeze, esc, escB, escT, fspathF, sepF, bi2F, bi1F, clsOf, isSub, cmpF, pvEq, cutF, partOf, truthPV, ownOf, lim, lim_lit0, lim_lit1, lim_lit2, lim_lit3, lim_lit4, lim_lit8, binF, methF, setAll, itemsOf, itsF, augOk]
      · have h2' : (a == j) = false := beq_false_of_ne h2
        simp only [h2']
        rw [ih]
    · rw [if_neg h1]
      by_cases h2 : a = j
      · subst h2
        simp [beq_list, callF, Mine.exec, evA, Ans.of, freeze, esc, escB, escT, fspathF, sepF, bi2F, bi1F, clsOf, isSub, cmpF, pvEq, cutF, partOf, truthPV, ownOf, lim, lim_lit0, lim_lit1, lim_lit2, lim_lit3, lim_lit4, lim_lit8, binF, methF, setAll, itemsOf, itsF, augOk, h1]
      · have h2' : (a == j) = false := beq_false_of_ne h2
        simp only [h2']
        rw [ih]
theorem lookD_none {es : List (Int × PV)} {j : Int} (h : (es.any fun e => decide (e.1 = j)) = false) : lookD es j = none := by
  unfold lookD
  rw [List.find?_eq_none.mpr ?_]
  · rfl
  · intro e he q
    rw [List.any_eq_false] at h
    exact h e he (decide_eq_true (by simpa [beq_list, callF, Mine.exec, evA, Ans.of, freeze, esc, escB, escT, fspathF, sepF, bi2F, bi1F, clsOf, isSub, cmpF, pvEq, cutF, partOf, truthPV, ownOf, lim, lim_lit0, lim_lit1, lim_lit2, lim_lit3, lim_lit4, lim_lit8, binF, methF, setAll, itemsOf, itsF, augOk] using q))
theorem lookD_some {es : List (Int × PV)} {j : Int} (h : (es.any fun e => decide (e.1 = j)) = true) : ∃ v, lookD es j = some v := by
  rw [List.any_eq_true] at h
  obtain ⟨e, he, hq⟩ := h
  unfold lookD
  cases q : es.find? fun e => e.1 == j with
  | none =>
    rw [List.find?_eq_none] at q
    exact absurd (by simpa [beq_list, callF, Mine.exec, evA, Ans.of, freeze, esc, escB, escT, fspathF, sepF, bi2F, bi1F, clsOf, isSub, cmpF, pvEq, cutF, partOf, truthPV, ownOf, lim, lim_lit0, lim_lit1, lim_lit2, lim_lit3, lim_lit4, lim_lit8, binF, methF, setAll, itemsOf, itsF, augOk] using hq) (q e he)
  | some y => exact ⟨y.2, rfl⟩
theorem lookD_append (es : List (Int × PV)) (i j : Int) (v : PV) : lookD (es ++ [(i, v)]) j = match lookD es j with
    | some x => some x
    | none => if i = j then some v else none := by
  unfold lookD
  rw [List.find?_append]
  cases q : es.find? fun e => e.1 == j with
  | some y => rfl
  | none =>
    rw [List.find?_cons]
    by_cases h : i = j
    · subst h; simp [beq_list, callF, Mine.exec, evA, Ans.of, freeze, esc, escB, escT, fspathF, sepF, bi2F, bi1F, clsOf, isSub, cmpF, pvEq, cutF, partOf, truthPV, ownOf, lim, lim_lit0, lim_lit1, lim_lit2, lim_lit3, lim_lit4, lim_lit8, binF, methF, setAll, itemsOf, itsF, augOk]
    · have h' : (i == j) = false := beq_false_of_ne h
      simp [beq_list, callF, Mine.exec, evA, Ans.of, freeze, esc, escB, escT, fspathF, sepF, bi2F, bi1F, clsOf, isSub, cmpF, pvEq, cutF, partOf, truthPV, ownOf, lim, lim_lit0, lim_lit1, lim_lit2, lim_lit3, lim_lit4, lim_lit8, binF, methF, setAll, itemsOf, itsF, augOk, h', h]
theorem lookD_set (es : List (Int × PV)) (i j : Int) (v : PV) : lookD (setDict es i v) j = if j = i then some v else lookD es j := by
  unfold setDict
  split
  · rename_i h
    rw [lookD_map]
    split
    · rename_i q; subst q
      obtain ⟨w, hw⟩ := lookD_some h
      rw [hw]; rfl
    · rfl
  · rename_i h
    rw [lookD_append]
    by_cases q : j = i
    · subst q
      rw [lookD_none (Bool.eq_false_iff.mpr h), if_pos rfl]
    · rw [if_neg q]
      cases lookD es j with
      | some x => rfl
      | none => rw [if_neg (Ne.symm q)]
theorem setDict_len (es : List (Int × PV)) (i : Int) (v : PV) : (setDict es i v).length ≤ es.length + 1 := by
  unfold setDict; split <;> simp [beq_list, callF, Mine.exec, evA, Ans.of, freeze, esc, escB, escT, fspathF, sepF, bi2F, bi1F, clsOf, isSub, cmpF, pvEq, cutF, partOf, truthPV, ownOf, lim, lim_lit0, lim_lit1, lim_lit2, lim_lit3, lim_lit4, lim_lit8, binF, methF, setAll, itemsOf, itsF, augOk]

structure HSt (h l d : Nat) (w : Way) (es : List (Int × PV)) (ρ : List Slot) : Prop where
  hh : ρ[h]? = some (some (.int ((w.2.length : Int) - w.1), 0))
  ll : ρ[l]? = some (some (.int (-(w.1 : Int)), 0))
  dd : ρ[d]? = some (some (.dict es, 1))
  look : ∀ (j : Nat) (x : List Nat), w.2[j]? = some x → lookD es (-(w.1 : Int) + 1 + j) = some (.txt false x)
def bHeights (h l d s : Nat) : MS := (.seq (.ite (.cmp .eq (.var s) (.lit (.txt false [46, 46]))) (.seq (.aug h .sub (.lit (.int 1))) (.seq (.asg l false (.bi2 .min (.var l) (.var h))) .skip)) (.seq (.ite (.and_ (.cmp .ne (.var s) (.lit (.txt false []))) (.cmp .ne (.var s) (.lit (.txt false [46])))) (.seq (.aug h .add (.lit (.int 1))) (.seq (.setIdx d (.var h) (.var s)) .skip)) .skip) .skip)) .skip)
theorem freeze1_same {ρ : List Slot} {s : Nat} {k : Bool} {cs : List Nat} (h : ρ[s]? = some (some (.txt k cs, 0))) : freeze1 ρ s = ρ := by
  apply List.ext_getElem?
  intro i
  unfold freeze1
  rw [List.getElem?_modify]
  by_cases q : s = i
  · subst q; rw [h]; simp [beq_list, callF, Mine.exec, evA, Ans.of, freeze, esc, escB, escT, fspathF, sepF, bi2F, bi1F, clsOf, isSub, cmpF, pvEq, cutF, partOf, truthPV, ownOf, lim, lim_lit0, lim_lit1, lim_lit2, lim_lit3, lim_lit4, lim_lit8, binF, methF, setAll, itemsOf, itsF, augOk]
  · simp only [if_neg q]; cases ρ[i]? <;> rfl
theorem lt_of_get {ρ : List Slot} {i : Nat} {x : Slot} (h : ρ[i]? = some x) : i < ρ.length := by
  rcases Nat.lt_or_ge i ρ.length with h' | h'
  · exact h'
  · rw [List.getElem?_eq_none h'] at h; cases h

theorem heights_turn (Γ : FEnv) {h l d s : Nat} {w : Way} {es : List (Int × PV)} {ρ : List Slot} {c : List Nat} (n1 : h ≠ l) (n2 : h ≠ d) (n3 : l ≠ d) (n4 : h ≠ s) (n5 : l ≠ s) (n6 : d ≠ s)
    (S : HSt h l d w es ρ) (hs : ρ[s]? = some (some (.txt false c, 0))) (hz : c.length ≤ LIM) (he : es.length < 1000) :
    ∃ es' ρ', Mine.exec Γ (bHeights h l d s) ρ = some (.next, ρ') ∧ HSt h l d (wStep w c) es' ρ' ∧ es'.length ≤ es.length + 1 ∧ (∀ j, j ≠ h → j ≠ l → j ≠ d → ρ'[j]? = ρ[j]?) ∧ ρ'.length = ρ.length := by
  obtain ⟨u, ns⟩ := w
  obtain ⟨hh, ll, dd, look⟩ := S
  have bh := lt_of_get hh
  have bl := lt_of_get ll
  have bd := lt_of_get dd
  dsimp only at hh ll look
  by_cases c2 : c = [46, 46]
  · subst c2
    have g1 : (ρ.set h (some (.int ((ns.length : Int) - u - 1), 0)))[l]? = some (some (.int (-(u : Int)), 0)) := by rw [get_set_ne n1]; exact ll
    have g2 : (ρ.set h (some (.int ((ns.length : Int) - u - 1), 0)))[h]? = some (some (.int ((ns.length : Int) - u - 1), 0)) := get_set_self hh
    refine ⟨es, (ρ.set h (some (.int ((ns.length : Int) - u - 1), 0))).set l (some (.int (if (ns.length : Int) - u - 1 < -(u : Int) then (ns.length : Int) - u - 1 else -(u : Int)), 0)), ?_, ?_, Nat.le_succ _, ?_⟩
    · simp [beq_list, callF, Mine.exec, evA, Ans.of, freeze, esc, escB, escT, fspathF, sepF, bi2F, bi1F, clsOf, isSub, cmpF, pvEq, cutF, partOf, truthPV, ownOf, lim, lim_lit0, lim_lit1, lim_lit2, lim_lit3, lim_lit4, lim_lit8, binF, methF, setAll, itemsOf, itsF, augOk, bHeights, hs, hh, ll, g1, g2]
    · unfold wStep
      rw [if_pos rfl]
      have k1 : ((ρ.set h (some (.int ((ns.length : Int) - u - 1), 0))).set l (some (.int (if (ns.length : Int) - u - 1 < -(u : Int) then (ns.length : Int) - u - 1 else -(u : Int)), 0)))[h]? = some (some (.int ((ns.length : Int) - u - 1), 0)) := by rw [get_set_ne (Ne.symm n1)]; exact g2
      have k2 := get_set_self (y := some (.int (if (ns.length : Int) - u - 1 < -(u : Int) then (ns.length : Int) - u - 1 else -(u : Int)), 0)) g1
      have k3 : ((ρ.set h (some (.int ((ns.length : Int) - u - 1), 0))).set l (some (.int (if (ns.length : Int) - u - 1 < -(u : Int) then (ns.length : Int) - u - 1 else -(u : Int)), 0)))[d]? = some (some (.dict es, 1)) := by rw [get_set_ne n3, get_set_ne n2]; exact dd
      by_cases hn : ns = []
      · subst hn
        rw [if_pos rfl]
        refine ⟨?_, ?_, k3, fun j x hx => by simp [beq_list, callF, Mine.exec, evA, Ans.of, freeze, esc, escB, escT, fspathF, sepF, bi2F, bi1F, clsOf, isSub, cmpF, pvEq, cutF, partOf, truthPV, ownOf, lim, lim_lit0, lim_lit1, lim_lit2, lim_lit3, lim_lit4, lim_lit8, binF, methF, setAll, itemsOf, itsF, augOk] at hx⟩
        · rw [k1]; simp only [List.length_nil]; congr 4; omega
        · rw [k2]; simp only [List.length_nil]; rw [if_pos (by omega)]; congr 4; omega
      · rw [if_neg hn]
        have hl : 0 < ns.length := List.length_pos_iff.mpr hn
        refine ⟨?_, ?_, k3, fun j x hx => look j x ?_⟩
        · rw [k1]; simp only [List.length_dropLast]; congr 4; omega
        · rw [k2]; rw [if_neg (by omega)]
        · dsimp only at hx
          rw [List.getElem?_dropLast] at hx
          split at hx
          · exact hx
          · cases hx
    · refine ⟨fun j q1 q2 q3 => ?_, by rw [List.length_set, List.length_set]⟩
      rw [get_set_ne (Ne.symm q2), get_set_ne (Ne.symm q1)]
  · by_cases c0 : c = []
    · subst c0
      refine ⟨es, ρ, by simp [beq_list, callF, Mine.exec, evA, Ans.of, freeze, esc, escB, escT, fspathF, sepF, bi2F, bi1F, clsOf, isSub, cmpF, pvEq, cutF, partOf, truthPV, ownOf, lim, lim_lit0, lim_lit1, lim_lit2, lim_lit3, lim_lit4, lim_lit8, binF, methF, setAll, itemsOf, itsF, augOk, bHeights, hs], ?_, Nat.le_succ _, fun _ _ _ _ => rfl, rfl⟩
      unfold wStep
      rw [if_neg c2, if_pos (.inl rfl)]
      exact ⟨hh, ll, dd, look⟩
    · by_cases c1 : c = [46]
      · subst c1
        refine ⟨es, ρ, by simp [beq_list, callF, Mine.exec, evA, Ans.of, freeze, esc, escB, escT, fspathF, sepF, bi2F, bi1F, clsOf, isSub, cmpF, pvEq, cutF, partOf, truthPV, ownOf, lim, lim_lit0, lim_lit1, lim_lit2, lim_lit3, lim_lit4, lim_lit8, binF, methF, setAll, itemsOf, itsF, augOk, bHeights, hs], ?_, Nat.le_succ _, fun _ _ _ _ => rfl, rfl⟩
        unfold wStep
        rw [if_neg c2, if_pos (.inr rfl)]
        exact ⟨hh, ll, dd, look⟩
      · have g1 : (ρ.set h (some (.int ((ns.length : Int) - u + 1), 0)))[s]? = some (some (.txt false c, 0)) := by rw [get_set_ne n4]; exact hs
        have g2 : (ρ.set h (some (.int ((ns.length : Int) - u + 1), 0)))[h]? = some (some (.int ((ns.length : Int) - u + 1), 0)) := get_set_self hh
        have g3 : (ρ.set h (some (.int ((ns.length : Int) - u + 1), 0)))[d]? = some (some (.dict es, 1)) := by rw [get_set_ne n2]; exact dd
        have f1 := freeze1_same g1
        refine ⟨setDict es ((ns.length : Int) - u + 1) (.txt false c), (ρ.set h (some (.int ((ns.length : Int) - u + 1), 0))).set d (some (.dict (setDict es ((ns.length : Int) - u + 1) (.txt false c)), 1)), ?_, ?_, setDict_len _ _ _, ?_⟩
        · have c0' : c.isEmpty = false := by cases c <;> first | rfl | exact absurd rfl c0
          simp [beq_list, callF, Mine.exec, evA, Ans.of, freeze, esc, escB, escT, fspathF, sepF, bi2F, bi1F, clsOf, isSub, cmpF, pvEq, cutF, partOf, truthPV, ownOf, lim, lim_lit0, lim_lit1, lim_lit2, lim_lit3, lim_lit4, lim_lit8, binF, methF, setAll, itemsOf, itsF, augOk, bHeights, hs, hh, c0, c0', c1, c2, g1, g2, g3, f1, he]
        · unfold wStep
          rw [if_neg c2, if_neg (by rintro (h | h); exact c0 h; exact c1 h)]
          refine ⟨?_, ?_, get_set_self g3, fun j x hx => ?_⟩
          · rw [get_set_ne (Ne.symm n2), g2]; simp only [List.length_append, List.length_singleton]; congr 4; omega
          · rw [get_set_ne (Ne.symm n3), get_set_ne n1]; exact ll
          · dsimp only at hx ⊢
            rw [lookD_set]
            rcases Nat.lt_trichotomy j ns.length with hj | hj | hj
            · rw [if_neg (by omega)]
              rw [List.getElem?_append_left hj] at hx
              exact look j x hx
            · subst hj
              rw [List.getElem?_append_right (Nat.le_refl _), Nat.sub_self] at hx
              cases hx
              rw [if_pos (by omega)]
            · rw [List.getElem?_eq_none (by rw [List.length_append, List.length_singleton]; omega)] at hx
              cases hx
        · refine ⟨fun j q1 q2 q3 => ?_, by rw [List.length_set, List.length_set]⟩
          rw [get_set_ne (Ne.symm q3), get_set_ne (Ne.symm q1)]

theorem heights_loop (Γ : FEnv) {h l d s : Nat} (n1 : h ≠ l) (n2 : h ≠ d) (n3 : l ≠ d) (n4 : h ≠ s) (n5 : l ≠ s) (n6 : d ≠ s) :
    ∀ (cs : List (List Nat)) (w : Way) (es : List (Int × PV)) (ρ : List Slot) (sl : Slot), HSt h l d w es ρ → ρ[s]? = some sl → (∀ c ∈ cs, c.length ≤ LIM) → es.length + cs.length < 1000 →
    ∃ es' ρ', forL (Mine.exec Γ (bHeights h l d s)) [s] (cs.map (.txt false)) ρ = some (.next, ρ') ∧ HSt h l d (wRun w cs) es' ρ' ∧ (∀ j, j ≠ h → j ≠ l → j ≠ d → j ≠ s → ρ'[j]? = ρ[j]?) ∧ ρ'.length = ρ.length
  | [], w, es, ρ, sl, S, hs, _, _ => ⟨es, ρ, rfl, S, fun _ _ _ _ _ => rfl, rfl⟩
  | c :: cs, w, es, ρ, sl, S, hs, hz, hl => by
    rw [List.length_cons] at hl
    have S1 : HSt h l d w es (ρ.set s (some (.txt false c, 0))) := ⟨by rw [get_set_ne (Ne.symm n4)]; exact S.hh, by rw [get_set_ne (Ne.symm n5)]; exact S.ll, by rw [get_set_ne (Ne.symm n6)]; exact S.dd, S.look⟩
    have hs1 : (ρ.set s (some (.txt false c, 0)))[s]? = some (some (.txt false c, 0)) := get_set_self hs
    obtain ⟨es1, ρ1, e1, S2, hl1, hk1, hn1⟩ := heights_turn Γ n1 n2 n3 n4 n5 n6 S1 hs1 (hz c (.head _)) (by omega)
    obtain ⟨es2, ρ2, e2, S3, hk2, hn2⟩ := heights_loop Γ n1 n2 n3 n4 n5 n6 cs (wStep w c) es1 ρ1 _ S2 (by rw [hk1 s (Ne.symm n4) (Ne.symm n5) (Ne.symm n6)]; exact hs1) (fun c' hc' => hz c' (.tail _ hc')) (by omega)
    refine ⟨es2, ρ2, ?_, S3, fun j q1 q2 q3 q4 => by rw [hk2 j q1 q2 q3 q4, hk1 j q1 q2 q3, get_set_ne (Ne.symm q4)], by rw [hn2, hn1, List.length_set]⟩
    rw [List.map_cons, forL]
    show (match Mine.exec Γ (bHeights h l d s) (ρ.set s (some (.txt false c, 0))) with
      | some (.next, ρ') => forL (Mine.exec Γ (bHeights h l d s)) [s] (cs.map (.txt false)) ρ'
      | some (.cont, ρ') => forL (Mine.exec Γ (bHeights h l d s)) [s] (cs.map (.txt false)) ρ'
      | some (.brk, ρ') => some (.next, ρ')
      | some (.ret r, ρ') => some (.ret r, ρ')
      | none => none) = _
    rw [e1]
    exact e2

theorem compF_map {f : PV → Option Bool} {g : PV → Option (PV × Nat)} (φ : PV → PV) : ∀ xs : List PV, (∀ x ∈ xs, f x = some true ∧ g x = some (φ x, 0)) → compF f g xs = some (xs.map φ)
  | [], _ => rfl
  | x :: xs, h => by
    obtain ⟨h1, h2⟩ := h x (.head _)
    rw [compF, h1, h2, compF_map φ xs fun y hy => h y (.tail _ hy)]; rfl
theorem comp_val (Γ : FEnv) {elt src cond : ME} {ρ : List Slot} {xs ys : List PV} (h1 : (evA Γ src ρ).its = some xs)
    (h2 : compF (fun x => (evA Γ cond (ρ ++ [some (x, 0)])).tru) (fun x => (evA Γ elt (ρ ++ [some (x, 0)])).val) xs = some ys) (hz : ys.length ≤ LIM) : (evA Γ (.comp elt src cond) ρ).val = some (.list ys, 0) := by
  show (((evA Γ src ρ).its.bind fun xs => ((compF (fun x => (evA Γ cond (ρ ++ [some (x, 0)])).tru) (fun x => (evA Γ elt (ρ ++ [some (x, 0)])).val) xs).bind lim).map fun ys => (PV.list ys, 0))) = _
  rw [h1]
  simp only [Option.bind_some]
  rw [h2]
  simp only [Option.bind_some, lim, if_pos hz, Option.map_some]
/-- the names that a dict of heights holds -/
theorem names_comp (Γ : FEnv) {h l d : Nat} {w : Way} {es : List (Int × PV)} {ρ : List Slot} (S : HSt h l d w es ρ) (h1 : w.1 ≤ 5000) (h2 : w.2.length ≤ 5000) :
    (evA Γ (.comp (.idx (.var d) (.var ρ.length)) (.range (.bin .add (.var l) (.lit (.int 1))) (.bin .add (.var h) (.lit (.int 1)))) (.lit (.bool true))) ρ).val = some (.list (w.2.map (.txt false)), 0) := by
  obtain ⟨u, ns⟩ := w
  obtain ⟨hh, ll, dd, look⟩ := S
  dsimp only at hh ll look h1 h2
  have bd := lt_of_get dd
  have hr : (evA Γ (.range (.bin .add (.var l) (.lit (.int 1))) (.bin .add (.var h) (.lit (.int 1)))) ρ).its = some ((List.range ns.length).map fun (k : Nat) => .int (-(u : Int) + 1 + (k : Int))) := by
    have e1 : (evA Γ (.bin .add (.var l) (.lit (.int 1))) ρ).val = some (.int (-(u : Int) + 1), 0) := by simp [beq_list, callF, Mine.exec, evA, Ans.of, freeze, esc, escB, escT, fspathF, sepF, bi2F, bi1F, clsOf, isSub, cmpF, pvEq, cutF, partOf, truthPV, ownOf, lim, lim_lit0, lim_lit1, lim_lit2, lim_lit3, lim_lit4, lim_lit8, binF, methF, setAll, itemsOf, itsF, augOk, ll]
    have e2 : (evA Γ (.bin .add (.var h) (.lit (.int 1))) ρ).val = some (.int ((ns.length : Int) - u + 1), 0) := by simp [beq_list, callF, Mine.exec, evA, Ans.of, freeze, esc, escB, escT, fspathF, sepF, bi2F, bi1F, clsOf, isSub, cmpF, pvEq, cutF, partOf, truthPV, ownOf, lim, lim_lit0, lim_lit1, lim_lit2, lim_lit3, lim_lit4, lim_lit8, binF, methF, setAll, itemsOf, itsF, augOk, hh]
    show (match (evA Γ (.bin .add (.var l) (.lit (.int 1))) ρ).val, (evA Γ (.bin .add (.var h) (.lit (.int 1))) ρ).val with
      | some (.int a, _), some (.int b, _) => if -(2 ^ 40 : Int) ≤ a ∧ a ≤ 2 ^ 40 ∧ -(2 ^ 40 : Int) ≤ b ∧ b ≤ LIM ∧ (b - a).toNat ≤ LIM then some ((List.range (b - a).toNat).map fun (k : Nat) => PV.int (a + (k : Int))) else none
      | _, _ => none) = _
    rw [e1, e2]
    dsimp only
    have hl : (LIM : Int) = 1048576 := rfl
    have ht : ((ns.length : Int) - u + 1 - (-(u : Int) + 1)).toNat = ns.length := by omega
    rw [ht, if_pos ⟨by omega, by omega, by omega, by omega, by unfold LIM; omega⟩]
  refine comp_val Γ hr ?_ (by rw [List.length_map]; unfold LIM; show ns.length ≤ _; omega)
  have key : compF (fun x => (evA Γ (.lit (.bool true)) (ρ ++ [some (x, 0)])).tru) (fun x => (evA Γ (.idx (.var d) (.var ρ.length)) (ρ ++ [some (x, 0)])).val) ((List.range ns.length).map fun (k : Nat) => .int (-(u : Int) + 1 + (k : Int))) =
      some (((List.range ns.length).map fun (k : Nat) => PV.int (-(u : Int) + 1 + (k : Int))).map fun x => match x with | .int i => (lookD es i).getD .none | _ => .none) := by
    refine compF_map (fun x => match x with | .int i => (lookD es i).getD .none | _ => .none) _ fun x hx => ?_
    obtain ⟨k, hk, rfl⟩ := List.mem_map.mp hx
    have hk' := List.mem_range.mp hk
    refine ⟨rfl, ?_⟩
    obtain ⟨y, hy⟩ : ∃ y, ns[k]? = some y := ⟨ns[k], List.getElem?_eq_getElem hk'⟩
    have hlk := look k y hy
    have g1 : (ρ ++ [some (PV.int (-(u : Int) + 1 + (k : Int)), 0)])[d]? = some (some (.dict es, 1)) := by rw [List.getElem?_append_left bd]; exact dd
    have g2 : (ρ ++ [some (PV.int (-(u : Int) + 1 + (k : Int)), 0)])[ρ.length]? = some (some (PV.int (-(u : Int) + 1 + (k : Int)), 0)) := by rw [List.getElem?_append_right (Nat.le_refl _), Nat.sub_self]; rfl
    have e : (evA Γ (.idx (.var d) (.var ρ.length)) (ρ ++ [some (PV.int (-(u : Int) + 1 + (k : Int)), 0)])).val = (es.find? fun e => e.1 == (-(u : Int) + 1 + (k : Int))).map fun e => (e.2, 0) := by
      show (match (((ρ ++ [some (PV.int (-(u : Int) + 1 + (k : Int)), 0)])[d]?).join), (((ρ ++ [some (PV.int (-(u : Int) + 1 + (k : Int)), 0)])[ρ.length]?).join) with
        | some (x, l), some (y, _) => idxF x l y
        | _, _ => none) = _
      rw [g1, g2]; rfl
    rw [e]
    unfold lookD at hlk ⊢
    cases q : es.find? fun e => e.1 == (-(u : Int) + 1 + (k : Int)) with
    | none => rw [q] at hlk; cases hlk
    | some e =>
      dsimp only
      rw [q]; rfl
  rw [key, List.map_map]
  congr 1
  apply List.ext_getElem?
  intro i
  rw [List.getElem?_map, List.getElem?_map]
  rcases Nat.lt_or_ge i ns.length with hi | hi
  · obtain ⟨y, hy⟩ : ∃ y, ns[i]? = some y := ⟨ns[i], List.getElem?_eq_getElem hi⟩
    rw [List.getElem?_range hi, hy]
    have hlk := look i y hy
    simp only [Option.map_some, Function.comp, hlk, Option.getD_some]
  · rw [List.getElem?_eq_none (by rw [List.length_range]; exact hi), List.getElem?_eq_none hi]; rfl
end Mine
end
section
namespace Mine

def msHeights : MS :=
  (.seq (.asg 1 true (.list (.cons (.lit (.txt false [])) .nil))) (.seq (.for_ [2] (.var 0) (.seq (.ite (.cmp .eq (.var 2) (.lit (.txt false [47]))) (.seq (.append 1 (.lit (.txt false []))) .skip) (.seq (.augIdx 1 (.neg (.lit (.int 1))) .add (.var 2)) .skip)) .skip)) (.seq (.asg 3 false (.lit (.int 0))) (.seq (.asg 4 false (.lit (.int 0))) (.seq (.newDict 5) (.seq (.for_ [6] (.var 1) (.seq (.ite (.cmp .eq (.var 6) (.lit (.txt false [46, 46]))) (.seq (.aug 3 .sub (.lit (.int 1))) (.seq (.asg 4 false (.bi2 .min (.var 4) (.var 3))) .skip)) (.seq (.ite (.and_ (.cmp .ne (.var 6) (.lit (.txt false []))) (.cmp .ne (.var 6) (.lit (.txt false [46])))) (.seq (.aug 3 .add (.lit (.int 1))) (.seq (.setIdx 5 (.var 3) (.var 6)) .skip)) .skip) .skip)) .skip)) (.seq (.ret (.tup (.cons (.neg (.var 4)) (.cons (.comp (.idx (.var 5) (.var 7)) (.range (.bin .add (.var 4) (.lit (.int 1))) (.bin .add (.var 3) (.lit (.int 1)))) (.lit (.bool true))) .nil)))) .skip)))))))
def msText : MS :=
  (.seq (.asg 1 true (.list .nil)) (.seq (.for_ [2] (.var 0) (.seq (.asg 3 false (.bin .fmod (.bi1 .abs (.var 2)) (.bin .pow (.lit (.int 8)) (.lit (.int 12))))) (.seq (.asg 4 false (.list (.cons (.lit (.txt false [47])) (.cons (.lit (.txt false [46, 46])) (.cons (.lit (.txt false [97, 47])) (.cons (.lit (.txt false [46, 46, 47])) (.cons (.lit (.txt false [46])) (.cons (.lit (.txt false [120])) (.cons (.bi1 .chr (.bin .fmod (.bin .fdiv (.var 3) (.lit (.int 8))) (.lit (.int 256)))) (.cons (.lit (.txt false [46, 47])) .nil)))))))))) (.seq (.append 1 (.idx (.var 4) (.bin .fmod (.var 3) (.lit (.int 8))))) (.seq (.while_ (.cmp .gt (.var 3) (.lit (.int 7))) (.seq (.aug 3 .fdiv (.lit (.int 8))) (.seq (.append 1 (.idx (.var 4) (.bin .fmod (.var 3) (.lit (.int 8))))) .skip))) .skip))))) (.seq (.ret (.meth .join (.lit (.txt false [])) (.cut (.var 1) (.lit .none) (.lit (.int 10))))) .skip)))
def msLaw3 : MS :=
  (.seq (.asg 1 false (.or_ (.var 0) (.list (.cons (.lit (.int 26)) (.cons (.lit (.int 43)) .nil))))) (.seq (.asg 2 false (.cmp .eq (.bin .fmod (.bin .fdiv (.bi1 .sum (.var 1)) (.lit (.int 4))) (.lit (.int 2))) (.lit (.int 1)))) (.seq (.asg 3 false (.bin .add (.idx (.list (.cons (.lit (.txt false [])) (.cons (.lit (.txt false [])) (.cons (.lit (.txt false [47])) (.cons (.lit (.txt false [47, 47])) .nil))))) (.bin .fmod (.bi1 .sum (.var 1)) (.lit (.int 4)))) (.fn 6 (.cons (.var 1) .nil)))) (.seq (.asg 4 false (.fn 8 (.cons (.var 3) (.cons (.var 2) .nil)))) (.seq (.asg 5 false (.lit (.int 0))) (.seq (.while_ (.cmp .eq (.cut (.var 3) (.var 5) (.bin .add (.var 5) (.lit (.int 1)))) (.lit (.txt false [47]))) (.seq (.aug 5 .add (.lit (.int 1))) .skip)) (.seq (.unpack [6, 7] (.fn 7 (.cons (.var 3) .nil))) (.seq (.asg 8 true (.list .nil)) (.seq (.for_ [9] (.list (.cons (.lit (.txt false [])) (.cons (.lit (.txt false [47])) (.cons (.lit (.txt false [47, 47])) .nil)))) (.seq (.for_ [10] (.range (.lit (.int 0)) (.bin .add (.var 6) (.lit (.int 2)))) (.seq (.asg 11 false (.bin .add (.var 9) (.meth .join (.lit (.txt false [47])) (.bin .mul (.list (.cons (.lit (.txt false [120])) .nil)) (.var 10))))) (.seq (.asg 12 false (.fn 2 (.cons (.fn 8 (.cons (.var 11) (.cons (.var 2) .nil))) (.cons (.var 4) .nil)))) (.seq (.ite (.and_ (.cmp .ne (.var 11) (.lit (.txt false []))) (.cmp .ne (.cmp .eq (.var 12) (.var 4)) (.fn 5 (.cons (.var 4) .nil)))) (.seq (.ret (.lit (.bool false))) .skip) .skip) (.seq (.ite (.cmp .gt (.var 5) (.lit (.int 0))) (.seq (.asg 13 false (.bin .add (.ite (.cmp .eq (.var 5) (.lit (.int 2))) (.lit (.txt false [47, 47])) (.lit (.txt false [47]))) (.meth .join (.lit (.txt false [47])) (.var 7)))) .skip) (.seq (.asg 14 false (.ite (.cmp .eq (.var 9) (.lit (.txt false []))) (.bin .mul (.list (.cons (.lit (.txt false [46, 46])) .nil)) (.bin .sub (.var 6) (.var 10))) (.list .nil))) (.seq (.asg 13 false (.or_ (.bin .add (.var 9) (.meth .join (.lit (.txt false [47])) (.bin .add (.bin .add (.var 14) (.bin .mul (.list (.cons (.lit (.txt false [120])) .nil)) (.bin .sub (.var 10) (.var 6)))) (.var 7)))) (.lit (.txt false [46])))) .skip))) (.seq (.append 8 (.fn 4 (.cons (.var 12) .nil))) (.seq (.ite (.cmp .ne (.idx (.var 8) (.neg (.lit (.int 1)))) (.fn 8 (.cons (.var 13) (.cons (.var 2) .nil)))) (.seq (.ret (.lit (.bool false))) .skip) .skip) .skip))))))) .skip)) (.seq (.ret (.and_ (.bi2 .isinst (.fn 5 (.cons (.var 4) .nil)) (.lit (.cls "bool"))) (.cmp .eq (.fn 5 (.cons (.var 4) .nil)) (.cmp .eq (.var 8) (.bin .mul (.list (.cons (.idx (.var 8) (.lit (.int 0))) .nil)) (.bi1 .len (.var 8))))))) .skip))))))))))

theorem exec_ret (Γ : FEnv) {e : ME} {ρ : List Slot} {v : PV} (h1 : esc e = []) (h2 : (evA Γ e ρ).val = some (v, 0)) : Mine.exec Γ (.seq (.ret e) .skip) ρ = some (.ret v, ρ) := by
  show (match (match (evA Γ e (freeze (esc e) ρ)).val with
      | some (v, 0) => some (Fl.ret v, freeze (esc e) ρ)
      | _ => none) with
    | some (.next, ρ') => Mine.exec Γ .skip ρ'
    | r => r) = _
  rw [h1, freeze_nil, h2]
  rfl
theorem splitC_sz (c : Nat) (cs : List Nat) : ∀ p ∈ splitC c cs, p.length ≤ cs.length := by
  intro p hp
  have h1 := szL_split c cs
  have h2 : ∀ (l : List (List Nat)), p ∈ l → p.length + 1 ≤ szL l := by
    intro l
    induction l with
    | nil => intro h; cases h
    | cons a r ih =>
      intro h
      rw [szL_cons]
      cases h with
      | head => omega
      | tail _ h => have := ih h; omega
  have := h2 _ hp
  omega
theorem wRun_sz : ∀ (cs : List (List Nat)) (w : Way), (wRun w cs).1 ≤ w.1 + cs.length ∧ (wRun w cs).2.length ≤ w.2.length + cs.length
  | [], w => ⟨Nat.le_refl _, Nat.le_refl _⟩
  | c :: cs, w => by
    have ih := wRun_sz cs (wStep w c)
    have h1 : (wStep w c).1 ≤ w.1 + 1 ∧ (wStep w c).2.length ≤ w.2.length + 1 := by
      unfold wStep
      split
      · split
        · exact ⟨Nat.le_refl _, Nat.zero_le _⟩
        · exact ⟨Nat.le_succ _, by simp [beq_list, callF, Mine.exec, evA, Ans.of, freeze, freeze1, esc, escB, escT, fspathF, sepF, bi2F, bi1F, clsOf, isSub, cmpF, pvEq, cutF, partOf, truthPV, ownOf, lim, lim_lit0, lim_lit1, lim_lit2, lim_lit3, lim_lit4, lim_lit8, binF, methF, setAll, itemsOf, itsF, augOk]; omega⟩
      · split
        · exact ⟨Nat.le_succ _, Nat.le_succ _⟩
        · exact ⟨Nat.le_succ _, by simp [beq_list, callF, Mine.exec, evA, Ans.of, freeze, freeze1, esc, escB, escT, fspathF, sepF, bi2F, bi1F, clsOf, isSub, cmpF, pvEq, cutF, partOf, truthPV, ownOf, lim, lim_lit0, lim_lit1, lim_lit2, lim_lit3, lim_lit4, lim_lit8, binF, methF, setAll, itemsOf, itsF, augOk]⟩
    have e : wRun w (c :: cs) = wRun (wStep w c) cs := rfl
    rw [e, List.length_cons]
    exact ⟨by omega, by omega⟩
def heightsF : List PV → Option PV
  | [.txt false cs] => if cs.length ≤ 900 then some (.tup [.int ((wRun (0, []) (splitC 47 cs)).1 : Int), .list ((wRun (0, []) (splitC 47 cs)).2.map (.txt false))]) else none
  | _ => none
theorem heights_run (Γ : FEnv) (cs : List Nat) (hz : cs.length ≤ 900) : callF Γ 7 msHeights [.txt false cs] = some (.tup [.int ((wRun (0, []) (splitC 47 cs)).1 : Int), .list ((wRun (0, []) (splitC 47 cs)).2.map (.txt false))]) := by
  have hz1 : cs.length ≤ LIM := by unfold LIM; omega
  have em : msHeights = .seq (.asg 1 true (.list (.cons (.lit (.txt false [])) .nil))) (.seq (.for_ [2] (.var 0) (bPieces 1 2)) (.seq (.asg 3 false (.lit (.int 0))) (.seq (.asg 4 false (.lit (.int 0))) (.seq (.newDict 5) (.seq (.for_ [6] (.var 1) (bHeights 3 4 5 6)) (.seq (.ret (.tup (.cons (.neg (.var 4)) (.cons (.comp (.idx (.var 5) (.var 7)) (.range (.bin .add (.var 4) (.lit (.int 1))) (.bin .add (.var 3) (.lit (.int 1)))) (.lit (.bool true))) .nil)))) .skip)))))) := rfl
  rw [em]
  obtain ⟨sl1, e1⟩ := pieces_loop Γ (p := 1) (s := 2) (by decide) cs [some (.txt false cs, 0), some (.list (([[]] : List (List Nat)).map (.txt false)), 1), none, none, none, none, none] [[]] none rfl rfl (by simp [beq_list, callF, Mine.exec, evA, Ans.of, freeze, freeze1, esc, escB, escT, fspathF, sepF, bi2F, bi1F, clsOf, isSub, cmpF, pvEq, cutF, partOf, truthPV, ownOf, lim, lim_lit0, lim_lit1, lim_lit2, lim_lit3, lim_lit4, lim_lit8, binF, methF, setAll, itemsOf, itsF, augOk]) (by simp [beq_list, callF, Mine.exec, evA, Ans.of, freeze, freeze1, esc, escB, escT, fspathF, sepF, bi2F, bi1F, clsOf, isSub, cmpF, pvEq, cutF, partOf, truthPV, ownOf, lim, lim_lit0, lim_lit1, lim_lit2, lim_lit3, lim_lit4, lim_lit8, binF, methF, setAll, itemsOf, itsF, augOk, szL]; unfold LIM; omega)
  rw [pieces_split] at e1
  have hsl : (splitC 47 cs).length ≤ 901 := by have := splitC_length 47 cs; omega
  have hsl1 : (splitC 47 cs).length ≤ LIM := by unfold LIM; omega
  have S0 : HSt 3 4 5 (0, []) [] [some (.txt false cs, 0), some (.list ((splitC 47 cs).map (.txt false)), 0), sl1, some (.int 0, 0), some (.int 0, 0), some (.dict [], 1), none] := ⟨rfl, rfl, rfl, fun j x hx => by simp [beq_list, callF, Mine.exec, evA, Ans.of, freeze, freeze1, esc, escB, escT, fspathF, sepF, bi2F, bi1F, clsOf, isSub, cmpF, pvEq, cutF, partOf, truthPV, ownOf, lim, lim_lit0, lim_lit1, lim_lit2, lim_lit3, lim_lit4, lim_lit8, binF, methF, setAll, itemsOf, itsF, augOk] at hx⟩
  obtain ⟨es, ρ2, e2, S2, _, hn2⟩ := heights_loop Γ (h := 3) (l := 4) (d := 5) (s := 6) (by decide) (by decide) (by decide) (by decide) (by decide) (by decide) (splitC 47 cs) (0, []) [] _ none S0 rfl (fun c hc => by have := splitC_sz 47 cs c hc; unfold LIM; omega) (by simp [beq_list, callF, Mine.exec, evA, Ans.of, freeze, freeze1, esc, escB, escT, fspathF, sepF, bi2F, bi1F, clsOf, isSub, cmpF, pvEq, cutF, partOf, truthPV, ownOf, lim, lim_lit0, lim_lit1, lim_lit2, lim_lit3, lim_lit4, lim_lit8, binF, methF, setAll, itemsOf, itsF, augOk]; omega)
  have hw := wRun_sz (splitC 47 cs) (0, [])
  generalize wRun (0, []) (splitC 47 cs) = W at *
  have hn : ρ2.length = 7 := by rw [hn2]; rfl
  have hcomp := names_comp Γ S2 (by have := hw.1; simp [beq_list, callF, Mine.exec, evA, Ans.of, freeze, freeze1, esc, escB, escT, fspathF, sepF, bi2F, bi1F, clsOf, isSub, cmpF, pvEq, cutF, partOf, truthPV, ownOf, lim, lim_lit0, lim_lit1, lim_lit2, lim_lit3, lim_lit4, lim_lit8, binF, methF, setAll, itemsOf, itsF, augOk] at this; omega) (by have := hw.2; simp [beq_list, callF, Mine.exec, evA, Ans.of, freeze, freeze1, esc, escB, escT, fspathF, sepF, bi2F, bi1F, clsOf, isSub, cmpF, pvEq, cutF, partOf, truthPV, ownOf, lim, lim_lit0, lim_lit1, lim_lit2, lim_lit3, lim_lit4, lim_lit8, binF, methF, setAll, itemsOf, itsF, augOk] at this; omega)
  rw [hn] at hcomp
  have hneg : (evA Γ (.neg (.var 4)) ρ2).val = some (.int (W.1 : Int), 0) := by
    have := S2.ll
    simp [beq_list, callF, Mine.exec, evA, Ans.of, freeze, freeze1, esc, escB, escT, fspathF, sepF, bi2F, bi1F, clsOf, isSub, cmpF, pvEq, cutF, partOf, truthPV, ownOf, lim, lim_lit0, lim_lit1, lim_lit2, lim_lit3, lim_lit4, lim_lit8, binF, methF, setAll, itemsOf, itsF, augOk, this]
  have hret := exec_ret Γ (ρ := ρ2) (v := .tup [.int (W.1 : Int), .list (W.2.map (.txt false))]) (e := .tup (.cons (.neg (.var 4)) (.cons (.comp (.idx (.var 5) (.var 7)) (.range (.bin .add (.var 4) (.lit (.int 1))) (.bin .add (.var 3) (.lit (.int 1)))) (.lit (.bool true))) .nil))) rfl (by
    generalize ME.comp (.idx (.var 5) (.var 7)) (.range (.bin .add (.var 4) (.lit (.int 1))) (.bin .add (.var 3) (.lit (.int 1)))) (.lit (.bool true)) = C at hcomp
    generalize ME.neg (.var 4) = D at hneg
    simp [beq_list, callF, Mine.exec, evA, Ans.of, freeze, freeze1, esc, escB, escT, fspathF, sepF, bi2F, bi1F, clsOf, isSub, cmpF, pvEq, cutF, partOf, truthPV, ownOf, lim, lim_lit0, lim_lit1, lim_lit2, lim_lit3, lim_lit4, lim_lit8, binF, methF, setAll, itemsOf, itsF, augOk, hcomp, hneg])
  generalize MS.seq (.ret (.tup (.cons (.neg (.var 4)) (.cons (.comp (.idx (.var 5) (.var 7)) (.range (.bin .add (.var 4) (.lit (.int 1))) (.bin .add (.var 3) (.lit (.int 1)))) (.lit (.bool true))) .nil)))) .skip = R at *
  generalize hb1 : bPieces 1 2 = B1 at *
  generalize hb2 : bHeights 3 4 5 6 = B2 at *
  simp [beq_list, callF, Mine.exec, evA, Ans.of, freeze, freeze1, esc, escB, escT, fspathF, sepF, bi2F, bi1F, clsOf, isSub, cmpF, pvEq, cutF, partOf, truthPV, ownOf, lim, lim_lit0, lim_lit1, lim_lit2, lim_lit3, lim_lit4, lim_lit8, binF, methF, setAll, itemsOf, itsF, augOk] at e1 e2
  simp [beq_list, callF, Mine.exec, evA, Ans.of, freeze, freeze1, esc, escB, escT, fspathF, sepF, bi2F, bi1F, clsOf, isSub, cmpF, pvEq, cutF, partOf, truthPV, ownOf, lim, lim_lit0, lim_lit1, lim_lit2, lim_lit3, lim_lit4, lim_lit8, binF, methF, setAll, itemsOf, itsF, augOk, hz1, hsl1, e1, e2, hret]
theorem run_heights (Γ : FEnv) : ∀ xs z, heightsF xs = some z → ((fun xs => if xs.length = 1 then some xs else none) xs : Option (List PV)).bind (callF Γ 7 msHeights) = some z
  | [.txt false cs], z, h => by
    simp only [heightsF] at h
    split at h
    · rename_i hz; cases h; exact heights_run Γ cs hz
    · cases h
end Mine
end
section
namespace Mine

/-! the law's text: what it is does not matter, but that it is short and its signs are octets -/
def goodP (p : List Nat) : Prop := small p = true ∧ p.length ≤ 3
def goodL (ps : List (List Nat)) : Prop := ∀ p ∈ ps, goodP p
theorem idx_good {ks : List (List Nat)} (h : goodL ks) {i : Int} (h0 : 0 ≤ i) (h1 : i < ks.length) : ∃ p, goodP p ∧ idxAt (ks.map (PV.txt false)) i = some (.txt false p) := by
  have hl : i.toNat < ks.length := by omega
  refine ⟨ks[i.toNat], h _ (List.getElem_mem hl), ?_⟩
  unfold idxAt
  rw [if_pos h0, List.getElem?_map, List.getElem?_eq_getElem hl]; rfl
def cText : ME := .cmp .gt (.var 3) (.lit (.int 7))
def bTextW : MS := .seq (.aug 3 .fdiv (.lit (.int 8))) (.seq (.append 1 (.idx (.var 4) (.bin .fmod (.var 3) (.lit (.int 8))))) .skip)
def rT (sc x : PV) (ps ks : List (List Nat)) (n : Int) : List Slot := [some (sc, 0), some (.list (ps.map (.txt false)), 1), some (x, 0), some (.int n, 0), some (.list (ks.map (.txt false)), 0)]
theorem goodL_snoc {ps : List (List Nat)} {p : List Nat} (h : goodL ps) (hp : goodP p) : goodL (ps ++ [p]) := fun q hq => by
  rcases List.mem_append.mp hq with h' | h'
  · exact h q h'
  · rw [List.mem_singleton.mp h']; exact hp
theorem fmod8 (n : Int) : 0 ≤ n.fmod 8 ∧ n.fmod 8 < 8 := by
  rw [Int.fmod_eq_emod_of_nonneg _ (by decide)]
  omega
theorem textW_turn (Γ : FEnv) (sc x : PV) (ps ks : List (List Nat)) (n : Int) (hk : goodL ks) (hk8 : ks.length = 8) (hp : goodL ps) (hl : ps.length < 5000) :
    ∃ p, goodP p ∧ Mine.exec Γ bTextW (rT sc x ps ks n) = some (.next, rT sc x (ps ++ [p]) ks (n.fdiv 8)) := by
  have hm := fmod8 (n.fdiv 8)
  obtain ⟨p, hp1, hp2⟩ := idx_good hk hm.1 (by rw [hk8]; exact hm.2)
  have h8 : (8 : Nat) ≤ LIM := by decide
  have hll : ps.length < LIM := by unfold LIM; omega
  refine ⟨p, hp1, ?_⟩
  unfold rT
  simp [beq_list, callF, Mine.exec, evA, Ans.of, freeze, freeze1, esc, escB, escT, fspathF, sepF, bi2F, bi1F, clsOf, isSub, cmpF, pvEq, cutF, partOf, truthPV, ownOf, lim, lim_lit0, lim_lit1, lim_lit2, lim_lit3, lim_lit4, lim_lit8, binF, methF, setAll, itemsOf, itsF, augOk, bTextW, idxF, hk8, h8, hp2, hll]
theorem textW_loop (Γ : FEnv) (sc x : PV) (ks : List (List Nat)) (hk : goodL ks) (hk8 : ks.length = 8) : ∀ (m fuel : Nat) (n : Int) (ps : List (List Nat)), 0 ≤ n → n < 8 ^ m → m < fuel → goodL ps → ps.length + m < 5000 →
    ∃ ps' n', goodL ps' ∧ ps'.length ≤ ps.length + m ∧ whileL (fun ρ => (evA Γ cText (freeze (escT cText) ρ)).tru.map fun t => (t, freeze (escT cText) ρ)) (Mine.exec Γ bTextW) fuel (rT sc x ps ks n) = some (.next, rT sc x ps' ks n')
  | m, 0, n, ps, _, _, hf, _, _ => by omega
  | m, fuel + 1, n, ps, h0, hn, hf, hp, hl => by
    have hc : ∀ ρ : List Slot, freeze (escT cText) ρ = ρ := fun ρ => rfl
    have ht : (evA Γ cText (rT sc x ps ks n)).tru = some (decide (7 < n)) := by
      unfold rT cText
      simp [beq_list, callF, Mine.exec, evA, Ans.of, freeze, freeze1, esc, escB, escT, fspathF, sepF, bi2F, bi1F, clsOf, isSub, cmpF, pvEq, cutF, partOf, truthPV, ownOf, lim, lim_lit0, lim_lit1, lim_lit2, lim_lit3, lim_lit4, lim_lit8, binF, methF, setAll, itemsOf, itsF, augOk]
    by_cases h7 : 7 < n
    · cases m with
      | zero => simp [beq_list, callF, Mine.exec, evA, Ans.of, freeze, freeze1, esc, escB, escT, fspathF, sepF, bi2F, bi1F, clsOf, isSub, cmpF, pvEq, cutF, partOf, truthPV, ownOf, lim, lim_lit0, lim_lit1, lim_lit2, lim_lit3, lim_lit4, lim_lit8, binF, methF, setAll, itemsOf, itsF, augOk] at hn; omega
      | succ m =>
        obtain ⟨p, hp1, e1⟩ := textW_turn Γ sc x ps ks n hk hk8 hp (by omega)
        have hd : n.fdiv 8 = n / 8 := Int.fdiv_eq_ediv_of_nonneg _ (by decide)
        have hpow : (8 : Int) ^ (m + 1) = 8 ^ m * 8 := Int.pow_succ ..
        obtain ⟨ps', n', g1, g2, g3⟩ := textW_loop Γ sc x ks hk hk8 m fuel (n.fdiv 8) (ps ++ [p]) (by rw [hd]; omega) (by rw [hd]; rw [hpow] at hn; omega) (by omega) (goodL_snoc hp hp1) (by rw [List.length_append, List.length_singleton]; omega)
        refine ⟨ps', n', g1, by rw [List.length_append, List.length_singleton] at g2; omega, ?_⟩
        rw [whileL]
        simp only [hc, ht, decide_eq_true h7, Option.map_some]
        rw [e1]
        simp only [hc] at g3
        exact g3
    · refine ⟨ps, n, hp, Nat.le_add_right _ _, ?_⟩
      rw [whileL]
      simp only [hc, ht, decide_eq_false h7, Option.map_some]

def kText : ME := .list (.cons (.lit (.txt false [47])) (.cons (.lit (.txt false [46, 46])) (.cons (.lit (.txt false [97, 47])) (.cons (.lit (.txt false [46, 46, 47])) (.cons (.lit (.txt false [46])) (.cons (.lit (.txt false [120])) (.cons (.bi1 .chr (.bin .fmod (.bin .fdiv (.var 3) (.lit (.int 8))) (.lit (.int 256)))) (.cons (.lit (.txt false [46, 47])) .nil))))))))
def bText : MS := .seq (.asg 3 false (.bin .fmod (.bi1 .abs (.var 2)) (.bin .pow (.lit (.int 8)) (.lit (.int 12))))) (.seq (.asg 4 false kText) (.seq (.append 1 (.idx (.var 4) (.bin .fmod (.var 3) (.lit (.int 8))))) (.seq (.while_ cText bTextW) .skip)))
def ksOf (c : Nat) : List (List Nat) := [[47], [46, 46], [97, 47], [46, 46, 47], [46], [120], [c], [46, 47]]
theorem ks_good {c : Nat} (h : c < 256) : goodL (ksOf c) := by
  intro p hp
  simp only [ksOf, List.mem_cons, List.not_mem_nil, or_false] at hp
  rcases hp with rfl | rfl | rfl | rfl | rfl | rfl | rfl | rfl
  all_goals first | exact ⟨by decide, by decide⟩ | exact ⟨by simp [beq_list, callF, Mine.exec, evA, Ans.of, freeze, freeze1, esc, escB, escT, fspathF, sepF, bi2F, bi1F, clsOf, isSub, cmpF, pvEq, cutF, partOf, truthPV, ownOf, lim, lim_lit0, lim_lit1, lim_lit2, lim_lit3, lim_lit4, lim_lit8, binF, methF, setAll, itemsOf, itsF, augOk, small, h], by simp [beq_list, callF, Mine.exec, evA, Ans.of, freeze, freeze1, esc, escB, escT, fspathF, sepF, bi2F, bi1F, clsOf, isSub, cmpF, pvEq, cutF, partOf, truthPV, ownOf, lim, lim_lit0, lim_lit1, lim_lit2, lim_lit3, lim_lit4, lim_lit8, binF, methF, setAll, itemsOf, itsF, augOk]⟩
theorem text_turn (Γ : FEnv) (sc : PV) (i : Int) (ps : List (List Nat)) (s3 s4 : Slot) (hp : goodL ps) (hl : ps.length + 13 < 5000) :
    ∃ ps' n' ks', goodL ps' ∧ ps'.length ≤ ps.length + 13 ∧ Mine.exec Γ bText [some (sc, 0), some (.list (ps.map (.txt false)), 1), some (.int i, 0), s3, s4] = some (.next, rT sc (.int i) ps' ks' n') := by
  have habs : (0 : Int) ≤ (if i < 0 then -i else i) := by split <;> omega
  generalize ha : (if i < 0 then -i else i) = a at habs
  have h812 : (8 : Int) ^ 12 = 68719476736 := by decide
  have hm : a.fmod 68719476736 = a % 68719476736 := Int.fmod_eq_emod_of_nonneg _ (by decide)
  have hn0 : 0 ≤ a.fmod 68719476736 := by rw [hm]; omega
  have hn1 : a.fmod 68719476736 < 8 ^ 12 := by rw [hm, h812]; omega
  generalize hn : a.fmod 68719476736 = n at hn0 hn1
  have hc : 0 ≤ (n.fdiv 8).fmod 256 ∧ (n.fdiv 8).fmod 256 < 256 := by
    rw [Int.fmod_eq_emod_of_nonneg _ (by decide)]; omega
  have hcn : ((n.fdiv 8).fmod 256).toNat < 256 := by omega
  have hk := ks_good hcn
  have hk8 : (ksOf ((n.fdiv 8).fmod 256).toNat).length = 8 := rfl
  have h8 := fmod8 n
  obtain ⟨p0, hp0, e0⟩ := idx_good hk h8.1 (by rw [hk8]; exact h8.2)
  obtain ⟨ps', n', g1, g2, g3⟩ := textW_loop Γ sc (.int i) _ hk hk8 12 FUEL n (ps ++ [p0]) hn0 hn1 (by decide) (goodL_snoc hp hp0) (by rw [List.length_append, List.length_singleton]; omega)
  refine ⟨ps', n', ksOf ((n.fdiv 8).fmod 256).toNat, g1, by rw [List.length_append, List.length_singleton] at g2; omega, ?_⟩
  have hll : ps.length < LIM := by unfold LIM; omega
  have s1 : Mine.exec Γ (.asg 3 false (.bin .fmod (.bi1 .abs (.var 2)) (.bin .pow (.lit (.int 8)) (.lit (.int 12))))) [some (sc, 0), some (.list (ps.map (.txt false)), 1), some (.int i, 0), s3, s4] = some (.next, [some (sc, 0), some (.list (ps.map (.txt false)), 1), some (.int i, 0), some (.int n, 0), s4]) := by
    simp [beq_list, callF, Mine.exec, evA, Ans.of, freeze, freeze1, esc, escB, escT, fspathF, sepF, bi2F, bi1F, clsOf, isSub, cmpF, pvEq, cutF, partOf, truthPV, ownOf, lim, lim_lit0, lim_lit1, lim_lit2, lim_lit3, lim_lit4, lim_lit8, binF, methF, setAll, itemsOf, itsF, augOk, ha, hn]
  have s2 : Mine.exec Γ (.asg 4 false kText) [some (sc, 0), some (.list (ps.map (.txt false)), 1), some (.int i, 0), some (.int n, 0), s4] = some (.next, rT sc (.int i) ps (ksOf ((n.fdiv 8).fmod 256).toNat) n) := by
    have hc3 : (n.fdiv 8).fmod 256 ≤ 1114111 := by omega
    simp [beq_list, callF, Mine.exec, evA, Ans.of, freeze, freeze1, esc, escB, escT, fspathF, sepF, bi2F, bi1F, clsOf, isSub, cmpF, pvEq, cutF, partOf, truthPV, ownOf, lim, lim_lit0, lim_lit1, lim_lit2, lim_lit3, lim_lit4, lim_lit8, binF, methF, setAll, itemsOf, itsF, augOk, kText, rT, ksOf, hc.1, hc3]
  have s3' : Mine.exec Γ (.append 1 (.idx (.var 4) (.bin .fmod (.var 3) (.lit (.int 8))))) (rT sc (.int i) ps (ksOf ((n.fdiv 8).fmod 256).toNat) n) = some (.next, rT sc (.int i) (ps ++ [p0]) (ksOf ((n.fdiv 8).fmod 256).toNat) n) := by
    have h8' : (8 : Nat) ≤ LIM := by decide
    unfold rT
    generalize ksOf ((n.fdiv 8).fmod 256).toNat = ks at *
    simp [beq_list, callF, Mine.exec, evA, Ans.of, freeze, freeze1, esc, escB, escT, fspathF, sepF, bi2F, bi1F, clsOf, isSub, cmpF, pvEq, cutF, partOf, truthPV, ownOf, lim, lim_lit0, lim_lit1, lim_lit2, lim_lit3, lim_lit4, lim_lit8, binF, methF, setAll, itemsOf, itsF, augOk, idxF, hk8, h8', e0, hll]
  have s4' : Mine.exec Γ (.while_ cText bTextW) (rT sc (.int i) (ps ++ [p0]) (ksOf ((n.fdiv 8).fmod 256).toNat) n) = some (.next, rT sc (.int i) ps' (ksOf ((n.fdiv 8).fmod 256).toNat) n') := g3
  unfold bText
  rw [Mine.exec, s1]
  dsimp only
  rw [Mine.exec, s2]
  dsimp only
  rw [Mine.exec, s3']
  dsimp only
  rw [Mine.exec, s4']
  rfl
theorem text_loop (Γ : FEnv) (sc : PV) : ∀ (is : List Int) (ps : List (List Nat)) (s2 s3 s4 : Slot), goodL ps → ps.length + 13 * is.length < 4900 →
    ∃ ps' s2' s3' s4', goodL ps' ∧ ps'.length ≤ ps.length + 13 * is.length ∧ forL (Mine.exec Γ bText) [2] (is.map .int) [some (sc, 0), some (.list (ps.map (.txt false)), 1), s2, s3, s4] = some (.next, [some (sc, 0), some (.list (ps'.map (.txt false)), 1), s2', s3', s4'])
  | [], ps, s2, s3, s4, hp, _ => ⟨ps, s2, s3, s4, hp, Nat.le_add_right _ _, rfl⟩
  | i :: is, ps, s2, s3, s4, hp, hl => by
    rw [List.length_cons] at hl
    obtain ⟨ps1, n1, ks1, g1, g2, e1⟩ := text_turn Γ sc i ps s3 s4 hp (by omega)
    obtain ⟨ps2, a2, a3, a4, g3, g4, e2⟩ := text_loop Γ sc is ps1 (some (.int i, 0)) (some (.int n1, 0)) (some (.list (ks1.map (.txt false)), 0)) g1 (by omega)
    refine ⟨ps2, a2, a3, a4, g3, by rw [List.length_cons]; omega, ?_⟩
    rw [List.map_cons, forL]
    show (match Mine.exec Γ bText [some (sc, 0), some (.list (ps.map (.txt false)), 1), some (.int i, 0), s3, s4] with
      | some (.next, ρ') => forL (Mine.exec Γ bText) [2] (is.map .int) ρ'
      | some (.cont, ρ') => forL (Mine.exec Γ bText) [2] (is.map .int) ρ'
      | some (.brk, ρ') => some (.next, ρ')
      | some (.ret r, ρ') => some (.ret r, ρ')
      | none => none) = _
    rw [e1]
    exact e2
theorem join_nil_good : ∀ ps : List (List Nat), goodL ps → small (joinC [] ps) = true ∧ (joinC [] ps).length ≤ 3 * ps.length
  | [], _ => ⟨rfl, Nat.le_refl _⟩
  | [p], h => ⟨(h p (.head _)).1, by have := (h p (.head _)).2; show p.length ≤ _; simp [beq_list, callF, Mine.exec, evA, Ans.of, freeze, freeze1, esc, escB, escT, fspathF, sepF, bi2F, bi1F, clsOf, isSub, cmpF, pvEq, cutF, partOf, truthPV, ownOf, lim, lim_lit0, lim_lit1, lim_lit2, lim_lit3, lim_lit4, lim_lit8, binF, methF, setAll, itemsOf, itsF, augOk]; omega⟩
  | p :: q :: r, h => by
    have ih := join_nil_good (q :: r) fun x hx => h x (.tail _ hx)
    have h1 := h p (.head _)
    have e : joinC [] (p :: q :: r) = p ++ joinC [] (q :: r) := by show p ++ [] ++ _ = _; rw [List.append_nil]
    rw [e]
    refine ⟨?_, ?_⟩
    · have hs := h1.1
      unfold small at hs ih ⊢
      rw [List.all_append, hs, ih.1]; rfl
    · rw [List.length_append, List.length_cons]
      have := h1.2
      have := ih.2
      omega
theorem text_run (Γ : FEnv) (is : List Int) (hl : is.length ≤ 100) : ∃ t, callF Γ 5 msText [.list (is.map .int)] = some (.txt false t) ∧ small t = true ∧ t.length ≤ 30 := by
  have em : msText = .seq (.asg 1 true (.list .nil)) (.seq (.for_ [2] (.var 0) bText) (.seq (.ret (.meth .join (.lit (.txt false [])) (.cut (.var 1) (.lit .none) (.lit (.int 10))))) .skip)) := rfl
  obtain ⟨ps, a2, a3, a4, g1, g2, e1⟩ := text_loop Γ (.list (is.map .int)) is [] none none none (fun _ h => nomatch h) (by simp [beq_list, callF, Mine.exec, evA, Ans.of, freeze, freeze1, esc, escB, escT, fspathF, sepF, bi2F, bi1F, clsOf, isSub, cmpF, pvEq, cutF, partOf, truthPV, ownOf, lim, lim_lit0, lim_lit1, lim_lit2, lim_lit3, lim_lit4, lim_lit8, binF, methF, setAll, itemsOf, itsF, augOk]; omega)
  have g : goodL (ps.take 10) := fun p hp => g1 p (List.mem_of_mem_take hp)
  obtain ⟨j1, j2⟩ := join_nil_good _ g
  have hl10 : (ps.take 10).length ≤ 10 := by rw [List.length_take]; omega
  refine ⟨joinC [] (ps.take 10), ?_, j1, by omega⟩
  rw [em]
  have hil : is.length ≤ LIM := by unfold LIM; omega
  have hpl : ps.length ≤ LIM := by simp [beq_list, callF, Mine.exec, evA, Ans.of, freeze, freeze1, esc, escB, escT, fspathF, sepF, bi2F, bi1F, clsOf, isSub, cmpF, pvEq, cutF, partOf, truthPV, ownOf, lim, lim_lit0, lim_lit1, lim_lit2, lim_lit3, lim_lit4, lim_lit8, binF, methF, setAll, itemsOf, itsF, augOk] at g2; unfold LIM; omega
  have hc : cut (ps.map (PV.txt false)) none (some 10) = (ps.take 10).map (PV.txt false) := by
    have := cut_to (ps.map (PV.txt false)) 10
    rw [List.map_take]; exact this
  have hj : asTxts false ((ps.take 10).map (PV.txt false)) = some (ps.take 10) := asTxts_map false _
  have hsum : ((ps.take 10).map List.length).sum ≤ LIM := by
    have : ∀ l : List (List Nat), goodL l → (l.map List.length).sum ≤ 3 * l.length := by
      intro l
      induction l with
      | nil => intro _; exact Nat.le_refl _
      | cons a r ih =>
        intro h
        rw [List.map_cons, List.sum_cons, List.length_cons]
        have := (h a (.head _)).2
        have := ih fun x hx => h x (.tail _ hx)
        omega
    have := this _ g
    unfold LIM; omega
  generalize hB : bText = B at *
  generalize hT : ps.take 10 = T at *
  simp [beq_list, callF, Mine.exec, evA, Ans.of, freeze, freeze1, esc, escB, escT, fspathF, sepF, bi2F, bi1F, clsOf, isSub, cmpF, pvEq, cutF, partOf, truthPV, ownOf, lim, lim_lit0, lim_lit1, lim_lit2, lim_lit3, lim_lit4, lim_lit8, binF, methF, setAll, itemsOf, itsF, augOk] at e1
  simp [beq_list, callF, Mine.exec, evA, Ans.of, freeze, freeze1, esc, escB, escT, fspathF, sepF, bi2F, bi1F, clsOf, isSub, cmpF, pvEq, cutF, partOf, truthPV, ownOf, lim, lim_lit0, lim_lit1, lim_lit2, lim_lit3, lim_lit4, lim_lit8, binF, methF, setAll, itemsOf, itsF, augOk, hil, hpl, e1, hc, hj, hsum]
end Mine
end
section
namespace Mine

/-! ## ways: what normpath's fold is -/
def dd : List Nat := [46, 46]
def noDD (ns : List (List Nat)) : Prop := ∀ p ∈ ns, p ≠ [46, 46]
theorem wStep_noDD {w : Way} (h : noDD w.2) (c : List Nat) : noDD (wStep w c).2 := by
  unfold wStep
  split
  · split
    · exact fun p hp => nomatch hp
    · exact fun p hp => h p ((List.dropLast_sublist _).subset hp)
  · rename_i hc
    split
    · exact h
    · intro p hp
      rcases List.mem_append.mp hp with h' | h'
      · exact h p h'
      · rw [List.mem_singleton.mp h']; exact hc
theorem wRun_noDD : ∀ (cs : List (List Nat)) {w : Way}, noDD w.2 → noDD (wRun w cs).2
  | [], _, h => h
  | c :: cs, w, h => wRun_noDD cs (wStep_noDD h c)
theorem last_rep (u : Nat) : (List.replicate (u + 1) dd).getLast? = some dd := by
  rw [List.replicate_succ', List.getLast?_append]; rfl
theorem last_app {a b : List (List Nat)} (h : b ≠ []) : (a ++ b).getLast? = b.getLast? := by
  rw [List.getLast?_append]
  cases q : b.getLast? with
  | none => exact absurd (List.getLast?_eq_none_iff.mp q) h
  | some x => rfl
theorem rel_step {w : Way} (h : noDD w.2) (c : List Nat) : normStep false (List.replicate w.1 dd ++ w.2) c = List.replicate (wStep w c).1 dd ++ (wStep w c).2 := by
  obtain ⟨u, ns⟩ := w
  unfold normStep wStep
  dsimp only at h ⊢
  by_cases c2 : c = [46, 46]
  · subst c2
    rw [if_neg (by decide), if_pos rfl]
    by_cases hn : ns = []
    · subst hn
      rw [if_pos rfl]
      have : ([46, 46] : List Nat) ≠ [46, 46] ∨ (false = false ∧ List.replicate u dd ++ [] = []) ∨ (List.replicate u dd ++ []).getLast? = some [46, 46] := by
        cases u with
        | zero => exact .inr (.inl ⟨rfl, rfl⟩)
        | succ u => rw [List.append_nil]; exact .inr (.inr (last_rep u))
      rw [if_pos this, List.append_nil, List.append_nil, List.replicate_succ']
      rfl
    · rw [if_neg hn]
      have hl : (List.replicate u dd ++ ns).getLast? ≠ some [46, 46] := by
        rw [last_app hn]
        intro q
        exact h _ (List.mem_of_getLast? q) rfl
      rw [if_neg (by
        rintro (q | q | q)
        · exact q rfl
        · exact hn (List.append_eq_nil_iff.mp q.2).2
        · exact hl q)]
      rw [List.dropLast_append_of_ne_nil hn]
  · rw [if_neg c2]
    by_cases c0 : c = [] ∨ c = [46]
    · rw [if_pos c0, if_pos c0]
    · rw [if_neg c0, if_neg c0, if_pos (.inl c2), List.append_assoc]
theorem rel_run : ∀ (cs : List (List Nat)) {w : Way}, noDD w.2 → normA false (List.replicate w.1 dd ++ w.2) cs = List.replicate (wRun w cs).1 dd ++ (wRun w cs).2
  | [], _, _ => rfl
  | c :: cs, w, h => by
    show normA false (normStep false _ c) cs = _
    rw [rel_step h]
    exact rel_run cs (wStep_noDD h c)
theorem abs_step {w : Way} (h : noDD w.2) (c : List Nat) : normStep true w.2 c = (wStep w c).2 := by
  obtain ⟨u, ns⟩ := w
  unfold normStep wStep
  dsimp only at h ⊢
  by_cases c2 : c = [46, 46]
  · subst c2
    rw [if_neg (by decide), if_pos rfl]
    have hl : ns.getLast? ≠ some [46, 46] := fun q => h _ (List.mem_of_getLast? q) rfl
    rw [if_neg (by
      rintro (q | q | q)
      · exact q rfl
      · exact Bool.noConfusion q.1
      · exact hl q)]
    by_cases hn : ns = []
    · subst hn; rfl
    · rw [if_neg hn]
  · rw [if_neg c2]
    by_cases c0 : c = [] ∨ c = [46]
    · rw [if_pos c0, if_pos c0]
    · rw [if_neg c0, if_neg c0, if_pos (.inl c2)]
theorem abs_run : ∀ (cs : List (List Nat)) {w : Way}, noDD w.2 → normA true w.2 cs = (wRun w cs).2
  | [], _, _ => rfl
  | c :: cs, w, h => by
    show normA true (normStep true _ c) cs = _
    rw [abs_step h]
    exact abs_run cs (wStep_noDD h c)

/-- one way behind another -/
def behind (b w : Way) : Way := if w.1 ≤ b.2.length then (b.1, b.2.take (b.2.length - w.1) ++ w.2) else (b.1 + (w.1 - b.2.length), w.2)
theorem behind_nil (b : Way) : behind b (0, []) = b := by
  unfold behind
  rw [if_pos (Nat.zero_le _), Nat.sub_zero, List.take_length, List.append_nil]
theorem behind_step (b w : Way) (c : List Nat) : wStep (behind b w) c = behind b (wStep w c) := by
  obtain ⟨u0, xs⟩ := b
  obtain ⟨u, ns⟩ := w
  unfold wStep
  by_cases c2 : c = [46, 46]
  · rw [if_pos c2, if_pos c2]
    by_cases hn : ns = []
    · subst hn
      rw [if_pos rfl]
      unfold behind
      dsimp only
      by_cases h1 : u ≤ xs.length
      · rw [if_pos h1]
        dsimp only
        rw [List.append_nil]
        by_cases h2 : u = xs.length
        · subst h2
          rw [Nat.sub_self, List.take_zero, if_pos rfl, if_neg (show ¬ xs.length + 1 ≤ xs.length by omega)]
          congr 1
          omega
        · have h3 : xs.take (xs.length - u) ≠ [] := by
            intro q
            have := congrArg List.length q
            rw [List.length_take] at this
            simp at this
            omega
          rw [if_neg h3, if_pos (show u + 1 ≤ xs.length by omega), List.append_nil, List.dropLast_eq_take, List.length_take, List.take_take]
          congr 2
          omega
      · rw [if_neg h1, if_neg (show ¬ u + 1 ≤ xs.length by omega)]
        dsimp only
        rw [if_pos rfl]
        congr 1
        omega
    · rw [if_neg hn]
      unfold behind
      dsimp only
      by_cases h1 : u ≤ xs.length
      · rw [if_pos h1, if_pos h1]
        dsimp only
        rw [if_neg (by intro q; exact hn (List.append_eq_nil_iff.mp q).2), List.dropLast_append_of_ne_nil hn]
      · rw [if_neg h1, if_neg h1]
        dsimp only
        rw [if_neg hn]
  · rw [if_neg c2, if_neg c2]
    by_cases c0 : c = [] ∨ c = [46]
    · rw [if_pos c0, if_pos c0]
    · rw [if_neg c0, if_neg c0]
      unfold behind
      dsimp only
      by_cases h1 : u ≤ xs.length
      · rw [if_pos h1, if_pos h1]
        dsimp only
        rw [List.append_assoc]
      · rw [if_neg h1, if_neg h1]
theorem behind_run (b : Way) : ∀ (cs : List (List Nat)) (w : Way), wRun (behind b w) cs = behind b (wRun w cs)
  | [], _ => rfl
  | c :: cs, w => by
    show wRun (wStep (behind b w) c) cs = _
    rw [behind_step]
    exact behind_run b cs (wStep w c)
theorem wRun_behind (b : Way) (cs : List (List Nat)) : wRun b cs = behind b (wRun (0, []) cs) := by
  have := behind_run b cs (0, [])
  rw [behind_nil] at this
  exact this
theorem wRun_append (w : Way) (a b : List (List Nat)) : wRun w (a ++ b) = wRun (wRun w a) b := List.foldl_append
/-- names alone -/
theorem wRun_names {xs : List (List Nat)} (h : ∀ p ∈ xs, p ≠ [] ∧ p ≠ [46] ∧ p ≠ [46, 46]) : ∀ (w : Way), wRun w xs = (w.1, w.2 ++ xs) := by
  induction xs with
  | nil => intro w; show w = _; rw [List.append_nil]
  | cons x r ih =>
    intro w
    obtain ⟨h1, h2, h3⟩ := h x (.head _)
    have e : wStep w x = (w.1, w.2 ++ [x]) := by
      unfold wStep
      rw [if_neg h3, if_neg (by rintro (q | q); exact h1 q; exact h2 q)]
    show wRun (wStep w x) r = _
    rw [e, ih (fun p hp => h p (.tail _ hp))]
    simp
end Mine
end
section
namespace Mine

theorem noDD_nil : noDD [] := fun p hp => nomatch hp
theorem take1_cases (t : List Nat) : t.take 1 ≠ [47] ∨ ∃ r, t = 47 :: r := by
  cases t with
  | nil => exact .inl (by simp)
  | cons a r =>
    by_cases h : a = 47
    · subst h; exact .inr ⟨r, rfl⟩
    · exact .inl (by simp [h])
def relOut (w : Way) : List Nat := if joinC [47] (List.replicate w.1 dd ++ w.2) = [] then [46] else joinC [47] (List.replicate w.1 dd ++ w.2)
theorem normP_rel {t : List Nat} (h : t.take 1 ≠ [47]) : normP t = relOut (wRun (0, []) (splitC 47 t)) := by
  unfold normP
  by_cases h0 : t = []
  · subst h0; rfl
  · rw [if_neg h0]
    have hr : rootS t = ([], t) := by unfold rootS; rw [if_pos h]
    rw [hr]
    have := rel_run (splitC 47 t) (w := (0, [])) noDD_nil
    simp only [List.replicate_zero, List.nil_append] at this
    show (if [] ++ joinC [47] (normA false [] (splitC 47 t)) = [] then _ else [] ++ joinC [47] (normA false [] (splitC 47 t))) = _
    rw [this, List.nil_append]
    rfl
theorem normP_abs {t s r : List Nat} (h : rootS t = (s, r)) (hs : s ≠ []) : normP t = s ++ joinC [47] (wRun (0, []) (splitC 47 r)).2 := by
  unfold normP
  have h0 : t ≠ [] := by rintro rfl; unfold rootS at h; simp at h; exact hs h.1
  rw [if_neg h0, h]
  have he : (!s.isEmpty) = true := by cases s <;> first | rfl | exact absurd rfl hs
  dsimp only
  rw [he]
  have := abs_run (splitC 47 r) (w := (0, [])) noDD_nil
  dsimp only at this
  rw [this, if_neg]
  intro q
  exact hs (List.append_eq_nil_iff.mp q).1
theorem splitC_slash (r : List Nat) : splitC 47 (47 :: r) = [] :: splitC 47 r := splitC_app 47 [] (by simp) r
theorem wRun_slash (w : Way) (r : List Nat) : wRun w (splitC 47 (47 :: r)) = wRun w (splitC 47 r) := by
  rw [splitC_slash]
  have : wStep w [] = w := by unfold wStep; rw [if_neg (by decide), if_pos (.inl rfl)]
  exact congrArg (fun z => wRun z (splitC 47 r)) this

/-- how many slashes lead -/
def leadN (t : List Nat) : Nat := (t.takeWhile (· == 47)).length
theorem leadN_slash (r : List Nat) : leadN (47 :: r) = leadN r + 1 := by unfold leadN; simp
theorem leadN_zero {t : List Nat} (h : t.take 1 ≠ [47]) : leadN t = 0 := by
  cases t with
  | nil => rfl
  | cons a r =>
    have : a ≠ 47 := by rintro rfl; exact h rfl
    unfold leadN
    rw [List.takeWhile_cons, beq_false_of_ne this]; rfl
/-- an absolute way's front -/
def frontOf (n : Nat) : List Nat := if n = 2 then [47, 47] else [47]
theorem normP_lead {t : List Nat} (h : 0 < leadN t) : normP t = frontOf (leadN t) ++ joinC [47] (wRun (0, []) (splitC 47 t)).2 := by
  rcases take1_cases t with h1 | ⟨r, rfl⟩
  · rw [leadN_zero h1] at h; exact absurd h (Nat.lt_irrefl 0)
  · rcases take1_cases r with h2 | ⟨r2, rfl⟩
    · have hr : rootS (47 :: r) = ([47], r) := by
        unfold rootS
        rw [if_neg (by simp), if_pos (.inl h2)]; rfl
      rw [normP_abs hr (by simp), leadN_slash, leadN_zero h2, wRun_slash]; rfl
    · rcases take1_cases r2 with h3 | ⟨r3, rfl⟩
      · have hr : rootS (47 :: 47 :: r2) = ([47, 47], r2) := by
          unfold rootS
          rw [if_neg (by simp), if_neg]
          · rfl
          · rintro (q | q)
            · exact q rfl
            · exact h3 q
        rw [normP_abs hr (by simp), leadN_slash, leadN_slash, leadN_zero h3, wRun_slash, wRun_slash]; rfl
      · have hr : rootS (47 :: 47 :: 47 :: r3) = ([47], 47 :: 47 :: r3) := by
          unfold rootS
          rw [if_neg (by simp), if_pos (.inr rfl)]; rfl
        rw [normP_abs hr (by simp), leadN_slash, leadN_slash, leadN_slash]
        rw [wRun_slash (0, []) (47 :: 47 :: r3)]
        unfold frontOf
        rw [if_neg (by omega)]

/-! law 3: a place ahead of a relative way -/
def xs (k : Nat) : List (List Nat) := List.replicate k [120]
theorem xs_names (k : Nat) : ∀ p ∈ xs k, p ≠ [] ∧ p ≠ [46] ∧ p ≠ [46, 46] := fun p hp => by
  rw [List.eq_of_mem_replicate hp]; decide
theorem xs_free (k : Nat) : ∀ p ∈ xs k, 47 ∉ p := fun p hp => by
  rw [List.eq_of_mem_replicate hp]; decide
theorem joinC_cons2 (c : Nat) (p : List Nat) {r : List (List Nat)} (h : r ≠ []) : joinC [c] (p :: r) = p ++ c :: joinC [c] r := by
  cases r with
  | nil => exact absurd rfl h
  | cons q r => show p ++ [c] ++ joinC [c] (q :: r) = _; simp
theorem joinC_x (k : Nat) (t : List Nat) : splitC 47 (joinC [47] (xs (k + 1)) ++ 47 :: t) = xs (k + 1) ++ splitC 47 t := by
  induction k with
  | zero =>
    show splitC 47 ([120] ++ 47 :: t) = _
    rw [splitC_app 47 [120] (by decide)]; rfl
  | succ k ih =>
    have e : xs (k + 1 + 1) = [120] :: xs (k + 1) := rfl
    rw [e, joinC_cons2 47 [120] (by simp [xs, List.replicate_succ])]
    show splitC 47 ([120] ++ 47 :: (joinC [47] (xs (k + 1)) ++ 47 :: t)) = _
    rw [splitC_app 47 [120] (by decide), ih]; rfl
theorem head_x (k : Nat) (t : List Nat) : ∃ r, joinC [47] (xs (k + 1)) ++ t = 120 :: r := by
  cases k with
  | zero => exact ⟨t, rfl⟩
  | succ k =>
    have e : xs (k + 1 + 1) = [120] :: xs (k + 1) := rfl
    rw [e, joinC_cons2 47 [120] (by simp [xs, List.replicate_succ])]
    exact ⟨_, rfl⟩

/-- what the law asks of a relative way behind a place -/
def dueRel (f : List Nat) (k : Nat) (w : Way) : List Nat := f ++ joinC [47] ((if f = [] then List.replicate (w.1 - k) dd else []) ++ xs (k - w.1) ++ w.2)
def placeOf (f : List Nat) (k : Nat) : List Nat := f ++ joinC [47] (xs k)
theorem take_xs (k n : Nat) : (xs k).take n = xs (min n k) := by unfold xs; rw [List.take_replicate]
theorem behind_xs (k : Nat) (w : Way) : behind (0, xs k) w = (w.1 - k, xs (k - w.1) ++ w.2) := by
  unfold behind
  have hl : (xs k).length = k := List.length_replicate
  dsimp only
  rw [hl]
  by_cases h : w.1 ≤ k
  · rw [if_pos h, take_xs, Nat.min_eq_left (Nat.sub_le _ _)]
    congr 1; omega
  · rw [if_neg h]
    have : k - w.1 = 0 := by omega
    rw [this]
    show _ = (w.1 - k, [] ++ w.2)
    rw [List.nil_append]; congr 1; omega
theorem wRun_xs (k : Nat) (t : List Nat) : wRun (0, []) (xs k ++ splitC 47 t) = ((wRun (0, []) (splitC 47 t)).1 - k, xs (k - (wRun (0, []) (splitC 47 t)).1) ++ (wRun (0, []) (splitC 47 t)).2) := by
  rw [wRun_append, wRun_names (xs_names k)]
  show wRun (0, [] ++ xs k) _ = _
  rw [List.nil_append, wRun_behind, behind_xs]
theorem suffix_x (l : List Nat) (k : Nat) : [47].isSuffixOf (l ++ joinC [47] (xs (k + 1))) = false := by
  have h : (l ++ joinC [47] (xs (k + 1))).getLast? = some 120 := by
    have h2 : (joinC [47] (xs (k + 1))).getLast? = some 120 := by
      induction k with
      | zero => rfl
      | succ k ih =>
        have e : xs (k + 1 + 1) = [120] :: xs (k + 1) := rfl
        rw [e, joinC_cons2 47 [120] (by simp [xs, List.replicate_succ])]
        rw [List.getLast?_append]
        show ((47 :: joinC [47] (xs (k + 1))).getLast?).or _ = _
        rw [List.getLast?_cons, ih]; rfl
    rw [List.getLast?_append, h2]; rfl
  cases q : [47].isSuffixOf (l ++ joinC [47] (xs (k + 1))) with
  | false => rfl
  | true =>
    rw [List.isSuffixOf_iff_suffix] at q
    obtain ⟨a, ha⟩ := q
    rw [← ha, List.getLast?_append] at h
    cases h
theorem prefix_iff (t : List Nat) : [47].isPrefixOf t = true ↔ t.take 1 = [47] := by
  cases t with
  | nil => simp
  | cons a r => simp [List.isPrefixOf]; exact eq_comm
theorem whole_rel (f : List Nat) (k : Nat) {t : List Nat} (ht : t.take 1 ≠ [47]) (hf : f = [] ∨ f = [47] ∨ f = [47, 47]) :
    joinStep (placeOf f k) t = if k = 0 then f ++ t else placeOf f k ++ 47 :: t := by
  have hp : ¬ [47].isPrefixOf t = true := fun q => ht ((prefix_iff t).mp q)
  unfold joinStep
  cases k with
  | zero =>
    have e : placeOf f 0 = f := by unfold placeOf; exact List.append_nil f
    rw [e, if_pos rfl]
    rcases hf with rfl | rfl | rfl
    · rw [if_pos (.inr rfl)]; rfl
    · rw [if_neg (by rintro (q | q); exact hp q; cases q), if_pos (by decide)]
    · rw [if_neg (by rintro (q | q); exact hp q; cases q), if_pos (by decide)]
  | succ k =>
    have hne : placeOf f (k + 1) ≠ [] := by
      obtain ⟨r, hr⟩ := head_x k []
      rw [List.append_nil] at hr
      unfold placeOf
      rw [hr]; simp
    have hs := suffix_x f k
    rw [if_neg (by rintro (q | q); exact hp q; exact hne q), if_neg (by unfold placeOf; rw [hs]; decide), if_neg (by omega), List.append_assoc]; rfl
theorem norm_rel (f : List Nat) (k : Nat) {t : List Nat} (ht : t.take 1 ≠ [47]) (hf : f = [] ∨ f = [47] ∨ f = [47, 47]) :
    normP (joinStep (placeOf f k) t) = if dueRel f k (wRun (0, []) (splitC 47 t)) = [] then [46] else dueRel f k (wRun (0, []) (splitC 47 t)) := by
  rw [whole_rel f k ht hf]
  obtain ⟨body, hb1, hb2, hb3⟩ : ∃ body : List Nat, (if k = 0 then f ++ t else placeOf f k ++ 47 :: t) = f ++ body ∧ body.take 1 ≠ [47] ∧ splitC 47 body = xs k ++ splitC 47 t := by
    cases k with
    | zero => exact ⟨t, by rw [if_pos rfl], ht, rfl⟩
    | succ k =>
      refine ⟨joinC [47] (xs (k + 1)) ++ 47 :: t, ?_, ?_, joinC_x k t⟩
      · rw [if_neg (by omega)]; unfold placeOf; rw [List.append_assoc]
      · obtain ⟨r, hr⟩ := head_x k (47 :: t)
        rw [hr]; simp
  rw [hb1]
  have hw := wRun_xs k t
  generalize wRun (0, []) (splitC 47 t) = w at *
  unfold dueRel
  rcases hf with rfl | rfl | rfl
  · rw [List.nil_append, normP_rel hb2, hb3, hw]
    unfold relOut
    rw [if_pos rfl, List.nil_append, List.append_assoc]
  · have hr : rootS ([47] ++ body) = ([47], body) := by
      unfold rootS
      rw [if_neg (by simp), if_pos (.inl hb2)]; rfl
    rw [normP_abs hr (by simp), hb3, hw, if_neg (show ¬ ([47] : List Nat) = [] by decide), List.nil_append, if_neg (by simp)]
  · have hr : rootS ([47, 47] ++ body) = ([47, 47], body) := by
      unfold rootS
      rw [if_neg (by simp), if_neg]
      · rfl
      · rintro (q | q)
        · exact q rfl
        · exact hb2 q
    rw [normP_abs hr (by simp), hb3, hw, if_neg (show ¬ ([47, 47] : List Nat) = [] by decide), List.nil_append, if_neg (by simp)]
/-- an absolute way behind a place -/
theorem whole_abs (f : List Nat) (k : Nat) {t : List Nat} (h : 0 < leadN t) : joinStep (placeOf f k) t = t := by
  rcases take1_cases t with h1 | ⟨r, rfl⟩
  · rw [leadN_zero h1] at h; exact absurd h (Nat.lt_irrefl 0)
  · unfold joinStep
    rw [if_pos (.inl rfl)]
theorem lead_iff (t : List Nat) : 0 < leadN t ↔ t.take 1 = [47] := by
  rcases take1_cases t with h1 | ⟨r, rfl⟩
  · rw [leadN_zero h1]; exact ⟨fun h => absurd h (Nat.lt_irrefl 0), fun h => absurd h h1⟩
  · rw [leadN_slash]; exact ⟨fun _ => rfl, fun _ => Nat.succ_pos _⟩
/-- the first check: the whole is the path itself where the path is absolute, and there alone -/
theorem whole_eq (f : List Nat) (k : Nat) (t : List Nat) (hf : f = [] ∨ f = [47] ∨ f = [47, 47]) (hne : placeOf f k ≠ []) : decide (joinStep (placeOf f k) t = t) = [47].isPrefixOf t := by
  rcases take1_cases t with h1 | ⟨r, rfl⟩
  · have hp : [47].isPrefixOf t = false := Bool.eq_false_iff.mpr fun q => h1 ((prefix_iff t).mp q)
    rw [hp, whole_rel f k h1 hf]
    apply decide_eq_false
    intro q
    have hl := congrArg List.length q
    cases k with
    | zero =>
      rw [if_pos rfl, List.length_append] at hl
      have : f.length = 0 := by omega
      have hf0 := List.eq_nil_of_length_eq_zero this
      subst hf0
      exact hne rfl
    | succ k =>
      rw [if_neg (by omega), List.length_append, List.length_cons] at hl
      omega
  · rw [whole_abs f k (by rw [leadN_slash]; exact Nat.succ_pos _)]
    simp [List.isPrefixOf]
end Mine
end
section
namespace Mine

/-! values of compound expressions -/
theorem ev_join (Γ : FEnv) {e : ME} {ρ : List Slot} {ps : List (List Nat)} {l : Nat} (h : (evA Γ e ρ).val = some (.list (ps.map (.txt false)), l)) (hl : l ≤ 1) (hz : szL ps ≤ LIM) :
    (evA Γ (.meth .join (.lit (.txt false [47])) e) ρ).val = some (.txt false (joinC [47] ps), 0) := by
  have hs : (ps.map List.length).sum + ps.length * ([47] : List Nat).length ≤ LIM := by
    have := szL_eq ps
    simp [beq_list, callF, Mine.exec, evA, Ans.of, freeze, freeze1, esc, escB, escT, fspathF, sepF, bi2F, bi1F, clsOf, isSub, cmpF, pvEq, cutF, partOf, truthPV, ownOf, lim, lim_lit0, lim_lit1, lim_lit2, lim_lit3, lim_lit4, lim_lit8, binF, methF, setAll, itemsOf, itsF, augOk]; omega
  show (match some ((PV.txt false [47], 0) : PV × Nat), (evA Γ e ρ).val with
    | some (x, _), some (y, l') => if l' ≤ 1 then (methF .join x [y]).map fun z => (z, 0) else none
    | _, _ => none) = _
  rw [h]
  dsimp only
  rw [if_pos hl]
  simp only [methF, asTxts_map]
  rw [if_pos hs]; rfl
theorem ev_mul (Γ : FEnv) {e : ME} {ρ : List Slot} {c : List Nat} {k : Int} (h : (evA Γ e ρ).val = some (.int k, 0)) (h1 : -(2 ^ 40 : Int) ≤ k) (h2 : k ≤ 1000) :
    (evA Γ (.bin .mul (.list (.cons (.lit (.txt false c)) .nil)) e) ρ).val = some (.list ((List.replicate k.toNat c).map (.txt false)), 0) := by
  have hb : binF .mul (.list [.txt false c]) (.int k) = some (.list ((List.replicate k.toNat c).map (.txt false))) := by
    simp only [binF, List.length_singleton]
    rw [if_pos ⟨by unfold LIM; omega, h1, by omega⟩]
    simp [beq_list, callF, Mine.exec, evA, Ans.of, freeze, freeze1, esc, escB, escT, fspathF, sepF, bi2F, bi1F, clsOf, isSub, cmpF, pvEq, cutF, partOf, truthPV, ownOf, lim, lim_lit0, lim_lit1, lim_lit2, lim_lit3, lim_lit4, lim_lit8, binF, methF, setAll, itemsOf, itsF, augOk]
  show (match some ((PV.list [.txt false c], 0) : PV × Nat), (evA Γ e ρ).val with
    | some (x, l), some (y, l') => if l ≤ 1 ∧ l' ≤ 1 then (binF .mul x y).map fun z => (z, 0) else none
    | _, _ => none) = _
  rw [h]
  dsimp only
  rw [if_pos ⟨Nat.zero_le _, Nat.zero_le _⟩, hb]; rfl
theorem ev_add (Γ : FEnv) {a b : ME} {ρ : List Slot} {x y z : PV} {l l' : Nat} (ha : (evA Γ a ρ).val = some (x, l)) (hb : (evA Γ b ρ).val = some (y, l')) (hl : l ≤ 1) (hl' : l' ≤ 1) (h : binF .add x y = some z) :
    (evA Γ (.bin .add a b) ρ).val = some (z, 0) := by
  show (match (evA Γ a ρ).val, (evA Γ b ρ).val with
    | some (x, l), some (y, l') => if l ≤ 1 ∧ l' ≤ 1 then (binF .add x y).map fun z => (z, 0) else none
    | _, _ => none) = _
  rw [ha, hb]
  dsimp only
  rw [if_pos ⟨hl, hl'⟩, h]; rfl
theorem add_txt {k : Bool} {a b : List Nat} (h : a.length + b.length ≤ LIM) : binF .add (.txt k a) (.txt k b) = some (.txt k (a ++ b)) := by
  simp only [binF]; rw [if_pos ⟨trivial, h⟩]
theorem add_lst {a b : List PV} (h : a.length + b.length ≤ LIM) : binF .add (.list a) (.list b) = some (.list (a ++ b)) := by
  simp only [binF]; rw [if_pos h]
theorem exec_asg (Γ : FEnv) {x : Nat} {e : ME} {ρ : List Slot} {v : PV} (h1 : freeze (esc e) ρ = ρ) (h2 : (evA Γ e ρ).val = some (v, 0)) : Mine.exec Γ (.asg x false e) ρ = some (.next, ρ.set x (some (v, 0))) := by
  show (match (evA Γ e (freeze (esc e) ρ)).val with
    | some (v, 0) => some (Fl.next, (freeze (esc e) ρ).set x (some (v, ownOf false v)))
    | _ => none) = _
  rw [h1, h2]
  have : ownOf false v = 0 := by cases v <;> rfl
  show some (Fl.next, ρ.set x (some (v, ownOf false v))) = _
  rw [this]
theorem small_append {a b : List Nat} (h1 : small a = true) (h2 : small b = true) : small (a ++ b) = true := by
  unfold small at *; rw [List.all_append, h1, h2]; rfl
theorem small_join : ∀ ps : List (List Nat), (∀ p ∈ ps, small p = true) → small (joinC [47] ps) = true
  | [], _ => rfl
  | [p], h => h p (.head _)
  | p :: q :: r, h => by
    rw [joinC_cons2 47 p (by simp [beq_list, callF, Mine.exec, evA, Ans.of, freeze, freeze1, esc, escB, escT, fspathF, sepF, bi2F, bi1F, clsOf, isSub, cmpF, pvEq, cutF, partOf, truthPV, ownOf, lim, lim_lit0, lim_lit1, lim_lit2, lim_lit3, lim_lit4, lim_lit8, binF, methF, setAll, itemsOf, itsF, augOk])]
    exact small_append (h p (.head _)) (small_append (a := [47]) (by decide) (small_join (q :: r) fun x hx => h x (.tail _ hx)))
theorem small_split {t : List Nat} (h : small t = true) : ∀ p ∈ splitC 47 t, small p = true := by
  have key : ∀ ps : List (List Nat), small (joinC [47] ps) = true → ∀ p ∈ ps, small p = true := by
    intro ps
    induction ps with
    | nil => intro _ p hp; cases hp
    | cons a r ih =>
      intro h p hp
      by_cases hr : r = []
      · subst hr
        cases hp with
        | head => exact h
        | tail _ hp => cases hp
      · rw [joinC_cons2 47 a hr] at h
        unfold small at h ih ⊢
        rw [List.all_append, List.all_cons] at h
        simp only [Bool.and_eq_true] at h
        cases hp with
        | head => exact h.1
        | tail _ hp => exact ih h.2.2 p hp
  exact key _ (by rw [joinC_split]; exact h)
theorem small_wRun : ∀ (cs : List (List Nat)) (w : Way), (∀ p ∈ cs, small p = true) → (∀ p ∈ w.2, small p = true) → ∀ p ∈ (wRun w cs).2, small p = true
  | [], w, _, h => h
  | c :: cs, w, hc, h => by
    refine small_wRun cs (wStep w c) (fun p hp => hc p (.tail _ hp)) ?_
    unfold wStep
    split
    · split
      · exact fun p hp => nomatch hp
      · exact fun p hp => h p ((List.dropLast_sublist _).subset hp)
    · split
      · exact h
      · intro p hp
        rcases List.mem_append.mp hp with h' | h'
        · exact h p h'
        · rw [List.mem_singleton.mp h']; exact hc c (.head _)
theorem szL_wRun : ∀ (cs : List (List Nat)) (w : Way), szL (wRun w cs).2 ≤ szL w.2 + szL cs
  | [], w => Nat.le_add_right _ _
  | c :: cs, w => by
    have ih := szL_wRun cs (wStep w c)
    have h1 : szL (wStep w c).2 ≤ szL w.2 + (c.length + 1) := by
      unfold wStep
      split
      · split
        · simp [beq_list, callF, Mine.exec, evA, Ans.of, freeze, freeze1, esc, escB, escT, fspathF, sepF, bi2F, bi1F, clsOf, isSub, cmpF, pvEq, cutF, partOf, truthPV, ownOf, lim, lim_lit0, lim_lit1, lim_lit2, lim_lit3, lim_lit4, lim_lit8, binF, methF, setAll, itemsOf, itsF, augOk, szL]
        · have := szL_dropLast w.2; dsimp only; omega
      · split
        · omega
        · dsimp only; rw [szL_append]; simp [beq_list, callF, Mine.exec, evA, Ans.of, freeze, freeze1, esc, escB, escT, fspathF, sepF, bi2F, bi1F, clsOf, isSub, cmpF, pvEq, cutF, partOf, truthPV, ownOf, lim, lim_lit0, lim_lit1, lim_lit2, lim_lit3, lim_lit4, lim_lit8, binF, methF, setAll, itemsOf, itsF, augOk, szL]
    rw [szL_cons]
    show szL (wRun (wStep w c) cs).2 ≤ _
    omega
theorem szL_rep (k : Nat) (c : List Nat) : szL (List.replicate k c) = k * (c.length + 1) := by
  unfold szL; rw [List.map_replicate, List.sum_replicate_nat]

theorem exec_seq (Γ : FEnv) {a b : MS} {ρ ρ1 : List Slot} (h : Mine.exec Γ a ρ = some (.next, ρ1)) : Mine.exec Γ (.seq a b) ρ = Mine.exec Γ b ρ1 := by
  show (match Mine.exec Γ a ρ with
    | some (.next, ρ') => Mine.exec Γ b ρ'
    | r => r) = _
  rw [h]
theorem exec_ite (Γ : FEnv) {c : ME} {a b : MS} {ρ : List Slot} {x : Bool} (h1 : freeze (escT c) ρ = ρ) (h2 : (evA Γ c ρ).tru = some x) : Mine.exec Γ (.ite c a b) ρ = if x = true then Mine.exec Γ a ρ else Mine.exec Γ b ρ := by
  show (match (evA Γ c (freeze (escT c) ρ)).tru with
    | some true => Mine.exec Γ a (freeze (escT c) ρ)
    | some false => Mine.exec Γ b (freeze (escT c) ρ)
    | none => none) = _
  rw [h1, h2]
  cases x <;> rfl
theorem exec_skip (Γ : FEnv) (ρ : List Slot) : Mine.exec Γ .skip ρ = some (.next, ρ) := rfl
theorem ev_or (Γ : FEnv) {a b : ME} {ρ : List Slot} {k : Bool} {p : List Nat} {y : PV} (ha : (evA Γ a ρ).val = some (.txt k p, 0)) (hb : (evA Γ b ρ).val = some (y, 0)) (hz : p.length ≤ LIM) :
    (evA Γ (.or_ a b) ρ).val = some (if p = [] then y else .txt k p, 0) := by
  show (match (evA Γ a ρ).val with
      | some (x, 0) => (match truthPV x with | some false => (evA Γ b ρ).val | some true => some (x, 0) | none => none)
      | _ => none) = _
  rw [ha]
  show (match truthPV (.txt k p) with | some false => (evA Γ b ρ).val | some true => some (PV.txt k p, 0) | none => none) = _
  rw [show truthPV (.txt k p) = some (!p.isEmpty) from if_pos hz]
  cases p with
  | nil => exact hb
  | cons a r => rfl
end Mine
end
section
namespace Mine

def q1 : MS := (.asg 11 false (.bin .add (.var 9) (.meth .join (.lit (.txt false [47])) (.bin .mul (.list (.cons (.lit (.txt false [120])) .nil)) (.var 10)))))
def q2 : MS := (.asg 12 false (.fn 2 (.cons (.fn 8 (.cons (.var 11) (.cons (.var 2) .nil))) (.cons (.var 4) .nil))))
def q3 : MS := (.ite (.and_ (.cmp .ne (.var 11) (.lit (.txt false []))) (.cmp .ne (.cmp .eq (.var 12) (.var 4)) (.fn 5 (.cons (.var 4) .nil)))) (.seq (.ret (.lit (.bool false))) .skip) .skip)
def q4 : MS := (.ite (.cmp .gt (.var 5) (.lit (.int 0))) (.seq (.asg 13 false (.bin .add (.ite (.cmp .eq (.var 5) (.lit (.int 2))) (.lit (.txt false [47, 47])) (.lit (.txt false [47]))) (.meth .join (.lit (.txt false [47])) (.var 7)))) .skip) (.seq (.asg 14 false (.ite (.cmp .eq (.var 9) (.lit (.txt false []))) (.bin .mul (.list (.cons (.lit (.txt false [46, 46])) .nil)) (.bin .sub (.var 6) (.var 10))) (.list .nil))) (.seq (.asg 13 false (.or_ (.bin .add (.var 9) (.meth .join (.lit (.txt false [47])) (.bin .add (.bin .add (.var 14) (.bin .mul (.list (.cons (.lit (.txt false [120])) .nil)) (.bin .sub (.var 10) (.var 6)))) (.var 7)))) (.lit (.txt false [46])))) .skip)))
def q5 : MS := (.append 8 (.fn 4 (.cons (.var 12) .nil)))
def q6 : MS := (.ite (.cmp .ne (.idx (.var 8) (.neg (.lit (.int 1)))) (.fn 8 (.cons (.var 13) (.cons (.var 2) .nil)))) (.seq (.ret (.lit (.bool false))) .skip) .skip)
def qIn : MS := .seq q1 (.seq q2 (.seq q3 (.seq q4 (.seq q5 (.seq q6 .skip)))))
structure G3 (Γ : FEnv) : Prop where
  j : Γ[2]? = some joinF
  n : Γ[4]? = some normpathF
  a : Γ[5]? = some isabsF
  k : Γ[8]? = some kindF
structure T3 (t : List Nat) : Prop where
  s : small t = true
  l : t.length ≤ 40
abbrev wOf (t : List Nat) : Way := wRun (0, []) (splitC 47 t)
def rL (sc gv : PV) (o : Bool) (t : List Nat) (E : List (List Nat)) (f : List Nat) (k : Nat) (s11 s12 s13 s14 : Slot) : List Slot :=
  [some (sc, 0), some (gv, 0), some (.bool o, 0), some (.txt false t, 0), some (.txt o t, 0), some (.int (leadN t : Int), 0), some (.int ((wOf t).1 : Int), 0), some (.list ((wOf t).2.map (.txt false)), 0), some (.list (E.map (.txt o)), 1), some (.txt false f, 0), some (.int (k : Int), 0), s11, s12, s13, s14]

section
variable (Γ : FEnv) (GG : G3 Γ) (sc gv : PV) (o : Bool) {t : List Nat} (T : T3 t) (E : List (List Nat)) {f : List Nat} (hf : f = [] ∨ f = [47] ∨ f = [47, 47]) {k : Nat} (hk : k ≤ 50) (s11 s12 s13 s14 : Slot)
theorem wOf_sz (T : T3 t) : (wOf t).1 ≤ 41 ∧ szL (wOf t).2 ≤ 41 ∧ (wOf t).2.length ≤ 41 ∧ ∀ p ∈ (wOf t).2, small p = true := by
  have h1 := wRun_sz (splitC 47 t) (0, [])
  have h2 := szL_wRun (splitC 47 t) (0, [])
  have h3 := splitC_length 47 t
  rw [szL_split] at h2
  have h4 := T.l
  have h5 : szL ([] : List (List Nat)) = 0 := rfl
  simp only [h5, List.length_nil] at h1 h2
  show (wRun (0, []) (splitC 47 t)).1 ≤ 41 ∧ szL (wRun (0, []) (splitC 47 t)).2 ≤ 41 ∧ (wRun (0, []) (splitC 47 t)).2.length ≤ 41 ∧ ∀ p ∈ (wRun (0, []) (splitC 47 t)).2, small p = true
  exact ⟨by have := h1.1; omega, by omega, by have := h1.2; omega, small_wRun _ _ (small_split T.s) (fun p hp => nomatch hp)⟩
theorem place_ok (hf : f = [] ∨ f = [47] ∨ f = [47, 47]) (hk : k ≤ 50) : small (placeOf f k) = true ∧ (placeOf f k).length ≤ 110 := by
  have h1 : small f = true ∧ f.length ≤ 2 := by rcases hf with rfl | rfl | rfl <;> exact ⟨by decide, by decide⟩
  have h2 := (joinC_len1 47 (xs k)).1
  unfold xs at h2
  rw [szL_rep] at h2
  refine ⟨small_append h1.1 (small_join _ fun p hp => by rw [List.eq_of_mem_replicate hp]; decide), ?_⟩
  unfold placeOf xs
  rw [List.length_append]
  simp [beq_list, callF, Mine.exec, evA, Ans.of, freeze, freeze1, esc, escB, escT, fspathF, sepF, bi2F, bi1F, clsOf, isSub, cmpF, pvEq, cutF, partOf, truthPV, ownOf, lim, lim_lit0, lim_lit1, lim_lit2, lim_lit3, lim_lit4, lim_lit8, binF, methF, setAll, itemsOf, itsF, augOk] at h2
  omega
theorem q1_run (hf : f = [] ∨ f = [47] ∨ f = [47, 47]) (hk : k ≤ 50) : Mine.exec Γ q1 (rL sc gv o t E f k s11 s12 s13 s14) = some (.next, rL sc gv o t E f k (some (.txt false (placeOf f k), 0)) s12 s13 s14) := by
  have hp := (place_ok hf hk).2
  unfold placeOf at hp
  rw [List.length_append] at hp
  have e1 := ev_mul Γ (e := .var 10) (ρ := rL sc gv o t E f k s11 s12 s13 s14) (c := [120]) (k := (k : Int)) rfl (by omega) (by omega)
  rw [Int.toNat_natCast] at e1
  have e2 := ev_join Γ e1 (Nat.zero_le _) (by rw [szL_rep]; simp [beq_list, callF, Mine.exec, evA, Ans.of, freeze, freeze1, esc, escB, escT, fspathF, sepF, bi2F, bi1F, clsOf, isSub, cmpF, pvEq, cutF, partOf, truthPV, ownOf, lim, lim_lit0, lim_lit1, lim_lit2, lim_lit3, lim_lit4, lim_lit8, binF, methF, setAll, itemsOf, itsF, augOk]; unfold LIM; omega)
  have e3 := ev_add Γ (a := .var 9) (ρ := rL sc gv o t E f k s11 s12 s13 s14) (x := .txt false f) (l := 0) rfl e2 (Nat.zero_le _) (Nat.zero_le _) (add_txt (by unfold LIM; unfold xs at hp; omega))
  exact exec_asg Γ rfl e3
theorem q2_run (GG : G3 Γ) (T : T3 t) (hf : f = [] ∨ f = [47] ∨ f = [47, 47]) (hk : k ≤ 50) : Mine.exec Γ q2 (rL sc gv o t E f k (some (.txt false (placeOf f k), 0)) s12 s13 s14) = some (.next, rL sc gv o t E f k (some (.txt false (placeOf f k), 0)) (some (.txt o (joinStep (placeOf f k) t), 0)) s13 s14) := by
  obtain ⟨h1, h2⟩ := place_ok hf hk
  have h3 := T.l
  have hl : (placeOf f k).length ≤ LIM := by unfold LIM; omega
  have hk1 : kindF [.txt false (placeOf f k), .bool o] = some (.txt o (placeOf f k)) := by
    show (if small (placeOf f k) = true ∧ (placeOf f k).length ≤ LIM then _ else _) = _
    rw [if_pos ⟨h1, hl⟩]
  have hj : joinF [.txt o (placeOf f k), .txt o t] = some (.txt o (joinStep (placeOf f k) t)) := by
    show (match asTxts o [.txt o t] with | some bs => if (placeOf f k).length + sumL bs ≤ LIM ∧ bs.length ≤ LIM then some (PV.txt o (joinP (placeOf f k) bs)) else none | none => none) = _
    rw [show asTxts o [PV.txt o t] = some [t] from asTxts_map o [t]]
    dsimp only
    rw [if_pos ⟨by simp [beq_list, callF, Mine.exec, evA, Ans.of, freeze, freeze1, esc, escB, escT, fspathF, sepF, bi2F, bi1F, clsOf, isSub, cmpF, pvEq, cutF, partOf, truthPV, ownOf, lim, lim_lit0, lim_lit1, lim_lit2, lim_lit3, lim_lit4, lim_lit8, binF, methF, setAll, itemsOf, itsF, augOk, sumL]; unfold LIM; omega, by show 1 ≤ LIM; decide⟩]; rfl
  refine exec_asg Γ rfl ?_
  generalize placeOf f k = P at *
  simp [beq_list, callF, Mine.exec, evA, Ans.of, freeze, freeze1, esc, escB, escT, fspathF, sepF, bi2F, bi1F, clsOf, isSub, cmpF, pvEq, cutF, partOf, truthPV, ownOf, lim, lim_lit0, lim_lit1, lim_lit2, lim_lit3, lim_lit4, lim_lit8, binF, methF, setAll, itemsOf, itsF, augOk, rL, GG.k, GG.j, hk1, hj]
theorem q3_run (GG : G3 Γ) (hf : f = [] ∨ f = [47] ∨ f = [47, 47]) : Mine.exec Γ q3 (rL sc gv o t E f k (some (.txt false (placeOf f k), 0)) (some (.txt o (joinStep (placeOf f k) t), 0)) s13 s14) = some (.next, rL sc gv o t E f k (some (.txt false (placeOf f k), 0)) (some (.txt o (joinStep (placeOf f k) t), 0)) s13 s14) := by
  by_cases hp : placeOf f k = []
  · simp [beq_list, callF, Mine.exec, evA, Ans.of, freeze, freeze1, esc, escB, escT, fspathF, sepF, bi2F, bi1F, clsOf, isSub, cmpF, pvEq, cutF, partOf, truthPV, ownOf, lim, lim_lit0, lim_lit1, lim_lit2, lim_lit3, lim_lit4, lim_lit8, binF, methF, setAll, itemsOf, itsF, augOk, q3, rL, hp]
  · have hw := whole_eq f k t hf hp
    have hp' : (placeOf f k).isEmpty = false := by cases q : placeOf f k <;> first | rfl | exact absurd q hp
    have ha : isabsF [.txt o t] = some (.bool ([47].isPrefixOf t)) := rfl
    rw [← hw] at ha
    generalize joinStep (placeOf f k) t = X at *
    generalize placeOf f k = P at *
    simp [beq_list, callF, Mine.exec, evA, Ans.of, freeze, freeze1, esc, escB, escT, fspathF, sepF, bi2F, bi1F, clsOf, isSub, cmpF, pvEq, cutF, partOf, truthPV, ownOf, lim, lim_lit0, lim_lit1, lim_lit2, lim_lit3, lim_lit4, lim_lit8, binF, methF, setAll, itemsOf, itsF, augOk, q3, rL, hp, hp', GG.a, ha]
/-- what the law asks -/
def due3 (t f : List Nat) (k : Nat) : List Nat :=
  if 0 < leadN t then frontOf (leadN t) ++ joinC [47] (wOf t).2 else if dueRel f k (wOf t) = [] then [46] else dueRel f k (wOf t)
theorem due3_norm (hf : f = [] ∨ f = [47] ∨ f = [47, 47]) : normP (joinStep (placeOf f k) t) = due3 t f k := by
  unfold due3
  by_cases h : 0 < leadN t
  · rw [if_pos h, whole_abs f k h, normP_lead h]
  · rw [if_neg h]
    exact norm_rel f k (fun q => h ((lead_iff t).mpr q)) hf
theorem front_small (hf : f = [] ∨ f = [47] ∨ f = [47, 47]) : small f = true ∧ f.length ≤ 2 := by rcases hf with rfl | rfl | rfl <;> exact ⟨by decide, by decide⟩
theorem due3_small (T : T3 t) (hf : f = [] ∨ f = [47] ∨ f = [47, 47]) (hk : k ≤ 50) : small (due3 t f k) = true ∧ (due3 t f k).length ≤ 500 := by
  obtain ⟨w1, w2, w3, w4⟩ := wOf_sz T
  obtain ⟨f1, f2⟩ := front_small hf
  have hd : small (dueRel f k (wOf t)) = true ∧ (dueRel f k (wOf t)).length ≤ 400 := by
    unfold dueRel
    have hz := (joinC_len1 47 ((if f = [] then List.replicate ((wOf t).1 - k) dd else []) ++ xs (k - (wOf t).1) ++ (wOf t).2)).1
    rw [szL_append, szL_append] at hz
    have hz1 : szL (if f = [] then List.replicate ((wOf t).1 - k) dd else []) ≤ 123 := by
      split
      · rw [szL_rep]; simp [beq_list, callF, Mine.exec, evA, Ans.of, freeze, freeze1, esc, escB, escT, fspathF, sepF, bi2F, bi1F, clsOf, isSub, cmpF, pvEq, cutF, partOf, truthPV, ownOf, lim, lim_lit0, lim_lit1, lim_lit2, lim_lit3, lim_lit4, lim_lit8, binF, methF, setAll, itemsOf, itsF, augOk, dd]; omega
      · exact Nat.zero_le _
    have hz2 : szL (xs (k - (wOf t).1)) ≤ 100 := by unfold xs; rw [szL_rep]; simp [beq_list, callF, Mine.exec, evA, Ans.of, freeze, freeze1, esc, escB, escT, fspathF, sepF, bi2F, bi1F, clsOf, isSub, cmpF, pvEq, cutF, partOf, truthPV, ownOf, lim, lim_lit0, lim_lit1, lim_lit2, lim_lit3, lim_lit4, lim_lit8, binF, methF, setAll, itemsOf, itsF, augOk]; omega
    refine ⟨small_append f1 (small_join _ fun p hp => ?_), by rw [List.length_append]; omega⟩
    rcases List.mem_append.mp hp with hp | hp
    · rcases List.mem_append.mp hp with hp | hp
      · split at hp
        · rw [List.eq_of_mem_replicate hp]; decide
        · cases hp
      · rw [List.eq_of_mem_replicate hp]; decide
    · exact w4 p hp
  unfold due3
  split
  · have hz := (joinC_len1 47 (wOf t).2).1
    have hfr : small (frontOf (leadN t)) = true ∧ (frontOf (leadN t)).length ≤ 2 := by
      unfold frontOf; split <;> exact ⟨by decide, by decide⟩
    exact ⟨small_append hfr.1 (small_join _ w4), by rw [List.length_append]; omega⟩
  · split
    · exact ⟨by decide, by decide⟩
    · exact ⟨hd.1, by omega⟩
theorem q4_run (T : T3 t) (hf : f = [] ∨ f = [47] ∨ f = [47, 47]) (hk : k ≤ 50) (s11 s12 s13 s14 : Slot) : ∃ s14', Mine.exec Γ q4 (rL sc gv o t E f k s11 s12 s13 s14) = some (.next, rL sc gv o t E f k s11 s12 (some (.txt false (due3 t f k), 0)) s14') := by
  obtain ⟨w1, w2, w3, w4⟩ := wOf_sz T
  obtain ⟨f1, f2⟩ := front_small hf
  have hnz := (joinC_len1 47 (wOf t).2).1
  unfold due3
  by_cases h : 0 < leadN t
  · refine ⟨s14, ?_⟩
    rw [if_pos h]
    have ht : (evA Γ (.cmp .gt (.var 5) (.lit (.int 0))) (rL sc gv o t E f k s11 s12 s13 s14)).tru = some true := by
      simp [beq_list, callF, Mine.exec, evA, Ans.of, freeze, freeze1, esc, escB, escT, fspathF, sepF, bi2F, bi1F, clsOf, isSub, cmpF, pvEq, cutF, partOf, truthPV, ownOf, lim, lim_lit0, lim_lit1, lim_lit2, lim_lit3, lim_lit4, lim_lit8, binF, methF, setAll, itemsOf, itsF, augOk, rL, h]
    have e1 : (evA Γ (.ite (.cmp .eq (.var 5) (.lit (.int 2))) (.lit (.txt false [47, 47])) (.lit (.txt false [47]))) (rL sc gv o t E f k s11 s12 s13 s14)).val = some (.txt false (frontOf (leadN t)), 0) := by
      unfold frontOf
      by_cases h2 : leadN t = 2
      · rw [if_pos h2]; simp [beq_list, callF, Mine.exec, evA, Ans.of, freeze, freeze1, esc, escB, escT, fspathF, sepF, bi2F, bi1F, clsOf, isSub, cmpF, pvEq, cutF, partOf, truthPV, ownOf, lim, lim_lit0, lim_lit1, lim_lit2, lim_lit3, lim_lit4, lim_lit8, binF, methF, setAll, itemsOf, itsF, augOk, rL, h2]
      · rw [if_neg h2]
        have : ((leadN t : Int) == 2) = false := beq_false_of_ne (by omega)
        simp [beq_list, callF, Mine.exec, evA, Ans.of, freeze, freeze1, esc, escB, escT, fspathF, sepF, bi2F, bi1F, clsOf, isSub, cmpF, pvEq, cutF, partOf, truthPV, ownOf, lim, lim_lit0, lim_lit1, lim_lit2, lim_lit3, lim_lit4, lim_lit8, binF, methF, setAll, itemsOf, itsF, augOk, rL, this]
    have e2 := ev_join Γ (e := .var 7) (ρ := rL sc gv o t E f k s11 s12 s13 s14) (ps := (wOf t).2) (l := 0) rfl (Nat.zero_le _) (by unfold LIM; omega)
    have hfr : (frontOf (leadN t)).length ≤ 2 := by unfold frontOf; split <;> decide
    have e3 := ev_add Γ e1 e2 (Nat.zero_le _) (Nat.zero_le _) (add_txt (by unfold LIM; omega))
    have e4 := exec_asg Γ (x := 13) (e := (.bin .add (.ite (.cmp .eq (.var 5) (.lit (.int 2))) (.lit (.txt false [47, 47])) (.lit (.txt false [47]))) (.meth .join (.lit (.txt false [47])) (.var 7)))) rfl e3
    unfold q4
    rw [exec_ite Γ rfl ht, if_pos rfl, exec_seq Γ e4]
    rfl
  · rw [if_neg h]
    have ht : (evA Γ (.cmp .gt (.var 5) (.lit (.int 0))) (rL sc gv o t E f k s11 s12 s13 s14)).tru = some false := by
      simp [beq_list, callF, Mine.exec, evA, Ans.of, freeze, freeze1, esc, escB, escT, fspathF, sepF, bi2F, bi1F, clsOf, isSub, cmpF, pvEq, cutF, partOf, truthPV, ownOf, lim, lim_lit0, lim_lit1, lim_lit2, lim_lit3, lim_lit4, lim_lit8, binF, methF, setAll, itemsOf, itsF, augOk, rL, h]
    have e1 : (evA Γ (.ite (.cmp .eq (.var 9) (.lit (.txt false []))) (.bin .mul (.list (.cons (.lit (.txt false [46, 46])) .nil)) (.bin .sub (.var 6) (.var 10))) (.list .nil)) (rL sc gv o t E f k s11 s12 s13 s14)).val =
        some (.list ((if f = [] then List.replicate ((wOf t).1 - k) dd else []).map (.txt false)), 0) := by
      have m1 := ev_mul Γ (e := .bin .sub (.var 6) (.var 10)) (ρ := rL sc gv o t E f k s11 s12 s13 s14) (c := dd) (k := ((wOf t).1 : Int) - k) rfl (by omega) (by omega)
      have m2 : (((wOf t).1 : Int) - k).toNat = (wOf t).1 - k := by omega
      rw [m2] at m1
      have c1 : (evA Γ (.cmp .eq (.var 9) (.lit (.txt false []))) (rL sc gv o t E f k s11 s12 s13 s14)).tru = some (decide (f = [])) := by
        show ((some (f == [])).map fun c => (PV.bool c, 0)).bind (fun x : PV × Nat => truthPV x.1) = _
        rw [beq_list]; rfl
      show (match (evA Γ (.cmp .eq (.var 9) (.lit (.txt false []))) (rL sc gv o t E f k s11 s12 s13 s14)).tru with
        | some true => { (Ans.of (evA Γ (.bin .mul (.list (.cons (.lit (.txt false [46, 46])) .nil)) (.bin .sub (.var 6) (.var 10))) (rL sc gv o t E f k s11 s12 s13 s14)).val) with tru := (evA Γ (.bin .mul (.list (.cons (.lit (.txt false [46, 46])) .nil)) (.bin .sub (.var 6) (.var 10))) (rL sc gv o t E f k s11 s12 s13 s14)).tru }
        | some false => { (Ans.of (evA Γ (.list .nil) (rL sc gv o t E f k s11 s12 s13 s14)).val) with tru := (evA Γ (.list .nil) (rL sc gv o t E f k s11 s12 s13 s14)).tru }
        | none => .of none).val = _
      rw [c1]
      by_cases hf0 : f = []
      · rw [decide_eq_true hf0, if_pos hf0]; exact m1
      · rw [decide_eq_false hf0, if_neg hf0]; rfl
    have a1 := exec_asg Γ (x := 14) (e := (.ite (.cmp .eq (.var 9) (.lit (.txt false []))) (.bin .mul (.list (.cons (.lit (.txt false [46, 46])) .nil)) (.bin .sub (.var 6) (.var 10))) (.list .nil))) rfl e1
    refine ⟨some (.list ((if f = [] then List.replicate ((wOf t).1 - k) dd else []).map (.txt false)), 0), ?_⟩
    have a1' : Mine.exec Γ (.asg 14 false (.ite (.cmp .eq (.var 9) (.lit (.txt false []))) (.bin .mul (.list (.cons (.lit (.txt false [46, 46])) .nil)) (.bin .sub (.var 6) (.var 10))) (.list .nil))) (rL sc gv o t E f k s11 s12 s13 s14) =
        some (.next, rL sc gv o t E f k s11 s12 s13 (some (.list ((if f = [] then List.replicate ((wOf t).1 - k) dd else []).map (.txt false)), 0))) := a1
    have hA : ∀ A : List (List Nat), A = (if f = [] then List.replicate ((wOf t).1 - k) dd else []) → szL A ≤ 123 := by
      rintro A rfl
      split
      · rw [szL_rep]; simp [beq_list, callF, Mine.exec, evA, Ans.of, freeze, freeze1, esc, escB, escT, fspathF, sepF, bi2F, bi1F, clsOf, isSub, cmpF, pvEq, cutF, partOf, truthPV, ownOf, lim, lim_lit0, lim_lit1, lim_lit2, lim_lit3, lim_lit4, lim_lit8, binF, methF, setAll, itemsOf, itsF, augOk, dd]; omega
      · exact Nat.zero_le _
    generalize hAe : (if f = [] then List.replicate ((wOf t).1 - k) dd else []) = A at *
    have hA := hA A rfl
    have m1 := ev_mul Γ (e := .bin .sub (.var 10) (.var 6)) (ρ := rL sc gv o t E f k s11 s12 s13 (some (.list (A.map (.txt false)), 0))) (c := [120]) (k := (k : Int) - (wOf t).1) rfl (by omega) (by omega)
    have m2 : ((k : Int) - ((wOf t).1 : Int)).toNat = k - (wOf t).1 := by omega
    rw [m2] at m1
    have hx : szL (List.replicate (k - (wOf t).1) [120]) ≤ 100 := by rw [szL_rep]; simp [beq_list, callF, Mine.exec, evA, Ans.of, freeze, freeze1, esc, escB, escT, fspathF, sepF, bi2F, bi1F, clsOf, isSub, cmpF, pvEq, cutF, partOf, truthPV, ownOf, lim, lim_lit0, lim_lit1, lim_lit2, lim_lit3, lim_lit4, lim_lit8, binF, methF, setAll, itemsOf, itsF, augOk]; omega
    have l1 := len_le_szL A
    have l2 := len_le_szL (List.replicate (k - (wOf t).1) [120])
    have m3 := ev_add Γ (a := .var 14) (l := 0) rfl m1 (Nat.zero_le _) (Nat.zero_le _) (add_lst (a := A.map (.txt false)) (by rw [List.length_map, List.length_map]; unfold LIM; omega))
    have m4 := ev_add Γ (b := .var 7) (l' := 0) m3 rfl (Nat.zero_le _) (Nat.zero_le _) (add_lst (b := (wOf t).2.map (.txt false)) (by rw [List.length_append, List.length_map, List.length_map, List.length_map]; unfold LIM; omega))
    rw [← List.map_append, ← List.map_append] at m4
    have hz : szL (A ++ List.replicate (k - (wOf t).1) [120] ++ (wOf t).2) ≤ 300 := by rw [szL_append, szL_append]; omega
    have m5 := ev_join Γ m4 (Nat.zero_le _) (by unfold LIM; omega)
    have hjl := (joinC_len1 47 (A ++ List.replicate (k - (wOf t).1) [120] ++ (wOf t).2)).1
    have m6 := ev_add Γ (a := .var 9) (x := .txt false f) (l := 0) rfl m5 (Nat.zero_le _) (Nat.zero_le _) (add_txt (by unfold LIM; omega))
    have m7 := ev_or Γ (b := .lit (.txt false [46])) m6 rfl (by rw [List.length_append]; unfold LIM; omega)
    have a2 := exec_asg Γ (x := 13) rfl m7
    unfold q4
    rw [exec_ite Γ rfl ht, if_neg (by decide), exec_seq Γ a1', exec_seq Γ a2]
    have hdue : dueRel f k (wOf t) = f ++ joinC [47] (A ++ List.replicate (k - (wOf t).1) [120] ++ (wOf t).2) := by
      unfold dueRel xs; rw [hAe]
    rw [hdue]
    have hif : (if f ++ joinC [47] (A ++ List.replicate (k - (wOf t).1) [120] ++ (wOf t).2) = [] then PV.txt false [46] else PV.txt false (f ++ joinC [47] (A ++ List.replicate (k - (wOf t).1) [120] ++ (wOf t).2))) = PV.txt false (if f ++ joinC [47] (A ++ List.replicate (k - (wOf t).1) [120] ++ (wOf t).2) = [] then [46] else f ++ joinC [47] (A ++ List.replicate (k - (wOf t).1) [120] ++ (wOf t).2)) := by split <;> rfl
    rw [hif]
    rfl
end
end Mine
end
section
namespace Mine
section
variable (Γ : FEnv) (sc gv : PV) (o : Bool) {t : List Nat} (E : List (List Nat)) {f : List Nat} {k : Nat} (s11 s12 s13 s14 : Slot)

theorem q5_run (GG : G3 Γ) (hE : E.length < 5000) (X : List Nat) (hX : X.length ≤ 500) : Mine.exec Γ q5 (rL sc gv o t E f k s11 (some (.txt o X, 0)) s13 s14) = some (.next, rL sc gv o t (E ++ [normP X]) f k s11 (some (.txt o X, 0)) s13 s14) := by
  have hn : normpathF [.txt o X] = some (.txt o (normP X)) := by
    show (if X.length + 4 ≤ LIM then _ else _) = _
    rw [if_pos (by unfold LIM; omega)]
  have hl : E.length < LIM := by unfold LIM; omega
  simp [beq_list, callF, Mine.exec, evA, Ans.of, freeze, freeze1, esc, escB, escT, fspathF, sepF, bi2F, bi1F, clsOf, isSub, cmpF, pvEq, cutF, partOf, truthPV, ownOf, lim, lim_lit0, lim_lit1, lim_lit2, lim_lit3, lim_lit4, lim_lit8, binF, methF, setAll, itemsOf, itsF, augOk, q5, rL, GG.n, hn, hl]
theorem q6_run (GG : G3 Γ) (hE : E.length < 5000) (d : List Nat) (h1 : small d = true) (h2 : d.length ≤ 5000) : Mine.exec Γ q6 (rL sc gv o t (E ++ [d]) f k s11 s12 (some (.txt false d, 0)) s14) = some (.next, rL sc gv o t (E ++ [d]) f k s11 s12 (some (.txt false d, 0)) s14) := by
  have hk1 : kindF [.txt false d, .bool o] = some (.txt o d) := by
    show (if small d = true ∧ d.length ≤ LIM then _ else _) = _
    rw [if_pos ⟨h1, by unfold LIM; omega⟩]
  have hl : E.length + 1 ≤ LIM := by unfold LIM; omega
  have hi : idxAt (E.map (PV.txt o) ++ [PV.txt o d]) (-1) = some (.txt o d) := idx_snoc _ _
  simp [beq_list, callF, Mine.exec, evA, Ans.of, freeze, freeze1, esc, escB, escT, fspathF, sepF, bi2F, bi1F, clsOf, isSub, cmpF, pvEq, cutF, partOf, truthPV, ownOf, lim, lim_lit0, lim_lit1, lim_lit2, lim_lit3, lim_lit4, lim_lit8, binF, methF, setAll, itemsOf, itsF, augOk, q6, rL, GG.k, hk1, idxF, hi, hl]
theorem in_turn (GG : G3 Γ) (T : T3 t) (hf : f = [] ∨ f = [47] ∨ f = [47, 47]) (hk : k ≤ 50) (hE : E.length < 5000) : ∃ a b c d, Mine.exec Γ qIn (rL sc gv o t E f k s11 s12 s13 s14) = some (.next, rL sc gv o t (E ++ [normP (joinStep (placeOf f k) t)]) f k a b c d) := by
  obtain ⟨s14', e4⟩ := q4_run Γ sc gv o E T hf hk (some (.txt false (placeOf f k), 0)) (some (.txt o (joinStep (placeOf f k) t), 0)) s13 s14
  have hX : (joinStep (placeOf f k) t).length ≤ 500 := by
    have h1 := joinStep_len (placeOf f k) t
    have h2 := (place_ok hf hk).2
    have h3 := T.l
    omega
  obtain ⟨d1, d2⟩ := due3_small T hf hk
  have e5 := q5_run Γ sc gv o (t := t) E (f := f) (k := k) (some (.txt false (placeOf f k), 0)) (some (.txt false (due3 t f k), 0)) s14' GG hE _ hX
  rw [due3_norm hf] at e5
  have e6 := q6_run Γ sc gv o (t := t) E (f := f) (k := k) (some (.txt false (placeOf f k), 0)) (some (.txt o (joinStep (placeOf f k) t), 0)) s14' GG hE _ d1 (by omega)
  refine ⟨some (.txt false (placeOf f k), 0), some (.txt o (joinStep (placeOf f k) t), 0), some (.txt false (due3 t f k), 0), s14', ?_⟩
  unfold qIn
  rw [exec_seq Γ (q1_run Γ sc gv o E s11 s12 s13 s14 hf hk), exec_seq Γ (q2_run Γ sc gv o E s12 s13 s14 GG T hf hk), exec_seq Γ (q3_run Γ sc gv o E s13 s14 GG hf), exec_seq Γ e4, exec_seq Γ e5, exec_seq Γ e6, exec_skip, due3_norm hf]
theorem in_loop (GG : G3 Γ) (T : T3 t) (hf : f = [] ∨ f = [47] ∨ f = [47, 47]) : ∀ (ks : List Nat) (E : List (List Nat)) (s10 s11 s12 s13 s14 : Slot), (∀ k ∈ ks, k ≤ 50) → E.length + ks.length < 5000 →
    ∃ s10' a b c d, forL (Mine.exec Γ qIn) [10] (ks.map fun (k : Nat) => PV.int (k : Int)) ((rL sc gv o t E f 0 s11 s12 s13 s14).set 10 s10) = some (.next, (rL sc gv o t (E ++ ks.map fun k => normP (joinStep (placeOf f k) t)) f 0 a b c d).set 10 s10')
  | [], E, s10, s11, s12, s13, s14, _, _ => ⟨s10, s11, s12, s13, s14, by rw [List.map_nil, List.map_nil, List.append_nil]; rfl⟩
  | k :: ks, E, s10, s11, s12, s13, s14, hk, hl => by
    rw [List.length_cons] at hl
    obtain ⟨a, b, c, d, e1⟩ := in_turn Γ sc gv o (t := t) E (k := k) s11 s12 s13 s14 GG T hf (hk k (.head _)) (by omega)
    obtain ⟨s10', a', b', c', d', e2⟩ := in_loop GG T hf ks (E ++ [normP (joinStep (placeOf f k) t)]) (some (.int (k : Int), 0)) a b c d (fun k' hk' => hk k' (.tail _ hk')) (by rw [List.length_append, List.length_singleton]; omega)
    refine ⟨s10', a', b', c', d', ?_⟩
    rw [List.map_cons, forL]
    show (match Mine.exec Γ qIn (rL sc gv o t E f k s11 s12 s13 s14) with
      | some (.next, ρ') => forL (Mine.exec Γ qIn) [10] (ks.map fun (k : Nat) => PV.int (k : Int)) ρ'
      | some (.cont, ρ') => forL (Mine.exec Γ qIn) [10] (ks.map fun (k : Nat) => PV.int (k : Int)) ρ'
      | some (.brk, ρ') => some (.next, ρ')
      | some (.ret r, ρ') => some (.ret r, ρ')
      | none => none) = _
    rw [e1]
    have e3 : (rL sc gv o t (E ++ [normP (joinStep (placeOf f k) t)]) f 0 a b c d).set 10 (some (.int (k : Int), 0)) = rL sc gv o t (E ++ [normP (joinStep (placeOf f k) t)]) f k a b c d := rfl
    rw [e3] at e2
    have e4 : E ++ (k :: ks).map (fun k => normP (joinStep (placeOf f k) t)) = E ++ [normP (joinStep (placeOf f k) t)] ++ ks.map (fun k => normP (joinStep (placeOf f k) t)) := by simp [beq_list, callF, Mine.exec, evA, Ans.of, freeze, freeze1, esc, escB, escT, fspathF, sepF, bi2F, bi1F, clsOf, isSub, cmpF, pvEq, cutF, partOf, truthPV, ownOf, lim, lim_lit0, lim_lit1, lim_lit2, lim_lit3, lim_lit4, lim_lit8, binF, methF, setAll, itemsOf, itsF, augOk]
    rw [e4]
    exact e2
end
end Mine
end
section
namespace Mine

def z0 : MS := (.asg 1 false (.or_ (.var 0) (.list (.cons (.lit (.int 26)) (.cons (.lit (.int 43)) .nil)))))
def z1 : MS := (.asg 2 false (.cmp .eq (.bin .fmod (.bin .fdiv (.bi1 .sum (.var 1)) (.lit (.int 4))) (.lit (.int 2))) (.lit (.int 1))))
def z2 : MS := (.asg 3 false (.bin .add (.idx (.list (.cons (.lit (.txt false [])) (.cons (.lit (.txt false [])) (.cons (.lit (.txt false [47])) (.cons (.lit (.txt false [47, 47])) .nil))))) (.bin .fmod (.bi1 .sum (.var 1)) (.lit (.int 4)))) (.fn 6 (.cons (.var 1) .nil))))
def z3 : MS := (.asg 4 false (.fn 8 (.cons (.var 3) (.cons (.var 2) .nil))))
def z4 : MS := (.asg 5 false (.lit (.int 0)))
def z5 : MS := (.while_ (.cmp .eq (.cut (.var 3) (.var 5) (.bin .add (.var 5) (.lit (.int 1)))) (.lit (.txt false [47]))) (.seq (.aug 5 .add (.lit (.int 1))) .skip))
def z6 : MS := (.unpack [6, 7] (.fn 7 (.cons (.var 3) .nil)))
def z7 : MS := (.asg 8 true (.list .nil))
def z9 : MS := (.ret (.and_ (.bi2 .isinst (.fn 5 (.cons (.var 4) .nil)) (.lit (.cls "bool"))) (.cmp .eq (.fn 5 (.cons (.var 4) .nil)) (.cmp .eq (.var 8) (.bin .mul (.list (.cons (.idx (.var 8) (.lit (.int 0))) .nil)) (.bi1 .len (.var 8)))))))
def rSrc : ME := .range (.lit (.int 0)) (.bin .add (.var 6) (.lit (.int 2)))
def z8 : MS := .for_ [9] (.list (.cons (.lit (.txt false [])) (.cons (.lit (.txt false [47])) (.cons (.lit (.txt false [47, 47])) .nil)))) (.seq (.for_ [10] rSrc qIn) .skip)
theorem law_parts : msLaw3 = .seq z0 (.seq z1 (.seq z2 (.seq z3 (.seq z4 (.seq z5 (.seq z6 (.seq z7 (.seq z8 (.seq z9 .skip))))))))) := rfl

theorem its_range (Γ : FEnv) {lo hi : ME} {ρ : List Slot} {a b : Int} {la lb : Nat} (ha : (evA Γ lo ρ).val = some (.int a, la)) (hb : (evA Γ hi ρ).val = some (.int b, lb))
    (hc : -(2 ^ 40 : Int) ≤ a ∧ a ≤ 2 ^ 40 ∧ -(2 ^ 40 : Int) ≤ b ∧ b ≤ LIM ∧ (b - a).toNat ≤ LIM) : itsF Γ (.range lo hi) ρ = some ((List.range (b - a).toNat).map fun (k : Nat) => PV.int (a + (k : Int))) := by
  show (match (evA Γ lo ρ).val, (evA Γ hi ρ).val with
      | some (.int a, _), some (.int b, _) => if -(2 ^ 40 : Int) ≤ a ∧ a ≤ 2 ^ 40 ∧ -(2 ^ 40 : Int) ≤ b ∧ b ≤ LIM ∧ (b - a).toNat ≤ LIM then some ((List.range (b - a).toNat).map fun (k : Nat) => PV.int (a + (k : Int))) else none
      | _, _ => none) = _
  rw [ha, hb]
  dsimp only
  rw [if_pos hc]
theorem exec_for (Γ : FEnv) {xs : List Nat} {src : ME} {b : MS} {ρ : List Slot} {vs : List PV} (h1 : freeze (esc src) ρ = ρ) (h2 : itsF Γ src ρ = some vs) : Mine.exec Γ (.for_ xs src b) ρ = forL (Mine.exec Γ b) xs vs ρ := by
  show (match itsF Γ src (freeze (esc src) ρ) with
    | some vs => forL (Mine.exec Γ b) xs vs (freeze (esc src) ρ)
    | none => none) = _
  rw [h1, h2]
section
variable (Γ : FEnv) (sc gv : PV) (o : Bool) {t : List Nat} (E : List (List Nat)) {f : List Nat} (s10 s11 s12 s13 s14 : Slot)
/-- the ends of one front -/
def endsOf (t f : List Nat) : List (List Nat) := (List.range ((wOf t).1 + 2)).map fun k => normP (joinStep (placeOf f k) t)
theorem front_turn (GG : G3 Γ) (T : T3 t) (hf : f = [] ∨ f = [47] ∨ f = [47, 47]) (hE : E.length < 1000) :
    ∃ s10' a b c d, Mine.exec Γ (.seq (.for_ [10] rSrc qIn) .skip) ((rL sc gv o t E f 0 s11 s12 s13 s14).set 10 s10) = some (.next, (rL sc gv o t (E ++ endsOf t f) f 0 a b c d).set 10 s10') := by
  have hw := (wOf_sz T).1
  obtain ⟨s10', a, b, c, d, e⟩ := in_loop Γ sc gv o (t := t) (f := f) GG T hf (List.range ((wOf t).1 + 2)) E s10 s11 s12 s13 s14 (fun k hk => by have := List.mem_range.mp hk; omega) (by rw [List.length_range]; omega)
  refine ⟨s10', a, b, c, d, ?_⟩
  have hr : itsF Γ rSrc ((rL sc gv o t E f 0 s11 s12 s13 s14).set 10 s10) = some ((List.range ((wOf t).1 + 2)).map fun (k : Nat) => PV.int (k : Int)) := by
    have h2 : (((wOf t).1 : Int) + 2 - 0).toNat = (wOf t).1 + 2 := by omega
    have hl : (LIM : Int) = 1048576 := rfl
    have h3 := its_range Γ (lo := .lit (.int 0)) (hi := .bin .add (.var 6) (.lit (.int 2))) (ρ := (rL sc gv o t E f 0 s11 s12 s13 s14).set 10 s10) (a := 0) (b := ((wOf t).1 : Int) + 2) (la := 0) (lb := 0) rfl rfl ⟨by decide, by decide, by omega, by omega, by rw [h2]; unfold LIM; omega⟩
    rw [h2] at h3
    have h4 : ((List.range ((wOf t).1 + 2)).map fun (k : Nat) => PV.int (0 + (k : Int))) = (List.range ((wOf t).1 + 2)).map fun (k : Nat) => PV.int (k : Int) := List.map_congr_left fun k _ => by rw [Int.zero_add]
    rw [h4] at h3
    exact h3
  have ex := exec_for Γ (xs := [10]) (b := qIn) (ρ := (rL sc gv o t E f 0 s11 s12 s13 s14).set 10 s10) (src := rSrc) rfl hr
  rw [e] at ex
  rw [exec_seq Γ ex, exec_skip]
  rfl
end
end Mine
end
section
namespace Mine
section
variable (Γ : FEnv) (sc gv : PV) (o : Bool) {t : List Nat} (s9 s10 s11 s12 s13 s14 : Slot)
def allEnds (t : List Nat) : List (List Nat) := endsOf t [] ++ endsOf t [47] ++ endsOf t [47, 47]
theorem endsOf_len (t f : List Nat) : (endsOf t f).length = (wOf t).1 + 2 := by unfold endsOf; rw [List.length_map, List.length_range]
theorem forL3 {f : List Slot → Option (Fl × List Slot)} {v1 v2 v3 : PV} {ρ0 ρ1 ρ2 ρ3 : List Slot} (h1 : f (ρ0.set 9 (some (v1, 0))) = some (.next, ρ1)) (h2 : f (ρ1.set 9 (some (v2, 0))) = some (.next, ρ2)) (h3 : f (ρ2.set 9 (some (v3, 0))) = some (.next, ρ3)) :
    forL f [9] [v1, v2, v3] ρ0 = some (.next, ρ3) := by
  simp [beq_list, callF, Mine.exec, evA, Ans.of, freeze, freeze1, esc, escB, escT, fspathF, sepF, bi2F, bi1F, clsOf, isSub, cmpF, pvEq, cutF, partOf, truthPV, ownOf, lim, lim_lit0, lim_lit1, lim_lit2, lim_lit3, lim_lit4, lim_lit8, binF, methF, setAll, itemsOf, itsF, augOk, forL, bindT, h1, h2, h3]
theorem hits8 (ρ : List Slot) : itsF Γ (.list (.cons (.lit (.txt false [])) (.cons (.lit (.txt false [47])) (.cons (.lit (.txt false [47, 47])) .nil)))) ρ = some [.txt false [], .txt false [47], .txt false [47, 47]] := by simp [beq_list, callF, Mine.exec, evA, Ans.of, freeze, freeze1, esc, escB, escT, fspathF, sepF, bi2F, bi1F, clsOf, isSub, cmpF, pvEq, cutF, partOf, truthPV, ownOf, lim, lim_lit0, lim_lit1, lim_lit2, lim_lit3, lim_lit4, lim_lit8, binF, methF, setAll, itemsOf, itsF, augOk]
theorem esc8 : esc (.list (.cons (.lit (.txt false [])) (.cons (.lit (.txt false [47])) (.cons (.lit (.txt false [47, 47])) .nil)))) = [] := by simp [beq_list, callF, Mine.exec, evA, Ans.of, freeze, freeze1, esc, escB, escT, fspathF, sepF, bi2F, bi1F, clsOf, isSub, cmpF, pvEq, cutF, partOf, truthPV, ownOf, lim, lim_lit0, lim_lit1, lim_lit2, lim_lit3, lim_lit4, lim_lit8, binF, methF, setAll, itemsOf, itsF, augOk]
theorem set9 (E : List (List Nat)) (f g : List Nat) (s9 s10 : Slot) : (((rL sc gv o t E f 0 s11 s12 s13 s14).set 9 s9).set 10 s10).set 9 (some (.txt false g, 0)) = (rL sc gv o t E g 0 s11 s12 s13 s14).set 10 s10 := by
  unfold rL; rfl
theorem set9' (E : List (List Nat)) (f g : List Nat) (s10 : Slot) : ((rL sc gv o t E f 0 s11 s12 s13 s14).set 10 s10).set 9 (some (.txt false g, 0)) = (rL sc gv o t E g 0 s11 s12 s13 s14).set 10 s10 := by
  unfold rL; rfl
theorem z8_run (GG : G3 Γ) (T : T3 t) : ∃ s10' a b c d, Mine.exec Γ z8 (((rL sc gv o t [] [] 0 s11 s12 s13 s14).set 9 s9).set 10 s10) = some (.next, ((rL sc gv o t (allEnds t) [47, 47] 0 a b c d)).set 10 s10') := by
  have hw := (wOf_sz T).1
  have l1 := endsOf_len t []
  have l2 := endsOf_len t [47]
  obtain ⟨i1, a1, b1, c1, d1, e1⟩ := front_turn Γ sc gv o (t := t) [] (f := []) s10 s11 s12 s13 s14 GG T (.inl rfl) (Nat.zero_lt_succ _)
  rw [List.nil_append] at e1
  obtain ⟨i2, a2, b2, c2, d2, e2⟩ := front_turn Γ sc gv o (t := t) (endsOf t []) (f := [47]) i1 a1 b1 c1 d1 GG T (.inr (.inl rfl)) (by rw [l1]; omega)
  obtain ⟨i3, a3, b3, c3, d3, e3⟩ := front_turn Γ sc gv o (t := t) (endsOf t [] ++ endsOf t [47]) (f := [47, 47]) i2 a2 b2 c2 d2 GG T (.inr (.inr rfl)) (by rw [List.length_append, l1, l2]; omega)
  refine ⟨i3, a3, b3, c3, d3, ?_⟩
  unfold z8 allEnds
  rw [exec_for Γ (by rw [esc8, freeze_nil]) (hits8 Γ _)]
  exact forL3 (by rw [set9]; exact e1) (by rw [set9']; exact e2) (by rw [set9']; exact e3)
/-- the lead -/
theorem lead_drop : ∀ (t : List Nat) (n : Nat), n ≤ leadN t → ((t.drop n).take 1 = [47] ↔ n < leadN t)
  | [], n, h => by
    have : leadN [] = 0 := rfl
    rw [this] at h ⊢
    simp [beq_list, callF, Mine.exec, evA, Ans.of, freeze, freeze1, esc, escB, escT, fspathF, sepF, bi2F, bi1F, clsOf, isSub, cmpF, pvEq, cutF, partOf, truthPV, ownOf, lim, lim_lit0, lim_lit1, lim_lit2, lim_lit3, lim_lit4, lim_lit8, binF, methF, setAll, itemsOf, itsF, augOk]
  | a :: r, 0, _ => by rw [List.drop_zero]; exact (lead_iff (a :: r)).symm
  | a :: r, n + 1, h => by
    by_cases ha : a = 47
    · subst ha
      rw [leadN_slash] at h ⊢
      rw [List.drop_succ_cons, lead_drop r n (by omega)]
      omega
    · have : leadN (a :: r) = 0 := leadN_zero (by simp [beq_list, callF, Mine.exec, evA, Ans.of, freeze, freeze1, esc, escB, escT, fspathF, sepF, bi2F, bi1F, clsOf, isSub, cmpF, pvEq, cutF, partOf, truthPV, ownOf, lim, lim_lit0, lim_lit1, lim_lit2, lim_lit3, lim_lit4, lim_lit8, binF, methF, setAll, itemsOf, itsF, augOk, ha])
      rw [this] at h
      omega
end
end Mine
end
section
namespace Mine

theorem eqs_txt (k : Bool) (n : Nat) : ∀ a b : List (List Nat), a.length = b.length → eqs (pvEq n) (a.map (.txt k)) (b.map (.txt k)) = some (decide (a = b))
  | [], [], _ => by simp [beq_list, callF, Mine.exec, evA, Ans.of, freeze, freeze1, esc, escB, escT, fspathF, sepF, bi2F, bi1F, clsOf, isSub, cmpF, pvEq, cutF, partOf, truthPV, ownOf, lim, lim_lit0, lim_lit1, lim_lit2, lim_lit3, lim_lit4, lim_lit8, binF, methF, setAll, itemsOf, itsF, augOk, eqs]
  | [], _ :: _, h => by simp [beq_list, callF, Mine.exec, evA, Ans.of, freeze, freeze1, esc, escB, escT, fspathF, sepF, bi2F, bi1F, clsOf, isSub, cmpF, pvEq, cutF, partOf, truthPV, ownOf, lim, lim_lit0, lim_lit1, lim_lit2, lim_lit3, lim_lit4, lim_lit8, binF, methF, setAll, itemsOf, itsF, augOk] at h
  | _ :: _, [], h => by simp [beq_list, callF, Mine.exec, evA, Ans.of, freeze, freeze1, esc, escB, escT, fspathF, sepF, bi2F, bi1F, clsOf, isSub, cmpF, pvEq, cutF, partOf, truthPV, ownOf, lim, lim_lit0, lim_lit1, lim_lit2, lim_lit3, lim_lit4, lim_lit8, binF, methF, setAll, itemsOf, itsF, augOk] at h
  | x :: a, y :: b, h => by
    have ih := eqs_txt k n a b (by simpa [beq_list, callF, Mine.exec, evA, Ans.of, freeze, freeze1, esc, escB, escT, fspathF, sepF, bi2F, bi1F, clsOf, isSub, cmpF, pvEq, cutF, partOf, truthPV, ownOf, lim, lim_lit0, lim_lit1, lim_lit2, lim_lit3, lim_lit4, lim_lit8, binF, methF, setAll, itemsOf, itsF, augOk] using h)
    have e : pvEq n (PV.txt k x) (PV.txt k y) = some (x == y) := by cases n <;> simp only [pvEq, if_true]
    rw [List.map_cons, List.map_cons, eqs, e, ih]
    by_cases h1 : x = y
    · subst h1
      by_cases h2 : a = b
      · subst h2; simp [beq_list, callF, Mine.exec, evA, Ans.of, freeze, freeze1, esc, escB, escT, fspathF, sepF, bi2F, bi1F, clsOf, isSub, cmpF, pvEq, cutF, partOf, truthPV, ownOf, lim, lim_lit0, lim_lit1, lim_lit2, lim_lit3, lim_lit4, lim_lit8, binF, methF, setAll, itemsOf, itsF, augOk]
      · simp [beq_list, callF, Mine.exec, evA, Ans.of, freeze, freeze1, esc, escB, escT, fspathF, sepF, bi2F, bi1F, clsOf, isSub, cmpF, pvEq, cutF, partOf, truthPV, ownOf, lim, lim_lit0, lim_lit1, lim_lit2, lim_lit3, lim_lit4, lim_lit8, binF, methF, setAll, itemsOf, itsF, augOk, h2]
    · simp [beq_list, callF, Mine.exec, evA, Ans.of, freeze, freeze1, esc, escB, escT, fspathF, sepF, bi2F, bi1F, clsOf, isSub, cmpF, pvEq, cutF, partOf, truthPV, ownOf, lim, lim_lit0, lim_lit1, lim_lit2, lim_lit3, lim_lit4, lim_lit8, binF, methF, setAll, itemsOf, itsF, augOk, h1]
theorem pvEq_txts (k : Bool) (a b : List (List Nat)) : pvEq 4 (.list (a.map (.txt k))) (.list (b.map (.txt k))) = some (decide (a = b)) := by
  show (if (a.map (PV.txt k)).length = (b.map (PV.txt k)).length then eqs (pvEq 3) (a.map (.txt k)) (b.map (.txt k)) else some false) = _
  rw [List.length_map, List.length_map]
  by_cases h : a.length = b.length
  · rw [if_pos h, eqs_txt k 3 a b h]
  · rw [if_neg h, decide_eq_false (fun q => h (congrArg List.length q))]
/-- names hold no slash and are not empty -/
theorem wRun_free : ∀ (cs : List (List Nat)) (w : Way), (∀ p ∈ cs, 47 ∉ p) → (∀ p ∈ w.2, p ≠ [] ∧ 47 ∉ p) → ∀ p ∈ (wRun w cs).2, p ≠ [] ∧ 47 ∉ p
  | [], w, _, h => h
  | c :: cs, w, hc, h => by
    refine wRun_free cs (wStep w c) (fun p hp => hc p (.tail _ hp)) ?_
    unfold wStep
    split
    · split
      · exact fun p hp => nomatch hp
      · exact fun p hp => h p ((List.dropLast_sublist _).subset hp)
    · split
      · exact h
      · rename_i h1 h2
        intro p hp
        rcases List.mem_append.mp hp with h' | h'
        · exact h p h'
        · rw [List.mem_singleton.mp h']; exact ⟨fun q => h2 (.inl q), hc c (.head _)⟩
theorem joinC_head : ∀ ps : List (List Nat), (∀ p ∈ ps, p ≠ [] ∧ 47 ∉ p) → (joinC [47] ps).take 1 ≠ [47]
  | [], _ => by simp [beq_list, callF, Mine.exec, evA, Ans.of, freeze, freeze1, esc, escB, escT, fspathF, sepF, bi2F, bi1F, clsOf, isSub, cmpF, pvEq, cutF, partOf, truthPV, ownOf, lim, lim_lit0, lim_lit1, lim_lit2, lim_lit3, lim_lit4, lim_lit8, binF, methF, setAll, itemsOf, itsF, augOk, joinC]
  | p :: r, h => by
    obtain ⟨h1, h2⟩ := h p (.head _)
    cases p with
    | nil => exact absurd rfl h1
    | cons a p =>
      have ha : a ≠ 47 := fun q => h2 (q ▸ .head _)
      by_cases hr : r = []
      · subst hr
        show (a :: p).take 1 ≠ [47]
        simp [beq_list, callF, Mine.exec, evA, Ans.of, freeze, freeze1, esc, escB, escT, fspathF, sepF, bi2F, bi1F, clsOf, isSub, cmpF, pvEq, cutF, partOf, truthPV, ownOf, lim, lim_lit0, lim_lit1, lim_lit2, lim_lit3, lim_lit4, lim_lit8, binF, methF, setAll, itemsOf, itsF, augOk, ha]
      · rw [joinC_cons2 47 _ hr]
        simp [beq_list, callF, Mine.exec, evA, Ans.of, freeze, freeze1, esc, escB, escT, fspathF, sepF, bi2F, bi1F, clsOf, isSub, cmpF, pvEq, cutF, partOf, truthPV, ownOf, lim, lim_lit0, lim_lit1, lim_lit2, lim_lit3, lim_lit4, lim_lit8, binF, methF, setAll, itemsOf, itsF, augOk, ha]
theorem ends_rel {t : List Nat} (h : ¬ 0 < leadN t) : ¬ allEnds t = List.replicate (allEnds t).length ((allEnds t).headD []) := by
  intro q
  have ht : t.take 1 ≠ [47] := fun q => h ((lead_iff t).mpr q)
  have l1 := endsOf_len t []
  have l2 := endsOf_len t [47]
  have e0 : (allEnds t)[0]? = some (due3 t [] 0) := by
    unfold allEnds
    rw [List.getElem?_append_left (by rw [List.length_append, l1]; omega), List.getElem?_append_left (by rw [l1]; omega)]
    unfold endsOf
    rw [List.getElem?_map, List.getElem?_range (by omega)]
    rw [Option.map_some, due3_norm (.inl rfl)]
  have e1 : (allEnds t)[(wOf t).1 + 2]? = some (due3 t [47] 0) := by
    unfold allEnds
    rw [List.getElem?_append_left (by rw [List.length_append, l1, l2]; omega), List.getElem?_append_right (by rw [l1]; exact Nat.le_refl _), l1, Nat.sub_self]
    unfold endsOf
    rw [List.getElem?_map, List.getElem?_range (by omega)]
    rw [Option.map_some, due3_norm (.inr (.inl rfl))]
  have hE : due3 t [] 0 = due3 t [47] 0 := by
    rw [q] at e0 e1
    rw [List.getElem?_replicate] at e0 e1
    split at e0
    · split at e1
      · exact (Option.some.inj e0).symm.trans (Option.some.inj e1)
      · cases e1
    · cases e0
  have hfr := wRun_free (splitC 47 t) (0, []) (splitC_free 47 t) (fun p hp => nomatch hp)
  have hj := joinC_head (List.replicate ((wOf t).1 - 0) dd ++ xs (0 - (wOf t).1) ++ (wOf t).2) (fun p hp => by
    rcases List.mem_append.mp hp with hp | hp
    · rcases List.mem_append.mp hp with hp | hp
      · rw [List.eq_of_mem_replicate hp]; exact ⟨by decide, by decide⟩
      · rw [List.eq_of_mem_replicate hp]; exact ⟨by decide, by decide⟩
    · exact hfr p hp)
  have hd : dueRel [] 0 (wOf t) = joinC [47] (List.replicate ((wOf t).1 - 0) dd ++ xs (0 - (wOf t).1) ++ (wOf t).2) := by
    unfold dueRel; rw [if_pos rfl, List.nil_append]
  have a1 : (due3 t [] 0).take 1 ≠ [47] := by
    unfold due3
    rw [if_neg h]
    split
    · decide
    · rw [hd]; exact hj
  have a2 : (due3 t [47] 0).take 1 = [47] := by
    unfold due3
    rw [if_neg h]
    unfold dueRel
    rw [if_neg (by simp [beq_list, callF, Mine.exec, evA, Ans.of, freeze, freeze1, esc, escB, escT, fspathF, sepF, bi2F, bi1F, clsOf, isSub, cmpF, pvEq, cutF, partOf, truthPV, ownOf, lim, lim_lit0, lim_lit1, lim_lit2, lim_lit3, lim_lit4, lim_lit8, binF, methF, setAll, itemsOf, itsF, augOk])]
    rfl
  rw [hE] at a1
  exact a1 a2
theorem ends_abs {t : List Nat} (h : 0 < leadN t) : allEnds t = List.replicate (allEnds t).length ((allEnds t).headD []) := by
  have key : ∀ p ∈ allEnds t, p = normP t := by
    have h1 : ∀ f, ∀ p ∈ endsOf t f, p = normP t := by
      intro f p hp
      unfold endsOf at hp
      obtain ⟨k, _, rfl⟩ := List.mem_map.mp hp
      rw [whole_abs f k h]
    intro p hp
    unfold allEnds at hp
    rcases List.mem_append.mp hp with hp | hp
    · rcases List.mem_append.mp hp with hp | hp
      · exact h1 _ p hp
      · exact h1 _ p hp
    · exact h1 _ p hp
  have hrep := List.eq_replicate_of_mem key
  cases hA : allEnds t with
  | nil => rfl
  | cons a r =>
    rw [hA] at hrep key
    have ha : a = normP t := key a (.head _)
    show a :: r = List.replicate (a :: r).length a
    rw [ha] at hrep ⊢
    exact hrep
theorem ends_all (t : List Nat) : decide (allEnds t = List.replicate (allEnds t).length ((allEnds t).headD [])) = [47].isPrefixOf t := by
  by_cases h : 0 < leadN t
  · rw [decide_eq_true (ends_abs h), (prefix_iff t).mpr ((lead_iff t).mp h)]
  · rw [decide_eq_false (ends_rel h)]
    exact (Bool.eq_false_iff.mpr fun q => h ((lead_iff t).mpr ((prefix_iff t).mp q))).symm
end Mine
end
section
namespace Mine

/-- the state while the lead is told -/
def rA (sc gv : PV) (o : Bool) (t : List Nat) (n : Nat) : List Slot :=
  [some (sc, 0), some (gv, 0), some (.bool o, 0), some (.txt false t, 0), some (.txt o t, 0), some (.int (n : Int), 0), none, none, none, none, none, none, none, none, none]
def cLead : ME := .cmp .eq (.cut (.var 3) (.var 5) (.bin .add (.var 5) (.lit (.int 1)))) (.lit (.txt false [47]))
def bLead : MS := .seq (.aug 5 .add (.lit (.int 1))) .skip
section
variable (Γ : FEnv) (sc gv : PV) (o : Bool) {t : List Nat}
theorem lead_loop (T : T3 t) : ∀ (m fuel n : Nat), n + m = leadN t → m < fuel → whileL (fun ρ => (evA Γ cLead (freeze (escT cLead) ρ)).tru.map fun x => (x, freeze (escT cLead) ρ)) (Mine.exec Γ bLead) fuel (rA sc gv o t n) = some (.next, rA sc gv o t (leadN t))
  | m, 0, n, _, hf => by omega
  | m, fuel + 1, n, hn, hf => by
    have hz : t.length ≤ LIM := by have := T.l; unfold LIM; omega
    have hc : freeze (escT cLead) (rA sc gv o t n) = rA sc gv o t n := rfl
    have hcut : cut t (some (n : Int)) (some ((n : Int) + 1)) = (t.drop n).take 1 := by
      have := cut_mid t n (n + 1)
      rw [Nat.add_sub_cancel_left] at this
      exact this
    have ht : (evA Γ cLead (rA sc gv o t n)).tru = some (decide ((t.drop n).take 1 = [47])) := by
      simp [beq_list, callF, Mine.exec, evA, Ans.of, freeze, freeze1, esc, escB, escT, fspathF, sepF, bi2F, bi1F, clsOf, isSub, cmpF, pvEq, cutF, partOf, truthPV, ownOf, lim, lim_lit0, lim_lit1, lim_lit2, lim_lit3, lim_lit4, lim_lit8, binF, methF, setAll, itemsOf, itsF, augOk, cLead, rA, hz, hcut]
    rw [whileL, hc, ht]
    cases m with
    | zero =>
      have : n = leadN t := by omega
      subst this
      have h0 : ¬ (t.drop (leadN t)).take 1 = [47] := fun q => absurd ((lead_drop t (leadN t) (Nat.le_refl _)).mp q) (Nat.lt_irrefl _)
      rw [decide_eq_false h0]
      rfl
    | succ m =>
      have h1 : (t.drop n).take 1 = [47] := (lead_drop t n (by omega)).mpr (by omega)
      rw [decide_eq_true h1]
      have e : Mine.exec Γ bLead (rA sc gv o t n) = some (.next, rA sc gv o t (n + 1)) := by
        simp [beq_list, callF, Mine.exec, evA, Ans.of, freeze, freeze1, esc, escB, escT, fspathF, sepF, bi2F, bi1F, clsOf, isSub, cmpF, pvEq, cutF, partOf, truthPV, ownOf, lim, lim_lit0, lim_lit1, lim_lit2, lim_lit3, lim_lit4, lim_lit8, binF, methF, setAll, itemsOf, itsF, augOk, bLead, rA]
      show (match Mine.exec Γ bLead (rA sc gv o t n) with
        | some (.next, ρ') => whileL (fun ρ => (evA Γ cLead (freeze (escT cLead) ρ)).tru.map fun x => (x, freeze (escT cLead) ρ)) (Mine.exec Γ bLead) fuel ρ'
        | some (.cont, ρ') => whileL (fun ρ => (evA Γ cLead (freeze (escT cLead) ρ)).tru.map fun x => (x, freeze (escT cLead) ρ)) (Mine.exec Γ bLead) fuel ρ'
        | some (.brk, ρ') => some (.next, ρ')
        | some (.ret r, ρ') => some (.ret r, ρ')
        | none => none) = _
      rw [e]
      exact lead_loop T m fuel (n + 1) (by omega) (by omega)
theorem leadN_le (t : List Nat) : leadN t ≤ t.length := by
  unfold leadN
  exact (List.takeWhile_sublist _).length_le
theorem z5_run (T : T3 t) : Mine.exec Γ z5 (rA sc gv o t 0) = some (.next, rA sc gv o t (leadN t)) :=
  lead_loop Γ sc gv o T (leadN t) FUEL 0 (Nat.zero_add _) (by have := leadN_le t; have := T.l; unfold FUEL; omega)
end
end Mine
end
section
namespace Mine
def textF (Γ : FEnv) (xs : List PV) : Option PV := (if xs.length = 1 then some xs else none).bind (callF Γ 5 msText)
def gsOf (ns : List Int) : List Int := if ns = [] then [26, 43] else ns
section
variable (Γ : FEnv)
theorem z0_run (ns : List Int) (hl : ns.length ≤ 100) : Mine.exec Γ z0 [some (.list (ns.map .int), 0), none, none, none, none, none, none, none, none, none, none, none, none, none, none] =
    some (.next, [some (.list (ns.map .int), 0), some (.list ((gsOf ns).map .int), 0), none, none, none, none, none, none, none, none, none, none, none, none, none]) := by
  have hz : ns.length ≤ LIM := by unfold LIM; omega
  cases ns with
  | nil => simp [beq_list, callF, Mine.exec, evA, Ans.of, freeze, freeze1, esc, escB, escT, fspathF, sepF, bi2F, bi1F, clsOf, isSub, cmpF, pvEq, cutF, partOf, truthPV, ownOf, lim, lim_lit0, lim_lit1, lim_lit2, lim_lit3, lim_lit4, lim_lit8, binF, methF, setAll, itemsOf, itsF, augOk, z0, gsOf]
  | cons a r => simp only [List.length_cons] at hz; simp [beq_list, callF, Mine.exec, evA, Ans.of, freeze, freeze1, esc, escB, escT, fspathF, sepF, bi2F, bi1F, clsOf, isSub, cmpF, pvEq, cutF, partOf, truthPV, ownOf, lim, lim_lit0, lim_lit1, lim_lit2, lim_lit3, lim_lit4, lim_lit8, binF, methF, setAll, itemsOf, itsF, augOk, z0, gsOf, hz]
theorem sum_val (gs : List Int) (ρ : List Slot) (h : ρ[1]? = some (some (.list (gs.map .int), 0))) : (evA Γ (.bi1 .sum (.var 1)) ρ).val = some (.int gs.sum, 0) := by
  have hi := intsOf_map gs
  simp [beq_list, callF, Mine.exec, evA, Ans.of, freeze, freeze1, esc, escB, escT, fspathF, sepF, bi2F, bi1F, clsOf, isSub, cmpF, pvEq, cutF, partOf, truthPV, ownOf, lim, lim_lit0, lim_lit1, lim_lit2, lim_lit3, lim_lit4, lim_lit8, binF, methF, setAll, itemsOf, itsF, augOk, h, hi]
theorem z1_run (sc : PV) (gs : List Int) : ∃ o : Bool, Mine.exec Γ z1 [some (sc, 0), some (.list (gs.map .int), 0), none, none, none, none, none, none, none, none, none, none, none, none, none] =
    some (.next, [some (sc, 0), some (.list (gs.map .int), 0), some (.bool o, 0), none, none, none, none, none, none, none, none, none, none, none, none]) := by
  have hi := intsOf_map gs
  refine ⟨((gs.sum.fdiv 4).fmod 2) == 1, ?_⟩
  simp [beq_list, callF, Mine.exec, evA, Ans.of, freeze, freeze1, esc, escB, escT, fspathF, sepF, bi2F, bi1F, clsOf, isSub, cmpF, pvEq, cutF, partOf, truthPV, ownOf, lim, lim_lit0, lim_lit1, lim_lit2, lim_lit3, lim_lit4, lim_lit8, binF, methF, setAll, itemsOf, itsF, augOk, z1, hi]
theorem z2_run (Γ' : FEnv) (h6 : Γ[6]? = some (textF Γ')) (sc : PV) (gs : List Int) (hl : gs.length ≤ 100) (o : Bool) : ∃ t, T3 t ∧ Mine.exec Γ z2 [some (sc, 0), some (.list (gs.map .int), 0), some (.bool o, 0), none, none, none, none, none, none, none, none, none, none, none, none] =
    some (.next, [some (sc, 0), some (.list (gs.map .int), 0), some (.bool o, 0), some (.txt false t, 0), none, none, none, none, none, none, none, none, none, none, none]) := by
  obtain ⟨t0, e0, s0, l0⟩ := text_run Γ' gs hl
  have ht : textF Γ' [.list (gs.map .int)] = some (.txt false t0) := e0
  have hi := intsOf_map gs
  have hm : 0 ≤ gs.sum.fmod 4 ∧ gs.sum.fmod 4 < 4 := by
    rw [Int.fmod_eq_emod_of_nonneg _ (by decide)]; omega
  have hq : goodL [[], [], [47], [47, 47]] := by
    intro p hp
    simp only [List.mem_cons, List.not_mem_nil, or_false] at hp
    rcases hp with rfl | rfl | rfl | rfl <;> exact ⟨by decide, by decide⟩
  obtain ⟨p, hp, ep⟩ := idx_good hq hm.1 hm.2
  have ep' : idxAt [PV.txt false [], PV.txt false [], PV.txt false [47], PV.txt false [47, 47]] (gs.sum.fmod 4) = some (.txt false p) := ep
  have hz : p.length + t0.length ≤ LIM := by have := hp.2; unfold LIM; omega
  refine ⟨p ++ t0, ⟨small_append hp.1 s0, by rw [List.length_append]; have := hp.2; omega⟩, ?_⟩
  simp [beq_list, callF, Mine.exec, evA, Ans.of, freeze, freeze1, esc, escB, escT, fspathF, sepF, bi2F, bi1F, clsOf, isSub, cmpF, pvEq, cutF, partOf, truthPV, ownOf, lim, lim_lit0, lim_lit1, lim_lit2, lim_lit3, lim_lit4, lim_lit8, binF, methF, setAll, itemsOf, itsF, augOk, z2, hi, h6, ht, idxF, ep', hz]
end
end Mine
end
section
namespace Mine
section
variable (Γ : FEnv)
theorem z3_run (GG : G3 Γ) (sc gv : PV) (o : Bool) {t : List Nat} (T : T3 t) : Mine.exec Γ z3 [some (sc, 0), some (gv, 0), some (.bool o, 0), some (.txt false t, 0), none, none, none, none, none, none, none, none, none, none, none] =
    some (.next, [some (sc, 0), some (gv, 0), some (.bool o, 0), some (.txt false t, 0), some (.txt o t, 0), none, none, none, none, none, none, none, none, none, none]) := by
  have hk1 : kindF [.txt false t, .bool o] = some (.txt o t) := by
    show (if small t = true ∧ t.length ≤ LIM then _ else _) = _
    rw [if_pos ⟨T.s, by have := T.l; unfold LIM; omega⟩]
  simp [beq_list, callF, Mine.exec, evA, Ans.of, freeze, freeze1, esc, escB, escT, fspathF, sepF, bi2F, bi1F, clsOf, isSub, cmpF, pvEq, cutF, partOf, truthPV, ownOf, lim, lim_lit0, lim_lit1, lim_lit2, lim_lit3, lim_lit4, lim_lit8, binF, methF, setAll, itemsOf, itsF, augOk, z3, GG.k, hk1]
theorem z4_run (sc gv : PV) (o : Bool) (t : List Nat) : Mine.exec Γ z4 [some (sc, 0), some (gv, 0), some (.bool o, 0), some (.txt false t, 0), some (.txt o t, 0), none, none, none, none, none, none, none, none, none, none] = some (.next, rA sc gv o t 0) := by
  simp [beq_list, callF, Mine.exec, evA, Ans.of, freeze, freeze1, esc, escB, escT, fspathF, sepF, bi2F, bi1F, clsOf, isSub, cmpF, pvEq, cutF, partOf, truthPV, ownOf, lim, lim_lit0, lim_lit1, lim_lit2, lim_lit3, lim_lit4, lim_lit8, binF, methF, setAll, itemsOf, itsF, augOk, z4, rA]
def rB (sc gv : PV) (o : Bool) (t : List Nat) : List Slot :=
  [some (sc, 0), some (gv, 0), some (.bool o, 0), some (.txt false t, 0), some (.txt o t, 0), some (.int (leadN t : Int), 0), some (.int ((wOf t).1 : Int), 0), some (.list ((wOf t).2.map (.txt false)), 0), none, none, none, none, none, none, none]
theorem z6_run (h7 : Γ[7]? = some heightsF) (sc gv : PV) (o : Bool) {t : List Nat} (T : T3 t) : Mine.exec Γ z6 (rA sc gv o t (leadN t)) = some (.next, rB sc gv o t) := by
  have hh : heightsF [.txt false t] = some (.tup [.int ((wOf t).1 : Int), .list ((wOf t).2.map (.txt false))]) := by
    show (if t.length ≤ 900 then _ else _) = _
    rw [if_pos (by have := T.l; omega)]
  simp [beq_list, callF, Mine.exec, evA, Ans.of, freeze, freeze1, esc, escB, escT, fspathF, sepF, bi2F, bi1F, clsOf, isSub, cmpF, pvEq, cutF, partOf, truthPV, ownOf, lim, lim_lit0, lim_lit1, lim_lit2, lim_lit3, lim_lit4, lim_lit8, binF, methF, setAll, itemsOf, itsF, augOk, z6, rA, rB, h7, hh]
theorem z7_run (sc gv : PV) (o : Bool) (t : List Nat) : Mine.exec Γ z7 (rB sc gv o t) = some (.next, ((rL sc gv o t [] [] 0 none none none none).set 9 none).set 10 none) := by
  simp [beq_list, callF, Mine.exec, evA, Ans.of, freeze, freeze1, esc, escB, escT, fspathF, sepF, bi2F, bi1F, clsOf, isSub, cmpF, pvEq, cutF, partOf, truthPV, ownOf, lim, lim_lit0, lim_lit1, lim_lit2, lim_lit3, lim_lit4, lim_lit8, binF, methF, setAll, itemsOf, itsF, augOk, z7, rB, rL]
theorem z9_run (GG : G3 Γ) (sc gv : PV) (o : Bool) {t : List Nat} (T : T3 t) (f : List Nat) (s10 a b c d : Slot) : ∃ ρ', Mine.exec Γ (.seq z9 .skip) ((rL sc gv o t (allEnds t) f 0 a b c d).set 10 s10) = some (.ret (.bool true), ρ') := by
  have ha : isabsF [.txt o t] = some (.bool ([47].isPrefixOf t)) := rfl
  have hlen : (allEnds t).length = 3 * ((wOf t).1 + 2) := by
    unfold allEnds
    rw [List.length_append, List.length_append, endsOf_len, endsOf_len, endsOf_len]; omega
  have hw := (wOf_sz T).1
  have hall := ends_all t
  cases hA : allEnds t with
  | nil => rw [hA] at hlen; simp [beq_list, callF, Mine.exec, evA, Ans.of, freeze, freeze1, esc, escB, escT, fspathF, sepF, bi2F, bi1F, clsOf, isSub, cmpF, pvEq, cutF, partOf, truthPV, ownOf, lim, lim_lit0, lim_lit1, lim_lit2, lim_lit3, lim_lit4, lim_lit8, binF, methF, setAll, itemsOf, itsF, augOk] at hlen
  | cons e0 r =>
    rw [hA] at hall hlen
    rw [List.headD_cons] at hall
    have hz : (e0 :: r).length ≤ LIM := by rw [hlen]; unfold LIM; omega
    have hm : binF .mul (.list [.txt o e0]) (.int ((e0 :: r).length : Int)) = some (.list ((List.replicate (e0 :: r).length e0).map (.txt o))) := by
      simp only [binF, List.length_singleton]
      rw [if_pos ⟨by rw [List.length_cons] at hlen ⊢; unfold LIM; omega, by omega, by rw [hlen]; omega⟩]
      simp [beq_list, callF, Mine.exec, evA, Ans.of, freeze, freeze1, esc, escB, escT, fspathF, sepF, bi2F, bi1F, clsOf, isSub, cmpF, pvEq, cutF, partOf, truthPV, ownOf, lim, lim_lit0, lim_lit1, lim_lit2, lim_lit3, lim_lit4, lim_lit8, binF, methF, setAll, itemsOf, itsF, augOk]
    have he := pvEq_txts o (e0 :: r) (List.replicate (e0 :: r).length e0)
    rw [hall] at he
    refine ⟨freeze (esc (.and_ (.bi2 .isinst (.fn 5 (.cons (.var 4) .nil)) (.lit (.cls "bool"))) (.cmp .eq (.fn 5 (.cons (.var 4) .nil)) (.cmp .eq (.var 8) (.bin .mul (.list (.cons (.idx (.var 8) (.lit (.int 0))) .nil)) (.bi1 .len (.var 8))))))) ((rL sc gv o t (e0 :: r) f 0 a b c d).set 10 s10), ?_⟩
    generalize hρ : (freeze (esc (.and_ (.bi2 .isinst (.fn 5 (.cons (.var 4) .nil)) (.lit (.cls "bool"))) (.cmp .eq (.fn 5 (.cons (.var 4) .nil)) (.cmp .eq (.var 8) (.bin .mul (.list (.cons (.idx (.var 8) (.lit (.int 0))) .nil)) (.bi1 .len (.var 8))))))) ((rL sc gv o t (e0 :: r) f 0 a b c d).set 10 s10)) = ρ
    have hρ' : ρ = (rL sc gv o t (e0 :: r) f 0 a b c d).set 10 s10 := by rw [← hρ]; rfl
    have v4 : (evA Γ (.fn 5 (.cons (.var 4) .nil)) ρ).val = some (.bool ([47].isPrefixOf t), 0) := by
      rw [hρ']; simp [beq_list, callF, Mine.exec, evA, Ans.of, freeze, freeze1, esc, escB, escT, fspathF, sepF, bi2F, bi1F, clsOf, isSub, cmpF, pvEq, cutF, partOf, truthPV, ownOf, lim, lim_lit0, lim_lit1, lim_lit2, lim_lit3, lim_lit4, lim_lit8, binF, methF, setAll, itemsOf, itsF, augOk, rL, GG.a, ha]
    have v8 : (evA Γ (.var 8) ρ).val = some (.list ((e0 :: r).map (.txt o)), 1) := by rw [hρ']; rfl
    have vl : (evA Γ (.bi1 .len (.var 8)) ρ).val = some (.int ((e0 :: r).length : Int), 0) := by
      show ((evA Γ (.var 8) ρ).val.bind fun x => (bi1F .len x).map fun z => (z, 0)) = _
      rw [v8]
      show (if ((e0 :: r).map (PV.txt o)).length ≤ LIM then some (PV.int (((e0 :: r).map (PV.txt o)).length : Int)) else none).map (fun z => (z, 0)) = _
      rw [List.length_map, if_pos hz]; rfl
    have vi : (evA Γ (.list (.cons (.idx (.var 8) (.lit (.int 0))) .nil)) ρ).val = some (.list [.txt o e0], 0) := by
      have v0 : (evA Γ (.idx (.var 8) (.lit (.int 0))) ρ).val = some (.txt o e0, 0) := by
        show (match (evA Γ (.var 8) ρ).val, some ((PV.int 0, 0) : PV × Nat) with
          | some (x, l), some (y, _) => idxF x l y
          | _, _ => none) = _
        rw [v8]
        show (if ((e0 :: r).map (PV.txt o)).length ≤ LIM then (idxAt ((e0 :: r).map (PV.txt o)) 0).map fun x => (x, 1 - 1) else none) = _
        rw [List.length_map, if_pos hz]; rfl
      generalize ME.idx (.var 8) (.lit (.int 0)) = I at v0
      simp [beq_list, callF, Mine.exec, evA, Ans.of, freeze, freeze1, esc, escB, escT, fspathF, sepF, bi2F, bi1F, clsOf, isSub, cmpF, pvEq, cutF, partOf, truthPV, ownOf, lim, lim_lit0, lim_lit1, lim_lit2, lim_lit3, lim_lit4, lim_lit8, binF, methF, setAll, itemsOf, itsF, augOk, v0]
    have vm : (evA Γ (.bin .mul (.list (.cons (.idx (.var 8) (.lit (.int 0))) .nil)) (.bi1 .len (.var 8))) ρ).val = some (.list ((List.replicate (e0 :: r).length e0).map (.txt o)), 0) := by
      show (match (evA Γ (.list (.cons (.idx (.var 8) (.lit (.int 0))) .nil)) ρ).val, (evA Γ (.bi1 .len (.var 8)) ρ).val with
        | some (x, l), some (y, l') => if l ≤ 1 ∧ l' ≤ 1 then (binF .mul x y).map fun z => (z, 0) else none
        | _, _ => none) = _
      rw [vi, vl]
      dsimp only
      rw [if_pos ⟨Nat.zero_le _, Nat.zero_le _⟩, hm]; rfl
    have ve : (evA Γ (.cmp .eq (.var 8) (.bin .mul (.list (.cons (.idx (.var 8) (.lit (.int 0))) .nil)) (.bi1 .len (.var 8)))) ρ).val = some (.bool ([47].isPrefixOf t), 0) := by
      show (match (evA Γ (.var 8) ρ).val, (evA Γ (.bin .mul (.list (.cons (.idx (.var 8) (.lit (.int 0))) .nil)) (.bi1 .len (.var 8))) ρ).val with
        | some (x, _), some (y, _) => (cmpF .eq x y).map fun c => (PV.bool c, 0)
        | _, _ => none) = _
      rw [v8, vm]
      show (pvEq 4 (.list ((e0 :: r).map (.txt o))) (.list ((List.replicate (e0 :: r).length e0).map (.txt o)))).map (fun c => (PV.bool c, 0)) = _
      rw [he]; rfl
    have vA : (evA Γ (.bi2 .isinst (.fn 5 (.cons (.var 4) .nil)) (.lit (.cls "bool"))) ρ).val = some (.bool true, 0) := by
      show (match (evA Γ (.fn 5 (.cons (.var 4) .nil)) ρ).val, some ((PV.cls "bool", 0) : PV × Nat) with
        | some x, some y => (bi2F .isinst x y).map fun z => (z, 0)
        | _, _ => none) = _
      rw [v4]; rfl
    have vB : (evA Γ (.cmp .eq (.fn 5 (.cons (.var 4) .nil)) (.cmp .eq (.var 8) (.bin .mul (.list (.cons (.idx (.var 8) (.lit (.int 0))) .nil)) (.bi1 .len (.var 8))))) ρ).val = some (.bool true, 0) := by
      show (match (evA Γ (.fn 5 (.cons (.var 4) .nil)) ρ).val, (evA Γ (.cmp .eq (.var 8) (.bin .mul (.list (.cons (.idx (.var 8) (.lit (.int 0))) .nil)) (.bi1 .len (.var 8)))) ρ).val with
        | some (x, _), some (y, _) => (cmpF .eq x y).map fun c => (PV.bool c, 0)
        | _, _ => none) = _
      rw [v4, ve]
      cases [47].isPrefixOf t <;> rfl
    have vAnd : (evA Γ (.and_ (.bi2 .isinst (.fn 5 (.cons (.var 4) .nil)) (.lit (.cls "bool"))) (.cmp .eq (.fn 5 (.cons (.var 4) .nil)) (.cmp .eq (.var 8) (.bin .mul (.list (.cons (.idx (.var 8) (.lit (.int 0))) .nil)) (.bi1 .len (.var 8)))))) ρ).val = some (.bool true, 0) := by
      show (match (evA Γ (.bi2 .isinst (.fn 5 (.cons (.var 4) .nil)) (.lit (.cls "bool"))) ρ).val with
        | some (x, 0) => (match truthPV x with | some true => (evA Γ (.cmp .eq (.fn 5 (.cons (.var 4) .nil)) (.cmp .eq (.var 8) (.bin .mul (.list (.cons (.idx (.var 8) (.lit (.int 0))) .nil)) (.bi1 .len (.var 8))))) ρ).val | some false => some (x, 0) | none => none)
        | _ => none) = _
      rw [vA]
      exact vB
    show (match (match (evA Γ (.and_ (.bi2 .isinst (.fn 5 (.cons (.var 4) .nil)) (.lit (.cls "bool"))) (.cmp .eq (.fn 5 (.cons (.var 4) .nil)) (.cmp .eq (.var 8) (.bin .mul (.list (.cons (.idx (.var 8) (.lit (.int 0))) .nil)) (.bi1 .len (.var 8)))))) (freeze (esc (.and_ (.bi2 .isinst (.fn 5 (.cons (.var 4) .nil)) (.lit (.cls "bool"))) (.cmp .eq (.fn 5 (.cons (.var 4) .nil)) (.cmp .eq (.var 8) (.bin .mul (.list (.cons (.idx (.var 8) (.lit (.int 0))) .nil)) (.bi1 .len (.var 8))))))) ((rL sc gv o t (e0 :: r) f 0 a b c d).set 10 s10))).val with
        | some (v, 0) => some (Fl.ret v, freeze (esc (.and_ (.bi2 .isinst (.fn 5 (.cons (.var 4) .nil)) (.lit (.cls "bool"))) (.cmp .eq (.fn 5 (.cons (.var 4) .nil)) (.cmp .eq (.var 8) (.bin .mul (.list (.cons (.idx (.var 8) (.lit (.int 0))) .nil)) (.bi1 .len (.var 8))))))) ((rL sc gv o t (e0 :: r) f 0 a b c d).set 10 s10))
        | _ => none) with
      | some (.next, ρ') => Mine.exec Γ .skip ρ'
      | r => r) = _
    rw [hρ, vAnd]
    rfl
theorem law3_run (GG : G3 Γ) (Γ' : FEnv) (h6 : Γ[6]? = some (textF Γ')) (h7 : Γ[7]? = some heightsF) (ns : List Int) (hl : ns.length ≤ 90) :
    ∃ ρ', Mine.exec Γ msLaw3 [some (.list (ns.map .int), 0), none, none, none, none, none, none, none, none, none, none, none, none, none, none] = some (.ret (.bool true), ρ') := by
  have hg : (gsOf ns).length ≤ 100 := by
    unfold gsOf
    split
    · decide
    · omega
  obtain ⟨o, e1⟩ := z1_run Γ (.list (ns.map .int)) (gsOf ns)
  obtain ⟨t, T, e2⟩ := z2_run Γ Γ' h6 (.list (ns.map .int)) (gsOf ns) hg o
  obtain ⟨s10', a, b, c, d, e8⟩ := z8_run Γ (.list (ns.map .int)) (.list ((gsOf ns).map .int)) o (t := t) none none none none none none GG T
  obtain ⟨ρ', e9⟩ := z9_run Γ GG (.list (ns.map .int)) (.list ((gsOf ns).map .int)) o T [47, 47] s10' a b c d
  refine ⟨ρ', ?_⟩
  rw [law_parts, exec_seq Γ (z0_run Γ ns (by omega)), exec_seq Γ e1, exec_seq Γ e2, exec_seq Γ (z3_run Γ GG _ _ o T), exec_seq Γ (z4_run Γ _ _ o t), exec_seq Γ (z5_run Γ _ _ o T)]
  have e6 := z6_run Γ h7 (.list (ns.map .int)) (.list ((gsOf ns).map .int)) o T
  have e7 := z7_run Γ (.list (ns.map .int)) (.list ((gsOf ns).map .int)) o t
  rw [exec_seq Γ e6, exec_seq Γ e7, exec_seq Γ e8]
  exact e9
end
end Mine
end
set_option maxRecDepth 100000 in
set_option maxHeartbeats 8000000 in
open_top hd for PySem.Challenge.rw_kq0046_03
section
namespace Mine
open Builtin
set_option maxRecDepth 100000

def sl_fspath : List Str := (["path", "kind", "hook", "given"] : List String).map Str.ofString
def sl_sep : List Str := (["path"] : List String).map Str.ofString
def sl_join : List Str := (["a", "p", "sep", "path", "b"] : List String).map Str.ofString
def sl_splitroot : List Str := (["p", "sep", "empty"] : List String).map Str.ofString
def sl_normpath : List Str := (["path", "sep", "dot", "dotdot", "_", "initial_slashes", "comps", "new_comps", "comp"] : List String).map Str.ofString
def sl_isabs : List Str := (["s", "sep"] : List String).map Str.ofString
def sl_text : List Str := (["script", "signs", "x", "n", "kinds"] : List String).map Str.ofString
def sl_heights : List Str := (["path", "pieces", "sign", "height", "low", "last", "piece"] : List String).map Str.ofString
def sl_kind : List Str := (["text", "octets"] : List String).map Str.ofString
def fns0 : List Str := ([] : List String).map Str.ofString
def fns1 : List Str := (["fspath"] : List String).map Str.ofString
def fns2 : List Str := (["fspath", "_get_sep"] : List String).map Str.ofString
def fns3 : List Str := (["fspath", "_get_sep", "join"] : List String).map Str.ofString
def fns4 : List Str := (["fspath", "_get_sep", "join", "splitroot"] : List String).map Str.ofString
def fns5 : List Str := (["fspath", "_get_sep", "join", "splitroot", "normpath"] : List String).map Str.ofString
def fns6 : List Str := (["fspath", "_get_sep", "join", "splitroot", "normpath", "isabs"] : List String).map Str.ofString
def fns7 : List Str := (["fspath", "_get_sep", "join", "splitroot", "normpath", "isabs", "_law_text"] : List String).map Str.ofString
def fns8 : List Str := (["fspath", "_get_sep", "join", "splitroot", "normpath", "isabs", "_law_text", "_law_heights"] : List String).map Str.ofString
def fns9 : List Str := (["fspath", "_get_sep", "join", "splitroot", "normpath", "isabs", "_law_text", "_law_heights", "_law_kind"] : List String).map Str.ofString
section
variable (p : Params)
theorem bgh : bgB (hd.heap_39 p) = true := by kernel_rfl
theorem fd_fspath : fdOkB (hd.heap_39 p) 94 sl_fspath 1 = true := by kernel_rfl
theorem if_fspath : isFnB (hd.heap_39 p) 94 = true := by kernel_rfl
theorem cb_fspath : cB fns0 (([] : List String).map Str.ofString) 60 (CC.of sl_fspath (fdAt (hd.heap_39 p) 94).scope) (bodyOf (fdAt (hd.heap_39 p) 94)) = msFspath := by kernel_rfl
theorem gl_fspath : nsIn (hd.heap_39 p) mainGlobals (Str.ofString "fspath") = some (some (.ref 94)) := by kernel_rfl
theorem bd_fspath : ∀ vs : List Value, vs.length = 1 → bindArgs (fdAt (hd.heap_39 p) 94) ⟨vs, []⟩ = pure ((sl_fspath.take 1).zip vs)
  | [v0], _ => by kernel_rfl
theorem fd_sep : fdOkB (hd.heap_39 p) 108 sl_sep 1 = true := by kernel_rfl
theorem if_sep : isFnB (hd.heap_39 p) 108 = true := by kernel_rfl
theorem cb_sep : cB fns1 (([] : List String).map Str.ofString) 60 (CC.of sl_sep (fdAt (hd.heap_39 p) 108).scope) (bodyOf (fdAt (hd.heap_39 p) 108)) = msSep := by kernel_rfl
theorem gl_sep : nsIn (hd.heap_39 p) mainGlobals (Str.ofString "_get_sep") = some (some (.ref 108)) := by kernel_rfl
theorem bd_sep : ∀ vs : List Value, vs.length = 1 → bindArgs (fdAt (hd.heap_39 p) 108) ⟨vs, []⟩ = pure ((sl_sep.take 1).zip vs)
  | [v0], _ => by kernel_rfl
theorem fd_join : fdOkB (hd.heap_39 p) 122 sl_join 2 = true := by kernel_rfl
theorem if_join : isFnB (hd.heap_39 p) 122 = true := by kernel_rfl
theorem cb_join : cB fns2 (([] : List String).map Str.ofString) 60 (CC.of sl_join (fdAt (hd.heap_39 p) 122).scope) (bodyOf (fdAt (hd.heap_39 p) 122)) = msJoin := by kernel_rfl
theorem gl_join : nsIn (hd.heap_39 p) mainGlobals (Str.ofString "join") = some (some (.ref 122)) := by kernel_rfl
theorem bd_join : ∀ (v : Value) (vs : List Value), bindArgs (fdAt (hd.heap_39 p) 122) ⟨v :: vs, []⟩ = (do let t ← newTuple vs; pure [(Str.ofString "a", v), (Str.ofString "p", t)]) := by
  intro v vs
  cases vs with
  | nil => kernel_rfl
  | cons u us => kernel_rfl
theorem fd_splitroot : fdOkB (hd.heap_39 p) 129 sl_splitroot 1 = true := by kernel_rfl
theorem if_splitroot : isFnB (hd.heap_39 p) 129 = true := by kernel_rfl
theorem cb_splitroot : cB fns3 (([] : List String).map Str.ofString) 60 (CC.of sl_splitroot (fdAt (hd.heap_39 p) 129).scope) (bodyOf (fdAt (hd.heap_39 p) 129)) = msSplitroot := by kernel_rfl
theorem gl_splitroot : nsIn (hd.heap_39 p) mainGlobals (Str.ofString "splitroot") = some (some (.ref 129)) := by kernel_rfl
theorem bd_splitroot : ∀ vs : List Value, vs.length = 1 → bindArgs (fdAt (hd.heap_39 p) 129) ⟨vs, []⟩ = pure ((sl_splitroot.take 1).zip vs)
  | [v0], _ => by kernel_rfl
theorem fd_normpath : fdOkB (hd.heap_39 p) 136 sl_normpath 1 = true := by kernel_rfl
theorem if_normpath : isFnB (hd.heap_39 p) 136 = true := by kernel_rfl
theorem cb_normpath : cB fns4 ((["new_comps"] : List String).map Str.ofString) 60 (CC.of sl_normpath (fdAt (hd.heap_39 p) 136).scope) (bodyOf (fdAt (hd.heap_39 p) 136)) = msNormpath := by kernel_rfl
theorem gl_normpath : nsIn (hd.heap_39 p) mainGlobals (Str.ofString "normpath") = some (some (.ref 136)) := by kernel_rfl
theorem bd_normpath : ∀ vs : List Value, vs.length = 1 → bindArgs (fdAt (hd.heap_39 p) 136) ⟨vs, []⟩ = pure ((sl_normpath.take 1).zip vs)
  | [v0], _ => by kernel_rfl
theorem fd_isabs : fdOkB (hd.heap_39 p) 115 sl_isabs 1 = true := by kernel_rfl
theorem if_isabs : isFnB (hd.heap_39 p) 115 = true := by kernel_rfl
theorem cb_isabs : cB fns5 (([] : List String).map Str.ofString) 60 (CC.of sl_isabs (fdAt (hd.heap_39 p) 115).scope) (bodyOf (fdAt (hd.heap_39 p) 115)) = msIsabs := by kernel_rfl
theorem gl_isabs : nsIn (hd.heap_39 p) mainGlobals (Str.ofString "isabs") = some (some (.ref 115)) := by kernel_rfl
theorem bd_isabs : ∀ vs : List Value, vs.length = 1 → bindArgs (fdAt (hd.heap_39 p) 115) ⟨vs, []⟩ = pure ((sl_isabs.take 1).zip vs)
  | [v0], _ => by kernel_rfl
theorem fd_text : fdOkB (hd.heap_39 p) 143 sl_text 1 = true := by kernel_rfl
theorem if_text : isFnB (hd.heap_39 p) 143 = true := by kernel_rfl
theorem cb_text : cB fns6 ((["signs"] : List String).map Str.ofString) 60 (CC.of sl_text (fdAt (hd.heap_39 p) 143).scope) (bodyOf (fdAt (hd.heap_39 p) 143)) = msText := by kernel_rfl
theorem gl_text : nsIn (hd.heap_39 p) mainGlobals (Str.ofString "_law_text") = some (some (.ref 143)) := by kernel_rfl
theorem bd_text : ∀ vs : List Value, vs.length = 1 → bindArgs (fdAt (hd.heap_39 p) 143) ⟨vs, []⟩ = pure ((sl_text.take 1).zip vs)
  | [v0], _ => by kernel_rfl
theorem fd_heights : fdOkB (hd.heap_39 p) 148 sl_heights 1 = true := by kernel_rfl
theorem if_heights : isFnB (hd.heap_39 p) 148 = true := by kernel_rfl
theorem cb_heights : cB fns7 ((["pieces", "last"] : List String).map Str.ofString) 60 (CC.of sl_heights (fdAt (hd.heap_39 p) 148).scope) (bodyOf (fdAt (hd.heap_39 p) 148)) = msHeights := by kernel_rfl
theorem gl_heights : nsIn (hd.heap_39 p) mainGlobals (Str.ofString "_law_heights") = some (some (.ref 148)) := by kernel_rfl
theorem bd_heights : ∀ vs : List Value, vs.length = 1 → bindArgs (fdAt (hd.heap_39 p) 148) ⟨vs, []⟩ = pure ((sl_heights.take 1).zip vs)
  | [v0], _ => by kernel_rfl
theorem fd_kind : fdOkB (hd.heap_39 p) 153 sl_kind 2 = true := by kernel_rfl
theorem if_kind : isFnB (hd.heap_39 p) 153 = true := by kernel_rfl
theorem cb_kind : cB fns8 (([] : List String).map Str.ofString) 60 (CC.of sl_kind (fdAt (hd.heap_39 p) 153).scope) (bodyOf (fdAt (hd.heap_39 p) 153)) = msKind := by kernel_rfl
theorem gl_kind : nsIn (hd.heap_39 p) mainGlobals (Str.ofString "_law_kind") = some (some (.ref 153)) := by kernel_rfl
theorem bd_kind : ∀ vs : List Value, vs.length = 2 → bindArgs (fdAt (hd.heap_39 p) 153) ⟨vs, []⟩ = pure ((sl_kind.take 2).zip vs)
  | [v0, v1], _ => by kernel_rfl
end
section
variable {prog : Program} {w : World} {mg mb : Str → Option Value} {p : Params} {h : Heap}
noncomputable abbrev WL (prog : Program) (w : World) (mg mb : Str → Option Value) (p : Params) : Wld := ⟨prog, w, mg, mb, hd.heap_39 p⟩
def gam0 : FEnv := []
def gam1 : FEnv := [fspathF]
def gam2 : FEnv := [fspathF, sepF]
def gam3 : FEnv := [fspathF, sepF, joinF]
def gam4 : FEnv := [fspathF, sepF, joinF, splitrootF]
def gam5 : FEnv := [fspathF, sepF, joinF, splitrootF, normpathF]
def gam6 : FEnv := [fspathF, sepF, joinF, splitrootF, normpathF, isabsF]
def gam7 : FEnv := [fspathF, sepF, joinF, splitrootF, normpathF, isabsF, (textF gam6)]
def gam8 : FEnv := [fspathF, sepF, joinF, splitrootF, normpathF, isabsF, (textF gam6), heightsF]
def gam9 : FEnv := [fspathF, sepF, joinF, splitrootF, normpathF, isabsF, (textF gam6), heightsF, kindF]
theorem gok0 : GOk (WL prog w mg mb p) gam0 0 fns0 := GOk.nil
theorem fok_fspath (H : HeadOk mg mb (hd.heap_39 p) h) : FunOk (WL prog w mg mb p) 1 94 fspathF := by
  refine fun_at (W := WL prog w mg mb p) (Γ := gam0) (fns := fns0) (owns := ([] : List String).map Str.ofString) (slots := sl_fspath) (np := 1) (n := 60) (H.bg (bgh p)) (gok0) (fd_fspath p) (packs_plain (n := 1) rfl (bd_fspath p)) ?_
  intro xs z hz
  show (_ : Option (List PV)).bind (callF gam0 _ (cB fns0 _ 60 (CC.of sl_fspath (fdAt (hd.heap_39 p) 94).scope) (bodyOf (fdAt (hd.heap_39 p) 94)))) = some z
  rw [cb_fspath p]
  exact run_fspath gam0 xs z hz
theorem gok1 (H : HeadOk mg mb (hd.heap_39 p) h) : GOk (WL prog w mg mb p) gam1 1 fns1 := GOk.snoc ((gok0).mono (Nat.le_succ _)) rfl (H.glob (gl_fspath p)) (if_fspath p) (fok_fspath H)
theorem fok_sep (H : HeadOk mg mb (hd.heap_39 p) h) : FunOk (WL prog w mg mb p) 2 108 sepF := by
  refine fun_at (W := WL prog w mg mb p) (Γ := gam1) (fns := fns1) (owns := ([] : List String).map Str.ofString) (slots := sl_sep) (np := 1) (n := 60) (H.bg (bgh p)) (gok1 H) (fd_sep p) (packs_plain (n := 1) rfl (bd_sep p)) ?_
  intro xs z hz
  show (_ : Option (List PV)).bind (callF gam1 _ (cB fns1 _ 60 (CC.of sl_sep (fdAt (hd.heap_39 p) 108).scope) (bodyOf (fdAt (hd.heap_39 p) 108)))) = some z
  rw [cb_sep p]
  exact run_sep gam1 xs z hz
theorem gok2 (H : HeadOk mg mb (hd.heap_39 p) h) : GOk (WL prog w mg mb p) gam2 2 fns2 := GOk.snoc ((gok1 H).mono (Nat.le_succ _)) rfl (H.glob (gl_sep p)) (if_sep p) (fok_sep H)
theorem fok_join (H : HeadOk mg mb (hd.heap_39 p) h) : FunOk (WL prog w mg mb p) 3 122 joinF := by
  refine fun_at (W := WL prog w mg mb p) (Γ := gam2) (fns := fns2) (owns := ([] : List String).map Str.ofString) (slots := sl_join) (np := 2) (n := 60) (H.bg (bgh p)) (gok2 H) (fd_join p) (packs_var (bd_join p)) ?_
  intro xs z hz
  show (_ : Option (List PV)).bind (callF gam2 _ (cB fns2 _ 60 (CC.of sl_join (fdAt (hd.heap_39 p) 122).scope) (bodyOf (fdAt (hd.heap_39 p) 122)))) = some z
  rw [cb_join p]
  exact run_join gam2 rfl rfl xs z hz
theorem gok3 (H : HeadOk mg mb (hd.heap_39 p) h) : GOk (WL prog w mg mb p) gam3 3 fns3 := GOk.snoc ((gok2 H).mono (Nat.le_succ _)) rfl (H.glob (gl_join p)) (if_join p) (fok_join H)
theorem fok_splitroot (H : HeadOk mg mb (hd.heap_39 p) h) : FunOk (WL prog w mg mb p) 4 129 splitrootF := by
  refine fun_at (W := WL prog w mg mb p) (Γ := gam3) (fns := fns3) (owns := ([] : List String).map Str.ofString) (slots := sl_splitroot) (np := 1) (n := 60) (H.bg (bgh p)) (gok3 H) (fd_splitroot p) (packs_plain (n := 1) rfl (bd_splitroot p)) ?_
  intro xs z hz
  show (_ : Option (List PV)).bind (callF gam3 _ (cB fns3 _ 60 (CC.of sl_splitroot (fdAt (hd.heap_39 p) 129).scope) (bodyOf (fdAt (hd.heap_39 p) 129)))) = some z
  rw [cb_splitroot p]
  exact run_splitroot gam3 rfl xs z hz
theorem gok4 (H : HeadOk mg mb (hd.heap_39 p) h) : GOk (WL prog w mg mb p) gam4 4 fns4 := GOk.snoc ((gok3 H).mono (Nat.le_succ _)) rfl (H.glob (gl_splitroot p)) (if_splitroot p) (fok_splitroot H)
theorem fok_normpath (H : HeadOk mg mb (hd.heap_39 p) h) : FunOk (WL prog w mg mb p) 5 136 normpathF := by
  refine fun_at (W := WL prog w mg mb p) (Γ := gam4) (fns := fns4) (owns := (["new_comps"] : List String).map Str.ofString) (slots := sl_normpath) (np := 1) (n := 60) (H.bg (bgh p)) (gok4 H) (fd_normpath p) (packs_plain (n := 1) rfl (bd_normpath p)) ?_
  intro xs z hz
  show (_ : Option (List PV)).bind (callF gam4 _ (cB fns4 _ 60 (CC.of sl_normpath (fdAt (hd.heap_39 p) 136).scope) (bodyOf (fdAt (hd.heap_39 p) 136)))) = some z
  rw [cb_normpath p]
  exact run_normpath gam4 rfl rfl xs z hz
theorem gok5 (H : HeadOk mg mb (hd.heap_39 p) h) : GOk (WL prog w mg mb p) gam5 5 fns5 := GOk.snoc ((gok4 H).mono (Nat.le_succ _)) rfl (H.glob (gl_normpath p)) (if_normpath p) (fok_normpath H)
theorem fok_isabs (H : HeadOk mg mb (hd.heap_39 p) h) : FunOk (WL prog w mg mb p) 6 115 isabsF := by
  refine fun_at (W := WL prog w mg mb p) (Γ := gam5) (fns := fns5) (owns := ([] : List String).map Str.ofString) (slots := sl_isabs) (np := 1) (n := 60) (H.bg (bgh p)) (gok5 H) (fd_isabs p) (packs_plain (n := 1) rfl (bd_isabs p)) ?_
  intro xs z hz
  show (_ : Option (List PV)).bind (callF gam5 _ (cB fns5 _ 60 (CC.of sl_isabs (fdAt (hd.heap_39 p) 115).scope) (bodyOf (fdAt (hd.heap_39 p) 115)))) = some z
  rw [cb_isabs p]
  exact run_isabs gam5 rfl rfl xs z hz
theorem gok6 (H : HeadOk mg mb (hd.heap_39 p) h) : GOk (WL prog w mg mb p) gam6 6 fns6 := GOk.snoc ((gok5 H).mono (Nat.le_succ _)) rfl (H.glob (gl_isabs p)) (if_isabs p) (fok_isabs H)
theorem fok_text (H : HeadOk mg mb (hd.heap_39 p) h) : FunOk (WL prog w mg mb p) 7 143 (textF gam6) := by
  refine fun_at (W := WL prog w mg mb p) (Γ := gam6) (fns := fns6) (owns := (["signs"] : List String).map Str.ofString) (slots := sl_text) (np := 1) (n := 60) (H.bg (bgh p)) (gok6 H) (fd_text p) (packs_plain (n := 1) rfl (bd_text p)) ?_
  intro xs z hz
  show (_ : Option (List PV)).bind (callF gam6 _ (cB fns6 _ 60 (CC.of sl_text (fdAt (hd.heap_39 p) 143).scope) (bodyOf (fdAt (hd.heap_39 p) 143)))) = some z
  rw [cb_text p]
  exact (fun xs z hz => hz) xs z hz
theorem gok7 (H : HeadOk mg mb (hd.heap_39 p) h) : GOk (WL prog w mg mb p) gam7 7 fns7 := GOk.snoc ((gok6 H).mono (Nat.le_succ _)) rfl (H.glob (gl_text p)) (if_text p) (fok_text H)
theorem fok_heights (H : HeadOk mg mb (hd.heap_39 p) h) : FunOk (WL prog w mg mb p) 8 148 heightsF := by
  refine fun_at (W := WL prog w mg mb p) (Γ := gam7) (fns := fns7) (owns := (["pieces", "last"] : List String).map Str.ofString) (slots := sl_heights) (np := 1) (n := 60) (H.bg (bgh p)) (gok7 H) (fd_heights p) (packs_plain (n := 1) rfl (bd_heights p)) ?_
  intro xs z hz
  show (_ : Option (List PV)).bind (callF gam7 _ (cB fns7 _ 60 (CC.of sl_heights (fdAt (hd.heap_39 p) 148).scope) (bodyOf (fdAt (hd.heap_39 p) 148)))) = some z
  rw [cb_heights p]
  exact run_heights gam7 xs z hz
theorem gok8 (H : HeadOk mg mb (hd.heap_39 p) h) : GOk (WL prog w mg mb p) gam8 8 fns8 := GOk.snoc ((gok7 H).mono (Nat.le_succ _)) rfl (H.glob (gl_heights p)) (if_heights p) (fok_heights H)
theorem fok_kind (H : HeadOk mg mb (hd.heap_39 p) h) : FunOk (WL prog w mg mb p) 9 153 kindF := by
  refine fun_at (W := WL prog w mg mb p) (Γ := gam8) (fns := fns8) (owns := ([] : List String).map Str.ofString) (slots := sl_kind) (np := 2) (n := 60) (H.bg (bgh p)) (gok8 H) (fd_kind p) (packs_plain (n := 2) rfl (bd_kind p)) ?_
  intro xs z hz
  show (_ : Option (List PV)).bind (callF gam8 _ (cB fns8 _ 60 (CC.of sl_kind (fdAt (hd.heap_39 p) 153).scope) (bodyOf (fdAt (hd.heap_39 p) 153)))) = some z
  rw [cb_kind p]
  exact run_kind gam8 xs z hz
theorem gok9 (H : HeadOk mg mb (hd.heap_39 p) h) : GOk (WL prog w mg mb p) gam9 9 fns9 := GOk.snoc ((gok8 H).mono (Nat.le_succ _)) rfl (H.glob (gl_kind p)) (if_kind p) (fok_kind H)
end
end Mine
end
namespace Mine
def slLaw3 : List Str := (["script", "given", "octets", "text", "path", "lead", "ups", "names", "ends", "front", "deep", "place", "whole", "due", "above"] : List String).map Str.ofString
theorem law3_end {prog : Program} {w : World} {mg mb : Str → Option Value} {p : Params} {s0 s1 : Shared} {name : Str} {scope : Scope} {fa : Addr} {cd : Value} {body : List Stmt} {m : Str → Option Value} {a : Addr} {vs : List Value} {ns : List Int}
    (H : HeadOk mg mb (hd.heap_39 p) s0.heap) (hcb : cB fns9 ((["ends"] : List String).map Str.ofString) 60 (CC.of slLaw3 scope) body = msLaw3) (hsc : scopeOkB slLaw3 scope 1 = true) (hnc : ∀ y, decide (scope.names.lookup y = some .cell) = false)
    (F : Fr s0.heap s0.heap.objs.size s1.heap m) (hsame : ∃ h tk, s1 = { s0 with heap := h, toks := tk }) (hm : m (Str.ofString "script") = some (.ref a)) (hl : s0.heap.PlainList a vs.toArray) (hI : IntsAre vs ns) (hn : ns.length ≤ 63)
    (A : Around) (hroom : Room A 9) (E : Value → Shared → Prop) (Q : Flow → Shared → Prop) (q : ∀ s' : Shared, (∃ h tk, s' = { s0 with heap := h, toks := tk }) → (∀ b o, s0.heap.get? b = some o → s'.heap.get? b = some o) → Q (.ret (.bool true)) s') :
    wpAny (model prog w) A (execs body (envOf name scope s0.heap.objs.size fa cd)) Q E s1 := by
  have sc := scopeOk_of hsc
  have S := top_frame (W := WL prog w mg mb p) (k := 9) (cc := CC.of slLaw3 scope) (env := envOf name scope s0.heap.objs.size fa cd) (A := A) (x := Str.ofString "script") (v := .ref a) (pv := .list (ns.map .int)) hroom H.on sc.kind rfl rfl rfl rfl F.ns F.keep hsame sc hnc
    (fun y i hy => by
      rcases sc.st y i hy with h | h
      · exact h
      · have := hnc y; rw [h] at this; simp at this) hm (by show 1 ≤ slLaw3.length; decide) (.list trivial hl (rep_ints hI))
  have hb := cB_sound (owns := (["ends"] : List String).map Str.ofString) (H.bg (bgh p)) (gok9 (prog := prog) (w := w) H) sc.good 60 body
  rw [hcb] at hb
  obtain ⟨ρ', e⟩ := law3_run gam9 ⟨rfl, rfl, rfl, rfl⟩ gam6 rfl rfl ns (by omega)
  refine hb A _ _ _ _ _ _ _ _ _ S e E Q fun own' s' f S' hf => ?_
  obtain ⟨v, rfl, hv⟩ := hf
  cases hv
  exact q s' S'.same S'.kept
theorem headOk {pr : Program} {loose : List Str} {mean : ExcName → Option Value} {mg mb : Str → Option Value} {K : Frag} {h : Heap} (T : Top pr loose mean mg mb h) (KX : K.In h) : HeadOk mg mb K h := ⟨T.g, T.b, T.nolimit, KX, T.builtins⟩
theorem nocell {names : List (Str × NameKind)} (h : (names.all fun x => !(decide (x.2 = .cell))) = true) (y : Str) : decide (names.lookup y = some .cell) = false := by
  apply decide_eq_false
  intro q
  have := List.all_eq_true.mp h _ (lookup_mem q)
  simp at this
theorem room9 (env : Env) : Room (callerA.deeper env) 9 := ⟨rfl, by show callerA.depth + 1 + 2 * 9 < 900; decide, by show callerA.units + 3 + 200 * 9 + 200 < cLine; decide⟩
end Mine
set_option maxRecDepth 100000 in
set_option maxHeartbeats 8000000 in
theorem PySem.Challenge.cw_kq0046_03_holds : PySem.Challenge.rw_kq0046_03.Holds := by
  refine hd ?_
  w_strict
  k_go0
  rename_i wF F N0
  have T1 := ‹Top _ _ _ _ _ _›
  have KX1 := ‹(hd.heap_39 _).In _›
  have hI1 := ‹IntsAre _ _›
  have w1 := ‹Well _ _ _ _›
  have hL1 := ‹Heap.IsList _ _ _›
  refine Mine.law3_end (Mine.headOk T1 KX1) (by kernel_rfl) (by kernel_rfl) (Mine.nocell (by kernel_rfl)) F ⟨_, _, rfl⟩ rfl ?_ hI1 (by omega) _ (Mine.room9 _) _ _ fun s' hs hk => ?_
  · cases w1
    rename_i h0 h1
    obtain ⟨o, ho, _, n, hd'⟩ := hL1
    rw [h0] at ho
    cases ho
    exact ⟨_, by rw [h0]; cases hd'; rfl⟩
  · obtain ⟨hh, tk, rfl⟩ := hs
    refine ⟨.inl ⟨.bool true, .bool true, [], rfl, fun _ => rfl, .bool true, ?_, fun _ => ⟨.nil, fun _ h => nomatch h⟩⟩, hk, rfl, by assumption⟩
    wrow_post
