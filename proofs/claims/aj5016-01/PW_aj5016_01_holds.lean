import PyProof.Rows.All
import Wide.All
import OpenK.AllK
import Wide.FinOn
import PySem.Challenge.RW_aj5016_01
set_option Elab.async false

-- part Core1
section
open PySem PySem.W PyProof.Rows PySem.Calls PySem.Spec
set_option maxRecDepth 100000
set_option linter.unusedVariables false
namespace Mine

/-! ## values that stand for data: ints, bools, texts, tuples and lists (never a dict) -/
mutual
inductive Rp (h : Heap) : Value → PyData → Prop
  | none : Rp h .none .none
  | bool (b : Bool) : Rp h (.bool b) (.bool b)
  | int (i : Int) (t : Tok) : Rp h (.int i t) (.int i)
  | str (x : Str) (t : Tok) : Rp h (.str x t) (.str x)
  | list {a : Addr} {o : Obj} {vs : Array Value} {n : Nat} {xs : List PyData} : h.get? a = some o → o.cls = .type "list" → o.data = .seq vs n → RpL h vs.toList xs → Rp h (.ref a) (.list xs)
  | tuple {a : Addr} {o : Obj} {vs : Array Value} {n : Nat} {xs : List PyData} : h.get? a = some o → o.cls = .type "tuple" → o.data = .seq vs n → RpL h vs.toList xs → Rp h (.ref a) (.tuple xs)
inductive RpL (h : Heap) : List Value → List PyData → Prop
  | nil : RpL h [] []
  | cons {v : Value} {vs : List Value} {d : PyData} {ds : List PyData} : Rp h v d → RpL h vs ds → RpL h (v :: vs) (d :: ds)
end

mutual
theorem Rp.reads {h : Heap} : ∀ {v : Value} {d : PyData}, Rp h v d → ∃ as, Reads h v d as
  | _, _, .none => ⟨_, .none⟩
  | _, _, .bool b => ⟨_, .bool b⟩
  | _, _, .int i t => ⟨_, .int i t⟩
  | _, _, .str x t => ⟨_, .str x t⟩
  | _, _, .list h1 h2 h3 r => let ⟨_, q⟩ := RpL.reads r; ⟨_, .list h1 h2 h3 q⟩
  | _, _, .tuple h1 h2 h3 r => let ⟨_, q⟩ := RpL.reads r; ⟨_, .tuple h1 h2 h3 q⟩
theorem RpL.reads {h : Heap} : ∀ {vs : List Value} {ds : List PyData}, RpL h vs ds → ∃ as, ReadsAll h vs ds as
  | _, _, .nil => ⟨_, .nil⟩
  | _, _, .cons x r => let ⟨_, p⟩ := Rp.reads x; let ⟨_, q⟩ := RpL.reads r; ⟨_, .cons p q⟩
end

/-- seq objects stay -/
def SeqKeep (h h' : Heap) : Prop := ∀ a o vs n, h.get? a = some o → o.data = .seq vs n → h'.get? a = some o
mutual
theorem Rp.mono {h h' : Heap} (k : SeqKeep h h') : ∀ {v : Value} {d : PyData}, Rp h v d → Rp h' v d
  | _, _, .none => .none
  | _, _, .bool b => .bool b
  | _, _, .int i t => .int i t
  | _, _, .str x t => .str x t
  | _, _, .list h1 h2 h3 r => .list (k _ _ _ _ h1 h3) h2 h3 (RpL.mono k r)
  | _, _, .tuple h1 h2 h3 r => .tuple (k _ _ _ _ h1 h3) h2 h3 (RpL.mono k r)
theorem RpL.mono {h h' : Heap} (k : SeqKeep h h') : ∀ {vs : List Value} {ds : List PyData}, RpL h vs ds → RpL h' vs ds
  | _, _, .nil => .nil
  | _, _, .cons x r => .cons (Rp.mono k x) (RpL.mono k r)
end
theorem SeqKeep.of {h h' : Heap} (k : ∀ b o, h.get? b = some o → h'.get? b = some o) : SeqKeep h h' := fun a o _ _ e _ => k a o e
theorem SeqKeep.same {h h' : Heap} {L : Addr} {m : Str → Option Value} (hn : h.Ns L m) (hs : Heap.SameBut L h h') : SeqKeep h h' := fun a o vs n e hd => by
  by_cases hL : a = L
  · subst hL
    obtain ⟨o', es, ep, e', hd', _⟩ := hn
    rw [e] at e'; cases e'
    rw [hd] at hd'; cases hd'
  · exact (hs.2 a hL).trans e
theorem SeqKeep.refl (h : Heap) : SeqKeep h h := fun _ _ _ _ e _ => e
theorem SeqKeep.trans {a b c : Heap} (x : SeqKeep a b) (y : SeqKeep b c) : SeqKeep a c := fun p o vs n e hd => y p o vs n (x p o vs n e hd) hd

theorem RpL.length {h : Heap} : ∀ {vs : List Value} {ds : List PyData}, RpL h vs ds → vs.length = ds.length
  | _, _, .nil => rfl
  | _, _, .cons _ r => by rw [List.length_cons, List.length_cons, RpL.length r]
theorem RpL.append {h : Heap} : ∀ {vs ws : List Value} {ds es : List PyData}, RpL h vs ds → RpL h ws es → RpL h (vs ++ ws) (ds ++ es)
  | _, _, _, _, .nil, k => k
  | _, _, _, _, .cons x r, k => .cons x (RpL.append r k)
theorem RpL.get {h : Heap} : ∀ {vs : List Value} {ds : List PyData} {i : Nat} {d : PyData}, RpL h vs ds → ds[i]? = some d → ∃ v, vs[i]? = some v ∧ Rp h v d
  | _, _, _, _, .nil, e => by simp at e
  | _, _, 0, _, .cons x r, e => by simp at e; subst e; exact ⟨_, rfl, x⟩
  | _, _, i + 1, _, .cons x r, e => by simpa using RpL.get r (by simpa using e)
theorem RpL.getV {h : Heap} : ∀ {vs : List Value} {ds : List PyData} {i : Nat} {v : Value}, RpL h vs ds → vs[i]? = some v → ∃ d, ds[i]? = some d ∧ Rp h v d
  | _, _, _, _, .nil, e => by simp at e
  | _, _, 0, _, .cons x r, e => by simp at e; subst e; exact ⟨_, rfl, x⟩
  | _, _, i + 1, _, .cons x r, e => by simpa using RpL.getV r (by simpa using e)
theorem RpL.drop {h : Heap} : ∀ {vs : List Value} {ds : List PyData} (n : Nat), RpL h vs ds → RpL h (vs.drop n) (ds.drop n)
  | _, _, 0, r => r
  | _, _, n + 1, .nil => .nil
  | _, _, n + 1, .cons _ r => by simpa using RpL.drop n r

/-! ## the small language -/
inductive Bi | len | min | max | abs | divmod | int
mutual
inductive IE
  | loc (i : Nat)
  | glob (i : Nat)
  | int (n : Int)
  | bool (b : Bool)
  | bin (op : Operator) (a b : IE)
  | neg (a : IE)
  | not (a : IE)
  | bop (op : BoolOp) (es : IEs)
  | cmp (op : CmpOp) (a b : IE)
  | chain (o p : CmpOp) (a b c : IE)
  | ite (t a b : IE)
  | call (f : Nat) (as : IEs)
  | bi (b : Bi) (as : IEs)
  | bitlen (a : IE)
  | item (a i : IE)
  | tail (a : IE)
  | dsub (t : Nat) (k : IE)
  | tup (es : IEs)
  | lst (es : IEs)
  | comp (elt src : IE)
  | junk
inductive IEs
  | nil
  | cons (e : IE) (r : IEs)
end
mutual
inductive IS
  | ret (e : IE)
  | set (i : Nat) (e : IE)
  | set2 (i j : Nat) (e : IE)
  | unp (is : List Nat) (e : IE)
  | aug (i : Nat) (op : Operator) (e : IE)
  | ite (t : IE) (a b : ISs)
  | assert (t : IE)
  | for (i : Nat) (src : IE) (body : ISs)
  | setc (i : Nat) (elt src : IE)
  | junk
inductive ISs
  | nil
  | cons (s : IS) (r : ISs)
end

/-! ## its values -/
abbrev bits (a : Int) : Nat := Builtin.Int.intBits a
def binD : Operator → PyData → PyData → Option PyData
  | .Add, .int a, .int b => some (.int (a + b))
  | .Sub, .int a, .int b => some (.int (a - b))
  | .Mult, .int a, .int b => if bits a + bits b ≤ 134217728 then some (.int (a * b)) else none
  | .FloorDiv, .int a, .int b => if b ≠ 0 ∧ bits b ≤ 1000 then some (.int (a.fdiv b)) else none
  | .Mod, .int a, .int b => if b ≠ 0 then some (.int (a.fmod b)) else none
  | .Pow, .int a, .int n => if 0 ≤ n ∧ (bits a : Int) * n ≤ 2 ^ 27 then some (.int (a ^ n.toNat)) else none
  | .LShift, .int a, .int n => if 0 ≤ n ∧ (bits a : Int) + n ≤ 2 ^ 27 then some (.int (a * 2 ^ n.toNat)) else none
  | .RShift, .int a, .int n => if 0 ≤ n then some (.int (a.fdiv (2 ^ n.toNat))) else none
  | .BitAnd, .int a, .int b => some (.int (Builtin.bitAnd a b))
  | .BitXor, .int a, .int b => some (.int (Builtin.bitXor a b))
  | .Add, .tuple xs, .tuple ys => if xs.length + ys.length ≤ 1000 ∧ xs ≠ [] ∧ ys ≠ [] then some (.tuple (xs ++ ys)) else none
  | _, _, _ => none
def augD : Operator → PyData → PyData → Option PyData
  | .Add, .int a, .int b => binD .Add (.int a) (.int b)
  | .Sub, .int a, .int b => binD .Sub (.int a) (.int b)
  | .RShift, .int a, .int b => binD .RShift (.int a) (.int b)
  | .Pow, .int a, .int b => binD .Pow (.int a) (.int b)
  | .BitXor, .int a, .int b => binD .BitXor (.int a) (.int b)
  | _, _, _ => none
def negD : PyData → Option PyData
  | .int a => some (.int (-a))
  | _ => none
def truth : PyData → Option Bool
  | .int a => some (a != 0)
  | .bool b => some b
  | _ => none
def cmpD : CmpOp → PyData → PyData → Option Bool
  | .Eq, .int a, .int b => some (a == b)
  | .NotEq, .int a, .int b => some (a != b)
  | .Lt, .int a, .int b => some (decide (a < b))
  | .LtE, .int a, .int b => some (decide (a ≤ b))
  | .Gt, .int a, .int b => some (decide (a > b))
  | .GtE, .int a, .int b => some (decide (a ≥ b))
  | .Eq, .str x, .str y => some (x.cps.toList == y.cps.toList)
  | .Eq, .tuple xs, .tuple ys => if SeqAt.shaped (.tuple xs) = true ∧ SeqAt.shaped (.tuple ys) = true then some (PyData.eqv (.tuple xs) (.tuple ys)) else none
  | .NotEq, .tuple xs, .tuple ys => if SeqAt.shaped (.tuple xs) = true ∧ SeqAt.shaped (.tuple ys) = true then some (!PyData.eqv (.tuple xs) (.tuple ys)) else none
  | .In, x, .list ys => if SeqAt.shaped (.list ys) = true ∧ SeqAt.shaped x = true then some (ys.any fun y => PyData.eqv y x) else none
  | _, _, _ => none
def itemD : PyData → PyData → Option PyData
  | .tuple xs, .int k => if 0 ≤ k ∧ k < 2 ^ 63 then xs[k.toNat]? else none
  | .list xs, .int k => if 0 ≤ k ∧ k < 2 ^ 63 then xs[k.toNat]? else none
  | _, _ => none
def tailD : PyData → Option PyData
  | .list xs => if 1 ≤ xs.length ∧ xs.length ≤ 1000 then some (.list (xs.drop 1)) else none
  | _ => none
def lenD : List PyData → Option PyData
  | [.list xs] => if xs.length < 1000 then some (.int xs.length) else none
  | _ => none
def minD : List PyData → Option PyData
  | [.int a, .int b] => some (.int (if b < a then b else a))
  | _ => none
def maxD : List PyData → Option PyData
  | [.int a, .int b] => some (.int (if b > a then b else a))
  | _ => none
def absD : List PyData → Option PyData
  | [.int a] => some (.int (if a < 0 then -a else a))
  | _ => none
def divmodD : List PyData → Option PyData
  | [.int a, .int b] => if b ≠ 0 ∧ bits b ≤ 1000 then some (.tuple [.int (a.fdiv b), .int (a.fmod b)]) else none
  | _ => none
def intD : List PyData → Option PyData
  | [.int a] => some (.int a)
  | _ => none
def biD : Bi → List PyData → Option PyData
  | .len => lenD
  | .min => minD
  | .max => maxD
  | .abs => absD
  | .divmod => divmodD
  | .int => intD
def dsubD (t : List (Str × PyData)) : PyData → Option PyData
  | .str x => t.lookup x
  | _ => none

mutual
def noList : PyData → Bool
  | .list _ => false
  | .dict _ => false
  | .tuple xs => noLists xs
  | _ => true
def noLists : List PyData → Bool
  | [] => true
  | d :: ds => noList d && noLists ds
end
def mapO {α β : Type} (f : α → Option β) : List α → Option (List β)
  | [] => some []
  | x :: xs => match f x, mapO f xs with
    | some y, some ys => some (y :: ys)
    | _, _ => none
structure GT where
  dat : List (Str × PyData)
  fns : List (Str × Addr)
  tab : List (Str × List (Str × PyData))

abbrev Loc := List (Option PyData)
def getD (ρ : Loc) (i : Nat) : Option PyData := match ρ[i]? with
  | some (some d) => some d
  | _ => none

section
variable (G : GT) (C : Nat → List PyData → Option PyData)
mutual
def ev (ρ : Loc) : IE → Option PyData
  | .loc i => getD ρ i
  | .glob i => (G.dat[i]?).map (·.2)
  | .int n => some (.int n)
  | .bool b => some (.bool b)
  | .bin op a b => match ev ρ a, ev ρ b with
    | some x, some y => binD op x y
    | _, _ => none
  | .neg a => match ev ρ a with
    | some x => negD x
    | none => none
  | .not a => match ev ρ a with
    | some x => (match truth x with
      | some t => some (.bool (!t))
      | none => none)
    | none => none
  | .bop op es => evB ρ op es
  | .cmp op a b => match ev ρ a, ev ρ b with
    | some x, some y => (match cmpD op x y with
      | some t => some (.bool t)
      | none => none)
    | _, _ => none
  | .chain o p a b c => match ev ρ a, ev ρ b with
    | some x, some y => (match cmpD o x y with
      | some true => (match ev ρ c with
        | some z => (match cmpD p y z with
          | some t => some (.bool t)
          | none => none)
        | none => none)
      | some false => some (.bool false)
      | none => none)
    | _, _ => none
  | .ite t a b => match ev ρ t with
    | some x => (match truth x with
      | some true => ev ρ a
      | some false => ev ρ b
      | none => none)
    | none => none
  | .call f as => match evs ρ as with
    | some xs => C f xs
    | none => none
  | .bi b as => match evs ρ as with
    | some xs => biD b xs
    | none => none
  | .bitlen a => match ev ρ a with
    | some (.int x) => some (.int (bits x))
    | _ => none
  | .item a i => match ev ρ a, ev ρ i with
    | some x, some k => itemD x k
    | _, _ => none
  | .tail a => match ev ρ a with
    | some x => tailD x
    | none => none
  | .dsub t k => match G.tab[t]?, ev ρ k with
    | some (_, l), some d => dsubD l d
    | _, _ => none
  | .tup es => match evs ρ es with
    | some xs => if xs.length ≤ 1000 then some (.tuple xs) else none
    | none => none
  | .lst es => match evs ρ es with
    | some xs => if xs.length ≤ 1000 then some (.list xs) else none
    | none => none
  | .comp elt src => match ev ρ src with
    | some (.tuple xs) => if xs.length ≤ 1000 then (match mapO (fun d => ev (some d :: ρ) elt) xs with
      | some ys => if noLists ys = true then some (.list ys) else none
      | none => none) else none
    | _ => none
  | .junk => none
def evs (ρ : Loc) : IEs → Option (List PyData)
  | .nil => some []
  | .cons e r => match ev ρ e, evs ρ r with
    | some x, some xs => some (x :: xs)
    | _, _ => none
def evB (ρ : Loc) (op : BoolOp) : IEs → Option PyData
  | .nil => none
  | .cons e r => match r with
    | .nil => ev ρ e
    | .cons _ _ => (match ev ρ e with
      | some x => (match truth x with
        | some t => (match op with
          | .And => if t then evB ρ op r else some x
          | .Or => if t then some x else evB ρ op r)
        | none => none)
      | none => none)
end

inductive Fl
  | ret (d : PyData)
  | next (ρ : Loc)
def forD (step : PyData → Loc → Option Fl) : List PyData → Loc → Option Fl
  | [], ρ => some (.next ρ)
  | x :: xs, ρ => match step x ρ with
    | some (.next ρ') => forD step xs ρ'
    | r => r
def setAll : List Nat → List PyData → Loc → Option Loc
  | [], [], ρ => some ρ
  | i :: is, d :: ds, ρ => setAll is ds (ρ.set i (some d))
  | _, _, _ => none
mutual
def ex (ρ : Loc) : IS → Option Fl
  | .ret e => match ev G C ρ e with
    | some d => some (.ret d)
    | none => none
  | .set i e => match ev G C ρ e with
    | some d => some (.next (ρ.set i (some d)))
    | none => none
  | .set2 i j e => match ev G C ρ e with
    | some d => some (.next ((ρ.set i (some d)).set j (some d)))
    | none => none
  | .unp is e => match ev G C ρ e with
    | some (.tuple xs) => (setAll is xs ρ).map .next
    | some (.list xs) => (setAll is xs ρ).map .next
    | _ => none
  | .aug i op e => match getD ρ i, ev G C ρ e with
    | some x, some y => (match augD op x y with
      | some d => some (.next (ρ.set i (some d)))
      | none => none)
    | _, _ => none
  | .ite t a b => match ev G C ρ t with
    | some x => (match truth x with
      | some true => exs ρ a
      | some false => exs ρ b
      | none => none)
    | none => none
  | .assert t => match ev G C ρ t with
    | some x => (match truth x with
      | some true => some (.next ρ)
      | _ => none)
    | none => none
  | .for i src body => match ev G C ρ src with
    | some (.list xs) => if xs.length ≤ 1000 then forD (fun d ρ => exs (ρ.set i (some d)) body) xs ρ else none
    | _ => none
  | .setc i elt src => match ev G C ρ (.comp elt src) with
    | some d => some (.next (ρ.set i (some d)))
    | none => none
  | .junk => none
def exs (ρ : Loc) : ISs → Option Fl
  | .nil => some (.next ρ)
  | .cons s r => match ex ρ s with
    | some (.next ρ') => exs ρ' r
    | r => r
end
end

structure FR where
  k : Nat
  dfl : List PyData
  nl : Nat
  body : ISs

def run (G : GT) (T : List FR) : Nat → Nat → List PyData → Option PyData
  | 0, _, _ => none
  | n + 1, f, args => match T[f]? with
    | none => none
    | some r => if args.length ≤ r.k ∧ r.k ≤ args.length + r.dfl.length then (match exs G (run G T n) ((args ++ r.dfl.drop (args.length + r.dfl.length - r.k)).map some ++ List.replicate (r.nl - r.k) none) r.body with
      | some (.ret d) => some d
      | _ => none) else none
end Mine

end

-- part Core2
section
open PySem PySem.W PyProof.Rows PySem.Calls PySem.Spec
set_option maxRecDepth 100000
set_option linter.unusedVariables false
namespace Mine

def AOk (n : Nat) (A : Around) : Prop := A.handled = none ∧ A.depth + n < recursionLimit ∧ A.units + 8 * n + 200 < cLine
theorem AOk.le {m n : Nat} {A : Around} (h : AOk n A) (hm : m ≤ n) : AOk m A := ⟨h.1, by have := h.2.1; omega, by have := h.2.2; omega⟩
theorem AOk.deeper {n : Nat} {A : Around} (h : AOk (n + 1) A) (env : Env) : AOk n (A.deeper env) :=
  ⟨h.1, by have := h.2.1; show A.depth + 1 + n < _; omega, by have := h.2.2; show A.units + 3 + 8 * n + 200 < _; omega⟩

theorem kp_refl (s : Shared) : Keeps s s := ⟨s.heap, s.toks, rfl, fun _ _ e => e⟩
theorem kp_trans {a b c : Shared} (x : Keeps a b) (y : Keeps b c) : Keeps a c := by
  obtain ⟨h, t, rfl, k⟩ := x
  obtain ⟨h', t', rfl, k'⟩ := y
  exact ⟨h', t', rfl, fun b o e => k' b o (k b o e)⟩
theorem kp_toks (s : Shared) (t : Nat) : Keeps s { s with toks := t } := ⟨s.heap, t, rfl, fun _ _ e => e⟩
theorem kp_mk (s : Shared) (h : Heap) (t : Nat) (k : ∀ b o, s.heap.get? b = some o → h.get? b = some o) : Keeps s { s with heap := h, toks := t } := ⟨h, t, rfl, k⟩
theorem kp_get {s s' : Shared} (x : Keeps s s') : ∀ b o, s.heap.get? b = some o → s'.heap.get? b = some o := by
  obtain ⟨h, t, rfl, k⟩ := x; exact k
theorem kp_push (s : Shared) (o : Obj) (t : Nat) : Keeps s { s with heap := s.heap.push o, toks := t } := ⟨_, t, rfl, fun _ _ e => Heap.get?_push_of_some _ e⟩
theorem Rp.keeps {s s' : Shared} (k : Keeps s s') {v : Value} {d : PyData} (h : Rp s.heap v d) : Rp s'.heap v d := h.mono (SeqKeep.of (kp_get k))
theorem RpL.keeps {s s' : Shared} (k : Keeps s s') {v : List Value} {d : List PyData} (h : RpL s.heap v d) : RpL s'.heap v d := h.mono (SeqKeep.of (kp_get k))

section
variable {prog : Program} {w : World} {A : Around} {E : Value → Shared → Prop} {s : Shared}

theorem small_div {a b : Int} (h : bits b ≤ 1000) : Builtin.divisionGoesByPylong a b = false := by
  refine PyProof.noPylong_of_log2 ?_
  have : bits b = if b == 0 then 0 else b.natAbs.log2 + 1 := rfl
  rw [this] at h
  by_cases hb : b = 0
  · subst hb; decide +kernel
  · have : (b == 0) = false := by simpa using hb
    rw [this] at h
    simp only [Bool.false_eq_true, if_false] at h
    omega

theorem bin_ok {op : Operator} {x y : Value} {a b d : PyData} {Q : Value → Shared → Prop} (hx : Rp s.heap x a) (hy : Rp s.heap y b) (e : binD op a b = some d)
    (h : ∀ v s', Keeps s s' → Rp s'.heap v d → Q v s') : wpAny (model prog w) A (binaryOp op x y) Q E s := by
  have hi : ∀ (i : Int), d = .int i → Q (.int i s.toks) { s with toks := s.toks + 1 } := fun i e => h _ _ (kp_toks ..) (e ▸ Rp.int _ _)
  unfold binD at e
  split at e
  · cases hx; cases hy; cases e; exact PyProof.Rows.add_int (hi _ rfl)
  · cases hx; cases hy; cases e; exact PyProof.Rows.sub_int (hi _ rfl)
  · cases hx; cases hy; split at e
    · rename_i hb; cases e; exact PySem.P.mul_int (hi _ rfl) (IntMulOk.of_le (Nat.le_refl _) (Nat.le_refl _) hb)
    · cases e
  · cases hx; cases hy; split at e
    · rename_i hb; cases e; exact PyProof.Rows.floordiv_int hb.1 (hi _ rfl) (.inl (small_div hb.2))
    · cases e
  · cases hx; cases hy; split at e
    · rename_i hb; cases e; exact PyProof.Rows.mod_int' hb (hi _ rfl)
    · cases e
  · cases hx; cases hy; split at e
    · rename_i hb; cases e; exact PyProof.Rows.pow_int hb.1 hb.2 (hi _ rfl)
    · cases e
  · cases hx; cases hy; split at e
    · rename_i hb; cases e; exact PyProof.Rows.lshift_int hb.1 hb.2 (hi _ rfl)
    · cases e
  · cases hx; cases hy; split at e
    · rename_i hb; cases e; exact PyProof.Rows.rshift_int hb (hi _ rfl)
    · cases e
  · cases hx; cases hy; cases e; exact PyProof.Rows.and_int (hi _ rfl)
  · cases hx; cases hy; cases e; exact PyProof.Rows.xor_int (hi _ rfl)
  · rename_i xs ys
    split at e
    · rename_i hb
      cases e
      cases hx with
      | tuple h1 h2 h3 r =>
      cases hy with
      | tuple k1 k2 k3 q =>
        rename_i t o vs n b o2 ws n2
        obtain ⟨cls, dd, data, sl⟩ := o
        obtain ⟨cls2, dd2, data2, sl2⟩ := o2
        simp only at h2 h3 k2 k3
        subst h2 h3 k2 k3
        have l1 := RpL.length r
        have l2 := RpL.length q
        refine concat_meets ⟨_, h1, rfl⟩ ⟨_, k1, rfl⟩ noFill_tuple_add seq_tuple_add PySem.F.slot_tuple_add PySem.F.entry_tuple_add (PySem.F.args_tuple_add_2 _ _)
          (tuple_addW2 t b vs ws n n2 dd dd2 sl sl2 (fun e => hb.2.1 (by
            have : vs = #[] := by simpa using e
            subst this; cases r; rfl)) (fun e => hb.2.2 (by
            have : ws = #[] := by simpa using e
            subst this; cases q; rfl)) (by
            rw [sizeLine_eq]; simp only [Array.length_toList] at l1 l2; omega)) ⟨h1, k1, ?_⟩
        refine h _ _ (kp_push s _ s.toks) ?_
        refine Rp.tuple (Heap.get?_push_size _ rfl) rfl rfl ?_
        rw [Array.toList_append]
        exact (r.append q).mono (SeqKeep.of fun _ _ e => Heap.get?_push_of_some _ e)
    · cases e
  · cases e

theorem aug_ok {op : Operator} {x y : Value} {a b d : PyData} {Q : Value → Shared → Prop} (hx : Rp s.heap x a) (hy : Rp s.heap y b) (e : augD op a b = some d)
    (h : ∀ v s', Keeps s s' → Rp s'.heap v d → Q v s') : wpAny (model prog w) A (inplaceOp op x y) Q E s := by
  have hi : ∀ (i : Int), d = .int i → Q (.int i s.toks) { s with toks := s.toks + 1 } := fun i e => h _ _ (kp_toks ..) (e ▸ Rp.int _ _)
  unfold augD at e
  split at e
  · cases hx; cases hy; cases e; exact PyProof.Rows.iadd_int (hi _ rfl)
  · cases hx; cases hy; cases e; exact PyProof.Rows.isub_int (hi _ rfl)
  · cases hx; cases hy; simp only [binD] at e; split at e
    · rename_i hb; cases e; exact PyProof.Rows.irshift_int hb (hi _ rfl)
    · cases e
  · cases hx; cases hy; simp only [binD] at e; split at e
    · rename_i hb; cases e; exact PyProof.Rows.ipow_int hb.1 hb.2 (hi _ rfl)
    · cases e
  · cases hx; cases hy; cases e; exact PyProof.Rows.ixor_int (hi _ rfl)
  · cases e

theorem truth_ok {x : Value} {a : PyData} {b : Bool} {Q : Bool → Shared → Prop} (hx : Rp s.heap x a) (e : truth a = some b) (h : ∀ s', Keeps s s' → Q b s') : wpAny (model prog w) A (truthy x) Q E s := by
  unfold truth at e
  split at e
  · cases hx; cases e; exact PyProof.Rows.truthy_int (h _ (kp_refl _))
  · cases hx; cases e; exact wpAny_truthy_bool (h _ (kp_refl _))
  · cases e

theorem cmp_ok {op : CmpOp} {x y : Value} {a b : PyData} {t : Bool} {Q : Value → Shared → Prop} (hu : A.units + 200 < cLine) (hx : Rp s.heap x a) (hy : Rp s.heap y b) (e : cmpD op a b = some t)
    (h : ∀ s', Keeps s s' → Q (.bool t) s') : wpAny (model prog w) A (compareOp op x y) Q E s := by
  have h0 := h _ (kp_refl _)
  unfold cmpD at e
  split at e
  · cases hx; cases hy; cases e; exact PyProof.Rows.eq_int h0
  · cases hx; cases hy; cases e; exact PyProof.Rows.ne_int h0
  · cases hx; cases hy; cases e; exact PyProof.Rows.lt_int h0
  · cases hx; cases hy; cases e; exact PyProof.Rows.le_int h0
  · cases hx; cases hy; cases e; exact PyProof.Rows.gt_int h0
  · cases hx; cases hy; cases e; exact PyProof.Rows.ge_int h0
  · cases hx; cases hy; cases e; exact PySem.P.eq_str h0
  · split at e
    · rename_i hb; cases e
      obtain ⟨as, ra⟩ := hx.reads
      obtain ⟨bs, rb⟩ := hy.reads
      exact eq_dataH ra rb hb.1 hb.2 (by omega) h0
    · cases e
  · split at e
    · rename_i hb; cases e
      obtain ⟨as, ra⟩ := hx.reads
      obtain ⟨bs, rb⟩ := hy.reads
      exact ne_dataH ra rb hb.1 hb.2 (by omega) h0
    · cases e
  · split at e
    · rename_i hb; cases e
      obtain ⟨as, ra⟩ := hx.reads
      obtain ⟨bs, rb⟩ := hy.reads
      have h1 := hb.1
      have h2 := hb.2
      unfold SeqAt.shaped at h1 h2
      rw [Bool.and_eq_true] at h1 h2
      refine SeqAt.in_list_reads rb ra (by simpa [PyData.canLay0] using h1.1) h2.1 ?_ h0
      have h3 := of_decide_eq_true h2.2
      refine Nat.lt_of_le_of_lt (Nat.add_le_add_left (Nat.le_trans (Nat.min_le_right _ _) h3) _) ?_
      omega
    · cases e
  · cases e

theorem isTup_of {x : Addr} {o : Obj} {vs : Array Value} {n : Nat} (h1 : s.heap.get? x = some o) (h2 : o.cls = .type "tuple") (h3 : o.data = .seq vs n) : IsTup s.heap x vs := ⟨o, h1, h2, n, h3⟩

theorem item_ok {value slice : Expr} {x k : Value} {a i d : PyData} {Q : Value → Shared → Prop} (hx : Rp s.heap x a) (hk : Rp s.heap k i) (e : itemD a i = some d)
    (hs : ∀ o i, subscripted slice false o i = operate [o, i] (getItem o i)) (h : ∀ v s', Keeps s s' → Rp s'.heap v d → Q v s') :
    wpAny (model prog w) A (subscriptTail value slice x k) Q E s := by
  unfold itemD at e
  split at e
  · rename_i xs k0
    split at e
    · rename_i hb
      cases hk
      cases hx with
      | tuple h1 h2 h3 r =>
        rename_i p o vs n
        obtain ⟨v, hv, hr⟩ := r.get e
        have T := isTup_of h1 h2 h3
        have hi : seqIndex? k0 vs.size = some k0.toNat := seqIndex_of hb.1 (by
          obtain ⟨q, _⟩ := List.getElem?_eq_some_iff.mp hv
          rw [Array.length_toList] at q
          have := hb.1
          omega)
        exact tail_any (IsTup.typeIs T) slot_tuple_getitem.lookup (getItem_tuple T (by omega) hb.2 hi (by rw [← Array.getElem?_toList]; exact hv) (h _ _ (kp_refl _) hr)) (hs _ _)
    · cases e
  · split at e
    · rename_i hb
      cases hk
      cases hx with
      | list h1 h2 h3 r =>
        obtain ⟨v, hv, hr⟩ := r.get e
        have hL : s.heap.IsList _ _ := ⟨_, h1, h2, _, h3⟩
        exact tail_any hL.typeIs slot_list_getitem.lookup (wpAny_getItem_list hL hb.1 hb.2 (by rw [← Array.getElem?_toList]; exact hv) (h _ _ (kp_refl _) hr)) (hs _ _)
    · cases e
  · cases e
end
end Mine

end

-- part Core3
section
open PySem PySem.W PyProof.Rows PySem.Calls PySem.Spec
set_option maxRecDepth 100000
set_option linter.unusedVariables false
namespace Mine

def Bi.name : Bi → Str
  | .len => "len" | .min => "min" | .max => "max" | .abs => "abs" | .divmod => "divmod" | .int => "int"
def isStar : Expr → Bool
  | .Starred .. => true
  | _ => false
def isSlice : Expr → Bool
  | .Slice .. => true
  | _ => false
def oneMore : Expr → Bool
  | .Slice (some (.Constant (.int 1) _ _)) none none _ => true
  | _ => false
def plainBase : Expr → Bool
  | .Name .. => true
  | .BinOp .. => true
  | _ => false
def relNames (kd names : List (Str × NameKind)) : List (Str × NameKind) :=
  names.map fun (n, k) => if (k == .free && kd.lookup n == some .cell) then (n, .cell) else (n, k)
/-- the free names are cells outside -/
def freeOk (kd names : List (Str × NameKind)) : Bool := names.all fun y => !(y.2 == .free) || kd.lookup y.1 == some .cell
def seen (kd : List (Str × NameKind)) (x : Str) : Bool := kd.lookup x == some .local || kd.lookup x == some .cell

def isSet : Expr → Bool
  | .Set .. => true
  | _ => false
def compOk (kd : List (Str × NameKind)) (ks : List Str) (x : Str) (sc : Scope) (it : Expr) : Bool :=
  sc.kind == .function && freeOk kd sc.names && !ks.contains x && sc.names.all (fun y => !(y.2 == .cell)) && sc.names.all (fun y => !(y.2 == .local) || sc.names.lookup y.1 == some .local) &&
    sc.names.lookup x == some .local && !isSet it && sc.names.all (fun y => !(y.2 == .local) || y.1 == x || !ks.contains y.1)

section
variable (G : GT)
mutual
def chkE (kd : List (Str × NameKind)) (ks : List Str) : IE → Expr → Bool
  | .loc i, x => match x with
    | .Name x _ => ks[i]? == some x && !(x == ("__debug__" : Str)) && seen kd x
    | _ => false
  | .glob i, x => match x with
    | .Name x _ => (G.dat[i]?).map (·.1) == some x && !(x == ("__debug__" : Str)) && kd.lookup x == some .globalImplicit
    | _ => false
  | .int n, x => match x with
    | .Constant (.int m) _ _ => n == m
    | _ => false
  | .bool n, x => match x with
    | .Constant (.bool m) _ _ => n == m
    | _ => false
  | .bin op a b, x => match x with
    | .BinOp l o r _ => op == o && chkE kd ks a l && chkE kd ks b r
    | _ => false
  | .neg a, x => match x with
    | .UnaryOp .USub x _ => chkE kd ks a x
    | _ => false
  | .not a, x => match x with
    | .UnaryOp .Not x _ => chkE kd ks a x
    | _ => false
  | .bop op es, x => match x with
    | .BoolOp o xs _ => op == o && chkEs kd ks es xs
    | _ => false
  | .cmp op a b, x => match x with
    | .Compare l [o] [r] _ => op == o && chkE kd ks a l && chkE kd ks b r && !behindInMarks o r
    | _ => false
  | .chain o p a b c, x => match x with
    | .Compare l [o', p'] [r, t] _ => o == o' && p == p' && chkE kd ks a l && chkE kd ks b r && chkE kd ks c t && !behindInMarks p' t
    | _ => false
  | .ite t a b, x => match x with
    | .IfExp x y z _ => chkE kd ks t x && chkE kd ks a y && chkE kd ks b z
    | _ => false
  | .call f as, x => match x with
    | .Call (.Name x _) xs [] _ => (G.fns[f]?).map (·.1) == some x && !(x == ("__debug__" : Str)) && kd.lookup x == some .globalImplicit && !xs.isEmpty && chkEs kd ks as xs
    | _ => false
  | .bi b as, x => match x with
    | .Call (.Name x _) xs [] _ => b.name == x && !(x == ("__debug__" : Str)) && kd.lookup x == some .globalImplicit && !xs.isEmpty && chkEs kd ks as xs
    | _ => false
  | .bitlen a, x => match x with
    | .Call (.Attribute o n p) [] [] q => n == ("bit_length" : Str) && plainBase o && p.endLine == q.line && chkE kd ks a o
    | _ => false
  | .item a i, x => match x with
    | .Subscript v s _ => chkE kd ks a v && chkE kd ks i s && !isSlice s
    | _ => false
  | .tail a, x => match x with
    | .Subscript (.Name x p) s _ => chkE kd ks a (.Name x p) && oneMore s
    | _ => false
  | .dsub t k, x => match x with
    | .Subscript (.Name x _) s _ => (G.tab[t]?).map (·.1) == some x && !(x == ("__debug__" : Str)) && kd.lookup x == some .globalImplicit && chkE kd ks k s && !isSlice s
    | _ => false
  | .tup es, x => match x with
    | .Tuple xs _ _ => chkEs kd ks es xs
    | _ => false
  | .lst es, x => match x with
    | .List xs _ => chkEs kd ks es xs
    | _ => false
  | .comp e src, x => match x with
    | .ListComp elt [⟨.Name x _, it, [], 0⟩] sc _ => chkE kd ks src it && chkE (relNames kd sc.names) (x :: ks) e elt && compOk kd ks x sc it
    | _ => false
  | .junk, _ => true
def chkEs (kd : List (Str × NameKind)) (ks : List Str) : IEs → List Expr → Bool
  | .nil, x => match x with
    | [] => true
    | _ => false
  | .cons e r, x => match x with
    | x :: xs => chkE kd ks e x && !isStar x && chkEs kd ks r xs
    | _ => false
end
end

structure GOk (K : Frag) (P : Params) (G : GT) : Prop where
  dat : ∀ (i : Nat) (x : Str) (d : PyData), G.dat[i]? = some (x, d) → ∃ v, nsIn K mainGlobals x = some (some v) ∧ ∀ h : Heap, K.In h → Rp h v d
  fns : ∀ (i : Nat) (x : Str) (a : Addr), G.fns[i]? = some (x, a) → nsIn K mainGlobals x = some (some (.ref a)) ∧ ∃ o fd, K.lookup a = some o ∧ o.data = .func fd
  tab : ∀ (i : Nat) (x : Str) (l : List (Str × PyData)), G.tab[i]? = some (x, l) → ∃ a es n, nsIn K mainGlobals x = some (some (.ref a)) ∧ K.lookup a = some ⟨.type "dict", none, .dict es n, #[]⟩ ∧ KeysLit P es.toList ∧
    ∀ k d, l.lookup k = some d → ∃ v, nsIn K a k = some (some v) ∧ ∀ h : Heap, K.In h → Rp h v d
  bi : ∀ b : Bi, nsIn K mainGlobals b.name = some none

structure Cx (K : Frag) (p : Program) (loose : List Str) (mean : ExcName → Option Value) (mg mb : Str → Option Value) (h : Heap) : Prop where
  top : Top p loose mean mg mb h
  kin : K.In h
theorem Cx.keeps {K : Frag} {p : Program} {loose : List Str} {mean : ExcName → Option Value} {mg mb : Str → Option Value} {h h' : Heap} (c : Cx K p loose mean mg mb h)
    (k : ∀ b o, h.get? b = some o → h'.get? b = some o) : Cx K p loose mean mg mb h' := ⟨c.top.keeps k, c.kin.keeps k⟩

def Loads (env : Env) (h : Heap) (x : Str) (v : Value) : Prop :=
  (env.kindOf x = some .local ∧ ∃ m, h.Ns env.locals m ∧ m x = some v) ∨ (env.kindOf x = some .cell ∧ ∃ c, env.cells.lookup x = some c ∧ h.IsCell c (some v))
theorem Loads.keeps {env : Env} {h h' : Heap} {x : Str} {v : Value} (l : Loads env h x v) (k : ∀ b o, h.get? b = some o → h'.get? b = some o) : Loads env h' x v :=
  l.imp (fun ⟨a, m, b, c⟩ => ⟨a, m, b.keeps k, c⟩) fun ⟨a, c, b, d⟩ => ⟨a, c, b, d.keeps k⟩
structure LocOk (env : Env) (kd : List (Str × NameKind)) (ks : List Str) (ρ : Loc) (h : Heap) : Prop where
  nm : env.scope.names = kd
  kf : env.scope.kind = .function
  gl : env.globals = mainGlobals
  bu : env.builtins = builtinsNs
  cel : ∀ x : Str, kd.lookup x = some .cell → ∃ c, env.cells.lookup x = some c
  var : ∀ (i : Nat) (x : Str) (d : PyData), ks[i]? = some x → seen kd x = true → getD ρ i = some d → ∃ v, Rp h v d ∧ Loads env h x v
theorem LocOk.keeps {env : Env} {kd : List (Str × NameKind)} {ks : List Str} {ρ : Loc} {h h' : Heap} (l : LocOk env kd ks ρ h) (k : ∀ b o, h.get? b = some o → h'.get? b = some o) : LocOk env kd ks ρ h' :=
  ⟨l.nm, l.kf, l.gl, l.bu, l.cel, fun i x d a b c => let ⟨v, r, q⟩ := l.var i x d a b c; ⟨v, r.mono (SeqKeep.of k), q.keeps k⟩⟩

section
variable {prog : Program} {w : World}

/-- what an expression yields, in any state that is good -/
def EV (prog : Program) (w : World) (n : Nat) (Gd : Heap → Prop) (env : Env) (x : Expr) (d : PyData) : Prop :=
  ∀ (A : Around) (s : Shared) (Q : Value → Shared → Prop) (E : Value → Shared → Prop), AOk n A → Gd s.heap → (∀ v s', Keeps s s' → Rp s'.heap v d → Q v s') → wpAny (model prog w) A (eval x env) Q E s
def TV (prog : Program) (w : World) (n : Nat) (Gd : Heap → Prop) (env : Env) (x : Expr) (b : Bool) : Prop :=
  ∀ (A : Around) (s : Shared) (Q : Bool → Shared → Prop) (E : Value → Shared → Prop), AOk n A → Gd s.heap → (∀ s', Keeps s s' → Q b s') → wpAny (model prog w) A (isTrue x env (eval x env)) Q E s
def LV (prog : Program) (w : World) (n : Nat) (Gd : Heap → Prop) (env : Env) (xs : List Expr) (ds : List PyData) : Prop :=
  ∀ (A : Around) (s : Shared) (pos : Pos) (Q : List Value → Shared → Prop) (E : Value → Shared → Prop), AOk n A → Gd s.heap → (∀ vs s', Keeps s s' → RpL s'.heap vs ds → Q vs s') →
    wpAny (model prog w) A (spliced (backTo pos (starEach xs env))) Q E s

def Up (Gd : Heap → Prop) : Prop := ∀ h h' : Heap, Gd h → (∀ b o, h.get? b = some o → h'.get? b = some o) → Gd h'

variable {n : Nat} {Gd : Heap → Prop} {env : Env}

theorem ev_bin (up : Up Gd) {l r : Expr} {op : Operator} {pos : Pos} {a b d : PyData} (hl : EV prog w n Gd env l a) (hr : EV prog w n Gd env r b) (e : binD op a b = some d) : EV prog w n Gd env (.BinOp l op r pos) d :=
  fun A s Q E hA g h => wpAny_BinOp (hl A s _ E hA g fun v s₁ k₁ r₁ => hr A s₁ _ E hA (up _ _ g (kp_get k₁)) fun u s₂ k₂ r₂ => bin_ok (r₁.keeps k₂) r₂ e fun v' s₃ k₃ r₃ => h v' s₃ (kp_trans (kp_trans k₁ k₂) k₃) r₃)
theorem ev_neg {x : Expr} {pos : Pos} {a d : PyData} (hx : EV prog w n Gd env x a) (e : negD a = some d) : EV prog w n Gd env (.UnaryOp .USub x pos) d :=
  fun A s Q E hA g h => UnaryOp_ (hx A s _ E hA g fun v s₁ k₁ r₁ => by
    unfold negD at e
    split at e
    · cases r₁; cases e
      exact PyProof.Rows.neg_int (h _ _ (kp_trans k₁ (kp_toks ..)) (.int _ _))
    · cases e)
theorem ev_not {x : Expr} {pos : Pos} {a : PyData} {t : Bool} (hx : EV prog w n Gd env x a) (e : truth a = some t) : EV prog w n Gd env (.UnaryOp .Not x pos) (.bool (!t)) :=
  fun A s Q E hA g h => UnaryOp_ (hx A s _ E hA g fun v s₁ k₁ r₁ => not_of (truth_ok r₁ e fun s₂ k₂ => h _ _ (kp_trans k₁ k₂) (.bool _)))
theorem tv_not {x : Expr} {pos : Pos} {t : Bool} (hx : TV prog w n Gd env x t) : TV prog w n Gd env (.UnaryOp .Not x pos) (!t) :=
  fun A s Q E hA g h => isTrue_not (hx A s _ E hA g fun s₁ k₁ => h s₁ k₁)
theorem ev_cmp (up : Up Gd) {l r : Expr} {op : CmpOp} {pos : Pos} {a b : PyData} {t : Bool} (hl : EV prog w n Gd env l a) (hr : EV prog w n Gd env r b) (e : cmpD op a b = some t) (hm : behindInMarks op r = false) :
    EV prog w n Gd env (.Compare l [op] [r] pos) (.bool t) :=
  fun A s Q E hA g h => wpAny_Compare1 (hl A s _ E hA g fun v s₁ k₁ r₁ => hr A s₁ _ E hA (up _ _ g (kp_get k₁)) fun u s₂ k₂ r₂ => cmp_ok (by have := hA.2.2; omega) (r₁.keeps k₂) r₂ e fun s₃ k₃ => h _ s₃ (kp_trans (kp_trans k₁ k₂) k₃) (.bool _)) hm
theorem tv_cmp (up : Up Gd) {l r : Expr} {op : CmpOp} {pos : Pos} {a b : PyData} {t : Bool} (hl : EV prog w n Gd env l a) (hr : EV prog w n Gd env r b) (e : cmpD op a b = some t) (hm : behindInMarks op r = false) :
    TV prog w n Gd env (.Compare l [op] [r] pos) t :=
  fun A s Q E hA g h => wpAny_isTrue_Compare1 (hl A s _ E hA g fun v s₁ k₁ r₁ => hr A s₁ _ E hA (up _ _ g (kp_get k₁)) fun u s₂ k₂ r₂ => cmp_ok (by have := hA.2.2; omega) (r₁.keeps k₂) r₂ e fun s₃ k₃ =>
    wpAny_truthy_bool (h s₃ (kp_trans (kp_trans k₁ k₂) k₃))) hm
theorem tv_chain0 (up : Up Gd) {l r r' : Expr} {op op' : CmpOp} {pos : Pos} {a b : PyData} (hl : EV prog w n Gd env l a) (hr : EV prog w n Gd env r b) (e : cmpD op a b = some false) (hm : behindInMarks op' r' = false) :
    TV prog w n Gd env (.Compare l [op, op'] [r, r'] pos) false :=
  fun A s Q E hA g h => isTrue_chain (hl A s _ E hA g fun v s₁ k₁ r₁ => test_link (hr A s₁ _ E hA (up _ _ g (kp_get k₁)) fun u s₂ k₂ r₂ => cmp_ok (by have := hA.2.2; omega) (r₁.keeps k₂) r₂ e fun s₃ k₃ =>
    wpAny_truthy_bool (by rw [if_neg Bool.false_ne_true]; exact h s₃ (kp_trans (kp_trans k₁ k₂) k₃)))) (by simpa [lastMarks] using hm)
theorem tv_chain1 (up : Up Gd) {l r r' : Expr} {op op' : CmpOp} {pos : Pos} {a b c : PyData} {t : Bool} (hl : EV prog w n Gd env l a) (hr : EV prog w n Gd env r b) (hc : EV prog w n Gd env r' c) (e : cmpD op a b = some true) (e' : cmpD op' b c = some t) (hm : behindInMarks op' r' = false) :
    TV prog w n Gd env (.Compare l [op, op'] [r, r'] pos) t :=
  fun A s Q E hA g h => isTrue_chain (hl A s _ E hA g fun v s₁ k₁ r₁ => test_link (hr A s₁ _ E hA (up _ _ g (kp_get k₁)) fun u s₂ k₂ r₂ => cmp_ok (by have := hA.2.2; omega) (r₁.keeps k₂) r₂ e fun s₃ k₃ =>
    wpAny_truthy_bool (by
      rw [if_pos rfl]
      refine test_last (hc A s₃ _ E hA (up _ _ g (kp_get (kp_trans (kp_trans k₁ k₂) k₃))) fun x s₄ k₄ r₄ => cmp_ok (by have := hA.2.2; omega) ((r₂.keeps k₃).keeps k₄) r₄ e' fun s₅ k₅ => wpAny_truthy_bool (h s₅ (kp_trans (kp_trans (kp_trans (kp_trans k₁ k₂) k₃) k₄) k₅)))))) (by simpa [lastMarks] using hm)
theorem ev_ite (up : Up Gd) {x y z : Expr} {pos : Pos} {t : Bool} {d : PyData} (hx : TV prog w n Gd env x t) (h1 : t = true → EV prog w n Gd env y d) (h2 : t = false → EV prog w n Gd env z d) : EV prog w n Gd env (.IfExp x y z pos) d :=
  fun A s Q E hA g h => IfExp_ (hx A s _ E hA g fun s₁ k₁ => by
    cases t with
    | true => rw [if_pos rfl]; exact h1 rfl A s₁ Q E hA (up _ _ g (kp_get k₁)) fun v s₂ k₂ => h v s₂ (kp_trans k₁ k₂)
    | false => rw [if_neg Bool.false_ne_true]; exact h2 rfl A s₁ Q E hA (up _ _ g (kp_get k₁)) fun v s₂ k₂ => h v s₂ (kp_trans k₁ k₂))
theorem tv_ite (up : Up Gd) {x y z : Expr} {pos : Pos} {t b : Bool} (hx : TV prog w n Gd env x t) (h1 : t = true → TV prog w n Gd env y b) (h2 : t = false → TV prog w n Gd env z b) : TV prog w n Gd env (.IfExp x y z pos) b :=
  fun A s Q E hA g h => isTrue_IfExp (hx A s _ E hA g fun s₁ k₁ => by
    cases t with
    | true => rw [if_pos rfl]; exact h1 rfl A s₁ Q E hA (up _ _ g (kp_get k₁)) fun s₂ k₂ => h s₂ (kp_trans k₁ k₂)
    | false => rw [if_neg Bool.false_ne_true]; exact h2 rfl A s₁ Q E hA (up _ _ g (kp_get k₁)) fun s₂ k₂ => h s₂ (kp_trans k₁ k₂))
theorem tv_plain {x : Expr} {a : PyData} {b : Bool} (hx : EV prog w n Gd env x a) (e : truth a = some b) (he : isTrue x env (eval x env) = (do let v ← eval x env; standAt x.pos; holding [v] (truthy v))) : TV prog w n Gd env x b :=
  fun A s Q E hA g h => isTrue_plain (hx A s _ E hA g fun v s₁ k₁ r₁ => truth_ok r₁ e fun s₂ k₂ => h s₂ (kp_trans k₁ k₂)) he

theorem lv_nil : LV prog w n Gd env [] [] := fun A s pos Q E hA g h => args_nil (h _ _ (kp_refl _) .nil)
theorem starEach_cons {x : Expr} {xs : List Expr} (hs : isStar x = false) : starEach (x :: xs) env = (false, eval x env) :: starEach xs env := by
  cases x <;> first | rfl | cases hs
theorem lv_cons (up : Up Gd) {x : Expr} {xs : List Expr} {d : PyData} {ds : List PyData} (hs : isStar x = false) (hx : EV prog w n Gd env x d) (hr : LV prog w n Gd env xs ds) : LV prog w n Gd env (x :: xs) (d :: ds) :=
  fun A s pos Q E hA g h => args_cons (hx A s _ E hA g fun v s₁ k₁ r₁ => hr A s₁ pos _ E hA (up _ _ g (kp_get k₁)) fun vs s₂ k₂ r₂ => h _ _ (kp_trans k₁ k₂) (.cons (r₁.keeps k₂) r₂)) (starEach_cons hs)

theorem ev_tup {xs : List Expr} {k : Nat} {pos : Pos} {ds : List PyData} (hx : LV prog w n Gd env xs ds) (hz : ds.length ≤ 1000) : EV prog w n Gd env (.Tuple xs k pos) (.tuple ds) :=
  fun A s Q E hA g h => Tuple_ (hx A s pos _ E hA g fun vs s₁ k₁ r₁ => wpAny_newObj_type (h _ _ (kp_trans k₁ (kp_push s₁ _ s₁.toks)) (.tuple (Heap.get?_push_size _ rfl) rfl rfl (by
    simpa using r₁.mono (SeqKeep.of fun _ _ e => Heap.get?_push_of_some _ e)))) (by
      show vs.toArray.size ≤ sizeLine
      rw [List.size_toArray, sizeLine_eq, r₁.length]; omega))
theorem ev_lst {xs : List Expr} {pos : Pos} {ds : List PyData} (hx : LV prog w n Gd env xs ds) (hz : ds.length ≤ 1000) : EV prog w n Gd env (.List xs pos) (.list ds) :=
  fun A s Q E hA g h => List_ (hx A s pos _ E hA g fun vs s₁ k₁ r₁ => wpAny_newObj_type (h _ _ (kp_trans k₁ (kp_push s₁ _ s₁.toks)) (.list (Heap.get?_push_size _ rfl) rfl rfl (by
    simpa using r₁.mono (SeqKeep.of fun _ _ e => Heap.get?_push_of_some _ e)))) (by
      show vs.toArray.size ≤ sizeLine
      rw [List.size_toArray, sizeLine_eq, r₁.length]; omega))
theorem ev_item (up : Up Gd) {v sl : Expr} {pos : Pos} {a i d : PyData} (hv : EV prog w n Gd env v a) (hi : EV prog w n Gd env sl i) (e : itemD a i = some d) (hs : isSlice sl = false) : EV prog w n Gd env (.Subscript v sl pos) d :=
  fun A s Q E hA g h => Subscript_ (hv A s _ E hA g fun x s₁ k₁ r₁ => hi A s₁ _ E hA (up _ _ g (kp_get k₁)) fun k s₂ k₂ r₂ => item_ok (r₁.keeps k₂) r₂ e (fun o i => by cases sl <;> first | rfl | cases hs) fun u s₃ k₃ r₃ => h u s₃ (kp_trans (kp_trans k₁ k₂) k₃) r₃)
end
end Mine

end

-- part Core4
section
open PySem PySem.W PyProof.Rows PySem.Calls PySem.Spec
set_option maxRecDepth 100000
set_option linter.unusedVariables false
namespace Mine

section
variable {prog : Program} {w : World} {n : Nat} {env : Env} {K : Frag} {G : GT} {p : Program} {loose : List Str} {mean : ExcName → Option Value} {mg mb : Str → Option Value}
  {kd : List (Str × NameKind)} {ks : List Str} {ρ : Loc}

/-- the good heaps of a frame -/
def Gd (K : Frag) (p : Program) (loose : List Str) (mean : ExcName → Option Value) (mg mb : Str → Option Value) (env : Env) (kd : List (Str × NameKind)) (ks : List Str) (ρ : Loc) (h : Heap) : Prop :=
  Cx K p loose mean mg mb h ∧ LocOk env kd ks ρ h
theorem gd_up : Up (Gd K p loose mean mg mb env kd ks ρ) := fun h h' g k => ⟨g.1.keeps k, g.2.keeps k⟩

/-- a call -/
def CV (prog : Program) (w : World) (n : Nat) (Gd : Heap → Prop) (a : Addr) (args : List PyData) (d : PyData) : Prop :=
  ∀ (A : Around) (s : Shared) (vs : List Value) (Q : Value → Shared → Prop) (E : Value → Shared → Prop), AOk n A → Gd s.heap → RpL s.heap vs args → (∀ v s', Keeps s s' → Rp s'.heap v d → Q v s') →
    wpAny (model prog w) A (call (.ref a) vs) Q E s

theorem ev_loc {i : Nat} {x : Str} {pos : Pos} {d : PyData} (hi : ks[i]? = some x) (hd : (x == ("__debug__" : Str)) = false) (hs : seen kd x = true) (e : getD ρ i = some d) :
    EV prog w n (Gd K p loose mean mg mb env kd ks ρ) env (.Name x pos) d := fun A s Q E hA g h => by
  obtain ⟨v, r, l⟩ := g.2.var i x d hi hs e
  refine wpAny_Name ?_ hd
  rcases l with ⟨l1, m, l2, l3⟩ | ⟨l1, c, l2, l3⟩
  · exact wpAny_loadName_local g.2.kf l1 l2 l3 (h v s (kp_refl s) r)
  · exact wpAny_loadName_cell g.2.kf l1 l2 l3 (h v s (kp_refl s) r)

theorem name_glob {x : Str} {pos : Pos} {v : Value} {A : Around} {s : Shared} {Q E : Value → Shared → Prop} (g : Gd K p loose mean mg mb env kd ks ρ s.heap) (hk : kd.lookup x = some .globalImplicit) (hd : (x == ("__debug__" : Str)) = false)
    (e : nsIn K mainGlobals x = some (some v)) (h : Q v s) : wpAny (model prog w) A (eval (.Name x pos) env) Q E s :=
  Calls.Name_function_global g.2.kf (by rw [Env.kindOf, g.2.nm]; exact hk) (Calls.loadGlobal_global (by rw [g.2.gl]; exact g.1.top.g) (mg_of g.1.kin g.1.top.g e) h) hd
theorem name_boot {x : Str} {pos : Pos} {v : Value} {A : Around} {s : Shared} {Q E : Value → Shared → Prop} (g : Gd K p loose mean mg mb env kd ks ρ s.heap) (hk : kd.lookup x = some .globalImplicit) (hd : (x == ("__debug__" : Str)) = false)
    (e : nsIn K mainGlobals x = some none) (hv : bootBuiltins x = some v) (hn : x ≠ "__name__") (h : Q v s) : wpAny (model prog w) A (eval (.Name x pos) env) Q E s :=
  Calls.Name_function_global g.2.kf (by rw [Env.kindOf, g.2.nm]; exact hk)
    (Calls.loadGlobal_builtin (by rw [g.2.gl]; exact g.1.top.g) (mg_none_of g.1.kin g.1.top.g e) (by rw [g.2.bu]; exact g.1.top.b) ((g.1.top.builtins x hn).trans hv) h) hd

theorem ev_glob {i : Nat} {x : Str} {pos : Pos} {d : PyData} (O : GOk K w.params G) (hi : G.dat[i]? = some (x, d)) (hd : (x == ("__debug__" : Str)) = false) (hk : kd.lookup x = some .globalImplicit) :
    EV prog w n (Gd K p loose mean mg mb env kd ks ρ) env (.Name x pos) d := fun A s Q E hA g h => by
  obtain ⟨v, e, r⟩ := O.dat i x d hi
  exact name_glob g hk hd e (h v s (kp_refl s) (r _ g.1.kin))

theorem ev_call {f : Nat} {a : Addr} {x : Str} {pn pos : Pos} {xs : List Expr} {args : List PyData} {d : PyData} (O : GOk K w.params G) (hi : G.fns[f]? = some (x, a)) (hd : (x == ("__debug__" : Str)) = false)
    (hk : kd.lookup x = some .globalImplicit) (hne : xs.isEmpty = false) (hst : ∀ y ∈ xs, isStar y = false) (hx : LV prog w n (Gd K p loose mean mg mb env kd ks ρ) env xs args) (hc : CV prog w n (Cx K p loose mean mg mb) a args d) :
    EV prog w n (Gd K p loose mean mg mb env kd ks ρ) env (.Call (.Name x pn) xs [] pos) d := fun A s Q E hA g h => by
  obtain ⟨e, o, fd, ho, hdat⟩ := O.fns f x a hi
  refine Call_ (name_glob g hk hd e ?_)
  cases xs with
  | nil => cases hne
  | cons y ys =>
    refine callWith_def_at (g.1.kin _ _ ho) hdat (hx A s pos _ E hA g fun vs s₁ k₁ r₁ => ⟨kp_get k₁ _ _ (g.1.kin _ _ ho), hc A s₁ vs Q E hA (g.1.keeps (kp_get k₁)) r₁ fun v s₂ k₂ r₂ => h v s₂ (kp_trans k₁ k₂) r₂⟩) ?_
    exact starEach_cons (hst y (.head _))

theorem starEach_any {pos : Pos} : ∀ {xs : List Expr}, (∀ y ∈ xs, isStar y = false) → (backTo pos (starEach xs env)).any (·.1) = false
  | [], _ => rfl
  | x :: xs, h => by
    rw [starEach_cons (h x (.head _))]
    show (false || (backTo pos (starEach xs env)).any (·.1)) = false
    rw [starEach_any fun y hy => h y (.tail _ hy)]; rfl

def Bi.val : Bi → Value
  | .int => .type "int" | .len => .builtin "len" | .min => .builtin "min" | .max => .builtin "max" | .abs => .builtin "abs" | .divmod => .builtin "divmod"
theorem bi_ok {b : Bi} {args : List PyData} {d : PyData} {A : Around} {s : Shared} {vs : List Value} {Q E : Value → Shared → Prop} (hh : A.handled = none) (hr : RpL s.heap vs args) (e : biD b args = some d)
    (h : ∀ v s', Keeps s s' → Rp s'.heap v d → Q v s') : wpAny (model prog w) A (call b.val vs) Q E s := by
  cases b with
  | len =>
    change lenD args = some d at e
    unfold lenD at e
    split at e
    · split at e
      · rename_i hz
        cases e
        cases hr with | cons x r => cases r; cases x with
        | list h1 h2 h3 r =>
          have hl := r.length
          rw [Array.length_toList] at hl
          refine len_list ⟨_, h1, h2, _, h3⟩ (by omega) (h _ _ (kp_toks ..) ?_)
          rw [hl]; exact .int _ _
      · cases e
    · cases e
  | min =>
    change minD args = some d at e
    unfold minD at e
    split at e
    · cases e
      cases hr with | cons x r => cases r with | cons y r => cases r; cases x; cases y; exact (min_two_ints hh fun h' tk hk => h _ _ (kp_mk _ _ _ hk) (by split <;> exact .int _ _))
    · cases e
  | max =>
    change maxD args = some d at e
    unfold maxD at e
    split at e
    · cases e
      cases hr with | cons x r => cases r with | cons y r => cases r; cases x; cases y; exact (max_two_ints hh fun h' tk hk => h _ _ (kp_mk _ _ _ hk) (by split <;> exact .int _ _))
    · cases e
  | abs =>
    change absD args = some d at e
    unfold absD at e
    split at e
    · cases e
      cases hr with | cons x r => cases r; cases x; exact call_abs_int fun u tk => h _ _ (kp_toks ..) (.int _ _)
    · cases e
  | divmod =>
    change divmodD args = some d at e
    unfold divmodD at e
    split at e
    · split at e
      · rename_i hb
        cases e
        cases hr with | cons x r => cases r with | cons y r => cases r; cases x; cases y; exact (divmod_int hb.1 (h _ _ (kp_push s _ _) (.tuple (Heap.get?_push_size _ rfl) rfl rfl (.cons (.int _ _) (.cons (.int _ _) .nil)))) (.inl (small_div hb.2)))
      · cases e
    · cases e
  | int =>
    change intD args = some d at e
    unfold intD at e
    split at e
    · cases e
      cases hr with | cons x r => cases r; cases x; exact call_int_int (h _ _ (kp_refl _) (.int _ _))
    · cases e

theorem ev_bi {b : Bi} {x : Str} {pn pos : Pos} {xs : List Expr} {args : List PyData} {d : PyData} (O : GOk K w.params G) (hi : b.name = x) (hd : (x == ("__debug__" : Str)) = false)
    (hk : kd.lookup x = some .globalImplicit) (hne : xs.isEmpty = false) (hst : ∀ y ∈ xs, isStar y = false) (hx : LV prog w n (Gd K p loose mean mg mb env kd ks ρ) env xs args) (e : biD b args = some d) :
    EV prog w n (Gd K p loose mean mg mb env kd ks ρ) env (.Call (.Name x pn) xs [] pos) d := fun A s Q E hA g h => by
  subst hi
  cases xs with
  | nil => cases hne
  | cons y ys =>
    have hs : starEach (y :: ys) env = (false, eval y env) :: starEach ys env := starEach_cons (hst y (.head _))
    have hp := starEach_any (env := env) (pos := pos) fun z hz => hst z (.tail y hz)
    have key : ∀ vs s₁, Keeps s s₁ → RpL s₁.heap vs args → wpAny (model prog w) A (call b.val vs) Q E s₁ :=
      fun vs s₁ k₁ r₁ => bi_ok hA.1 r₁ e fun v s₂ k₂ r₂ => h v s₂ (kp_trans k₁ k₂) r₂
    cases b with
    | len => exact Call_ (name_boot g hk hd (O.bi .len) boot_len (by decide) (PyProof.Rows.callWith_builtin1 (hx A s pos _ E hA g key) hs hp))
    | min => exact Call_ (name_boot g hk hd (O.bi .min) PyProof.Rows.boot_min (by decide) (PyProof.Rows.callWith_builtin1 (hx A s pos _ E hA g key) hs hp))
    | max => exact Call_ (name_boot g hk hd (O.bi .max) PyProof.Rows.boot_max (by decide) (PyProof.Rows.callWith_builtin1 (hx A s pos _ E hA g key) hs hp))
    | abs => exact Call_ (name_boot g hk hd (O.bi .abs) PyProof.Rows.boot_abs (by decide) (PyProof.Rows.callWith_builtin1 (hx A s pos _ E hA g key) hs hp))
    | divmod => exact Call_ (name_boot g hk hd (O.bi .divmod) PyProof.Rows.boot_divmod (by decide) (PyProof.Rows.callWith_builtin1 (hx A s pos _ E hA g key) hs hp))
    | int => exact Call_ (name_boot g hk hd (O.bi .int) PyProof.Rows.boot_int (by decide) (PyProof.Rows.callWith_type1 (hx A s pos _ E hA g key) hs hp))

theorem meth_eq {o : Expr} {name : Str} {apos pos : Pos} (hb : plainBase o = true) (hl : (apos.endLine == pos.line) = true) :
    eval (.Call (.Attribute o name apos) [] [] pos) env = (do
      let ov ← eval o env
      standAt apos.atName
      let (f, first) ← holding [ov] (getMethod ov name (do return (← importBound o env).getD true))
      callWith pos f first (backTo pos (starEach [] env)) []) := by
  have hb' : attributeBase o name env (eval o env) = eval o env := by cases o <;> first | rfl | cases hb
  rw [arm_eval_Call, hb']
  have hc : ∀ ov, methodCall o name apos pos env ov (([] : List Expr).length + ([] : List Keyword).length) (backTo pos (starEach [] env)) (backToKw pos (keywordEach [] env)) = (do
      let (f, first) ← holding [ov] (getMethod ov name (do return (← importBound o env).getD true))
      callWith pos f first (backTo pos (starEach [] env)) []) := fun ov => by
    unfold methodCall methodCallPos
    rw [hl]
    rfl
  simp only [hc]

theorem ev_bitlen {o : Expr} {x : Str} {apos pos : Pos} {i : Int} (hn : (x == ("bit_length" : Str)) = true) (hb : plainBase o = true) (hl : (apos.endLine == pos.line) = true)
    (ho : EV prog w n (Gd K p loose mean mg mb env kd ks ρ) env o (.int i)) : EV prog w n (Gd K p loose mean mg mb env kd ks ρ) env (.Call (.Attribute o x apos) [] [] pos) (.int (bits i)) := fun A s Q E hA g h => by
  have hx : x = Str.ofString "bit_length" := beq_iff_eq.mp hn
  subst hx
  refine MethodCall_ (pl := (do return (← importBound o env).getD true)) (ho A s _ E hA g fun v s₁ k₁ r₁ => ?_) (meth_eq hb hl)
  cases r₁
  exact getMethod_int_bit_length (callWith_method0 (call_int_bit_length (h _ _ (kp_trans k₁ (kp_toks ..)) (.int _ _))))

theorem ev_tail {x : Str} {px pos : Pos} {s1 : Expr} {a d : PyData} (hx : EV prog w n (Gd K p loose mean mg mb env kd ks ρ) env (.Name x px) a) (hs : oneMore s1 = true) (e : tailD a = some d) :
    EV prog w n (Gd K p loose mean mg mb env kd ks ρ) env (.Subscript (.Name x px) s1 pos) d := fun A s Q E hA g h => by
  unfold oneMore at hs
  split at hs
  · rename_i k0 p1 p2
    refine Subscript_ (hx A s _ E hA g fun v s₁ k₁ r₁ => ?_)
    rw [arm_eval_Slice]
    unfold tailD at e
    split at e
    · split at e
      · rename_i hz
        cases e
        cases r₁ with
        | list h1 h2 h3 r =>
          rename_i l o vs nn
          refine wpAny_bind (m := valueOrNone _) ?_
          show wpAny _ _ (eval (.Constant (.int 1) k0 p1) env) _ _ _
          refine wpAny_Constant_int ?_
          refine wpAny_bind (wpAny_holding (m := valueOrNone _) (wpAny_pure ?_))
          refine wpAny_bind (wpAny_holding (m := valueOrNone _) (wpAny_pure ?_))
          refine wpAny_newObj_type ?_
          have hL : ({ s₁ with toks := s₁.toks + 1 } : Shared).heap.IsList l vs := ⟨_, h1, h2, _, h3⟩
          have hl := r.length
          rw [Array.length_toList] at hl
          refine subscriptTail_ops (Heap.IsList.typeIs (hL.push _)) list_getitem_lookup
            (wpAny_getItem_list_slice (hL.push _) (Heap.IsSliceOf.new ..) (.int _ _) .none .none (by simp) ?_ (by rw [sizeLine_eq]; omega)) rfl (fun _ => rfl)
          refine h _ _ (kp_trans k₁ (kp_mk s₁ _ _ fun b o e => Heap.get?_push_of_some _ (Heap.get?_push_of_some _ e))) (.list (Heap.get?_push_size _ rfl) rfl rfl ?_)
          rw [show (1 : Int) = ((1 : Nat) : Int) from rfl, slicePick_from vs 1 (by omega)]
          exact (r.drop 1).mono (SeqKeep.of fun b o e => Heap.get?_push_of_some _ (Heap.get?_push_of_some _ e))
      · cases e
    · cases e
  · cases hs

theorem ev_dsub {t : Nat} {x : Str} {px pos : Pos} {sl : Expr} {k d : PyData} {l : List (Str × PyData)} (O : GOk K w.params G) (hi : G.tab[t]? = some (x, l)) (hd : (x == ("__debug__" : Str)) = false) (hk : kd.lookup x = some .globalImplicit)
    (hs : EV prog w n (Gd K p loose mean mg mb env kd ks ρ) env sl k) (hsl : isSlice sl = false) (e : dsubD l k = some d) : EV prog w n (Gd K p loose mean mg mb env kd ks ρ) env (.Subscript (.Name x px) sl pos) d := fun A s Q E hA g h => by
  obtain ⟨a, es, nn, e1, e2, e3, e4⟩ := O.tab t x l hi
  have hsub : ∀ o i, subscripted sl false o i = operate [o, i] (getItem o i) := fun o i => by cases sl <;> first | rfl | cases hsl
  refine Subscript_ (name_glob g hk hd e1 (hs A s _ E hA g fun u s₁ k₁ r₁ => ?_))
  unfold dsubD at e
  split at e
  · cases r₁
    obtain ⟨v, hv, hr⟩ := e4 _ _ e
    have X := (g.1.keeps (kp_get k₁)).kin
    have hm := mapOf_K (prog := prog) X e2 e3
    refine tail_any hm.typeIs slot_dict_getitem.lookup (wpAny_getItem_of (strKind_is prog w _ _) hm (find_K e2 hv) (h v _ (kp_trans k₁ (kp_toks ..)) (hr _ X))) (hsub _ _)
  · cases e
end
end Mine

end

-- part Core5
section
open PySem PySem.W PyProof.Rows PySem.Calls PySem.Spec
set_option maxRecDepth 100000
set_option linter.unusedVariables false
namespace Mine

def TupKeep (h h' : Heap) : Prop := ∀ a o vs n, h.get? a = some o → o.cls = .type "tuple" → o.data = .seq vs n → h'.get? a = some o
mutual
theorem Rp.tup {h h' : Heap} (k : TupKeep h h') : ∀ {v : Value} {d : PyData}, noList d = true → Rp h v d → Rp h' v d
  | _, _, _, .none => .none
  | _, _, _, .bool b => .bool b
  | _, _, _, .int i t => .int i t
  | _, _, _, .str x t => .str x t
  | _, _, e, .list h1 h2 h3 r => by simp [noList] at e
  | _, _, e, .tuple h1 h2 h3 r => .tuple (k _ _ _ _ h1 h2 h3) h2 h3 (RpL.tup k (by simpa [noList] using e) r)
theorem RpL.tup {h h' : Heap} (k : TupKeep h h') : ∀ {vs : List Value} {ds : List PyData}, noLists ds = true → RpL h vs ds → RpL h' vs ds
  | _, _, _, .nil => .nil
  | _, _, e, .cons x r => by
    rw [noLists, Bool.and_eq_true] at e
    exact .cons (Rp.tup k e.1 x) (RpL.tup k e.2 r)
end

section
variable {prog : Program} {w : World} {A : Around} {E : Value → Shared → Prop} {s : Shared} {env : Env}

theorem comp_block {elt iter : Expr} {x : Str} {px : Pos} {scope : Scope} {cl : List (Str × Addr)} {pos : Pos} {t : Addr} {items : Array Value} (F : Heap → Nat → Value → Prop) {R : Value → Addr → Result → Shared → Prop}
    (hh : A.handled = none) (ht : s.heap.IsTuple t items) (hsz : items.size ≤ 1000)
    (hcell : ∀ y ∈ scope.names, y.2 ≠ .cell) (hkind : scope.kind = .function) (hx : scope.names.lookup x = some .local)
    (hF : ∀ h h' i y, F h i y → TupKeep h h' → F h' i y)
    (helt : ∀ C i v s₃ m₃ E' Q', items[i]? = some v → s₃.heap.Ns C m₃ → m₃ x = some v → (∀ b o, s.heap.get? b = some o → s₃.heap.get? b = some o) →
      (∀ y s₄, Keeps s₃ s₄ → F s₄.heap i y → Q' y s₄) → wpAny (model prog w) A (eval elt (compEnvC scope cl C env)) Q' E' s₃)
    (hR : ∀ D C h' tk m' ys, s.heap.get? D = none → s.heap.get? C = none → D ≠ C → h'.Ns C m' → h'.PlainList D ys → ys.size = items.size → (∀ i y, ys[i]? = some y → F h' i y) →
      (∀ b o, s.heap.get? b = some o → h'.get? b = some o) → R (.ref D) C (.ok .next) { s with heap := h', toks := tk }) :
    wpAny (model prog w) A (pyIter (.ref t)) (fun it s₂ => wpAny (model prog w) A (newList []) (fun acc s₃ => wpAny (model prog w) A (newFunctionEnv scope env.globals cl [] env.qual none .none (some env)) (fun cenv s₄ =>
      codeAny (model prog w) A (.compStart (.ListComp elt [⟨.Name x px, iter, [], 0⟩] scope pos) 0 it acc { cenv with scope := relabel scope env }) (R acc cenv.locals) s₄) E s₃) E s₂) E s := by
  have htlt : t < s.heap.objs.size := by obtain ⟨o, ho, _⟩ := ht; exact Heap.lt_size ho
  refine wpAny_pyIter_tuple ht ?_
  generalize hH1 : s.heap.push { cls := .type "tuple_iterator", data := .fields #[.ref t, .int 0 0] } = H1
  have hI : H1.objs.size = s.heap.objs.size + 1 := by rw [← hH1, Heap.size_push]
  have old1 : ∀ b o, s.heap.get? b = some o → H1.get? b = some o := fun b o e => hH1 ▸ Heap.get?_push_of_some _ e
  have hit : H1.IsTupleIter s.heap.objs.size t 0 := hH1 ▸ ⟨_, Heap.get?_push_size _ rfl, rfl, rfl⟩
  refine wpAny_newObj_type (wpAny_newFunctionEnv hcell (by intro y hy; simp at hy) (fun h₁ hns₁ hsb₁ => ?_) hkind)
  dsimp only at hns₁ hsb₁ ⊢
  generalize hH2 : H1.push { cls := .type "list", dict := none, data := .seq ([] : List Value).toArray } = H2 at hns₁ hsb₁ ⊢
  have hC : H2.objs.size = H1.objs.size + 1 := by rw [← hH2, Heap.size_push]
  have hDC : H1.objs.size ≠ H2.objs.size := by rw [hC]; exact Nat.ne_of_lt (Nat.lt_succ_self _)
  have h12 : s.heap.objs.size < H1.objs.size := by rw [hI]; exact Nat.lt_succ_self _
  have h23 : H1.objs.size < H2.objs.size := by rw [hC]; exact Nat.lt_succ_self _
  have h13 : s.heap.objs.size < H2.objs.size := Nat.lt_trans h12 h23
  have old2 : ∀ b o, H1.get? b = some o → h₁.get? b = some o := fun b o e =>
    hsb₁.extBut b o (Nat.ne_of_lt (Nat.lt_trans (Heap.lt_size e) h23)) (Heap.get?_push_of_some _ (hH2 ▸ Heap.get?_push_of_some _ e))
  have hacc : h₁.PlainList H1.objs.size #[] := ⟨_, hsb₁.extBut _ _ hDC (Heap.get?_push_of_some _ (hH2 ▸ Heap.get?_push_size _ rfl))⟩
  have fresh : ∀ a, s.heap.objs.size ≤ a → s.heap.get? a = none := fun a ha => by
    cases e : s.heap.get? a with
    | none => rfl
    | some o' => exact absurd (Heap.lt_size e) (Nat.not_lt.mpr ha)
  have W : Walks prog w A s.heap.objs.size [s.heap.objs.size, t] [s.heap.objs.size] items.size (fun i v => items[i]? = some v) (fun i h => h.IsTupleIter s.heap.objs.size t i ∧ h.IsTuple t items) :=
    Walks.tuple hh s.heap.objs.size t (Nat.ne_of_lt htlt) items
  have hDI : H1.objs.size ≠ s.heap.objs.size := Nat.ne_of_gt h12
  have hCI : H2.objs.size ≠ s.heap.objs.size := Nat.ne_of_gt h13
  have htC : t ≠ H2.objs.size := Nat.ne_of_lt (Nat.lt_trans htlt h13)
  have htD : t ≠ H1.objs.size := Nat.ne_of_lt (Nat.lt_trans htlt h12)
  have hst₁ : h₁.IsTupleIter s.heap.objs.size t 0 ∧ h₁.IsTuple t items :=
    ⟨hit.at fun o e => old2 _ o e, ht.at fun o e => old2 _ o (old1 _ o e)⟩
  have loop : ∀ s₃ : Shared, s₃.heap = h₁ → (∃ tk, s₃ = { s with heap := h₁, toks := tk }) →
      codeAny (model prog w) A (.compLoop (.ListComp elt [⟨.Name x px, iter, [], 0⟩] scope pos) 0 (.ref s.heap.objs.size) (.ref H1.objs.size) (compEnvC scope cl H2.objs.size env))
        (R (.ref H1.objs.size) H2.objs.size) s₃ := by
    rintro s₃ - ⟨tk₃, rfl⟩
    refine codeAny_compLoop_tests
      (fun k s' => ∃ h' tk i m' ys, s' = { s with heap := h', toks := tk } ∧ i ≤ items.size ∧ k = items.size + 1 - i ∧ ys.size = i ∧ (h'.IsTupleIter s.heap.objs.size t i ∧ h'.IsTuple t items) ∧
        h'.PlainList H1.objs.size ys ∧ h'.Ns H2.objs.size m' ∧ (∀ j y, ys[j]? = some y → F h' j y) ∧ (∀ b o, s.heap.get? b = some o → h'.get? b = some o)) ?_ (items.size + 1)
      ⟨h₁, _, 0, _, #[], rfl, Nat.zero_le _, rfl, rfl, hst₁, hacc, hns₁, fun j y e => by simp at e, fun b o e => old2 b o (old1 b o e)⟩
    rintro k s' ⟨h', tk, i, m', ys, rfl, hi, rfl, hys, hst', hacc', hn', hFs, hk⟩
    have tup₁ : ∀ {g g' : Heap} {a : Addr}, (∀ o vs nn, g.get? a = some o → o.cls = .type "tuple" → o.data = .seq vs nn → False) → (∀ b o, b ≠ a → g.get? b = some o → g'.get? b = some o) → TupKeep g g' := fun hno hke b o vs nn e hc hd =>
      hke b o (fun q => hno o vs nn (q ▸ e) hc hd) e
    by_cases hlt : i < items.size
    · refine W.item i _ _ _ hlt hst' fun v g₁ tk₁ hPv hst₁ hk₁ => ?_
      have k1 : TupKeep h' g₁ := tup₁ (a := s.heap.objs.size) (fun o vs nn e hc hd => by obtain ⟨o', e', hc', _⟩ := hst'.1; rw [e] at e'; cases e'; rw [hc] at hc'; simp at hc') fun b o hb e => hk₁ b o (by simpa using hb) e
      have hn₁ : g₁.Ns H2.objs.size m' := hn'.at' fun o e => hk₁ _ o (by simpa using hCI) e
      refine wpAny_assign_Name (wpAny_storeName_local (lookup_relabel_local hx) hn₁ (fun g₂ hn₂ hs₂ => ?_) (by simp [compEnvC, relabel, hkind]))
      have k2 : TupKeep g₁ g₂ := tup₁ (a := H2.objs.size) (fun o vs nn e hc hd => by
        obtain ⟨o', es, ep, e', hd', _⟩ := hn₁
        rw [e] at e'; cases e'
        rw [hd] at hd'; cases hd') fun b o hb e => hs₂.extBut b o hb e
      refine wpAny_tests_nil ?_
      simp only [if_true]
      have hup : ∀ b o, s.heap.get? b = some o → g₂.get? b = some o := fun b o e => by
        have hb := Heap.lt_size e
        exact hs₂.extBut b o (Nat.ne_of_lt (Nat.lt_trans hb h13)) (hk₁ b o (by simpa using Nat.ne_of_lt hb) (hk b o e))
      refine helt _ i v _ _ _ _ hPv hn₂ (by simp) hup fun y s₄ k₄ f₄ => ?_
      obtain ⟨g₄, tk₄, rfl, kk₄⟩ := k₄
      have k4 : TupKeep g₂ g₄ := fun b o vs nn e _ _ => kk₄ b o e
      have hpl₄ : g₄.PlainList H1.objs.size ys := hacc'.at fun o e => kk₄ _ o (hs₂.extBut _ o hDC (hk₁ _ o (by simpa using hDI) e))
      refine wpAny_list_append_plain (hsz := by rw [sizeLine_eq]; omega) hpl₄ fun g₅ hl₅ hs₅ => ?_
      have k5 : TupKeep g₄ g₅ := tup₁ (a := H1.objs.size) (fun o vs n9 e hc hd => by obtain ⟨nn, e'⟩ := hpl₄; rw [e] at e'; cases e'; simp at hc) fun b o hb e => hs₅.extBut b o hb e
      have hst₂ := W.frame _ _ _ hst₁ fun b hb o e => hs₂.extBut b o (fun q => by
        rcases List.mem_cons.mp hb with rfl | hb
        · exact hCI q.symm
        · rw [List.mem_singleton.mp hb] at q; exact htC q) e
      have hst₅ := W.frame _ _ g₅ hst₂ fun b hb o e => hs₅.extBut b o (fun q => by
        rcases List.mem_cons.mp hb with rfl | hb
        · exact hDI q.symm
        · rw [List.mem_singleton.mp hb] at q; exact htD q) (kk₄ b o e)
      refine ⟨items.size + 1 - (i + 1), by omega, g₅, tk₄, i + 1, _, ys.push y, rfl, hlt, rfl, by rw [Array.size_push, hys], hst₅, hl₅, (hn₂.keeps kk₄).sameBut hs₅ (Ne.symm hDC), fun j z e => ?_, fun b o e => ?_⟩
      · rw [Array.getElem?_push] at e
        split at e
        · rename_i q
          cases e
          rw [q, hys]
          exact hF _ _ _ _ f₄ k5
        · exact hF _ _ _ _ (hF _ _ _ _ (hF _ _ _ _ (hF _ _ _ _ (hFs j z e) k1) k2) k4) k5
      · exact hs₅.extBut b o (Nat.ne_of_lt (Nat.lt_trans (Heap.lt_size e) h12)) (kk₄ b o (hup b o e))
    · obtain rfl : i = items.size := Nat.le_antisymm hi (Nat.not_lt.mp hlt)
      refine W.done _ _ _ hst' fun g₂ tk₂ hk₂ => ?_
      have k1 : TupKeep h' g₂ := tup₁ (a := s.heap.objs.size) (fun o vs nn e hc hd => by obtain ⟨o', e', hc', _⟩ := hst'.1; rw [e] at e'; cases e'; rw [hc] at hc'; simp at hc') fun b o hb e => hk₂ b o (by simpa using hb) e
      exact hR _ _ g₂ tk₂ m' ys (fresh _ (Nat.le_of_lt h12)) (fresh _ (Nat.le_of_lt h13)) hDC (hn'.at' fun o e => hk₂ _ o (by simpa using hCI) e) (hacc'.at fun o e => hk₂ _ o (by simpa using hDI) e) hys
        (fun j y e => hF _ _ _ _ (hFs j y e) k1) fun b o e => hk₂ b o (by have hb := Heap.lt_size e; simpa using Nat.ne_of_lt hb) (hk b o e)
  exact codeAny_compStart_list (loop _ rfl ⟨_, rfl⟩) (W.self 0 _ _ _ hst₁ (loop _ rfl ⟨_, rfl⟩))
end
end Mine

end

-- part Core6
section
open PySem PySem.W PyProof.Rows PySem.Calls PySem.Spec
set_option maxRecDepth 100000
set_option linter.unusedVariables false
namespace Mine

/-! ## the cells of a comprehension -/
def closL (cells : List (Str × Addr)) : List (Str × NameKind) → List (Str × Addr) → List (Str × Addr)
  | [], acc => acc
  | (n, k) :: r, acc => closL cells r (if k == .free then (n, (cells.lookup n).getD 0) :: acc else acc)
theorem closFor_go {env : Env} : ∀ (names : List (Str × NameKind)) (acc : List (Str × Addr)), (∀ y ∈ names, y.2 = .free → ∃ c, env.cells.lookup y.1 = some c) →
    (forIn names acc fun x r => if (x.2 == NameKind.free) = true then do let c ← cellOf env x.1; pure (ForInStep.yield ((x.1, c) :: r)) else pure (ForInStep.yield r) : Sem (List (Str × Addr))) = pure (closL env.cells names acc)
  | [], acc, _ => by rw [List.forIn_nil]; rfl
  | (n, k) :: r, acc, h => by
    rw [List.forIn_cons]
    by_cases hk : (k == NameKind.free) = true
    · obtain ⟨c, hc⟩ := h (n, k) (.head _) (by simpa using hk)
      have e1 : cellOf env n = pure c := by unfold cellOf; rw [show env.cells.lookup n = some c from hc]
      simp only [hk, if_true, e1]
      show (forIn r ((n, c) :: acc) _ : Sem (List (Str × Addr))) = _
      rw [closFor_go r ((n, c) :: acc) fun y hy => h y (.tail _ hy)]
      show pure (closL env.cells r ((n, c) :: acc)) = pure (closL env.cells r (if (k == NameKind.free) = true then (n, (env.cells.lookup n).getD 0) :: acc else acc))
      rw [if_pos hk, show env.cells.lookup n = some c from hc]; rfl
    · simp only [hk, if_false]
      show (forIn r acc _ : Sem (List (Str × Addr))) = _
      rw [closFor_go r acc fun y hy => h y (.tail _ hy)]
      show pure (closL env.cells r acc) = pure (closL env.cells r (if (k == NameKind.free) = true then (n, (env.cells.lookup n).getD 0) :: acc else acc))
      rw [if_neg hk]
theorem closFor {env : Env} {sc : Scope} (h : ∀ y ∈ sc.names, y.2 = .free → ∃ c, env.cells.lookup y.1 = some c) : closureFor sc env = pure (closL env.cells sc.names []) := by
  have := closFor_go (env := env) sc.names [] h
  unfold closureFor
  exact (bind_pure _).trans this
theorem closL_keep {cells : List (Str × Addr)} {x : Str} {c : Addr} (hc : cells.lookup x = some c) : ∀ (names : List (Str × NameKind)) (acc : List (Str × Addr)), acc.lookup x = some c → (closL cells names acc).lookup x = some c
  | [], acc, h => h
  | (n, k) :: r, acc, h => by
    show (closL cells r (if (k == NameKind.free) = true then (n, (cells.lookup n).getD 0) :: acc else acc)).lookup x = some c
    refine closL_keep hc r _ ?_
    split
    · rw [List.lookup_cons]
      split
      · rename_i q
        rw [← beq_iff_eq.mp q, hc]; rfl
      · exact h
    · exact h
theorem closL_free {cells : List (Str × Addr)} {x : Str} {c : Addr} (hc : cells.lookup x = some c) : ∀ (names : List (Str × NameKind)) (acc : List (Str × Addr)), (x, .free) ∈ names → (closL cells names acc).lookup x = some c
  | (n, k) :: r, acc, h => by
    show (closL cells r (if (k == NameKind.free) = true then (n, (cells.lookup n).getD 0) :: acc else acc)).lookup x = some c
    rcases List.mem_cons.mp h with h | h
    · cases h
      refine closL_keep hc r _ ?_
      rw [if_pos (by rfl), List.lookup_cons_self, hc]; rfl
    · exact closL_free hc r _ h

theorem rel_lookup {kd : List (Str × NameKind)} {x : Str} : ∀ {names : List (Str × NameKind)} {k : NameKind}, (relNames kd names).lookup x = some k → (x, k) ∈ names ∨ (k = .cell ∧ (x, NameKind.free) ∈ names ∧ kd.lookup x = some .cell)
  | [], k, h => by simp [relNames] at h
  | (n, j) :: r, k, h => by
    have e : relNames kd ((n, j) :: r) = (if (j == .free && kd.lookup n == some .cell) = true then (n, NameKind.cell) else (n, j)) :: relNames kd r := rfl
    rw [e] at h
    by_cases hx : (x == n) = true
    · have hxn : x = n := beq_iff_eq.mp hx
      subst hxn
      split at h
      · rename_i hq
        rw [Bool.and_eq_true] at hq
        rw [List.lookup_cons_self] at h
        cases h
        have hj : j = .free := by simpa using hq.1
        subst hj
        exact .inr ⟨rfl, .head _, by simpa using hq.2⟩
      · rw [List.lookup_cons_self] at h
        cases h
        exact .inl (.head _)
    · have hf : (x == n) = false := Bool.eq_false_iff.mpr hx
      have h' : (relNames kd r).lookup x = some k := by
        split at h
        · simpa [List.lookup_cons, hf] using h
        · simpa [List.lookup_cons, hf] using h
      rcases rel_lookup h' with q | ⟨q1, q2, q3⟩
      · exact .inl (.tail _ q)
      · exact .inr ⟨q1, .tail _ q2, q3⟩

theorem mapO_get {α β : Type} {f : α → Option β} : ∀ {xs : List α} {ys : List β}, mapO f xs = some ys → ys.length = xs.length ∧ ∀ (i : Nat) (x : α), xs[i]? = some x → ∃ y, ys[i]? = some y ∧ f x = some y
  | [], ys, h => by cases h; exact ⟨rfl, fun i x e => by simp at e⟩
  | x :: xs, ys, h => by
    unfold mapO at h
    split at h
    · rename_i y ys' e1 e2
      cases h
      obtain ⟨l, g⟩ := mapO_get e2
      refine ⟨by rw [List.length_cons, List.length_cons, l], fun i z e => ?_⟩
      cases i with
      | zero => simp at e; subst e; exact ⟨y, rfl, e1⟩
      | succ i => simpa using g i z (by simpa using e)
    · cases h
theorem noLists_get : ∀ {ys : List PyData} {i : Nat} {y : PyData}, noLists ys = true → ys[i]? = some y → noList y = true
  | [], i, y, _, e => by simp at e
  | z :: zs, 0, y, h, e => by simp at e; subst e; rw [noLists, Bool.and_eq_true] at h; exact h.1
  | z :: zs, i + 1, y, h, e => by rw [noLists, Bool.and_eq_true] at h; exact noLists_get h.2 (by simpa using e)
theorem RpL.of {h : Heap} : ∀ {vs : List Value} {ds : List PyData}, vs.length = ds.length → (∀ (i : Nat) (v : Value), vs[i]? = some v → ∃ d, ds[i]? = some d ∧ Rp h v d) → RpL h vs ds
  | [], [], _, _ => .nil
  | [], _ :: _, e, _ => by simp at e
  | _ :: _, [], e, _ => by simp at e
  | v :: vs, d :: ds, e, g => by
    obtain ⟨d', e1, r⟩ := g 0 v rfl
    simp at e1; subst e1
    exact .cons r (RpL.of (by simpa using e) fun i u hu => by simpa using g (i + 1) u (by simpa using hu))

section
variable {prog : Program} {w : World} {n : Nat} {env : Env} {K : Frag} {G : GT} {p : Program} {loose : List Str} {mean : ExcName → Option Value} {mg mb : Str → Option Value}
  {kd : List (Str × NameKind)} {ks : List Str} {ρ : Loc}

theorem all_not {names : List (Str × NameKind)} {f : Str × NameKind → Bool} (h : names.all f = true) : ∀ y ∈ names, f y = true := List.all_eq_true.mp h

/-- the good heaps of a comprehension's own frame -/
theorem comp_loc {x : Str} {sc : Scope} {it : Expr} {C : Addr} {h : Heap} {m₃ : Str → Option Value} {v : Value} {d : PyData} (hok : compOk kd ks x sc it = true) (g : LocOk env kd ks ρ h) (hn : h.Ns C m₃) (hm : m₃ x = some v) (hv : Rp h v d) :
    LocOk (compEnvC sc (closL env.cells sc.names []) C env) (relNames kd sc.names) (x :: ks) (some d :: ρ) h := by
  unfold compOk at hok
  simp only [Bool.and_eq_true] at hok
  obtain ⟨⟨⟨⟨⟨⟨⟨c1, c2⟩, c3⟩, c4⟩, c5⟩, c6⟩, c7⟩, c8⟩ := hok
  have nocell : ∀ y ∈ sc.names, y.2 ≠ .cell := fun y hy => by have := all_not c4 y hy; simpa using this
  have hfree : ∀ y ∈ sc.names, y.2 = .free → kd.lookup y.1 = some .cell := fun y hy e => by
    have := all_not c2 y hy
    rw [e] at this
    simpa using this
  have hnm : (compEnvC sc (closL env.cells sc.names []) C env).scope.names = relNames kd sc.names := by
    show (sc.names.map fun (n, k) => if (k == NameKind.free && env.scope.kind == ScopeKind.function && env.kindOf n == some NameKind.cell) then (n, NameKind.cell) else (n, k)) = _
    unfold relNames
    refine List.map_congr_left fun y _ => ?_
    obtain ⟨a, b⟩ := y
    simp only [Env.kindOf, g.nm, g.kf, beq_self_eq_true, Bool.and_true]
  refine ⟨hnm, (by simpa using c1 : sc.kind = .function), g.gl, g.bu, fun y hy => ?_, fun i y e hi hs hd => ?_⟩
  · rcases rel_lookup hy with q | ⟨_, q, q'⟩
    · exact absurd rfl (nocell _ q)
    · obtain ⟨c, hc⟩ := g.cel y q'
      exact ⟨c, closL_free hc _ _ q⟩
  · cases i with
    | zero =>
      simp at hi; subst hi
      simp [getD] at hd; subst hd
      exact ⟨v, hv, .inl ⟨lookup_relabel_local (by simpa using c6), m₃, hn, hm⟩⟩
    | succ i =>
      have hi' : ks[i]? = some y := by simpa using hi
      have hd' : getD ρ i = some e := by simpa [getD] using hd
      unfold seen at hs
      rw [Bool.or_eq_true] at hs
      rcases hs with hs | hs
      · rcases rel_lookup (show (relNames kd sc.names).lookup y = some .local by simpa using hs) with q | ⟨q, _⟩
        · have := all_not c8 _ q
          have hmem : ks.contains y = true := List.contains_iff_mem.mpr (List.mem_of_getElem? hi')
          simp only [beq_self_eq_true, Bool.not_true, Bool.false_or, hmem, Bool.or_false, beq_iff_eq] at this
          subst this
          rw [hmem] at c3; cases c3
        · cases q
      · rcases rel_lookup (show (relNames kd sc.names).lookup y = some .cell by simpa using hs) with q | ⟨_, q, q'⟩
        · exact absurd rfl (nocell _ q)
        · obtain ⟨u, r, l⟩ := g.var i y e hi' (by unfold seen; rw [q']; rfl) hd'
          refine ⟨u, r, .inr ⟨?_, ?_⟩⟩
          · show (compEnvC sc (closL env.cells sc.names []) C env).scope.names.lookup y = _
            rw [hnm]; simpa using hs
          · rcases l with ⟨l1, _⟩ | ⟨l1, c, l2, l3⟩
            · rw [Env.kindOf, g.nm, q'] at l1; cases l1
            · exact ⟨c, closL_free l2 _ _ q, l3⟩

/-- what is asked of a comprehension's element -/
def EltOk (prog : Program) (w : World) (n : Nat) (K : Frag) (p : Program) (loose : List Str) (mean : ExcName → Option Value) (mg mb : Str → Option Value) (env : Env) (kd : List (Str × NameKind)) (ks : List Str) (ρ : Loc) (x : Str) (sc : Scope) (elt : Expr) (xs ys : List PyData) : Prop :=
  ∀ (i : Nat) (d : PyData), xs[i]? = some d → ∃ y, ys[i]? = some y ∧ noList y = true ∧
    ∀ C, EV prog w n (Gd K p loose mean mg mb (compEnvC sc (closL env.cells sc.names []) C env) (relNames kd sc.names) (x :: ks) (some d :: ρ)) (compEnvC sc (closL env.cells sc.names []) C env) elt y

theorem comp_go {elt it : Expr} {x : Str} {px pos : Pos} {sc : Scope} {xs ys : List PyData} {A : Around} {E : Value → Shared → Prop} {s : Shared} {v : Value} {R : Value → Addr → Result → Shared → Prop} (hA : AOk n A) (hok : compOk kd ks x sc it = true)
    (g : Gd K p loose mean mg mb env kd ks ρ s.heap) (hv : Rp s.heap v (.tuple xs)) (hz : xs.length ≤ 1000) (hl : ys.length = xs.length) (helt : EltOk prog w n K p loose mean mg mb env kd ks ρ x sc elt xs ys)
    (hR : ∀ D C h' tk m', s.heap.get? D = none → s.heap.get? C = none → D ≠ C → h'.Ns C m' → (∃ o vs nn, h'.get? D = some o ∧ o.cls = .type "list" ∧ o.data = .seq vs nn ∧ RpL h' vs.toList ys) → (∀ b o, s.heap.get? b = some o → h'.get? b = some o) →
      R (.ref D) C (.ok .next) { s with heap := h', toks := tk }) :
    wpAny (model prog w) A (pyIter v) (fun it' s₂ => wpAny (model prog w) A (newList []) (fun acc s₃ => wpAny (model prog w) A (newFunctionEnv sc env.globals (closL env.cells sc.names []) [] env.qual none .none (some env)) (fun cenv s₄ =>
      codeAny (model prog w) A (.compStart (.ListComp elt [⟨.Name x px, it, [], 0⟩] sc pos) 0 it' acc { cenv with scope := relabel sc env }) (R acc cenv.locals) s₄) E s₃) E s₂) E s := by
  have hok' := hok
  unfold compOk at hok'
  simp only [Bool.and_eq_true] at hok'
  obtain ⟨⟨⟨⟨⟨⟨⟨c1, c2⟩, c3⟩, c4⟩, c5⟩, c6⟩, c7⟩, c8⟩ := hok'
  have hlen := hv
  cases hv with
  | tuple h1 h2 h3 r =>
    rename_i t o vs nn
    have hl2 := r.length
    rw [Array.length_toList] at hl2
    refine comp_block (fun h i u => ∃ y, ys[i]? = some y ∧ noList y = true ∧ Rp h u y) hA.1 ⟨o, h1, h2, nn, h3⟩ (by omega) (fun y hy => by have := all_not c4 y hy; simpa using this) (by simpa using c1) (by simpa using c6)
      (fun h h' i u ⟨y, e1, e2, e3⟩ k => ⟨y, e1, e2, e3.tup k e2⟩) ?_ ?_
    · intro C i u s₃ m₃ E' Q' hu hn hm hk hQ
      obtain ⟨d, hd, hr⟩ := r.getV (by rw [Array.getElem?_toList]; exact hu)
      obtain ⟨y, e1, e2, e3⟩ := helt i d hd
      exact e3 C A s₃ Q' E' hA ⟨g.1.keeps hk, comp_loc hok (g.2.keeps hk) hn hm (hr.mono (SeqKeep.of hk))⟩ fun u' s₄ k₄ r₄ => hQ u' s₄ k₄ ⟨y, e1, e2, r₄⟩
    · intro D C h' tk m' ws hD hC hDC hn hpl hsz hFs hk
      obtain ⟨nn', hpl'⟩ := hpl
      refine hR D C h' tk m' hD hC hDC hn ⟨_, ws, nn', hpl', rfl, rfl, RpL.of (by rw [Array.length_toList]; omega) fun i u hu => ?_⟩ hk
      obtain ⟨y, e1, _, e3⟩ := hFs i u (by rw [← Array.getElem?_toList]; exact hu)
      exact ⟨y, e1, e3⟩

theorem comp_clos (hok : compOk kd ks x sc it = true) (g : LocOk env kd ks ρ h) : closureFor sc env = pure (closL env.cells sc.names []) := by
  unfold compOk at hok
  simp only [Bool.and_eq_true] at hok
  obtain ⟨⟨⟨⟨⟨⟨⟨c1, c2⟩, c3⟩, c4⟩, c5⟩, c6⟩, c7⟩, c8⟩ := hok
  refine closFor fun y hy e => ?_
  have := all_not c2 y hy
  rw [e] at this
  exact g.cel y.1 (by simpa using this)
theorem fold_eq {it : Expr} (h : isSet it = false) (v : Value) : foldedSetIterable it env v = pure v := by
  cases it <;> first | rfl | cases h
theorem comp_names {it : Expr} (hok : compOk kd ks x sc it = true) : sc.kind = .function ∧ (∀ y ∈ sc.names, y.2 = .local → sc.names.lookup y.1 = some .local) ∧ isSet it = false := by
  unfold compOk at hok
  simp only [Bool.and_eq_true] at hok
  obtain ⟨⟨⟨⟨⟨⟨⟨c1, c2⟩, c3⟩, c4⟩, c5⟩, c6⟩, c7⟩, c8⟩ := hok
  refine ⟨by simpa using c1, fun y hy e => ?_, by simpa using c7⟩
  have := all_not c5 y hy
  rw [e] at this
  simpa using this

theorem ev_comp {elt it : Expr} {x : Str} {px pos : Pos} {sc : Scope} {xs ys : List PyData} (hok : compOk kd ks x sc it = true) (hi : EV prog w n (Gd K p loose mean mg mb env kd ks ρ) env it (.tuple xs)) (hz : xs.length ≤ 1000) (hl : ys.length = xs.length)
    (helt : EltOk prog w n K p loose mean mg mb env kd ks ρ x sc elt xs ys) : EV prog w n (Gd K p loose mean mg mb env kd ks ρ) env (.ListComp elt [⟨.Name x px, it, [], 0⟩] sc pos) (.list ys) := fun A s Q E hA g h => by
  obtain ⟨n1, n2, n3⟩ := comp_names hok
  rw [eval_ListComp]
  refine wpAny_comprehension_free (use := none) rfl (fold_eq n3) (comp_clos hok g.2) n1 n2 (hi A s _ E hA g fun v s₁ k₁ r₁ => ?_)
  refine comp_go (R := fun acc C => compPost (model prog w) A E none Q acc C) hA hok (gd_up _ _ g (kp_get k₁)) r₁ hz hl helt ?_
  intro D C h' tk m' hD hC hDC hn hlst hk
  obtain ⟨o, vs, nn, l1, l2, l3, l4⟩ := hlst
  refine ⟨m', hn, fun h'' hs'' => ?_⟩
  have sk : SeqKeep h' h'' := SeqKeep.same hn hs''
  have kk : Keeps s₁ { s₁ with heap := h'', toks := tk } := kp_mk s₁ h'' tk fun b o' e => hs''.extBut b o' (fun q => by rw [q, hC] at e; cases e) (hk b o' e)
  exact h (.ref D) _ (kp_trans k₁ kk) (.list (sk _ _ _ _ l1 l3) l2 l3 (l4.mono sk))
end
end Mine
namespace Mine
section
variable {prog : Program} {w : World} {n : Nat} {env : Env} {Gd : Heap → Prop}
theorem ev_chain0 (up : Up Gd) {l r r' : Expr} {op op' : CmpOp} {pos : Pos} {a b : PyData} (hl : EV prog w n Gd env l a) (hr : EV prog w n Gd env r b) (e : cmpD op a b = some false) (hm : behindInMarks op' r' = false) :
    EV prog w n Gd env (.Compare l [op, op'] [r, r'] pos) (.bool false) :=
  fun A s Q E hA g h => Compare_chain (hl A s _ E hA g fun v s₁ k₁ r₁ => chain_link (hr A s₁ _ E hA (up _ _ g (kp_get k₁)) fun u s₂ k₂ r₂ => cmp_ok (by have := hA.2.2; omega) (r₁.keeps k₂) r₂ e fun s₃ k₃ =>
    wpAny_truthy_bool (by rw [if_neg Bool.false_ne_true]; exact h _ s₃ (kp_trans (kp_trans k₁ k₂) k₃) (.bool _)))) (by simpa [lastMarks] using hm)
theorem ev_chain1 (up : Up Gd) {l r r' : Expr} {op op' : CmpOp} {pos : Pos} {a b c : PyData} {t : Bool} (hl : EV prog w n Gd env l a) (hr : EV prog w n Gd env r b) (hc : EV prog w n Gd env r' c) (e : cmpD op a b = some true) (e' : cmpD op' b c = some t) (hm : behindInMarks op' r' = false) :
    EV prog w n Gd env (.Compare l [op, op'] [r, r'] pos) (.bool t) :=
  fun A s Q E hA g h => Compare_chain (hl A s _ E hA g fun v s₁ k₁ r₁ => chain_link (hr A s₁ _ E hA (up _ _ g (kp_get k₁)) fun u s₂ k₂ r₂ => cmp_ok (by have := hA.2.2; omega) (r₁.keeps k₂) r₂ e fun s₃ k₃ =>
    wpAny_truthy_bool (by
      rw [if_pos rfl]
      exact chain_last (hc A s₃ _ E hA (up _ _ g (kp_get (kp_trans (kp_trans k₁ k₂) k₃))) fun x s₄ k₄ r₄ => cmp_ok (by have := hA.2.2; omega) ((r₂.keeps k₃).keeps k₄) r₄ e' fun s₅ k₅ => h _ s₅ (kp_trans (kp_trans (kp_trans (kp_trans k₁ k₂) k₃) k₄) k₅) (.bool _))))) (by simpa [lastMarks] using hm)
theorem tv_one {op : BoolOp} {x : Expr} {pos : Pos} {b : Bool} (hx : TV prog w n Gd env x b) : TV prog w n Gd env (.BoolOp op [x] pos) b := fun A s Q E hA g h => by
  cases op with
  | And => exact isTrue_and (hx A s _ E hA g fun s₁ k₁ => by
      cases b with
      | true => exact isTrue_and_nil (h s₁ k₁)
      | false => exact h s₁ k₁)
  | Or => exact isTrue_or (hx A s _ E hA g fun s₁ k₁ => by
      cases b with
      | true => exact h s₁ k₁
      | false => exact isTrue_or_nil (h s₁ k₁))
theorem ev_and1 (up : Up Gd) {x y : Expr} {ys : List Expr} {pos : Pos} {a d : PyData} (hx : EV prog w n Gd env x a) (e : truth a = some true) (hy : EV prog w n Gd env (.BoolOp .And (y :: ys) pos) d) : EV prog w n Gd env (.BoolOp .And (x :: y :: ys) pos) d :=
  fun A s Q E hA g h => BoolOp_and (hx A s _ E hA g fun v s₁ k₁ r₁ => truth_ok r₁ e fun s₂ k₂ => hy A s₂ Q E hA (up _ _ g (kp_get (kp_trans k₁ k₂))) fun u s₃ k₃ => h u s₃ (kp_trans (kp_trans k₁ k₂) k₃))
theorem ev_and0 {x y : Expr} {ys : List Expr} {pos : Pos} {a : PyData} (hx : EV prog w n Gd env x a) (e : truth a = some false) : EV prog w n Gd env (.BoolOp .And (x :: y :: ys) pos) a :=
  fun A s Q E hA g h => BoolOp_and (hx A s _ E hA g fun v s₁ k₁ r₁ => truth_ok r₁ e fun s₂ k₂ => h v s₂ (kp_trans k₁ k₂) (r₁.keeps k₂))
theorem ev_or0 (up : Up Gd) {x y : Expr} {ys : List Expr} {pos : Pos} {a d : PyData} (hx : EV prog w n Gd env x a) (e : truth a = some false) (hy : EV prog w n Gd env (.BoolOp .Or (y :: ys) pos) d) : EV prog w n Gd env (.BoolOp .Or (x :: y :: ys) pos) d :=
  fun A s Q E hA g h => BoolOp_or (hx A s _ E hA g fun v s₁ k₁ r₁ => truth_ok r₁ e fun s₂ k₂ => hy A s₂ Q E hA (up _ _ g (kp_get (kp_trans k₁ k₂))) fun u s₃ k₃ => h u s₃ (kp_trans (kp_trans k₁ k₂) k₃))
theorem ev_or1 {x y : Expr} {ys : List Expr} {pos : Pos} {a : PyData} (hx : EV prog w n Gd env x a) (e : truth a = some true) : EV prog w n Gd env (.BoolOp .Or (x :: y :: ys) pos) a :=
  fun A s Q E hA g h => BoolOp_or (hx A s _ E hA g fun v s₁ k₁ r₁ => truth_ok r₁ e fun s₂ k₂ => h v s₂ (kp_trans k₁ k₂) (r₁.keeps k₂))
theorem tv_and1 (up : Up Gd) {x y : Expr} {ys : List Expr} {pos : Pos} {b : Bool} (hx : TV prog w n Gd env x true) (hy : TV prog w n Gd env (.BoolOp .And (y :: ys) pos) b) : TV prog w n Gd env (.BoolOp .And (x :: y :: ys) pos) b :=
  fun A s Q E hA g h => isTrue_and (hx A s _ E hA g fun s₁ k₁ => hy A s₁ Q E hA (up _ _ g (kp_get k₁)) fun s₂ k₂ => h s₂ (kp_trans k₁ k₂))
theorem tv_and0 {x y : Expr} {ys : List Expr} {pos : Pos} (hx : TV prog w n Gd env x false) : TV prog w n Gd env (.BoolOp .And (x :: y :: ys) pos) false :=
  fun A s Q E hA g h => isTrue_and (hx A s _ E hA g fun s₁ k₁ => h s₁ k₁)
theorem tv_or0 (up : Up Gd) {x y : Expr} {ys : List Expr} {pos : Pos} {b : Bool} (hx : TV prog w n Gd env x false) (hy : TV prog w n Gd env (.BoolOp .Or (y :: ys) pos) b) : TV prog w n Gd env (.BoolOp .Or (x :: y :: ys) pos) b :=
  fun A s Q E hA g h => isTrue_or (hx A s _ E hA g fun s₁ k₁ => hy A s₁ Q E hA (up _ _ g (kp_get k₁)) fun s₂ k₂ => h s₂ (kp_trans k₁ k₂))
theorem tv_or1 {x y : Expr} {ys : List Expr} {pos : Pos} (hx : TV prog w n Gd env x true) : TV prog w n Gd env (.BoolOp .Or (x :: y :: ys) pos) true :=
  fun A s Q E hA g h => isTrue_or (hx A s _ E hA g fun s₁ k₁ => h s₁ k₁)
end
end Mine

end

-- part Core7
section
open PySem PySem.W PyProof.Rows PySem.Calls PySem.Spec
set_option maxRecDepth 100000
set_option linter.unusedVariables false
namespace Mine

section
variable {prog : Program} {w : World} {n : Nat} {K : Frag} {G : GT} {p : Program} {loose : List Str} {mean : ExcName → Option Value} {mg mb : Str → Option Value} {C : Nat → List PyData → Option PyData}

/-- the oracle of calls is sound -/
def CallsOk (prog : Program) (w : World) (n : Nat) (K : Frag) (G : GT) (p : Program) (loose : List Str) (mean : ExcName → Option Value) (mg mb : Str → Option Value) (C : Nat → List PyData → Option PyData) : Prop :=
  ∀ (f : Nat) (args : List PyData) (d : PyData), C f args = some d → ∀ (x : Str) (a : Addr), G.fns[f]? = some (x, a) → CV prog w n (Cx K p loose mean mg mb) a args d

theorem map_fst {α β : Type} [BEq α] [LawfulBEq α] {l : List (α × β)} {i : Nat} {x : α} (h : ((l[i]?).map (·.1) == some x) = true) : ∃ y, l[i]? = some (x, y) := by
  cases e : l[i]? with
  | none => rw [e] at h; simp at h
  | some q =>
    obtain ⟨a, b⟩ := q
    rw [e] at h
    simp at h
    exact ⟨b, by rw [h]⟩

mutual
theorem soundE (O : GOk K w.params G) (hC : CallsOk prog w n K G p loose mean mg mb C) : ∀ (e : IE) (env : Env) (kd : List (Str × NameKind)) (ks : List Str) (ρ : Loc) (x : Expr) (d : PyData), chkE G kd ks e x = true → ev G C ρ e = some d →
    EV prog w n (Gd K p loose mean mg mb env kd ks ρ) env x d ∧ ∀ b, truth d = some b → TV prog w n (Gd K p loose mean mg mb env kd ks ρ) env x b
  | .loc i, env, kd, ks, ρ, x, d, h, e => by
    unfold chkE at h
    split at h
    · simp only [Bool.and_eq_true, Bool.not_eq_true', beq_iff_eq] at h
      rw [ev] at e
      have r := ev_loc (prog := prog) (w := w) (n := n) (K := K) (p := p) (loose := loose) (mean := mean) (mg := mg) (mb := mb) (env := env) (pos := by assumption) h.1.1 (by simpa using h.1.2) h.2 e
      exact ⟨r, fun b hb => tv_plain r hb rfl⟩
    · cases h
  | .glob i, env, kd, ks, ρ, x, d, h, e => by
    unfold chkE at h
    split at h
    · simp only [Bool.and_eq_true, Bool.not_eq_true', beq_iff_eq] at h
      rw [ev] at e
      obtain ⟨y, hy⟩ := map_fst (beq_iff_eq.mpr h.1.1)
      rw [hy] at e; cases e
      have r := ev_glob (prog := prog) (n := n) (p := p) (loose := loose) (mean := mean) (mg := mg) (mb := mb) (env := env) (ks := ks) (ρ := ρ) (pos := by assumption) O hy (by simpa using h.1.2) h.2
      exact ⟨r, fun b hb => tv_plain r hb rfl⟩
    · cases h
  | .int m, env, kd, ks, ρ, x, d, h, e => by
    unfold chkE at h
    split at h
    · rw [ev] at e; cases e
      cases (beq_iff_eq.mp h)
      have r : EV prog w n (Gd K p loose mean mg mb env kd ks ρ) env (.Constant (.int m) (by assumption) (by assumption)) (.int m) := fun A s Q E hA g k => wpAny_Constant_int (k _ _ (kp_toks ..) (.int _ _))
      exact ⟨r, fun b hb => tv_plain r hb rfl⟩
    · cases h
  | .bool m, env, kd, ks, ρ, x, d, h, e => by
    unfold chkE at h
    split at h
    · rw [ev] at e; cases e
      cases (beq_iff_eq.mp h)
      have r : EV prog w n (Gd K p loose mean mg mb env kd ks ρ) env (.Constant (.bool m) (by assumption) (by assumption)) (.bool m) := fun A s Q E hA g k => Constant_bool (k _ _ (kp_refl _) (.bool _))
      exact ⟨r, fun b hb => tv_plain r hb rfl⟩
    · cases h
  | .bin op a b, env, kd, ks, ρ, x, d, h, e => by
    unfold chkE at h
    split at h
    · simp only [Bool.and_eq_true, beq_iff_eq] at h
      obtain ⟨⟨rfl, h1⟩, h2⟩ := h
      rw [ev] at e
      split at e
      · rename_i u v e1 e2
        have r := ev_bin (pos := by assumption) gd_up (soundE O hC a env kd ks ρ _ _ h1 e1).1 (soundE O hC b env kd ks ρ _ _ h2 e2).1 e
        exact ⟨r, fun b hb => tv_plain r hb rfl⟩
      · cases e
    · cases h
  | .neg a, env, kd, ks, ρ, x, d, h, e => by
    unfold chkE at h
    split at h
    · rw [ev] at e
      split at e
      · rename_i u e1
        have r := ev_neg (pos := by assumption) (soundE O hC a env kd ks ρ _ _ h e1).1 e
        exact ⟨r, fun b hb => tv_plain r hb rfl⟩
      · cases e
    · cases h
  | .not a, env, kd, ks, ρ, x, d, h, e => by
    unfold chkE at h
    split at h
    · rw [ev] at e
      split at e
      · rename_i u e1
        split at e
        · rename_i t e2
          cases e
          have r := soundE O hC a env kd ks ρ _ _ h e1
          exact ⟨ev_not r.1 e2, fun b hb => by cases hb; exact tv_not (r.2 _ e2)⟩
        · cases e
      · cases e
    · cases h
  | .bop op es, env, kd, ks, ρ, x, d, h, e => by
    unfold chkE at h
    split at h
    · simp only [Bool.and_eq_true, beq_iff_eq] at h
      obtain ⟨rfl, h1⟩ := h
      rw [ev] at e
      exact soundB O hC es op env kd ks ρ _ _ d h1 e
    · cases h
  | .cmp op a b, env, kd, ks, ρ, x, d, h, e => by
    unfold chkE at h
    split at h
    · simp only [Bool.and_eq_true, beq_iff_eq, Bool.not_eq_true'] at h
      obtain ⟨⟨⟨rfl, h1⟩, h2⟩, h3⟩ := h
      rw [ev] at e
      split at e
      · rename_i u v e1 e2
        split at e
        · rename_i t e3
          cases e
          have r1 := (soundE O hC a env kd ks ρ _ _ h1 e1).1
          have r2 := (soundE O hC b env kd ks ρ _ _ h2 e2).1
          exact ⟨ev_cmp gd_up r1 r2 e3 h3, fun b hb => by cases hb; exact tv_cmp gd_up r1 r2 e3 h3⟩
        · cases e
      · cases e
    · cases h
  | .chain o q a b c, env, kd, ks, ρ, x, d, h, e => by
    unfold chkE at h
    split at h
    · simp only [Bool.and_eq_true, beq_iff_eq, Bool.not_eq_true'] at h
      obtain ⟨⟨⟨⟨⟨rfl, rfl⟩, h1⟩, h2⟩, h3⟩, h4⟩ := h
      rw [ev] at e
      split at e
      · rename_i u v e1 e2
        have r1 := (soundE O hC a env kd ks ρ _ _ h1 e1).1
        have r2 := (soundE O hC b env kd ks ρ _ _ h2 e2).1
        split at e
        · rename_i e3
          split at e
          · rename_i z e4
            split at e
            · rename_i t e5
              cases e
              have r3 := (soundE O hC c env kd ks ρ _ _ h3 e4).1
              exact ⟨ev_chain1 gd_up r1 r2 r3 e3 e5 h4, fun b hb => by cases hb; exact tv_chain1 gd_up r1 r2 r3 e3 e5 h4⟩
            · cases e
          · cases e
        · rename_i e3
          cases e
          exact ⟨ev_chain0 gd_up r1 r2 e3 h4, fun b hb => by cases hb; exact tv_chain0 gd_up r1 r2 e3 h4⟩
        · cases e
      · cases e
    · cases h
  | .ite t a b, env, kd, ks, ρ, x, d, h, e => by
    unfold chkE at h
    split at h
    · simp only [Bool.and_eq_true] at h
      obtain ⟨⟨h1, h2⟩, h3⟩ := h
      rw [ev] at e
      split at e
      · rename_i u e1
        have r1 := (soundE O hC t env kd ks ρ _ _ h1 e1).2
        split at e
        · rename_i e2
          have r2 := soundE O hC a env kd ks ρ _ _ h2 e
          exact ⟨ev_ite gd_up (r1 _ e2) (fun _ => r2.1) (fun q => nomatch q), fun b hb => tv_ite gd_up (r1 _ e2) (fun _ => r2.2 b hb) (fun q => nomatch q)⟩
        · rename_i e2
          have r2 := soundE O hC b env kd ks ρ _ _ h3 e
          exact ⟨ev_ite gd_up (r1 _ e2) (fun q => nomatch q) (fun _ => r2.1), fun b hb => tv_ite gd_up (r1 _ e2) (fun q => nomatch q) (fun _ => r2.2 b hb)⟩
        · cases e
      · cases e
    · cases h
  | .call f as, env, kd, ks, ρ, x, d, h, e => by
    unfold chkE at h
    split at h
    · simp only [Bool.and_eq_true, Bool.not_eq_true', beq_iff_eq] at h
      obtain ⟨⟨⟨⟨h1, h2⟩, h3⟩, h4⟩, h5⟩ := h
      obtain ⟨a, ha⟩ := map_fst (beq_iff_eq.mpr h1)
      rw [ev] at e
      split at e
      · rename_i xs e1
        have r := soundEs O hC as env kd ks ρ _ _ h5 e1
        have q := fun pn pos => ev_call (pn := pn) (pos := pos) O ha (by simpa using h2) h3 h4 r.2 r.1 (hC f xs d e _ _ ha)
        exact ⟨q _ _, fun b hb => tv_plain (q _ _) hb rfl⟩
      · cases e
    · cases h
  | .bi f as, env, kd, ks, ρ, x, d, h, e => by
    unfold chkE at h
    split at h
    · simp only [Bool.and_eq_true, Bool.not_eq_true', beq_iff_eq] at h
      obtain ⟨⟨⟨⟨h1, h2⟩, h3⟩, h4⟩, h5⟩ := h
      rw [ev] at e
      split at e
      · rename_i xs e1
        have r := soundEs O hC as env kd ks ρ _ _ h5 e1
        have q := fun pn pos => ev_bi (pn := pn) (pos := pos) O h1 (by simpa using h2) h3 h4 r.2 r.1 e
        exact ⟨q _ _, fun b hb => tv_plain (q _ _) hb rfl⟩
      · cases e
    · cases h
  | .bitlen a, env, kd, ks, ρ, x, d, h, e => by
    unfold chkE at h
    split at h
    · simp only [Bool.and_eq_true] at h
      obtain ⟨⟨⟨h1, h2⟩, h3⟩, h4⟩ := h
      rw [ev] at e
      split at e
      · rename_i i e1
        cases e
        have q := ev_bitlen h1 h2 h3 (soundE O hC a env kd ks ρ _ _ h4 e1).1
        exact ⟨q, fun b hb => tv_plain q hb rfl⟩
      · cases e
    · cases h
  | .item a i, env, kd, ks, ρ, x, d, h, e => by
    unfold chkE at h
    split at h
    · simp only [Bool.and_eq_true, Bool.not_eq_true'] at h
      obtain ⟨⟨h1, h2⟩, h3⟩ := h
      rw [ev] at e
      split at e
      · rename_i u v e1 e2
        have q := ev_item (pos := by assumption) gd_up (soundE O hC a env kd ks ρ _ _ h1 e1).1 (soundE O hC i env kd ks ρ _ _ h2 e2).1 e h3
        exact ⟨q, fun b hb => tv_plain q hb rfl⟩
      · cases e
    · cases h
  | .tail a, env, kd, ks, ρ, x, d, h, e => by
    unfold chkE at h
    split at h
    · simp only [Bool.and_eq_true] at h
      rw [ev] at e
      split at e
      · rename_i u e1
        have q := ev_tail (pos := by assumption) (soundE O hC a env kd ks ρ _ _ h.1 e1).1 h.2 e
        exact ⟨q, fun b hb => tv_plain q hb rfl⟩
      · cases e
    · cases h
  | .dsub t k, env, kd, ks, ρ, x, d, h, e => by
    unfold chkE at h
    split at h
    · simp only [Bool.and_eq_true, Bool.not_eq_true', beq_iff_eq] at h
      obtain ⟨⟨⟨⟨h1, h2⟩, h3⟩, h4⟩, h5⟩ := h
      obtain ⟨l, hl⟩ := map_fst (beq_iff_eq.mpr h1)
      rw [ev] at e
      rw [hl] at e
      split at e
      · rename_i y l' u e1 e2
        cases e1
        have q := fun px pos => ev_dsub (px := px) (pos := pos) O hl (by simpa using h2) h3 (soundE O hC k env kd ks ρ _ _ h4 e2).1 h5 e
        exact ⟨q _ _, fun b hb => tv_plain (q _ _) hb rfl⟩
      · cases e
    · cases h
  | .tup es, env, kd, ks, ρ, x, d, h, e => by
    unfold chkE at h
    split at h
    · rw [ev] at e
      split at e
      · rename_i xs e1
        split at e
        · rename_i hz
          cases e
          have q := ev_tup (k := by assumption) (pos := by assumption) (soundEs O hC es env kd ks ρ _ _ h e1).1 hz
          exact ⟨q, fun b hb => by cases hb⟩
        · cases e
      · cases e
    · cases h
  | .lst es, env, kd, ks, ρ, x, d, h, e => by
    unfold chkE at h
    split at h
    · rw [ev] at e
      split at e
      · rename_i xs e1
        split at e
        · rename_i hz
          cases e
          have q := ev_lst (pos := by assumption) (soundEs O hC es env kd ks ρ _ _ h e1).1 hz
          exact ⟨q, fun b hb => by cases hb⟩
        · cases e
      · cases e
    · cases h
  | .comp elt src, env, kd, ks, ρ, x, d, h, e => by
    unfold chkE at h
    split at h
    · simp only [Bool.and_eq_true] at h
      obtain ⟨⟨h1, h2⟩, h3⟩ := h
      rw [ev] at e
      split at e
      · rename_i xs e1
        split at e
        · rename_i hz
          split at e
          · rename_i ys e2
            split at e
            · rename_i hl
              cases e
              obtain ⟨g1, g2⟩ := mapO_get e2
              have q := fun px pos => ev_comp (px := px) (pos := pos) h3 (soundE O hC src env kd ks ρ _ _ h1 e1).1 hz g1 fun i d hd => by
                obtain ⟨y, hy, hy2⟩ := g2 i d hd
                exact ⟨y, hy, noLists_get hl hy, fun C => (soundE O hC elt _ _ _ _ _ _ h2 hy2).1⟩
              exact ⟨q _ _, fun b hb => by cases hb⟩
            · cases e
          · cases e
        · cases e
      · cases e
    · cases h
  | .junk, env, kd, ks, ρ, x, d, h, e => by
    rw [ev] at e; cases e
theorem soundEs (O : GOk K w.params G) (hC : CallsOk prog w n K G p loose mean mg mb C) : ∀ (es : IEs) (env : Env) (kd : List (Str × NameKind)) (ks : List Str) (ρ : Loc) (xs : List Expr) (ds : List PyData), chkEs G kd ks es xs = true → evs G C ρ es = some ds →
    LV prog w n (Gd K p loose mean mg mb env kd ks ρ) env xs ds ∧ ∀ y ∈ xs, isStar y = false
  | .nil, env, kd, ks, ρ, xs, ds, h, e => by
    unfold chkEs at h
    split at h
    · rw [evs] at e; cases e
      exact ⟨lv_nil, fun y hy => nomatch hy⟩
    · cases h
  | .cons a r, env, kd, ks, ρ, xs, ds, h, e => by
    unfold chkEs at h
    split at h
    · simp only [Bool.and_eq_true, Bool.not_eq_true'] at h
      obtain ⟨⟨h1, h2⟩, h3⟩ := h
      rw [evs] at e
      split at e
      · rename_i u us e1 e2
        cases e
        have r2 := soundEs O hC r env kd ks ρ _ _ h3 e2
        exact ⟨lv_cons gd_up h2 (soundE O hC a env kd ks ρ _ _ h1 e1).1 r2.1, fun y hy => by
          rcases List.mem_cons.mp hy with rfl | hy
          · exact h2
          · exact r2.2 y hy⟩
      · cases e
    · cases h
theorem soundB (O : GOk K w.params G) (hC : CallsOk prog w n K G p loose mean mg mb C) : ∀ (es : IEs) (op : BoolOp) (env : Env) (kd : List (Str × NameKind)) (ks : List Str) (ρ : Loc) (xs : List Expr) (pos : Pos) (d : PyData), chkEs G kd ks es xs = true → evB G C ρ op es = some d →
    EV prog w n (Gd K p loose mean mg mb env kd ks ρ) env (.BoolOp op xs pos) d ∧ ∀ b, truth d = some b → TV prog w n (Gd K p loose mean mg mb env kd ks ρ) env (.BoolOp op xs pos) b
  | .nil, op, env, kd, ks, ρ, xs, pos, d, h, e => by rw [evB] at e; cases e
  | .cons a .nil, op, env, kd, ks, ρ, xs, pos, d, h, e => by
    unfold chkEs at h
    split at h
    · simp only [Bool.and_eq_true, Bool.not_eq_true'] at h
      obtain ⟨⟨h1, h2⟩, h3⟩ := h
      unfold chkEs at h3
      split at h3
      · rw [evB] at e
        have r := soundE O hC a env kd ks ρ _ _ h1 e
        exact ⟨fun A s Q E hA g k => BoolOp_one (r.1 A s Q E hA g k), fun b hb => tv_one (r.2 b hb)⟩
      · cases h3
    · cases h
  | .cons a (.cons a' r), op, env, kd, ks, ρ, xs, pos, d, h, e => by
    unfold chkEs at h
    split at h
    · rename_i x1 xs1
      simp only [Bool.and_eq_true, Bool.not_eq_true'] at h
      obtain ⟨⟨h1, h2⟩, h3⟩ := h
      rw [evB] at e
      split at e
      · rename_i u e1
        split at e
        · rename_i t e2
          have r1 := soundE O hC a env kd ks ρ _ _ h1 e1
          have hcons : ∃ y ys, xs1 = y :: ys := by
            unfold chkEs at h3
            split at h3
            · exact ⟨_, _, rfl⟩
            · cases h3
          obtain ⟨y, ys, rfl⟩ := hcons
          cases op with
          | And =>
            cases t with
            | true =>
              have r2 := soundB O hC (.cons a' r) .And env kd ks ρ _ pos d h3 e
              exact ⟨ev_and1 gd_up r1.1 e2 r2.1, fun b hb => tv_and1 gd_up (r1.2 _ e2) (r2.2 b hb)⟩
            | false =>
              cases e
              exact ⟨ev_and0 r1.1 e2, fun b hb => by rw [e2] at hb; cases hb; exact tv_and0 (r1.2 _ e2)⟩
          | Or =>
            cases t with
            | true =>
              cases e
              exact ⟨ev_or1 r1.1 e2, fun b hb => by rw [e2] at hb; cases hb; exact tv_or1 (r1.2 _ e2)⟩
            | false =>
              have r2 := soundB O hC (.cons a' r) .Or env kd ks ρ _ pos d h3 e
              exact ⟨ev_or0 gd_up r1.1 e2 r2.1, fun b hb => tv_or0 gd_up (r1.2 _ e2) (r2.2 b hb)⟩
        · cases e
      · cases e
    · cases h
end
end
end Mine

end

-- part Core8
section
open PySem PySem.W PyProof.Rows PySem.Calls PySem.Spec
set_option maxRecDepth 100000
set_option linter.unusedVariables false
namespace Mine

/-! ## statements: the check -/
def isComp : Expr → Bool
  | .ListComp .. => true
  | .SetComp .. => true
  | .DictComp .. => true
  | _ => false
def nameAt : Expr → Option (Str × Nat)
  | .Name x p => some (x, p.line)
  | _ => none
def locName (kd : List (Str × NameKind)) (ks : List Str) (i : Nat) (t : Expr) : Bool := match t with
  | .Name x _ => ks[i]? == some x && kd.lookup x == some .local
  | _ => false
def locNames (kd : List (Str × NameKind)) (ks : List Str) : List Nat → List Expr → Bool
  | [], [] => true
  | i :: is, t :: ts => locName kd ks i t && locNames kd ks is ts
  | _, _ => false
/-- the order of the stores of a display onto names -/
def swapB (kd : List (Str × NameKind)) (ts vs : List Expr) : Option (Option (List Str)) :=
  if !(ts.length == 2 || ts.length == 3) || vs.length != ts.length then some none else
  if vs.any isStar then some none else
  let line := (ts.head?.map (·.pos.line)).getD 0
  let names := ts.filterMap fun
    | .Name id pos => if kd.lookup id == some .local && pos.line == line then some id else none
    | _ => none
  if names.length != ts.length || names.eraseDups.length != names.length then some none else
  if vs.all (foldedForSure 8) then some none else
  if vs.all (constantsAlone 8) then none else
  some (some names)
theorem swapB_eq {env : Env} {kd : List (Str × NameKind)} {ts vs : List Expr} {a c : Nat} {b d : Pos} {r : Option (List Str)} (hn : env.scope.names = kd) (hk : env.scope.kind = .function) (h : swapB kd ts vs = some r) :
    swappedStores [.Tuple ts a b] (.Tuple vs c d) env = pure r := by
  have hbk : env.blockKind = .function := by unfold Env.blockKind; rw [hk]; rfl
  have hst : (vs.any fun x => match x with | .Starred .. => true | _ => false) = vs.any isStar := by
    congr 1
  unfold swapB at h
  unfold swappedStores
  simp only [hbk, Env.kindOf, hn]
  have e0 : ((ScopeKind.function != ScopeKind.function) : Bool) = false := rfl
  simp only [e0, Bool.or_false]
  by_cases h1 : (!(ts.length == 2 || ts.length == 3) || vs.length != ts.length) = true
  · rw [if_pos h1] at h ⊢
    cases h; rfl
  · rw [if_neg h1] at h ⊢
    show (if _ then _ else _) = _
    by_cases h2 : (vs.any isStar) = true
    · rw [if_pos h2] at h
      cases h
      exact if_pos (hst.trans h2)
    · rw [if_neg h2] at h
      refine (if_neg (fun q => h2 (hst.symm.trans q))).trans ?_
      show (if _ then _ else _) = _
      dsimp only at h
      split at h
      · rename_i h3
        cases h
        exact if_pos h3
      · rename_i h3
        refine (if_neg h3).trans ?_
        show (if _ then _ else _) = _
        split at h
        · rename_i h4
          cases h
          exact if_pos h4
        · rename_i h4
          refine (if_neg h4).trans ?_
          show (if _ then _ else _) = _
          split at h
          · cases h
          · rename_i h5
            cases h
            exact if_neg h5
end Mine

end

-- part Core9
section
open PySem PySem.W PyProof.Rows PySem.Calls PySem.Spec
set_option maxRecDepth 100000
set_option linter.unusedVariables false
namespace Mine

def tnames (ts : List Expr) : List Str := ts.filterMap fun t => (nameAt t).map (·.1)
def swapOk (kd : List (Str × NameKind)) (ts : List Expr) (is : List Nat) (v : Expr) : Bool := match v with
  | .Tuple vs _ _ => (match swapB kd ts vs with
    | some none => true
    | some (some ns) => ns == tnames ts && (is.length == 2 || is.length == 3)
    | none => false)
  | _ => true
section
variable (G : GT)
mutual
def chkS (kd : List (Str × NameKind)) (ks : List Str) : IS → Stmt → Bool
  | .ret e, t => match t with
    | .Return (some x) _ => chkE G kd ks e x
    | _ => false
  | .set i e, t => match t with
    | .Assign [.Name y p] x _ => locName kd ks i (.Name y p) && chkE G kd ks e x && !isComp x
    | _ => false
  | .set2 i j e, t => match t with
    | .Assign [.Name y p, .Name z q] x _ => locName kd ks i (.Name y p) && locName kd ks j (.Name z q) && chkE G kd ks e x
    | _ => false
  | .unp is e, t => match t with
    | .Assign [.Tuple ts _ _] x _ => locNames kd ks is ts && chkE G kd ks e x && swapOk kd ts is x && decide is.Nodup
    | _ => false
  | .aug i op e, t => match t with
    | .AugAssign (.Name y p) o x _ => op == o && locName kd ks i (.Name y p) && chkE G kd ks e x
    | _ => false
  | .ite c a b, t => match t with
    | .If x y z _ => chkE G kd ks c x && chkSs kd ks a y && chkSs kd ks b z
    | _ => false
  | .assert c, t => match t with
    | .Assert x _ _ => chkE G kd ks c x
    | _ => false
  | .for i src body, t => match t with
    | .For (.Name y p) it b [] _ => locName kd ks i (.Name y p) && chkE G kd ks src it && chkSs kd ks body b && !isSet it
    | _ => false
  | .setc i elt src, t => match t with
    | .Assign [.Name y py] (.ListComp e [⟨.Name x px, it, [], 0⟩] sc lp) _ => locName kd ks i (.Name y py) && py.line == lp.line && !(sc.names.any fun (n, k) => n == y && (k == .local || k == .cell)) &&
        chkE G kd ks (.comp elt src) (.ListComp e [⟨.Name x px, it, [], 0⟩] sc lp)
    | _ => false
  | .junk, _ => true
def chkSs (kd : List (Str × NameKind)) (ks : List Str) : ISs → List Stmt → Bool
  | .nil, ts => match ts with
    | [] => true
    | _ => false
  | .cons s r, ts => match ts with
    | t :: ts => chkS kd ks s t && chkSs kd ks r ts
    | _ => false
end
end

structure Sta (env : Env) (kd : List (Str × NameKind)) (ks : List Str) : Prop where
  nm : env.scope.names = kd
  kf : env.scope.kind = .function
  gl : env.globals = mainGlobals
  bu : env.builtins = builtinsNs
  cel : ∀ x : Str, kd.lookup x = some .cell → ∃ c, env.cells.lookup x = some c
  nd : ks.Nodup

structure FrameOk (K : Frag) (p : Program) (loose : List Str) (mean : ExcName → Option Value) (mg mb : Str → Option Value) (env : Env) (kd : List (Str × NameKind)) (ks : List Str) (ρ : Loc) (h₀ h : Heap) : Prop where
  sta : Sta env kd ks
  cx : Cx K p loose mean mg mb h₀
  keep : ∀ b o, h₀.get? b = some o → h.get? b = some o
  above : h₀.objs.size ≤ env.locals
  ns : ∃ m, h.Ns env.locals m ∧ ∀ (i : Nat) (x : Str) (d : PyData), ks[i]? = some x → kd.lookup x = some .local → getD ρ i = some d → ∃ v, m x = some v ∧ Rp h v d
  cells : ∀ (i : Nat) (x : Str) (d : PyData), ks[i]? = some x → kd.lookup x = some .cell → getD ρ i = some d → ∃ c v, env.cells.lookup x = some c ∧ h.IsCell c (some v) ∧ Rp h v d

def FP (L : Addr) (s s' : Shared) : Prop := ∃ h' tk, s' = { s with heap := h', toks := tk } ∧ ∀ b o, b ≠ L → s.heap.get? b = some o → h'.get? b = some o
theorem FP.refl {L : Addr} (s : Shared) : FP L s s := ⟨s.heap, s.toks, rfl, fun _ _ _ e => e⟩
theorem FP.trans {L : Addr} {a b c : Shared} (x : FP L a b) (y : FP L b c) : FP L a c := by
  obtain ⟨h, t, rfl, k⟩ := x
  obtain ⟨h', t', rfl, k'⟩ := y
  exact ⟨h', t', rfl, fun q o n e => k' q o n (k q o n e)⟩
theorem FP.of {L : Addr} {a b : Shared} (x : Keeps a b) : FP L a b := by
  obtain ⟨h, t, rfl, k⟩ := x
  exact ⟨h, t, rfl, fun q o n e => k q o e⟩
theorem FP.get {L : Addr} {a b : Shared} (x : FP L a b) : ∀ q o, q ≠ L → a.heap.get? q = some o → b.heap.get? q = some o := by
  obtain ⟨h, t, rfl, k⟩ := x; exact k

section
variable {prog : Program} {w : World} {n : Nat} {K : Frag} {G : GT} {p : Program} {loose : List Str} {mean : ExcName → Option Value} {mg mb : Str → Option Value} {C : Nat → List PyData → Option PyData}
  {env : Env} {kd : List (Str × NameKind)} {ks : List Str} {ρ : Loc} {h₀ : Heap} {A : Around} {E : Value → Shared → Prop} {s : Shared}

theorem FrameOk.gd {h : Heap} (F : FrameOk K p loose mean mg mb env kd ks ρ h₀ h) : Gd K p loose mean mg mb env kd ks ρ h := by
  refine ⟨F.cx.keeps F.keep, F.sta.nm, F.sta.kf, F.sta.gl, F.sta.bu, F.sta.cel, fun i x d hi hs hd => ?_⟩
  unfold seen at hs
  rw [Bool.or_eq_true] at hs
  rcases hs with hs | hs
  · obtain ⟨m, hn, hm⟩ := F.ns
    obtain ⟨v, e, r⟩ := hm i x d hi (by simpa using hs) hd
    exact ⟨v, r, .inl ⟨by rw [Env.kindOf, F.sta.nm]; simpa using hs, m, hn, e⟩⟩
  · obtain ⟨c, v, e, e2, r⟩ := F.cells i x d hi (by simpa using hs) hd
    exact ⟨v, r, .inr ⟨by rw [Env.kindOf, F.sta.nm]; simpa using hs, c, e, e2⟩⟩

theorem FrameOk.mono {g g' : Heap} (F : FrameOk K p loose mean mg mb env kd ks ρ h₀ g) (hL : ∀ o, g.get? env.locals = some o → g'.get? env.locals = some o) (hk : ∀ b o, h₀.get? b = some o → g'.get? b = some o) (hs : SeqKeep g g')
    (hc : ∀ c v, g.IsCell c v → g'.IsCell c v) : FrameOk K p loose mean mg mb env kd ks ρ h₀ g' := by
  refine ⟨F.sta, F.cx, hk, F.above, ?_, fun i x d a b c => ?_⟩
  · obtain ⟨m, hn, hm⟩ := F.ns
    exact ⟨m, hn.at' hL, fun i x d a b c => let ⟨v, e, r⟩ := hm i x d a b c; ⟨v, e, r.mono hs⟩⟩
  · obtain ⟨q, v, e1, e2, r⟩ := F.cells i x d a b c
    exact ⟨q, v, e1, hc _ _ e2, r.mono hs⟩
theorem FrameOk.keeps {s' : Shared} (F : FrameOk K p loose mean mg mb env kd ks ρ h₀ s.heap) (k : Keeps s s') : FrameOk K p loose mean mg mb env kd ks ρ h₀ s'.heap :=
  F.mono (fun o e => kp_get k _ _ e) (fun b o e => kp_get k _ _ (F.keep b o e)) (SeqKeep.of (kp_get k)) fun c v x => x.keeps (kp_get k)
/-- all but one object, that is no seq, no cell, not the frame's own -/
theorem FrameOk.but {g g' : Heap} {I : Addr} (F : FrameOk K p loose mean mg mb env kd ks ρ h₀ g) (hk : ∀ b o, b ≠ I → g.get? b = some o → g'.get? b = some o) (hI : I ≠ env.locals) (h0 : h₀.get? I = none)
    (hd : ∀ o, g.get? I = some o → (∀ vs n, o.data ≠ .seq vs n) ∧ ∀ v, o.data ≠ .cell v) : FrameOk K p loose mean mg mb env kd ks ρ h₀ g' :=
  F.mono (fun o e => hk _ _ (Ne.symm hI) e) (fun b o e => hk _ _ (fun q => by rw [q, h0] at e; cases e) (F.keep b o e))
    (fun b o vs nn e e' => hk _ _ (fun q => by subst q; exact (hd o e).1 _ _ e') e)
    fun c v ⟨o, e, e'⟩ => ⟨o, hk _ _ (fun q => by subst q; exact (hd o e).2 _ e') e, e'⟩

theorem getD_set {ρ : Loc} {i j : Nat} {d e : PyData} (h : getD (ρ.set i (some d)) j = some e) : (i = j ∧ e = d) ∨ (i ≠ j ∧ getD ρ j = some e) := by
  unfold getD at h ⊢
  by_cases q : i = j
  · subst q
    rw [List.getElem?_set_self'] at h
    cases hx : ρ[i]? with
    | none => rw [hx] at h; simp at h
    | some y => rw [hx] at h; simp at h; exact .inl ⟨rfl, h.symm⟩
  · rw [List.getElem?_set_ne q] at h
    exact .inr ⟨q, h⟩

theorem st_ok {i : Nat} {x : Str} {v : Value} {d : PyData} {Q : Unit → Shared → Prop} (F : FrameOk K p loose mean mg mb env kd ks ρ h₀ s.heap) (hi : ks[i]? = some x) (hl : kd.lookup x = some .local) (hv : Rp s.heap v d)
    (h : ∀ s', FP env.locals s s' → SeqKeep s.heap s'.heap → FrameOk K p loose mean mg mb env kd ks (ρ.set i (some d)) h₀ s'.heap → Q () s') : wpAny (model prog w) A (storeName env x v) Q E s := by
  obtain ⟨m, hn, hm⟩ := F.ns
  refine wpAny_storeName_local (by rw [Env.kindOf, F.sta.nm]; exact hl) hn (fun h' hn' hs' => ?_) (by rw [F.sta.kf]; rfl)
  have sk : SeqKeep s.heap h' := SeqKeep.same hn hs'
  refine h _ ⟨h', _, rfl, fun b o hb e => hs'.extBut b o hb e⟩ sk ⟨F.sta, F.cx, fun b o e => hs'.extBut b o (Nat.ne_of_lt (Nat.lt_of_lt_of_le (Heap.lt_size e) F.above)) (F.keep b o e), F.above, ⟨_, hn', fun j y e hj hy he => ?_⟩, fun j y e hj hy he => ?_⟩
  · rcases getD_set he with ⟨rfl, rfl⟩ | ⟨hne, he'⟩
    · rw [hi] at hj; cases hj
      exact ⟨v, by simp, hv.mono sk⟩
    · obtain ⟨u, hu, hr⟩ := hm j y e hj hy he'
      refine ⟨u, ?_, hr.mono sk⟩
      have hyx : y ≠ x := fun q => hne ((List.getElem?_inj (by
        obtain ⟨q1, _⟩ := List.getElem?_eq_some_iff.mp hi
        exact q1) F.sta.nd).mp (by rw [hi, hj, q]))
      simp [hyx, hu]
  · rcases getD_set he with ⟨rfl, rfl⟩ | ⟨hne, he'⟩
    · rw [hi] at hj; cases hj
      rw [hl] at hy; cases hy
    · obtain ⟨c, u, e1, ⟨o, ho, hd⟩, r⟩ := F.cells j y e hj hy he'
      refine ⟨c, u, e1, ⟨o, hs'.extBut c o (fun q => ?_) ho, hd⟩, r.mono sk⟩
      obtain ⟨o', es, ep, e', hd', _⟩ := hn
      rw [q, e'] at ho; cases ho
      rw [hd] at hd'; cases hd'

inductive Storers (env : Env) : List (Value → Sem Unit) → List Str → Prop
  | nil : Storers env [] []
  | cons {f : Value → Sem Unit} {fs : List (Value → Sem Unit)} {x : Str} {xs : List Str} : (∀ (M : Model) (A : Around) (E : Value → Shared → Prop) (s : Shared) (v : Value) (Q : Unit → Shared → Prop), wpAny M A (storeName env x v) Q E s → wpAny M A (f v) Q E s) →
      Storers env fs xs → Storers env (f :: fs) (x :: xs)
def AtNames (kd : List (Str × NameKind)) (ks : List Str) : List Nat → List Str → Prop
  | [], [] => True
  | i :: is, x :: xs => ks[i]? = some x ∧ kd.lookup x = some .local ∧ AtNames kd ks is xs
  | _, _ => False
theorem sts_ok {fs : List (Value → Sem Unit)} {xs : List Str} (H : Storers env fs xs) : ∀ {is : List Nat} {vs : List Value} {ds : List PyData} {ρ ρ' : Loc} {s : Shared} {Q : Unit → Shared → Prop}, AtNames kd ks is xs → setAll is ds ρ = some ρ' →
    FrameOk K p loose mean mg mb env kd ks ρ h₀ s.heap → RpL s.heap vs ds → (∀ s', FP env.locals s s' → FrameOk K p loose mean mg mb env kd ks ρ' h₀ s'.heap → Q () s') → wpAny (model prog w) A (assignInOrder fs vs) Q E s := by
  induction H with
  | nil =>
    intro is vs ds ρ ρ' s Q ha he F r h
    cases is with
    | cons _ _ => exact ha.elim
    | nil =>
      cases r with
      | nil => cases he; exact assignInOrder_nil (h s (FP.refl s) F)
      | cons _ _ => cases he
  | cons hf hfs ih =>
    intro is vs ds ρ ρ' s Q ha he F r h
    cases is with
    | nil => exact ha.elim
    | cons i is =>
      obtain ⟨a1, a2, a3⟩ := ha
      cases r with
      | nil => cases he
      | cons r1 r2 =>
        refine assignInOrder_cons (hf _ _ _ _ _ _ (st_ok F a1 a2 r1 fun s₁ k₁ sk F₁ => ?_))
        exact ih a3 he F₁ (r2.mono sk) fun s₂ k₂ F₂ => h s₂ (k₁.trans k₂) F₂

theorem setAll2 {is : List Nat} {ds : List PyData} {ρ ρ' : Loc} (hl : is.length = 2 ∨ is.length = 3) (hd : is.Nodup) (h : setAll is ds ρ = some ρ') : setAll is.reverse ds.reverse ρ = some ρ' := by
  rcases hl with hl | hl
  · match is, hl, ds, h with
    | [i, j], _, [a, b], h =>
      simp only [setAll, Option.some.injEq] at h
      have hij : i ≠ j := by simp at hd; exact hd
      simp only [List.reverse_cons, List.reverse_nil, List.nil_append, List.cons_append, setAll, Option.some.injEq]
      rw [← h, List.set_comm _ _ (Ne.symm hij)]
    | [i, j], _, [], h => simp [setAll] at h
    | [i, j], _, [_], h => simp [setAll] at h
    | [i, j], _, _ :: _ :: _ :: _, h => simp [setAll] at h
  · match is, hl, ds, h with
    | [i, j, k], _, [a, b, c], h =>
      simp only [setAll, Option.some.injEq] at h
      simp at hd
      obtain ⟨⟨h1, h2⟩, h3⟩ := hd
      simp only [List.reverse_cons, List.reverse_nil, List.nil_append, List.cons_append, setAll, Option.some.injEq]
      rw [← h, List.set_comm (some c) (some b) (Ne.symm h3), List.set_comm (some c) (some a) (Ne.symm h2), List.set_comm (some b) (some a) (Ne.symm h1)]
    | [i, j, k], _, [], h => simp [setAll] at h
    | [i, j, k], _, [_], h => simp [setAll] at h
    | [i, j, k], _, [_, _], h => simp [setAll] at h
    | [i, j, k], _, _ :: _ :: _ :: _ :: _, h => simp [setAll] at h
theorem setAll_len : ∀ {is : List Nat} {ds : List PyData} {ρ ρ' : Loc}, setAll is ds ρ = some ρ' → is.length = ds.length
  | [], [], _, _, _ => rfl
  | [], _ :: _, _, _, h => by simp [setAll] at h
  | _ :: _, [], _, _, h => by simp [setAll] at h
  | i :: is, d :: ds, ρ, ρ', h => by rw [List.length_cons, List.length_cons, setAll_len (by simpa [setAll] using h)]
theorem AtNames.reverse : ∀ {is : List Nat} {xs : List Str}, AtNames kd ks is xs → AtNames kd ks is.reverse xs.reverse := by
  have app : ∀ {is : List Nat} {xs : List Str} {i : Nat} {x : Str}, AtNames kd ks is xs → ks[i]? = some x → kd.lookup x = some .local → AtNames kd ks (is ++ [i]) (xs ++ [x]) := by
    intro is
    induction is with
    | nil => intro xs i x h a b; cases xs with
      | nil => exact ⟨a, b, trivial⟩
      | cons _ _ => exact h.elim
    | cons j js ih => intro xs i x h a b; cases xs with
      | nil => exact h.elim
      | cons y ys => exact ⟨h.1, h.2.1, ih h.2.2 a b⟩
  intro is
  induction is with
  | nil => intro xs h; cases xs with
    | nil => trivial
    | cons _ _ => exact h.elim
  | cons j js ih => intro xs h; cases xs with
    | nil => exact h.elim
    | cons y ys => rw [List.reverse_cons, List.reverse_cons]; exact app (ih h.2.2) h.1 h.2.1
theorem RpL.reverse {h : Heap} {vs : List Value} {ds : List PyData} (r : RpL h vs ds) : RpL h vs.reverse ds.reverse := by
  induction vs generalizing ds with
  | nil => cases r; exact .nil
  | cons v vs ih =>
    cases r with
    | cons r1 r2 => rw [List.reverse_cons, List.reverse_cons]; exact (ih r2).append (.cons r1 .nil)
theorem storers_bind : ∀ (xs : List Str), Storers env (xs.map fun n => bindName env n) xs
  | [] => .nil
  | x :: xs => .cons (fun M A E s v Q h => bindName_ h) (storers_bind xs)
theorem locName_of {i : Nat} {t : Expr} (h : locName kd ks i t = true) : ∃ x q, t = .Name x q ∧ ks[i]? = some x ∧ kd.lookup x = some .local := by
  unfold locName at h
  split at h
  · simp only [Bool.and_eq_true, beq_iff_eq] at h
    exact ⟨_, _, rfl, h.1, h.2⟩
  · cases h
theorem targets_of : ∀ {is : List Nat} {ts : List Expr}, locNames kd ks is ts = true → AtNames kd ks is (tnames ts) ∧ Storers env ((assignEach ts env).map (·.2)) (tnames ts) ∧ (assignEach ts env).length = is.length ∧ (assignEach ts env).findIdx? (·.1) = none ∧ (tnames ts).length = is.length
  | [], [], _ => ⟨trivial, .nil, rfl, rfl, rfl⟩
  | [], _ :: _, h => by simp [locNames] at h
  | _ :: _, [], h => by simp [locNames] at h
  | i :: is, t :: ts, h => by
    rw [locNames, Bool.and_eq_true] at h
    obtain ⟨x, q, rfl, h1, h2⟩ := locName_of h.1
    obtain ⟨a, b, c, d, e⟩ := targets_of (is := is) (ts := ts) h.2
    have e0 : assignEach (.Name x q :: ts) env = (false, assign (.Name x q) env) :: assignEach ts env := rfl
    have e1 : tnames (.Name x q :: ts) = x :: tnames ts := rfl
    rw [e0, e1]
    refine ⟨⟨h1, h2, a⟩, .cons (fun M A E s v Q h => PyProof.Rows.assign_Name h) b, by rw [List.length_cons, List.length_cons, c], ?_, by rw [List.length_cons, List.length_cons, e]⟩
    rw [List.findIdx?_cons]
    simp [d]
end
end Mine

end

-- part Core10
section
open PySem PySem.W PyProof.Rows PySem.Calls PySem.Spec
set_option maxRecDepth 100000
set_option linter.unusedVariables false
namespace Mine

section
variable {prog : Program} {w : World} {n : Nat} {K : Frag} {G : GT} {p : Program} {loose : List Str} {mean : ExcName → Option Value} {mg mb : Str → Option Value} {C : Nat → List PyData → Option PyData}
  {env : Env} {kd : List (Str × NameKind)} {ks : List Str}

def FlOk (K : Frag) (p : Program) (loose : List Str) (mean : ExcName → Option Value) (mg mb : Str → Option Value) (env : Env) (kd : List (Str × NameKind)) (ks : List Str) (h₀ : Heap) (s : Shared) (Q : Flow → Shared → Prop) : Fl → Prop
  | .ret d => ∀ v s', FP env.locals s s' → Rp s'.heap v d → Q (.ret v) s'
  | .next ρ' => ∀ s', FP env.locals s s' → FrameOk K p loose mean mg mb env kd ks ρ' h₀ s'.heap → Q .next s'
theorem FlOk.after {h₀ : Heap} {s s' : Shared} {Q : Flow → Shared → Prop} {fl : Fl} (h : FlOk K p loose mean mg mb env kd ks h₀ s Q fl) (k : FP env.locals s s') : FlOk K p loose mean mg mb env kd ks h₀ s' Q fl := by
  cases fl with
  | ret d => exact fun v s₂ k₂ r => h v s₂ (k.trans k₂) r
  | next ρ' => exact fun s₂ k₂ F => h s₂ (k.trans k₂) F

def SV (prog : Program) (w : World) (n : Nat) (K : Frag) (p : Program) (loose : List Str) (mean : ExcName → Option Value) (mg mb : Str → Option Value) (env : Env) (kd : List (Str × NameKind)) (ks : List Str) (ρ : Loc) (t : Env → Sem Flow) (fl : Fl) : Prop :=
  ∀ (A : Around) (s : Shared) (h₀ : Heap) (Q : Flow → Shared → Prop) (E : Value → Shared → Prop), AOk n A → FrameOk K p loose mean mg mb env kd ks ρ h₀ s.heap → FlOk K p loose mean mg mb env kd ks h₀ s Q fl → wpAny (model prog w) A (t env) Q E s

theorem swaps_plain {v : Expr} {t : Option Expr} {l : Nat} (h : isComp v = false) : swapsWith v t l env = pure false := by
  cases v <;> first | rfl | cases h
theorem swaps_tuple {v : Expr} {ts : List Expr} {a : Nat} {b : Pos} {l : Nat} : swapsWithSole [.Tuple ts a b] v l env = pure false := by
  cases v <;> rfl
theorem swapped_none {v : Expr} {ts : List Expr} {a : Nat} {b : Pos} (h : ∀ vs c d, v ≠ .Tuple vs c d) : swappedStores [.Tuple ts a b] v env = pure none := by
  cases v <;> first | rfl | exact absurd rfl (h _ _ _)

theorem unpack_ok {A : Around} {E : Value → Shared → Prop} {s : Shared} {v : Value} {xs : List PyData} {d : PyData} {Q : List Value → Shared → Prop} (hh : A.handled = none) (hv : Rp s.heap v d) (hd : d = .tuple xs ∨ d = .list xs)
    (h : ∀ vs s', Keeps s s' → RpL s'.heap vs xs → Q vs s') : wpAny (model prog w) A (unpackItems v xs.length none) Q E s := by
  have fin : ∀ (vs : Array Value) (h' : Heap), RpL s.heap vs.toList xs → Heap.ExtBut s.heap.objs.size s.heap h' → Q vs.toList { s with heap := h' } := fun vs h' r he => by
    have k : ∀ b o, s.heap.get? b = some o → h'.get? b = some o := fun b o e => he b o (Nat.ne_of_lt (Heap.lt_size e)) e
    exact h _ _ (kp_mk s h' s.toks k) (r.mono (SeqKeep.of k))
  rcases hd with rfl | rfl
  · cases hv with
    | tuple h1 h2 h3 r =>
      have hl := r.length
      rw [Array.length_toList] at hl
      rw [← hl]
      exact unpackItems_tuple hh (isTup_of h1 h2 h3) fun h' he => fin _ h' r he
  · cases hv with
    | list h1 h2 h3 r =>
      have hl := r.length
      rw [Array.length_toList] at hl
      rw [← hl]
      exact kun_itemsOf hh ⟨_, h1, h2, _, h3⟩ fun h' he => fin _ h' r he

theorem sv_unp {ρ ρ' : Loc} {is : List Nat} {ts : List Expr} {a : Nat} {b pos : Pos} {v : Expr} {d : PyData} {xs : List PyData} (hn : locNames kd ks is ts = true) (hs : swapOk kd ts is v = true) (nd : is.Nodup)
    (hv : EV prog w n (Gd K p loose mean mg mb env kd ks ρ) env v d) (hd : d = .tuple xs ∨ d = .list xs) (he : setAll is xs ρ = some ρ') : SV prog w n K p loose mean mg mb env kd ks ρ (exec (.Assign [.Tuple ts a b] v pos)) (.next ρ') := fun A s h₀ Q E hA F h => by
  obtain ⟨t1, t2, t3, t4, t5⟩ := targets_of (env := env) hn
  have hlen := setAll_len he
  have plain : swappedStores [.Tuple ts a b] v env = pure none → wpAny (model prog w) A (exec (.Assign [.Tuple ts a b] v pos) env) Q E s := fun hw =>
    Assign_Tuple (hv A s _ E hA F.gd fun u s₁ k₁ r₁ => by
      rw [assign_Tuple]
      refine wpAny_bind (wpAny_standAt ?_)
      unfold unpack
      rw [t3, t4, hlen]
      refine wpAny_bind (wpAny_holding (unpack_ok hA.1 r₁ hd fun vs s₂ k₂ r₂ => ?_))
      exact sts_ok t2 t1 he ((F.keeps k₁).keeps k₂) r₂ fun s₃ k₃ F₃ => h s₃ (((FP.of k₁).trans (FP.of k₂)).trans k₃) F₃) swaps_tuple hw
  unfold swapOk at hs
  split at hs
  · split at hs
    · rename_i e
      exact plain (swapB_eq F.sta.nm F.sta.kf e)
    · rename_i ns e
      simp only [Bool.and_eq_true, Bool.or_eq_true, beq_iff_eq] at hs
      obtain ⟨rfl, hl⟩ := hs
      refine Assign_Tuple_swapped (names := tnames ts) (hv A s _ E hA F.gd fun u s₁ k₁ r₁ => ?_) swaps_tuple (swapB_eq F.sta.nm F.sta.kf e)
      rw [t5, hlen]
      refine unpack_ok hA.1 r₁ hd fun vs s₂ k₂ r₂ => ?_
      exact sts_ok (storers_bind _) t1.reverse (setAll2 hl nd he) ((F.keeps k₁).keeps k₂) r₂.reverse fun s₃ k₃ F₃ => h s₃ (((FP.of k₁).trans (FP.of k₂)).trans k₃) F₃
    · cases hs
  · rename_i hne
    exact plain (swapped_none fun vs c d q => hne vs c d q)

theorem sv_for {ρ : Loc} {i : Nat} {y : Str} {py pos : Pos} {it : Expr} {body : List Stmt} {xs : List PyData} {step : PyData → Loc → Option Fl} {fl : Fl} (hi : ks[i]? = some y) (hl : kd.lookup y = some .local) (hset : isSet it = false)
    (hv : EV prog w n (Gd K p loose mean mg mb env kd ks ρ) env it (.list xs)) (hz : xs.length ≤ 1000) (hb : ∀ d ρ fl, step d ρ = some fl → SV prog w n K p loose mean mg mb env kd ks (ρ.set i (some d)) (execs body) fl)
    (he : forD step xs ρ = some fl) : SV prog w n K p loose mean mg mb env kd ks ρ (exec (.For (.Name y py) it body [] pos)) fl := fun A s h₀ Q E hA F h => by
  refine wpAny_For (hv A s _ E hA F.gd fun u s₁ k₁ r₁ => ?_) (fold_eq hset)
  have F₁ := F.keeps k₁
  replace h := h.after (FP.of k₁)
  have hr := r₁
  cases r₁ with
  | list h1 h2 h3 r =>
    rename_i l o vs nn
    have hL : s₁.heap.IsList l vs := ⟨_, h1, h2, _, h3⟩
    have hlt : l < s₁.heap.objs.size := Heap.lt_size h1
    have hlen := r.length
    rw [Array.length_toList] at hlen
    refine wpAny_pyIter_list hL ?_
    obtain ⟨m, hn, hm⟩ := F₁.ns
    have hLI : env.locals < s₁.heap.objs.size := hn.lt
    have hlL : l ≠ env.locals := fun q => by
      obtain ⟨o', es, ep, e', hd', _⟩ := hn
      rw [← q, h1] at e'; cases e'
      rw [h3] at hd'; cases hd'
    have h0I : h₀.get? s₁.heap.objs.size = none := by
      cases e : h₀.get? s₁.heap.objs.size with
      | none => rfl
      | some o' => exact absurd (Heap.lt_size (F₁.keep _ _ e)) (Nat.lt_irrefl _)
    have W : Walks prog w A s₁.heap.objs.size [s₁.heap.objs.size, l] [s₁.heap.objs.size] vs.size (fun i v => vs[i]? = some v) (fun i h => h.IsListIter s₁.heap.objs.size l i ∧ h.IsList l vs) :=
      Walks.list hA.1 s₁.heap.objs.size l (Nat.ne_of_lt hlt) vs
    refine codeAny_forLoop (fun k s' => ∃ j ρj, j ≤ vs.size ∧ k = vs.size + 1 - j ∧ FP env.locals s₁ s' ∧ (s'.heap.IsListIter s₁.heap.objs.size l j ∧ s'.heap.IsList l vs) ∧ FrameOk K p loose mean mg mb env kd ks ρj h₀ s'.heap ∧ RpL s'.heap vs.toList xs ∧ forD step (xs.drop j) ρj = some fl) ?_ (vs.size + 1)
      ⟨0, ρ, Nat.zero_le _, rfl, FP.of (kp_push s₁ _ s₁.toks), ⟨⟨_, Heap.get?_push_size _ rfl, rfl, rfl⟩, hL.push _⟩, F₁.keeps (kp_push s₁ _ s₁.toks), r.mono (SeqKeep.of fun _ _ e => Heap.get?_push_of_some _ e), by simpa using he⟩
    rintro k s' ⟨j, ρj, hj, rfl, k', st', F', r', e'⟩
    have butI : ∀ g : Heap, (∀ b o, b ∉ [s₁.heap.objs.size] → s'.heap.get? b = some o → g.get? b = some o) → FrameOk K p loose mean mg mb env kd ks ρj h₀ g ∧ RpL g vs.toList xs ∧ (∀ b o, b ≠ env.locals → s₁.heap.get? b = some o → g.get? b = some o) := fun g hg => by
      have hd : ∀ o, s'.heap.get? s₁.heap.objs.size = some o → (∀ vs n, o.data ≠ .seq vs n) ∧ ∀ v, o.data ≠ .cell v := fun o e => by
        obtain ⟨o', e1, e2, e3⟩ := st'.1
        rw [e] at e1; cases e1
        exact ⟨fun vs n q => (by rw [e3] at q; cases q), fun v q => (by rw [e3] at q; cases q)⟩
      refine ⟨F'.but (I := s₁.heap.objs.size) (fun b o hb e => hg b o (by simpa using hb) e) (Nat.ne_of_gt hLI) h0I hd, r'.mono fun b o vs' nn' e ed => hg b o (fun q => ?_) e, fun b o hb e => hg b o (fun q => ?_) (FP.get k' b o hb e)⟩
      · rw [List.mem_singleton.mp q] at e; exact (hd o e).1 _ _ ed
      · have := Heap.lt_size e
        rw [List.mem_singleton.mp q] at this; exact Nat.lt_irrefl _ this
    obtain ⟨hh, tk, rfl, kk⟩ := k'
    by_cases hlt' : j < vs.size
    · refine W.item j _ _ _ hlt' st' fun v g₁ tk₁ hPv st₁ hk₁ => ?_
      obtain ⟨F₂, r₂, k₂⟩ := butI g₁ hk₁
      obtain ⟨d, hd, hrd⟩ := r₂.getV (by rw [Array.getElem?_toList]; exact hPv)
      refine wpAny_assign_Name (st_ok (s := { s₁ with heap := g₁, toks := tk₁ }) F₂ hi hl hrd fun s₃ k₃ sk₃ F₃ => ?_)
      have hdrop : xs.drop j = d :: xs.drop (j + 1) := by
        obtain ⟨q, hq⟩ := List.getElem?_eq_some_iff.mp hd
        rw [List.drop_eq_getElem_cons q, hq]
      rw [hdrop] at e'
      have up : ∀ s₄ : Shared, FP env.locals s₃ s₄ → FP env.locals s₁ s₄ ∧ (s₄.heap.IsListIter s₁.heap.objs.size l (j + 1) ∧ s₄.heap.IsList l vs) := fun s₄ k₄ => by
        refine ⟨FP.trans (FP.trans ⟨g₁, tk₁, rfl, k₂⟩ k₃) k₄, W.frame _ _ _ st₁ fun b hb o e => ?_⟩
        have hbL : b ≠ env.locals := by
          rcases List.mem_cons.mp hb with rfl | hb
          · exact Nat.ne_of_gt hLI
          · rw [List.mem_singleton.mp hb]; exact hlL
        exact FP.get k₄ b o hbL (FP.get k₃ b o hbL e)
      unfold forD at e'
      split at e'
      · rename_i ρ' e2
        refine hb d ρj _ e2 A s₃ h₀ _ _ hA F₃ fun s₄ k₄ F₄ => ?_
        obtain ⟨u1, u2⟩ := up s₄ k₄
        refine ⟨vs.size + 1 - (j + 1), by omega, j + 1, ρ', hlt', rfl, u1, u2, F₄, ?_, e'⟩
        obtain ⟨m3, hn3, _⟩ := F₃.ns
        refine r₂.mono ((show SeqKeep g₁ s₃.heap from sk₃).trans ?_)
        intro b o vs' nn' e ed
        exact FP.get k₄ b o (fun q => by
          obtain ⟨o', es, ep, e1, e2, _⟩ := hn3
          rw [← q, e] at e1; cases e1
          rw [ed] at e2; cases e2) e
      · rename_i hne
        cases fl with
        | next ρ' => exact absurd e' (hne ρ')
        | ret dd =>
          refine hb d ρj _ e' A s₃ h₀ _ _ hA F₃ fun v' s₄ k₄ r₄ => ?_
          exact h v' s₄ (up s₄ k₄).1 r₄
    · obtain rfl : j = vs.size := Nat.le_antisymm hj (Nat.not_lt.mp hlt')
      refine W.done _ _ _ st' fun g₁ tk₁ hk₁ => wpAny_execs_nil ?_
      obtain ⟨F₂, r₂, k₂⟩ := butI g₁ hk₁
      rw [List.drop_eq_nil_of_le (by omega)] at e'
      cases e'
      exact h _ ⟨g₁, tk₁, rfl, k₂⟩ F₂
end
end Mine

end

-- part Core11
section
open PySem PySem.W PyProof.Rows PySem.Calls PySem.Spec
set_option maxRecDepth 100000
set_option linter.unusedVariables false
namespace Mine

section
variable {prog : Program} {w : World} {n : Nat} {K : Frag} {G : GT} {p : Program} {loose : List Str} {mean : ExcName → Option Value} {mg mb : Str → Option Value} {C : Nat → List PyData → Option PyData}
  {env : Env} {kd : List (Str × NameKind)} {ks : List Str}

theorem sv_ret {ρ : Loc} {x : Expr} {pos : Pos} {d : PyData} (hv : EV prog w n (Gd K p loose mean mg mb env kd ks ρ) env x d) : SV prog w n K p loose mean mg mb env kd ks ρ (exec (.Return (some x) pos)) (.ret d) := fun A s h₀ Q E hA F h =>
  wpAny_Return_some (hv A s _ E hA F.gd fun v s₁ k₁ r₁ => h v s₁ (FP.of k₁) r₁)
theorem sv_set {ρ : Loc} {i : Nat} {y : Str} {py pos : Pos} {x : Expr} {d : PyData} (hi : ks[i]? = some y) (hl : kd.lookup y = some .local) (hc : isComp x = false) (hv : EV prog w n (Gd K p loose mean mg mb env kd ks ρ) env x d) :
    SV prog w n K p loose mean mg mb env kd ks ρ (exec (.Assign [.Name y py] x pos)) (.next (ρ.set i (some d))) := fun A s h₀ Q E hA F h =>
  wpAny_Assign_Name (hv A s _ E hA F.gd fun v s₁ k₁ r₁ => st_ok (F.keeps k₁) hi hl r₁ fun s₂ k₂ sk F₂ => h s₂ ((FP.of k₁).trans k₂) F₂) (swaps_plain hc)
theorem sv_set2 {ρ : Loc} {i j : Nat} {y z : Str} {py pz pos : Pos} {x : Expr} {d : PyData} (hi : ks[i]? = some y) (hl : kd.lookup y = some .local) (hj : ks[j]? = some z) (hm : kd.lookup z = some .local) (hv : EV prog w n (Gd K p loose mean mg mb env kd ks ρ) env x d) :
    SV prog w n K p loose mean mg mb env kd ks ρ (exec (.Assign [.Name y py, .Name z pz] x pos)) (.next ((ρ.set i (some d)).set j (some d))) := fun A s h₀ Q E hA F h =>
  wpAny_Assign_two (hv A s _ E hA F.gd fun v s₁ k₁ r₁ => PyProof.Rows.assign_Name (st_ok (F.keeps k₁) hi hl r₁ fun s₂ k₂ sk F₂ => PyProof.Rows.assign_Name (st_ok F₂ hj hm (r₁.mono sk) fun s₃ k₃ sk₃ F₃ => h s₃ (((FP.of k₁).trans k₂).trans k₃) F₃)))
theorem sv_aug {ρ : Loc} {i : Nat} {y : Str} {py pos : Pos} {op : Operator} {x : Expr} {a b d : PyData} (hi : ks[i]? = some y) (hl : kd.lookup y = some .local) (ha : getD ρ i = some a) (hv : EV prog w n (Gd K p loose mean mg mb env kd ks ρ) env x b)
    (e : augD op a b = some d) : SV prog w n K p loose mean mg mb env kd ks ρ (exec (.AugAssign (.Name y py) op x pos)) (.next (ρ.set i (some d))) := fun A s h₀ Q E hA F h => by
  obtain ⟨m, hn, hm⟩ := F.ns
  obtain ⟨v, e1, r⟩ := hm i y a hi hl ha
  refine wpAny_AugAssign_Name (wpAny_loadName_local F.sta.kf (by rw [Env.kindOf, F.sta.nm]; exact hl) hn e1 (hv A s _ E hA F.gd fun u s₁ k₁ r₁ => ?_))
  exact aug_ok (r.keeps k₁) r₁ e fun v' s₂ k₂ r₂ => st_ok ((F.keeps k₁).keeps k₂) hi hl r₂ fun s₃ k₃ sk F₃ => h s₃ (((FP.of k₁).trans (FP.of k₂)).trans k₃) F₃
theorem sv_ite {ρ : Loc} {x : Expr} {a b : List Stmt} {pos : Pos} {t : Bool} {fl : Fl} (hx : TV prog w n (Gd K p loose mean mg mb env kd ks ρ) env x t) (h1 : t = true → SV prog w n K p loose mean mg mb env kd ks ρ (execs a) fl)
    (h2 : t = false → SV prog w n K p loose mean mg mb env kd ks ρ (execs b) fl) : SV prog w n K p loose mean mg mb env kd ks ρ (exec (.If x a b pos)) fl := fun A s h₀ Q E hA F h =>
  wpAny_If (hx A s _ E hA F.gd fun s₁ k₁ => by
    cases t with
    | true => rw [if_pos rfl]; exact h1 rfl A s₁ h₀ Q E hA (F.keeps k₁) (h.after (FP.of k₁))
    | false => rw [if_neg Bool.false_ne_true]; exact h2 rfl A s₁ h₀ Q E hA (F.keeps k₁) (h.after (FP.of k₁)))
theorem sv_assert {ρ : Loc} {x : Expr} {msg : Option Expr} {pos : Pos} (hx : TV prog w n (Gd K p loose mean mg mb env kd ks ρ) env x true) : SV prog w n K p loose mean mg mb env kd ks ρ (exec (.Assert x msg pos)) (.next ρ) := fun A s h₀ Q E hA F h =>
  wpAny_Assert_holds (hx A s _ E hA F.gd fun s₁ k₁ => ⟨rfl, h s₁ (FP.of k₁) (F.keeps k₁)⟩)

theorem sv_setc {ρ : Loc} {i : Nat} {y x : Str} {py px lp pos : Pos} {elt it : Expr} {sc : Scope} {xs ys : List PyData} (hi : ks[i]? = some y) (hl : kd.lookup y = some .local) (hline : (py.line == lp.line) = true)
    (hno : (!(sc.names.any fun (n, k) => n == y && (k == .local || k == .cell))) = true) (hok : compOk kd ks x sc it = true) (hv : EV prog w n (Gd K p loose mean mg mb env kd ks ρ) env it (.tuple xs)) (hz : xs.length ≤ 1000) (hlen : ys.length = xs.length)
    (helt : ∀ env, EltOk prog w n K p loose mean mg mb env kd ks ρ x sc elt xs ys) :
    SV prog w n K p loose mean mg mb env kd ks ρ (exec (.Assign [.Name y py] (.ListComp elt [⟨.Name x px, it, [], 0⟩] sc lp) pos)) (.next (ρ.set i (some (.list ys)))) := fun A s h₀ Q E hA F h => by
  obtain ⟨n1, n2, n3⟩ := comp_names hok
  have hsw : swapsWith (.ListComp elt [⟨.Name x px, it, [], 0⟩] sc lp) (some (.Name y py)) pos.line env = pure true := by
    show (pure (env.blockKind == .function && env.kindOf y == some .local && py.line == lp.line && !(sc.names.any fun (n, k) => n == y && (k == .local || k == .cell))) : Sem Bool) = pure true
    rw [hline, hno, show env.kindOf y = some .local by rw [Env.kindOf, F.sta.nm]; exact hl, show env.blockKind = .function by unfold Env.blockKind; rw [F.sta.kf]; rfl]
    rfl
  rw [exec_Assign_Name_used _ _ _ _ hsw]
  refine wpAny_bind (wpAny_standAt (wpAny_bind ?_))
  show wpAny _ A (do let _ ← comprehension (.ListComp elt [⟨.Name x px, it, [], 0⟩] sc lp) sc env _ (newList []) false (eval it env) (some (assign (.Name y py) env))) _ _ s
  refine wpAny_bind (wpAny_mono (wpAny_comprehension_free (use := some (assign (.Name y py) env)) (Q := fun _ s' => Q .next s') rfl (fold_eq n3) (comp_clos hok F.gd.2) n1 n2
    (hv A s _ E hA F.gd fun v s₁ k₁ r₁ => ?_)) (fun _ s' hq => wpAny_pure (wpAny_pure hq)) fun _ _ e => e)
  have F₁ := F.keeps k₁
  refine comp_go (R := fun acc C => compPost (model prog w) A E (some (assign (.Name y py) env)) (fun _ s' => Q .next s') acc C) hA hok F₁.gd r₁ hz hlen (helt env) ?_
  intro D C h' tk m' hD hC hDC hn hlst hk
  obtain ⟨o, vs, nn, l1, l2, l3, l4⟩ := hlst
  have kk : Keeps s₁ { s₁ with heap := h', toks := tk } := kp_mk s₁ h' tk hk
  have F₂ := F₁.keeps kk
  show wpAny _ A (assign (.Name y py) env (.ref D)) _ _ _
  refine PyProof.Rows.assign_Name (st_ok (s := { s₁ with heap := h', toks := tk }) F₂ hi hl (.list l1 l2 l3 l4) fun s₃ k₃ sk F₃ => ?_)
  obtain ⟨m1, hn1, _⟩ := F₁.ns
  have hCL : C ≠ env.locals := fun q => by
    obtain ⟨o', _, _, e', _⟩ := hn1
    rw [← q, hC] at e'; cases e'
  have hn₃ : s₃.heap.Ns C m' := hn.at' fun o e => FP.get k₃ C o hCL e
  refine ⟨m', hn₃, fun h'' hs'' => ?_⟩
  refine h _ ((FP.of k₁).trans ⟨h'', s₃.toks, ?_, fun b o e2 e3 => hs''.extBut b o (fun q => by rw [q, hC] at e3; cases e3) (FP.get k₃ b o e2 (hk b o e3))⟩) (F₃.but (I := C) (fun b o hb e => hs''.extBut b o hb e) hCL ?_ fun o e => ?_)
  · obtain ⟨_, _, rfl, _⟩ := k₃; rfl
  · cases e : h₀.get? C with
    | none => rfl
    | some o' => have := F₁.keep _ _ e; rw [hC] at this; cases this
  · obtain ⟨o', es, ep, e1, e2, _⟩ := hn₃
    rw [e] at e1; cases e1
    exact ⟨fun vs n q => (by rw [e2] at q; cases q), fun v q => (by rw [e2] at q; cases q)⟩

theorem svs_nil {ρ : Loc} : SV prog w n K p loose mean mg mb env kd ks ρ (execs []) (.next ρ) := fun A s h₀ Q E hA F h => wpAny_execs_nil (h s (FP.refl s) F)
theorem svs_next {ρ ρ' : Loc} {t : Stmt} {ts : List Stmt} {fl : Fl} (h1 : SV prog w n K p loose mean mg mb env kd ks ρ (exec t) (.next ρ')) (h2 : SV prog w n K p loose mean mg mb env kd ks ρ' (execs ts) fl) : SV prog w n K p loose mean mg mb env kd ks ρ (execs (t :: ts)) fl :=
  fun A s h₀ Q E hA F h => wpAny_execs_cons (h1 A s h₀ _ E hA F fun s₁ k₁ F₁ => h2 A s₁ h₀ Q E hA F₁ (h.after k₁))
theorem svs_ret {ρ : Loc} {t : Stmt} {ts : List Stmt} {d : PyData} (h1 : SV prog w n K p loose mean mg mb env kd ks ρ (exec t) (.ret d)) : SV prog w n K p loose mean mg mb env kd ks ρ (execs (t :: ts)) (.ret d) :=
  fun A s h₀ Q E hA F h => wpAny_execs_cons (h1 A s h₀ _ E hA F fun v s₁ k₁ r₁ => h v s₁ k₁ r₁)

mutual
theorem soundS (O : GOk K w.params G) (hC : CallsOk prog w n K G p loose mean mg mb C) : ∀ (st : IS) (env : Env) (kd : List (Str × NameKind)) (ks : List Str) (ρ : Loc) (t : Stmt) (fl : Fl), chkS G kd ks st t = true → ex G C ρ st = some fl →
    SV prog w n K p loose mean mg mb env kd ks ρ (exec t) fl
  | .ret e, env, kd, ks, ρ, t, fl, h, q => by
    unfold chkS at h
    split at h
    · rw [ex] at q
      split at q
      · rename_i d e1
        cases q
        exact sv_ret (soundE O hC e env kd ks ρ _ _ h e1).1
      · cases q
    · cases h
  | .set i e, env, kd, ks, ρ, t, fl, h, q => by
    unfold chkS at h
    split at h
    · simp only [Bool.and_eq_true, Bool.not_eq_true'] at h
      obtain ⟨⟨h1, h2⟩, h3⟩ := h
      obtain ⟨y, py, e0, h4, h5⟩ := locName_of h1
      cases e0
      rw [ex] at q
      split at q
      · rename_i d e1
        cases q
        exact sv_set h4 h5 h3 (soundE O hC e env kd ks ρ _ _ h2 e1).1
      · cases q
    · cases h
  | .set2 i j e, env, kd, ks, ρ, t, fl, h, q => by
    unfold chkS at h
    split at h
    · simp only [Bool.and_eq_true] at h
      obtain ⟨⟨h1, h2⟩, h3⟩ := h
      obtain ⟨y, py, e0, h4, h5⟩ := locName_of h1
      cases e0
      obtain ⟨z, pz, e0, h6, h7⟩ := locName_of h2
      cases e0
      rw [ex] at q
      split at q
      · rename_i d e1
        cases q
        exact sv_set2 h4 h5 h6 h7 (soundE O hC e env kd ks ρ _ _ h3 e1).1
      · cases q
    · cases h
  | .unp is e, env, kd, ks, ρ, t, fl, h, q => by
    unfold chkS at h
    split at h
    · simp only [Bool.and_eq_true, decide_eq_true_eq] at h
      obtain ⟨⟨⟨h1, h2⟩, h3⟩, h4⟩ := h
      rw [ex] at q
      split at q
      · rename_i xs e1
        obtain ⟨ρ', e2, rfl⟩ := Option.map_eq_some_iff.mp q
        exact sv_unp h1 h3 h4 (soundE O hC e env kd ks ρ _ _ h2 e1).1 (.inl rfl) e2
      · rename_i xs e1
        obtain ⟨ρ', e2, rfl⟩ := Option.map_eq_some_iff.mp q
        exact sv_unp h1 h3 h4 (soundE O hC e env kd ks ρ _ _ h2 e1).1 (.inr rfl) e2
      · cases q
    · cases h
  | .aug i op e, env, kd, ks, ρ, t, fl, h, q => by
    unfold chkS at h
    split at h
    · simp only [Bool.and_eq_true, beq_iff_eq] at h
      obtain ⟨⟨rfl, h2⟩, h3⟩ := h
      obtain ⟨y, py, e0, h4, h5⟩ := locName_of h2
      cases e0
      rw [ex] at q
      split at q
      · rename_i u v e1 e2
        split at q
        · rename_i d e3
          cases q
          exact sv_aug h4 h5 e1 (soundE O hC e env kd ks ρ _ _ h3 e2).1 e3
        · cases q
      · cases q
    · cases h
  | .ite c a b, env, kd, ks, ρ, t, fl, h, q => by
    unfold chkS at h
    split at h
    · simp only [Bool.and_eq_true] at h
      obtain ⟨⟨h1, h2⟩, h3⟩ := h
      rw [ex] at q
      split at q
      · rename_i u e1
        have r := (soundE O hC c env kd ks ρ _ _ h1 e1).2
        split at q
        · rename_i e2
          exact sv_ite (r _ e2) (fun _ => soundSs O hC a env kd ks ρ _ _ h2 q) fun z => nomatch z
        · rename_i e2
          exact sv_ite (r _ e2) (fun z => nomatch z) fun _ => soundSs O hC b env kd ks ρ _ _ h3 q
        · cases q
      · cases q
    · cases h
  | .assert c, env, kd, ks, ρ, t, fl, h, q => by
    unfold chkS at h
    split at h
    · rw [ex] at q
      split at q
      · rename_i u e1
        split at q
        · rename_i e2
          cases q
          exact sv_assert ((soundE O hC c env kd ks ρ _ _ h e1).2 _ e2)
        · cases q
      · cases q
    · cases h
  | .for i src body, env, kd, ks, ρ, t, fl, h, q => by
    unfold chkS at h
    split at h
    · simp only [Bool.and_eq_true, Bool.not_eq_true'] at h
      obtain ⟨⟨⟨h1, h2⟩, h3⟩, h4⟩ := h
      obtain ⟨y, py, e0, h5, h6⟩ := locName_of h1
      cases e0
      rw [ex] at q
      split at q
      · rename_i xs e1
        split at q
        · rename_i hz
          exact sv_for h5 h6 h4 (soundE O hC src env kd ks ρ _ _ h2 e1).1 hz (fun d ρ' fl' e2 => soundSs O hC body env kd ks _ _ _ h3 e2) q
        · cases q
      · cases q
    · cases h
  | .setc i elt src, env, kd, ks, ρ, t, fl, h, q => by
    unfold chkS at h
    split at h
    · simp only [Bool.and_eq_true] at h
      obtain ⟨⟨⟨h1, h2⟩, h3⟩, h4⟩ := h
      obtain ⟨y, py, e0, h5, h6⟩ := locName_of h1
      cases e0
      unfold chkE at h4
      simp only [Bool.and_eq_true] at h4
      obtain ⟨⟨c1, c2⟩, c3⟩ := h4
      rw [ex] at q
      rw [ev] at q
      split at q
      · rename_i dd e0
        split at e0
        · rename_i xs e1
          split at e0
          · rename_i hz
            split at e0
            · rename_i ys e2
              split at e0
              · rename_i hl
                cases e0
                cases q
                obtain ⟨g1, g2⟩ := mapO_get e2
                refine sv_setc h5 h6 h2 h3 c3 (soundE O hC src env kd ks ρ _ _ c1 e1).1 hz g1 fun env' i' d hd => ?_
                obtain ⟨y', hy, hy2⟩ := g2 i' d hd
                exact ⟨y', hy, noLists_get hl hy, fun C' => (soundE O hC elt _ _ _ _ _ _ c2 hy2).1⟩
              · cases e0
            · cases e0
          · cases e0
        · cases e0
      · cases q
    · cases h
  | .junk, env, kd, ks, ρ, t, fl, h, q => by rw [ex] at q; cases q
theorem soundSs (O : GOk K w.params G) (hC : CallsOk prog w n K G p loose mean mg mb C) : ∀ (st : ISs) (env : Env) (kd : List (Str × NameKind)) (ks : List Str) (ρ : Loc) (t : List Stmt) (fl : Fl), chkSs G kd ks st t = true → exs G C ρ st = some fl →
    SV prog w n K p loose mean mg mb env kd ks ρ (execs t) fl
  | .nil, env, kd, ks, ρ, t, fl, h, q => by
    unfold chkSs at h
    split at h
    · rw [exs] at q; cases q; exact svs_nil
    · cases h
  | .cons a r, env, kd, ks, ρ, t, fl, h, q => by
    unfold chkSs at h
    split at h
    · simp only [Bool.and_eq_true] at h
      obtain ⟨h1, h2⟩ := h
      rw [exs] at q
      split at q
      · rename_i ρ' e1
        exact svs_next (soundS O hC a env kd ks ρ _ _ h1 e1) (soundSs O hC r env kd ks ρ' _ _ h2 q)
      · rename_i hne
        cases fl with
        | next ρ' => exact absurd q (hne ρ')
        | ret d => exact svs_ret (soundS O hC a env kd ks ρ _ _ h1 q)
    · cases h
end
end
end Mine

end

-- part Core12
section
open PySem PySem.W PyProof.Rows PySem.Calls PySem.Spec
set_option maxRecDepth 100000
set_option linter.unusedVariables false
namespace Mine

/-- how a def stands in the written part, with its body in the small language -/
structure FnAt (K : Frag) (G : GT) (r : FR) (a : Addr) (fd : FuncData) (stmts : List Stmt) (ks : List Str) : Prop where
  look : ∃ o, K.lookup a = some o ∧ o.data = .func fd
  code : codeIn K fd.code fd.qualname = true
  body : fd.body = .stmts stmts
  gl : fd.globals = mainGlobals
  cl : fd.closure = []
  bu : fd.builtins = builtinsNs
  co : fd.scope.isCoroutine = false
  gen : fd.scope.isGenerator = false
  kind : fd.scope.kind = .function
  nd : ks.Nodup
  kk : r.k ≤ ks.length
  chk : chkSs G fd.scope.names ks r.body stmts = true

/-- its arguments are bound, those that lack by the defaults -/
def Binds (K : Frag) (r : FR) (fd : FuncData) (ks : List Str) : Prop :=
  ∀ (s : Shared) (vs : List Value), K.In s.heap → vs.length ≤ r.k → r.k ≤ vs.length + r.dfl.length → ∃ ws : List Value, BindsTo s fd ⟨vs, []⟩ ((ks.take r.k).zip (vs ++ ws)) ∧ RpL s.heap ws (r.dfl.drop (vs.length + r.dfl.length - r.k))

def FnOk (K : Frag) (G : GT) (r : FR) (a : Addr) : Prop :=
  ∃ fd stmts ks, FnAt K G r a fd stmts ks ∧
    ((Binds K r fd ks ∧ (∀ x ∈ fd.scope.names, x.2 ≠ .cell) ∧ (∀ x ∈ ks.take r.k, fd.scope.names.lookup x = some .local)) ∨
     (∃ x₀ x₁, r.k = 2 ∧ r.dfl = [] ∧ ks.take 2 = [x₀, x₁] ∧ (∀ u v, bindArgs fd ⟨[u, v], []⟩ = pure [(x₀, u), (x₁, v)]) ∧ fd.scope.names.lookup x₀ = some .local ∧ fd.scope.names.lookup x₁ = some .cell ∧
       (∀ L, cellsFrom L fd.scope.names [] = [(x₁, L)]) ∧ ∀ x, fd.scope.names.lookup x = some .cell → x = x₁))

theorem zip_rev {xs : List Str} {vs : List Value} (hn : xs.Nodup) : ∀ {i : Nat} {x : Str} {v : Value}, xs[i]? = some x → vs[i]? = some v → (xs.zip vs).reverse.lookup x = some v := by
  have app : ∀ {l l' : List (Str × Value)} {x : Str}, (l ++ l').lookup x = (l.lookup x).or (l'.lookup x) := fun {l l' x} => List.lookup_append
  induction xs generalizing vs with
  | nil => intro i x v h; simp at h
  | cons y ys ih =>
    intro i x v h e
    cases vs with
    | nil => simp at e
    | cons u us =>
      rw [List.zip_cons_cons, List.reverse_cons, app]
      have hn' := List.nodup_cons.mp hn
      cases i with
      | zero =>
        simp at h e
        subst h; subst e
        have : ((ys.zip us).reverse.lookup y) = none := by
          rw [List.lookup_eq_none_iff]
          intro q hq
          have hm : q ∈ ys.zip us := List.mem_reverse.mp hq
          obtain ⟨q1, q2⟩ := q
          have := (List.of_mem_zip hm).1
          exact bne_iff_ne.mpr fun c => hn'.1 (by rw [show y = q1 from c]; exact this)
        rw [this]
        simp
      | succ i =>
        rw [ih hn'.2 (by simpa using h) (by simpa using e)]
        rfl

section
variable {prog : Program} {w : World} {n : Nat} {K : Frag} {G : GT} {p : Program} {loose : List Str} {mean : ExcName → Option Value} {mg mb : Str → Option Value} {C : Nat → List PyData → Option PyData}

theorem rho_get {xs : List PyData} {m : Nat} {i : Nat} {d : PyData} (h : getD (xs.map some ++ List.replicate m none) i = some d) : xs[i]? = some d := by
  unfold getD at h
  by_cases hi : i < xs.length
  · rw [List.getElem?_append_left (by simpa using hi), List.getElem?_map] at h
    cases e : xs[i]? with
    | none => rw [e] at h; simp at h
    | some y => rw [e] at h; simp at h; rw [h]
  · rw [List.getElem?_append_right (by simpa using hi)] at h
    split at h
    · rename_i dd q
      have := List.getElem?_eq_some_iff.mp q
      obtain ⟨_, q2⟩ := this
      simp at q2
    · cases h

theorem fn_call {r : FR} {a : Addr} {args : List PyData} {d : PyData} (O : GOk K w.params G) (hC : CallsOk prog w n K G p loose mean mg mb C) (H : FnOk K G r a) (h1 : args.length ≤ r.k) (h2 : r.k ≤ args.length + r.dfl.length)
    (he : exs G C ((args ++ r.dfl.drop (args.length + r.dfl.length - r.k)).map some ++ List.replicate (r.nl - r.k) none) r.body = some (.ret d)) : CV prog w (n + 1) (Cx K p loose mean mg mb) a args d := fun A s vs Q E hA cx hr h => by
  obtain ⟨fd, stmts, ks, F, hcase⟩ := H
  obtain ⟨o, ho, hdat⟩ := F.look
  have hroom : A.depth < recursionLimit := by have := hA.2.1; omega
  have hvs := hr.length
  refine wpAny_call ?_
  rcases hcase with ⟨hb, hcell, hloc⟩ | ⟨x₀, x₁, k2, hdf, hks, hb, l0, l1, hcf, huniq⟩
  · obtain ⟨ws, hbind, hws⟩ := hb s vs cx.kin (by omega) (by omega)
    have hlen : (vs ++ ws).length = r.k := by
      rw [List.length_append, hws.length, List.length_drop]; omega
    have hrl : RpL s.heap (vs ++ ws) (args ++ r.dfl.drop (args.length + r.dfl.length - r.k)) := hr.append (by rw [← hvs]; exact hws)
    refine codeAny_call_def hroom (cx.kin _ _ ho) hdat cx.top.nolimit (codeRec_of cx.kin F.code) F.body hbind hcell (fun y hy => ?_) (fun h₁ hns hk₁ => ?_) F.co F.gen F.kind
    · obtain ⟨y1, y2⟩ := y
      exact hloc y1 (List.of_mem_zip hy).1
    · have S := soundSs (prog := prog) (n := n) (p := p) (loose := loose) (mean := mean) (mg := mg) (mb := mb) O hC r.body (callEnv fd s.heap.objs.size a) fd.scope.names ks _ stmts _ F.chk he
      have fresh : FrameOk K p loose mean mg mb (callEnv fd s.heap.objs.size a) fd.scope.names ks ((args ++ r.dfl.drop (args.length + r.dfl.length - r.k)).map some ++ List.replicate (r.nl - r.k) none) s.heap h₁ := by
        refine ⟨⟨rfl, F.kind, F.gl, F.bu, fun x hx => ?_, F.nd⟩, cx, hk₁, Nat.le_refl _, ⟨_, hns, fun i x e hi hx hd => ?_⟩, fun i x e hi hx hd => ?_⟩
        · exact absurd rfl (hcell _ (mem_of_lookup hx))
        · obtain ⟨v, hv, hrv⟩ := hrl.get (rho_get hd)
          have hik : i < r.k := by
            obtain ⟨q, _⟩ := List.getElem?_eq_some_iff.mp hv
            omega
          refine ⟨v, zip_rev ((List.take_sublist _ _).nodup F.nd) (by rw [List.getElem?_take_of_lt hik]; exact hi) hv, hrv.mono (SeqKeep.of hk₁)⟩
        · exact absurd rfl (hcell _ (mem_of_lookup hx))
      refine S _ { s with heap := h₁, toks := _ } s.heap _ _ (hA.deeper _) fresh fun v s' k r' => ?_
      obtain ⟨h', tk, rfl, kk⟩ := k
      exact h v _ (kp_mk s h' tk fun b o' e => kk b o' (Nat.ne_of_lt (Heap.lt_size e)) (hk₁ b o' e)) r'
  · rw [hdf] at h2 he
    simp only [List.length_nil, Nat.add_zero, List.drop_nil, List.append_nil] at h2 he
    have hl2 : args.length = 2 := by omega
    match args, hl2, vs, hr with
    | [d0, d1], _, [u, v], hr =>
      cases hr with
      | cons r0 hr => cases hr with
        | cons r1 hr =>
          refine codeAny_call_cells hroom (cx.kin _ _ ho) hdat cx.top.nolimit (codeRec_of cx.kin F.code) F.body (hb u v) F.cl (fun y hy => ?_) (fun s₁ x => ?_) F.co F.gen F.kind
          · rcases List.mem_cons.mp hy with rfl | hy
            · exact .inl l0
            · rw [List.mem_singleton.mp hy]
              exact .inr ⟨l1, by rw [hcf]; simp⟩
          · have S := soundSs (prog := prog) (n := n) (p := p) (loose := loose) (mean := mean) (mg := mg) (mb := mb) O hC r.body (callEnvC fd s.heap.objs.size a) fd.scope.names ks _ stmts _ F.chk he
            have ecells : (callEnvC fd s.heap.objs.size a).cells = [(x₁, s.heap.objs.size + 1)] := hcf _
            have hx10 : x₁ ≠ x₀ := fun q => by rw [q, l0] at l1; cases l1
            have k0 : (callEnvC fd s.heap.objs.size a).kindOf x₀ = some .local := l0
            have k1 : (callEnvC fd s.heap.objs.size a).kindOf x₁ = some .cell := l1
            have hk0 : ks[0]? = some x₀ ∧ ks[1]? = some x₁ := by
              match ks, hks with
              | a :: b :: rest, hks => simp at hks; simp [hks]
              | [a], hks => simp at hks
              | [], hks => simp at hks
            have fresh : FrameOk K p loose mean mg mb (callEnvC fd s.heap.objs.size a) fd.scope.names ks ([d0, d1].map some ++ List.replicate (r.nl - r.k) none) s.heap s₁.heap := by
              refine ⟨⟨rfl, F.kind, F.gl, F.bu, fun y hy => ?_, F.nd⟩, cx, x.toInCall.keep, Nat.le_refl _, ⟨_, x.toInCall.ns, fun i y e hi hy hd => ?_⟩, fun i y e hi hy hd => ?_⟩
              · rw [huniq y hy, ecells]; exact ⟨s.heap.objs.size + 1, by simp⟩
              · have hd' := rho_get hd
                match i, hi, hd' with
                | 0, hi, hd' =>
                  rw [hk0.1] at hi; cases hi
                  simp at hd'; subst hd'
                  refine ⟨u, ?_, r0.mono (SeqKeep.of x.toInCall.keep)⟩
                  simp [bindL, k0, k1]
                | 1, hi, hd' =>
                  rw [hk0.2] at hi; cases hi
                  rw [l1] at hy; cases hy
                | i + 2, hi, hd' => simp at hd'
              · have hd' := rho_get hd
                match i, hi, hd' with
                | 0, hi, hd' =>
                  rw [hk0.1] at hi; cases hi
                  rw [l0] at hy; cases hy
                | 1, hi, hd' =>
                  rw [hk0.2] at hi; cases hi
                  simp at hd'; subst hd'
                  refine ⟨s.heap.objs.size + 1, v, by rw [ecells]; simp, ?_, r1.mono (SeqKeep.of x.toInCall.keep)⟩
                  have := x.cell x₁ (s.heap.objs.size + 1) (by rw [ecells]; simp)
                  simpa [bindC, k0, k1] using this
                | i + 2, hi, hd' => simp at hd'
            have hkeep := x.toInCall.keep
            obtain ⟨h₁, tk₁, rfl⟩ := x.toInCall.same
            refine S _ { s with heap := h₁, toks := tk₁ } s.heap _ _ (hA.deeper _) fresh fun v' s' k r' => ?_
            obtain ⟨h', tk, rfl, kk⟩ := k
            exact h v' _ (kp_mk s h' tk fun b o' e => kk b o' (Nat.ne_of_lt (Heap.lt_size e)) (hkeep b o' e)) r'

theorem run_sound {T : List FR} (O : GOk K w.params G) (hT : ∀ (f : Nat) (r : FR) (x : Str) (a : Addr), T[f]? = some r → G.fns[f]? = some (x, a) → FnOk K G r a) : ∀ n, CallsOk prog w n K G p loose mean mg mb (run G T n)
  | 0 => fun f args d h => by cases h
  | n + 1 => fun f args d h x a hx => by
    unfold run at h
    split at h
    · cases h
    · rename_i r hr
      split at h
      · rename_i hz
        split at h
        · rename_i d' he
          cases h
          exact fn_call O (run_sound O hT n) (hT f r x a hr hx) hz.1 hz.2 he
        · cases h
      · cases h
end
end Mine

end

-- part Fns
section
open PySem PySem.W PyProof.Rows PySem.Calls PySem.Spec
set_option maxRecDepth 100000
set_option linter.unusedVariables false
namespace Mine

def b_trailing : ISs := (.cons (.ite (.not (.loc 0)) (.cons (.ret (.int 0)) .nil) .nil) (.cons (.ret (.bin .Sub (.bitlen (.bin .BitAnd (.loc 0) (.neg (.loc 0)))) (.int 1))) .nil))
def b_unorm : ISs := (.cons (.ite (.not (.loc 1)) (.cons (.ret (.glob 2)) .nil) .nil) (.cons (.set 6 (.bin .Sub (.loc 3) (.loc 4))) (.cons (.ite (.cmp .Gt (.loc 6) (.int 0)) (.cons (.ite (.cmp .Eq (.loc 5) (.glob 7)) (.cons (.set 7 (.bin .RShift (.loc 1) (.bin .Sub (.loc 6) (.int 1)))) (.cons (.ite (.bop .And (.cons (.bin .BitAnd (.loc 7) (.int 1)) (.cons (.bop .Or (.cons (.bin .BitAnd (.loc 7) (.int 2)) (.cons (.bin .BitAnd (.loc 1) (.bin .Sub (.bin .LShift (.glob 1) (.bin .Sub (.loc 6) (.int 1))) (.int 1))) .nil))) .nil))) (.cons (.set 1 (.bin .Add (.bin .RShift (.loc 7) (.int 1)) (.int 1))) .nil) (.cons (.set 1 (.bin .RShift (.loc 7) (.int 1))) .nil)) .nil)) (.cons (.ite (.item (.dsub 0 (.loc 5)) (.loc 0)) (.cons (.aug 1 .RShift (.loc 6)) .nil) (.cons (.set 1 (.neg (.bin .RShift (.neg (.loc 1)) (.loc 6)))) .nil)) .nil)) (.cons (.aug 2 .Add (.loc 6)) (.cons (.set 3 (.loc 4)) .nil))) .nil) (.cons (.ite (.not (.bin .BitAnd (.loc 1) (.int 1))) (.cons (.set 7 (.call 0 (.cons (.loc 1) .nil))) (.cons (.aug 1 .RShift (.loc 7)) (.cons (.aug 2 .Add (.loc 7)) (.cons (.aug 3 .Sub (.loc 7)) .nil)))) .nil) (.cons (.ite (.cmp .Eq (.loc 1) (.int 1)) (.cons (.set 3 (.int 1)) .nil) .nil) (.cons (.ret (.tup (.cons (.loc 0) (.cons (.loc 1) (.cons (.loc 2) (.cons (.loc 3) .nil)))))) .nil))))))
def b_normalize : ISs := (.cons (.assert (.cmp .Eq (.loc 3) (.bitlen (.loc 1)))) (.cons (.assert (.cmp .GtE (.loc 1) (.int 0))) (.cons (.ret (.call 1 (.cons (.loc 0) (.cons (.loc 1) (.cons (.loc 2) (.cons (.loc 3) (.cons (.loc 4) (.cons (.loc 5) .nil)))))))) .nil)))
def b_mpf_cmp : ISs := (.cons (.unp [2, 3, 4, 5] (.loc 0)) (.cons (.unp [6, 7, 8, 9] (.loc 1)) (.cons (.ite (.bop .Or (.cons (.not (.loc 3)) (.cons (.not (.loc 7)) .nil))) (.cons (.ite (.cmp .Eq (.loc 0) (.glob 2)) (.cons (.ret (.neg (.call 11 (.cons (.loc 1) .nil)))) .nil) .nil) (.cons (.ite (.cmp .Eq (.loc 1) (.glob 2)) (.cons (.ret (.call 11 (.cons (.loc 0) .nil))) .nil) .nil) (.cons (.ite (.cmp .Eq (.loc 0) (.loc 1)) (.cons (.ret (.int 0)) .nil) .nil) (.cons (.ite (.cmp .Eq (.loc 1) (.glob 4)) (.cons (.ret (.int 1)) .nil) .nil) (.cons (.ite (.cmp .Eq (.loc 0) (.glob 5)) (.cons (.ret (.int 1)) .nil) .nil) (.cons (.ite (.cmp .Eq (.loc 1) (.glob 6)) (.cons (.ret (.int 1)) .nil) .nil) (.cons (.ret (.neg (.int 1))) .nil))))))) .nil) (.cons (.ite (.cmp .NotEq (.loc 2) (.loc 6)) (.cons (.ite (.not (.loc 2)) (.cons (.ret (.int 1)) .nil) .nil) (.cons (.ret (.neg (.int 1))) .nil)) .nil) (.cons (.ite (.cmp .Eq (.loc 4) (.loc 8)) (.cons (.ite (.cmp .Eq (.loc 3) (.loc 7)) (.cons (.ret (.int 0)) .nil) .nil) (.cons (.ite (.cmp .Gt (.loc 3) (.loc 7)) (.cons (.ite (.loc 2) (.cons (.ret (.neg (.int 1))) .nil) (.cons (.ret (.int 1)) .nil)) .nil) (.cons (.ite (.loc 2) (.cons (.ret (.int 1)) .nil) (.cons (.ret (.neg (.int 1))) .nil)) .nil)) .nil)) .nil) (.cons (.set 10 (.bin .Add (.loc 5) (.loc 4))) (.cons (.set 11 (.bin .Add (.loc 9) (.loc 8))) (.cons (.ite (.loc 2) (.cons (.ite (.cmp .Lt (.loc 10) (.loc 11)) (.cons (.ret (.int 1)) .nil) .nil) (.cons (.ite (.cmp .Gt (.loc 10) (.loc 11)) (.cons (.ret (.neg (.int 1))) .nil) .nil) .nil)) (.cons (.ite (.cmp .Lt (.loc 10) (.loc 11)) (.cons (.ret (.neg (.int 1))) .nil) .nil) (.cons (.ite (.cmp .Gt (.loc 10) (.loc 11)) (.cons (.ret (.int 1)) .nil) .nil) .nil))) (.cons (.set 12 (.call 13 (.cons (.loc 0) (.cons (.loc 1) (.cons (.int 5) (.cons (.glob 8) .nil)))))) (.cons (.ite (.item (.loc 12) (.int 0)) (.cons (.ret (.neg (.int 1))) .nil) .nil) (.cons (.ret (.int 1)) .nil)))))))))))
def b_mpf_lt : ISs := (.cons (.ite (.bop .Or (.cons (.cmp .Eq (.loc 0) (.glob 4)) (.cons (.cmp .Eq (.loc 1) (.glob 4)) .nil))) (.cons (.ret (.bool false)) .nil) .nil) (.cons (.ret (.cmp .Lt (.call 3 (.cons (.loc 0) (.cons (.loc 1) .nil))) (.int 0))) .nil))
def b_mpf_le : ISs := (.cons (.ite (.bop .Or (.cons (.cmp .Eq (.loc 0) (.glob 4)) (.cons (.cmp .Eq (.loc 1) (.glob 4)) .nil))) (.cons (.ret (.bool false)) .nil) .nil) (.cons (.ret (.cmp .LtE (.call 3 (.cons (.loc 0) (.cons (.loc 1) .nil))) (.int 0))) .nil))
def b_mpf_gt : ISs := (.cons (.ite (.bop .Or (.cons (.cmp .Eq (.loc 0) (.glob 4)) (.cons (.cmp .Eq (.loc 1) (.glob 4)) .nil))) (.cons (.ret (.bool false)) .nil) .nil) (.cons (.ret (.cmp .Gt (.call 3 (.cons (.loc 0) (.cons (.loc 1) .nil))) (.int 0))) .nil))
def b_mpf_ge : ISs := (.cons (.ite (.bop .Or (.cons (.cmp .Eq (.loc 0) (.glob 4)) (.cons (.cmp .Eq (.loc 1) (.glob 4)) .nil))) (.cons (.ret (.bool false)) .nil) .nil) (.cons (.ret (.cmp .GtE (.call 3 (.cons (.loc 0) (.cons (.loc 1) .nil))) (.int 0))) .nil))
def b_mpf_min_max : ISs := (.cons (.set2 1 2 (.item (.loc 0) (.int 0))) (.cons (.for 3 (.tail (.loc 0)) (.cons (.ite (.call 4 (.cons (.loc 3) (.cons (.loc 1) .nil))) (.cons (.set 1 (.loc 3)) .nil) .nil) (.cons (.ite (.call 6 (.cons (.loc 3) (.cons (.loc 2) .nil))) (.cons (.set 2 (.loc 3)) .nil) .nil) .nil))) (.cons (.ret (.tup (.cons (.loc 1) (.cons (.loc 2) .nil)))) .nil)))
def b_mpf_pos : ISs := (.cons (.ite (.loc 1) (.cons (.unp [3, 4, 5, 6] (.loc 0)) (.cons (.ite (.bop .And (.cons (.not (.loc 4)) (.cons (.loc 5) .nil))) (.cons (.ret (.loc 0)) .nil) .nil) (.cons (.ret (.call 2 (.cons (.loc 3) (.cons (.loc 4) (.cons (.loc 5) (.cons (.loc 6) (.cons (.loc 1) (.cons (.loc 2) .nil)))))))) .nil))) .nil) (.cons (.ret (.loc 0)) .nil))
def b_mpf_neg : ISs := (.cons (.unp [3, 4, 5, 6] (.loc 0)) (.cons (.ite (.not (.loc 4)) (.cons (.ite (.loc 5) (.cons (.ite (.cmp .Eq (.loc 0) (.glob 5)) (.cons (.ret (.glob 6)) .nil) .nil) (.cons (.ite (.cmp .Eq (.loc 0) (.glob 6)) (.cons (.ret (.glob 5)) .nil) .nil) .nil)) .nil) (.cons (.ret (.loc 0)) .nil)) .nil) (.cons (.ite (.not (.loc 1)) (.cons (.ret (.tup (.cons (.bin .Sub (.int 1) (.loc 3)) (.cons (.loc 4) (.cons (.loc 5) (.cons (.loc 6) .nil)))))) .nil) .nil) (.cons (.ret (.call 2 (.cons (.bin .Sub (.int 1) (.loc 3)) (.cons (.loc 4) (.cons (.loc 5) (.cons (.loc 6) (.cons (.loc 1) (.cons (.loc 2) .nil)))))))) .nil))))
def b_mpf_sign : ISs := (.cons (.unp [1, 2, 3, 4] (.loc 0)) (.cons (.ite (.not (.loc 2)) (.cons (.ite (.cmp .Eq (.loc 0) (.glob 5)) (.cons (.ret (.int 1)) .nil) .nil) (.cons (.ite (.cmp .Eq (.loc 0) (.glob 6)) (.cons (.ret (.neg (.int 1))) .nil) .nil) (.cons (.ret (.int 0)) .nil))) .nil) (.cons (.ret (.bin .Pow (.neg (.int 1)) (.loc 1))) .nil)))
def b_mpf_add : ISs := (.cons (.unp [5, 6, 7, 8] (.loc 0)) (.cons (.unp [9, 10, 11, 12] (.loc 1)) (.cons (.aug 9 .BitXor (.loc 4)) (.cons (.ite (.bop .And (.cons (.loc 6) (.cons (.loc 10) .nil))) (.cons (.set 13 (.bin .Sub (.loc 7) (.loc 11))) (.cons (.ite (.loc 13) (.cons (.ite (.cmp .Gt (.loc 13) (.int 0)) (.cons (.ite (.bop .And (.cons (.cmp .Gt (.loc 13) (.int 100)) (.cons (.loc 2) .nil))) (.cons (.set 14 (.bin .Sub (.bin .Sub (.bin .Add (.loc 8) (.loc 7)) (.loc 12)) (.loc 11))) (.cons (.ite (.cmp .Gt (.loc 14) (.bin .Add (.loc 2) (.int 4))) (.cons (.set 13 (.bin .Add (.loc 2) (.int 4))) (.cons (.aug 6 .LShift (.loc 13)) (.cons (.ite (.cmp .Eq (.loc 9) (.loc 5)) (.cons (.aug 6 .Add (.int 1)) .nil) (.cons (.aug 6 .Sub (.int 1)) .nil)) (.cons (.ret (.call 2 (.cons (.loc 5) (.cons (.loc 6) (.cons (.bin .Sub (.loc 7) (.loc 13)) (.cons (.bitlen (.loc 6)) (.cons (.loc 2) (.cons (.loc 3) .nil)))))))) .nil)))) .nil) .nil)) .nil) (.cons (.ite (.cmp .Eq (.loc 5) (.loc 9)) (.cons (.set 15 (.bin .Add (.loc 10) (.bin .LShift (.loc 6) (.loc 13)))) .nil) (.cons (.ite (.loc 5) (.cons (.set 15 (.bin .Sub (.loc 10) (.bin .LShift (.loc 6) (.loc 13)))) .nil) (.cons (.set 15 (.bin .Sub (.bin .LShift (.loc 6) (.loc 13)) (.loc 10))) .nil)) (.cons (.ite (.cmp .GtE (.loc 15) (.int 0)) (.cons (.set 5 (.int 0)) .nil) (.cons (.set 15 (.neg (.loc 15))) (.cons (.set 5 (.int 1)) .nil))) .nil))) (.cons (.set 16 (.bitlen (.loc 15))) (.cons (.ret (.call 2 (.cons (.loc 5) (.cons (.loc 15) (.cons (.loc 11) (.cons (.loc 16) (.cons (.bop .Or (.cons (.loc 2) (.cons (.loc 16) .nil))) (.cons (.loc 3) .nil)))))))) .nil)))) (.cons (.ite (.cmp .Lt (.loc 13) (.int 0)) (.cons (.ite (.bop .And (.cons (.cmp .Lt (.loc 13) (.neg (.int 100))) (.cons (.loc 2) .nil))) (.cons (.set 14 (.bin .Sub (.bin .Sub (.bin .Add (.loc 12) (.loc 11)) (.loc 8)) (.loc 7))) (.cons (.ite (.cmp .Gt (.loc 14) (.bin .Add (.loc 2) (.int 4))) (.cons (.set 13 (.bin .Add (.loc 2) (.int 4))) (.cons (.aug 10 .LShift (.loc 13)) (.cons (.ite (.cmp .Eq (.loc 5) (.loc 9)) (.cons (.aug 10 .Add (.int 1)) .nil) (.cons (.aug 10 .Sub (.int 1)) .nil)) (.cons (.ret (.call 2 (.cons (.loc 9) (.cons (.loc 10) (.cons (.bin .Sub (.loc 11) (.loc 13)) (.cons (.bitlen (.loc 10)) (.cons (.loc 2) (.cons (.loc 3) .nil)))))))) .nil)))) .nil) .nil)) .nil) (.cons (.ite (.cmp .Eq (.loc 5) (.loc 9)) (.cons (.set 15 (.bin .Add (.loc 6) (.bin .LShift (.loc 10) (.neg (.loc 13))))) .nil) (.cons (.ite (.loc 9) (.cons (.set 15 (.bin .Sub (.loc 6) (.bin .LShift (.loc 10) (.neg (.loc 13))))) .nil) (.cons (.set 15 (.bin .Sub (.bin .LShift (.loc 10) (.neg (.loc 13))) (.loc 6))) .nil)) (.cons (.ite (.cmp .GtE (.loc 15) (.int 0)) (.cons (.set 5 (.int 0)) .nil) (.cons (.set 15 (.neg (.loc 15))) (.cons (.set 5 (.int 1)) .nil))) .nil))) (.cons (.set 16 (.bitlen (.loc 15))) (.cons (.ret (.call 2 (.cons (.loc 5) (.cons (.loc 15) (.cons (.loc 7) (.cons (.loc 16) (.cons (.bop .Or (.cons (.loc 2) (.cons (.loc 16) .nil))) (.cons (.loc 3) .nil)))))))) .nil)))) .nil) .nil)) .nil) .nil) (.cons (.ite (.cmp .Eq (.loc 5) (.loc 9)) (.cons (.set 15 (.bin .Add (.loc 10) (.loc 6))) .nil) (.cons (.ite (.loc 5) (.cons (.set 15 (.bin .Sub (.loc 10) (.loc 6))) .nil) (.cons (.set 15 (.bin .Sub (.loc 6) (.loc 10))) .nil)) (.cons (.ite (.cmp .GtE (.loc 15) (.int 0)) (.cons (.set 5 (.int 0)) .nil) (.cons (.set 15 (.neg (.loc 15))) (.cons (.set 5 (.int 1)) .nil))) .nil))) (.cons (.set 16 (.bitlen (.loc 15))) (.cons (.ret (.call 2 (.cons (.loc 5) (.cons (.loc 15) (.cons (.loc 11) (.cons (.loc 16) (.cons (.bop .Or (.cons (.loc 2) (.cons (.loc 16) .nil))) (.cons (.loc 3) .nil)))))))) .nil))))) .nil) (.cons (.ite (.loc 4) (.cons (.set 1 (.call 10 (.cons (.loc 1) .nil))) .nil) .nil) (.cons (.ite (.not (.loc 6)) (.cons (.ite (.loc 7) (.cons (.ite (.bop .Or (.cons (.cmp .Eq (.loc 0) (.loc 1)) (.cons (.loc 10) (.cons (.not (.loc 11)) .nil)))) (.cons (.ret (.loc 0)) .nil) .nil) (.cons (.ret (.glob 4)) .nil)) .nil) (.cons (.ite (.loc 10) (.cons (.ret (.call 2 (.cons (.loc 9) (.cons (.loc 10) (.cons (.loc 11) (.cons (.loc 12) (.cons (.bop .Or (.cons (.loc 2) (.cons (.loc 12) .nil))) (.cons (.loc 3) .nil)))))))) .nil) .nil) (.cons (.ret (.loc 1)) .nil))) .nil) (.cons (.ite (.loc 11) (.cons (.ret (.loc 1)) .nil) .nil) (.cons (.ite (.loc 6) (.cons (.ret (.call 2 (.cons (.loc 5) (.cons (.loc 6) (.cons (.loc 7) (.cons (.loc 8) (.cons (.bop .Or (.cons (.loc 2) (.cons (.loc 8) .nil))) (.cons (.loc 3) .nil)))))))) .nil) .nil) (.cons (.ret (.loc 0)) .nil)))))))))
def b_mpf_sub : ISs := (.cons (.ret (.call 12 (.cons (.loc 0) (.cons (.loc 1) (.cons (.loc 2) (.cons (.loc 3) (.cons (.int 1) .nil))))))) .nil)
def b_mpf_mul : ISs := (.cons (.unp [4, 5, 6, 7] (.loc 0)) (.cons (.unp [8, 9, 10, 11] (.loc 1)) (.cons (.set 12 (.bin .BitXor (.loc 4) (.loc 8))) (.cons (.set 13 (.bin .Mult (.loc 5) (.loc 9))) (.cons (.ite (.loc 13) (.cons (.set 14 (.bitlen (.loc 13))) (.cons (.ite (.loc 2) (.cons (.ret (.call 2 (.cons (.loc 12) (.cons (.loc 13) (.cons (.bin .Add (.loc 6) (.loc 10)) (.cons (.loc 14) (.cons (.loc 2) (.cons (.loc 3) .nil)))))))) .nil) (.cons (.ret (.tup (.cons (.loc 12) (.cons (.loc 13) (.cons (.bin .Add (.loc 6) (.loc 10)) (.cons (.loc 14) .nil)))))) .nil)) .nil)) .nil) (.cons (.set 15 (.bop .And (.cons (.not (.loc 5)) (.cons (.loc 6) .nil)))) (.cons (.set 16 (.bop .And (.cons (.not (.loc 9)) (.cons (.loc 10) .nil)))) (.cons (.ite (.bop .And (.cons (.not (.loc 15)) (.cons (.not (.loc 16)) .nil))) (.cons (.ret (.glob 2)) .nil) .nil) (.cons (.ite (.cmp .In (.glob 4) (.tup (.cons (.loc 0) (.cons (.loc 1) .nil)))) (.cons (.ret (.glob 4)) .nil) .nil) (.cons (.ite (.bop .And (.cons (.not (.loc 9)) (.cons (.loc 10) .nil))) (.cons (.unp [0, 1] (.tup (.cons (.loc 1) (.cons (.loc 0) .nil)))) .nil) .nil) (.cons (.ite (.cmp .Eq (.loc 1) (.glob 2)) (.cons (.ret (.glob 4)) .nil) .nil) (.cons (.ret (.item .junk (.bin .Mult (.call 11 (.cons (.loc 0) .nil)) (.call 11 (.cons (.loc 1) .nil))))) .nil))))))))))))
def b_mpf_div : ISs := (.cons (.unp [4, 5, 6, 7] (.loc 0)) (.cons (.unp [8, 9, 10, 11] (.loc 1)) (.cons (.ite (.bop .Or (.cons (.not (.loc 5)) (.cons (.not (.loc 9)) .nil))) (.cons (.ite (.cmp .Eq (.loc 0) (.glob 2)) (.cons (.ite (.cmp .Eq (.loc 1) (.glob 2)) (.cons .junk .nil) .nil) (.cons (.ite (.cmp .Eq (.loc 1) (.glob 4)) (.cons (.ret (.glob 4)) .nil) .nil) (.cons (.ret (.glob 2)) .nil))) .nil) (.cons (.ite (.cmp .Eq (.loc 1) (.glob 2)) (.cons .junk .nil) .nil) (.cons (.set 12 (.bop .And (.cons (.not (.loc 5)) (.cons (.loc 6) .nil)))) (.cons (.set 13 (.bop .And (.cons (.not (.loc 9)) (.cons (.loc 10) .nil)))) (.cons (.ite (.bop .And (.cons (.loc 12) (.cons (.loc 13) .nil))) (.cons (.ret (.glob 4)) .nil) .nil) (.cons (.ite (.bop .Or (.cons (.cmp .Eq (.loc 0) (.glob 4)) (.cons (.cmp .Eq (.loc 1) (.glob 4)) .nil))) (.cons (.ret (.glob 4)) .nil) .nil) (.cons (.ite (.not (.loc 13)) (.cons (.ite (.cmp .Eq (.loc 1) (.glob 2)) (.cons (.ret (.glob 4)) .nil) .nil) (.cons (.ret (.item .junk (.bin .Mult (.call 11 (.cons (.loc 0) .nil)) (.call 11 (.cons (.loc 1) .nil))))) .nil)) .nil) (.cons (.ret (.glob 2)) .nil)))))))) .nil) (.cons (.set 14 (.bin .BitXor (.loc 4) (.loc 8))) (.cons (.ite (.cmp .Eq (.loc 9) (.int 1)) (.cons (.ret (.call 2 (.cons (.loc 14) (.cons (.loc 5) (.cons (.bin .Sub (.loc 6) (.loc 10)) (.cons (.loc 7) (.cons (.loc 2) (.cons (.loc 3) .nil)))))))) .nil) .nil) (.cons (.ite (.not (.loc 2)) (.cons (.set 15 (.bin .Add (.bin .Add (.bin .Sub (.bi .max (.cons (.loc 7) (.cons (.loc 11) .nil))) (.loc 7)) (.loc 11)) (.int 5))) .nil) (.cons (.set 15 (.bin .Add (.bin .Add (.bin .Sub (.loc 2) (.loc 7)) (.loc 11)) (.int 5))) .nil)) (.cons (.ite (.cmp .Lt (.loc 15) (.int 5)) (.cons (.set 15 (.int 5)) .nil) .nil) (.cons (.unp [16, 17] (.bi .divmod (.cons (.bin .LShift (.loc 5) (.loc 15)) (.cons (.loc 9) .nil)))) (.cons (.ite (.loc 17) (.cons (.set 16 (.bin .Add (.bin .LShift (.loc 16) (.int 1)) (.int 1))) (.cons (.aug 15 .Add (.int 1)) .nil)) .nil) (.cons (.set 18 (.bitlen (.loc 16))) (.cons (.ret (.call 2 (.cons (.loc 14) (.cons (.loc 16) (.cons (.bin .Sub (.bin .Sub (.loc 6) (.loc 10)) (.loc 15)) (.cons (.loc 18) (.cons (.bop .Or (.cons (.loc 2) (.cons (.loc 18) .nil))) (.cons (.loc 3) .nil)))))))) .nil)))))))))))
def b_mpf_pow_int : ISs := (.cons (.unp [4, 5, 6, 7] (.loc 0)) (.cons (.ite (.bop .And (.cons (.not (.loc 5)) (.cons (.loc 6) .nil))) (.cons (.ite (.cmp .Eq (.loc 0) (.glob 5)) (.cons (.ite (.cmp .Gt (.loc 1) (.int 0)) (.cons (.ret (.loc 0)) .nil) .nil) (.cons (.ite (.cmp .Eq (.loc 1) (.int 0)) (.cons (.ret (.glob 3)) .nil) .nil) (.cons (.ret (.glob 2)) .nil))) .nil) (.cons (.ite (.cmp .Eq (.loc 0) (.glob 6)) (.cons (.ite (.cmp .Gt (.loc 1) (.int 0)) (.cons (.ret (.item (.lst (.cons (.glob 5) (.cons (.glob 6) .nil))) (.bin .BitAnd (.loc 1) (.int 1)))) .nil) .nil) (.cons (.ite (.cmp .Eq (.loc 1) (.int 0)) (.cons (.ret (.glob 3)) .nil) .nil) (.cons (.ret (.glob 2)) .nil))) .nil) (.cons (.ite (.cmp .Eq (.loc 1) (.int 0)) (.cons (.ret (.glob 3)) .nil) .nil) (.cons (.ret (.glob 4)) .nil)))) .nil) (.cons (.set 1 (.bi .int (.cons (.loc 1) .nil))) (.cons (.ite (.cmp .Eq (.loc 1) (.int 0)) (.cons (.ret (.glob 3)) .nil) .nil) (.cons (.ite (.cmp .Eq (.loc 1) (.int 1)) (.cons (.ret (.call 9 (.cons (.loc 0) (.cons (.loc 2) (.cons (.loc 3) .nil))))) .nil) .nil) (.cons (.ite (.cmp .Eq (.loc 1) (.int 2)) (.cons (.unp [8, 5, 6, 7] (.loc 0)) (.cons (.ite (.not (.loc 5)) (.cons (.ret (.glob 2)) .nil) .nil) (.cons (.set 5 (.bin .Mult (.loc 5) (.loc 5))) (.cons (.ite (.cmp .Eq (.loc 5) (.int 1)) (.cons (.ret (.tup (.cons (.int 0) (.cons (.glob 1) (.cons (.bin .Add (.loc 6) (.loc 6)) (.cons (.int 1) .nil)))))) .nil) .nil) (.cons (.set 7 (.bin .Sub (.bin .Add (.loc 7) (.loc 7)) (.int 2))) (.cons (.aug 7 .Add (.bitlen (.bin .RShift (.loc 5) (.loc 7)))) (.cons (.ret (.call 2 (.cons (.int 0) (.cons (.loc 5) (.cons (.bin .Add (.loc 6) (.loc 6)) (.cons (.loc 7) (.cons (.loc 2) (.cons (.loc 3) .nil)))))))) .nil))))))) .nil) (.cons (.ite (.cmp .Eq (.loc 1) (.neg (.int 1))) (.cons (.ret (.call 15 (.cons (.glob 3) (.cons (.loc 0) (.cons (.loc 2) (.cons (.loc 3) .nil)))))) .nil) .nil) (.cons (.ite (.cmp .Lt (.loc 1) (.int 0)) (.cons (.set 9 (.call 16 (.cons (.loc 0) (.cons (.neg (.loc 1)) (.cons (.bin .Add (.loc 2) (.int 5)) (.cons (.item .junk (.loc 3)) .nil)))))) (.cons (.ret (.call 15 (.cons (.glob 3) (.cons (.loc 9) (.cons (.loc 2) (.cons (.loc 3) .nil)))))) .nil)) .nil) (.cons (.set 10 (.bin .BitAnd (.loc 4) (.loc 1))) (.cons (.ite (.cmp .Eq (.loc 5) (.int 1)) (.cons (.ret (.tup (.cons (.loc 10) (.cons (.glob 1) (.cons (.bin .Mult (.loc 6) (.loc 1)) (.cons (.int 1) .nil)))))) .nil) .nil) (.cons (.ite (.cmp .Lt (.bin .Mult (.loc 7) (.loc 1)) (.int 1000)) (.cons (.aug 5 .Pow (.loc 1)) (.cons (.ret (.call 2 (.cons (.loc 10) (.cons (.loc 5) (.cons (.bin .Mult (.loc 6) (.loc 1)) (.cons (.bitlen (.loc 5)) (.cons (.loc 2) (.cons (.loc 3) .nil)))))))) .nil)) .nil) (.cons (.set 11 (.bop .Or (.cons (.cmp .Eq (.loc 3) (.glob 7)) (.cons (.item (.dsub 0 (.loc 3)) (.loc 10)) .nil)))) (.cons (.set 12 (.bin .Add (.bin .Add (.loc 2) (.bin .Mult (.int 4) (.bitlen (.loc 1)))) (.int 4))) (.cons (.unp [8, 13, 14, 15] (.glob 3)) (.cons .junk (.cons (.ret (.call 2 (.cons (.loc 10) (.cons (.loc 13) (.cons (.loc 14) (.cons (.loc 15) (.cons (.loc 2) (.cons (.loc 3) .nil)))))))) .nil))))))))))))))))
def b_mpi_neg : ISs := (.cons (.unp [2, 3] (.loc 0)) (.cons (.set 4 (.call 10 (.cons (.loc 3) (.cons (.loc 1) (.cons (.glob 8) .nil))))) (.cons (.set 5 (.call 10 (.cons (.loc 2) (.cons (.loc 1) (.cons (.glob 9) .nil))))) (.cons (.ret (.tup (.cons (.loc 4) (.cons (.loc 5) .nil)))) .nil))))
def b_mpi_mul : ISs := (.cons (.unp [3, 4] (.loc 0)) (.cons (.unp [5, 6] (.loc 1)) (.cons (.set 7 (.call 11 (.cons (.loc 3) .nil))) (.cons (.set 8 (.call 11 (.cons (.loc 4) .nil))) (.cons (.set 9 (.call 11 (.cons (.loc 5) .nil))) (.cons (.set 10 (.call 11 (.cons (.loc 6) .nil))) (.cons (.ite (.chain .Eq .Eq (.loc 7) (.loc 8) (.int 0)) (.cons (.ite (.bop .Or (.cons (.cmp .Eq (.loc 5) (.glob 6)) (.cons (.cmp .Eq (.loc 6) (.glob 5)) .nil))) (.cons (.ret (.tup (.cons (.glob 6) (.cons (.glob 5) .nil)))) .nil) .nil) (.cons (.ret (.tup (.cons (.glob 2) (.cons (.glob 2) .nil)))) .nil)) .nil) (.cons (.ite (.chain .Eq .Eq (.loc 9) (.loc 10) (.int 0)) (.cons (.ite (.bop .Or (.cons (.cmp .Eq (.loc 3) (.glob 6)) (.cons (.cmp .Eq (.loc 4) (.glob 5)) .nil))) (.cons (.ret (.tup (.cons (.glob 6) (.cons (.glob 5) .nil)))) .nil) .nil) (.cons (.ret (.tup (.cons (.glob 2) (.cons (.glob 2) .nil)))) .nil)) .nil) (.cons (.ite (.cmp .GtE (.loc 7) (.int 0)) (.cons (.ite (.cmp .GtE (.loc 9) (.int 0)) (.cons (.set 11 (.call 14 (.cons (.loc 3) (.cons (.loc 5) (.cons (.loc 2) (.cons (.glob 8) .nil)))))) (.cons (.set 12 (.call 14 (.cons (.loc 4) (.cons (.loc 6) (.cons (.loc 2) (.cons (.glob 9) .nil)))))) (.cons (.ite (.cmp .Eq (.loc 11) (.glob 4)) (.cons (.set 11 (.glob 2)) .nil) .nil) (.cons (.ite (.cmp .Eq (.loc 12) (.glob 4)) (.cons (.set 12 (.glob 5)) .nil) .nil) .nil)))) (.cons (.ite (.cmp .LtE (.loc 10) (.int 0)) (.cons (.set 11 (.call 14 (.cons (.loc 4) (.cons (.loc 5) (.cons (.loc 2) (.cons (.glob 8) .nil)))))) (.cons (.set 12 (.call 14 (.cons (.loc 3) (.cons (.loc 6) (.cons (.loc 2) (.cons (.glob 9) .nil)))))) (.cons (.ite (.cmp .Eq (.loc 11) (.glob 4)) (.cons (.set 11 (.glob 6)) .nil) .nil) (.cons (.ite (.cmp .Eq (.loc 12) (.glob 4)) (.cons (.set 12 (.glob 2)) .nil) .nil) .nil)))) (.cons (.set 11 (.call 14 (.cons (.loc 4) (.cons (.loc 5) (.cons (.loc 2) (.cons (.glob 8) .nil)))))) (.cons (.set 12 (.call 14 (.cons (.loc 4) (.cons (.loc 6) (.cons (.loc 2) (.cons (.glob 9) .nil)))))) (.cons (.ite (.cmp .Eq (.loc 11) (.glob 4)) (.cons (.set 11 (.glob 6)) .nil) .nil) (.cons (.ite (.cmp .Eq (.loc 12) (.glob 4)) (.cons (.set 12 (.glob 5)) .nil) .nil) .nil))))) .nil)) .nil) (.cons (.ite (.cmp .LtE (.loc 8) (.int 0)) (.cons (.ite (.cmp .GtE (.loc 9) (.int 0)) (.cons (.set 11 (.call 14 (.cons (.loc 3) (.cons (.loc 6) (.cons (.loc 2) (.cons (.glob 8) .nil)))))) (.cons (.set 12 (.call 14 (.cons (.loc 4) (.cons (.loc 5) (.cons (.loc 2) (.cons (.glob 9) .nil)))))) (.cons (.ite (.cmp .Eq (.loc 11) (.glob 4)) (.cons (.set 11 (.glob 6)) .nil) .nil) (.cons (.ite (.cmp .Eq (.loc 12) (.glob 4)) (.cons (.set 12 (.glob 2)) .nil) .nil) .nil)))) (.cons (.ite (.cmp .LtE (.loc 10) (.int 0)) (.cons (.set 11 (.call 14 (.cons (.loc 4) (.cons (.loc 6) (.cons (.loc 2) (.cons (.glob 8) .nil)))))) (.cons (.set 12 (.call 14 (.cons (.loc 3) (.cons (.loc 5) (.cons (.loc 2) (.cons (.glob 9) .nil)))))) (.cons (.ite (.cmp .Eq (.loc 11) (.glob 4)) (.cons (.set 11 (.glob 2)) .nil) .nil) (.cons (.ite (.cmp .Eq (.loc 12) (.glob 4)) (.cons (.set 12 (.glob 5)) .nil) .nil) .nil)))) (.cons (.set 11 (.call 14 (.cons (.loc 3) (.cons (.loc 6) (.cons (.loc 2) (.cons (.glob 8) .nil)))))) (.cons (.set 12 (.call 14 (.cons (.loc 3) (.cons (.loc 5) (.cons (.loc 2) (.cons (.glob 9) .nil)))))) (.cons (.ite (.cmp .Eq (.loc 11) (.glob 4)) (.cons (.set 11 (.glob 6)) .nil) .nil) (.cons (.ite (.cmp .Eq (.loc 12) (.glob 4)) (.cons (.set 12 (.glob 5)) .nil) .nil) .nil))))) .nil)) .nil) (.cons (.set 13 (.lst (.cons (.call 14 (.cons (.loc 3) (.cons (.loc 5) .nil))) (.cons (.call 14 (.cons (.loc 3) (.cons (.loc 6) .nil))) (.cons (.call 14 (.cons (.loc 4) (.cons (.loc 5) .nil))) (.cons (.call 14 (.cons (.loc 4) (.cons (.loc 6) .nil))) .nil)))))) (.cons (.ite (.cmp .In (.glob 4) (.loc 13)) (.cons (.unp [11, 12] (.tup (.cons (.glob 6) (.cons (.glob 5) .nil)))) .nil) (.cons (.unp [11, 12] (.call 8 (.cons (.loc 13) .nil))) (.cons (.set 11 (.call 9 (.cons (.loc 11) (.cons (.loc 2) (.cons (.glob 8) .nil))))) (.cons (.set 12 (.call 9 (.cons (.loc 12) (.cons (.loc 2) (.cons (.glob 9) .nil))))) .nil)))) .nil))) .nil)) (.cons (.ret (.tup (.cons (.loc 11) (.cons (.loc 12) .nil)))) .nil))))))))))
def b_mpi_square : ISs := (.cons (.unp [2, 3] (.loc 0)) (.cons (.ite (.call 7 (.cons (.loc 2) (.cons (.glob 2) .nil))) (.cons (.set 4 (.call 14 (.cons (.loc 2) (.cons (.loc 2) (.cons (.loc 1) (.cons (.glob 8) .nil)))))) (.cons (.set 5 (.call 14 (.cons (.loc 3) (.cons (.loc 3) (.cons (.loc 1) (.cons (.glob 9) .nil)))))) .nil)) (.cons (.ite (.call 5 (.cons (.loc 3) (.cons (.glob 2) .nil))) (.cons (.set 4 (.call 14 (.cons (.loc 3) (.cons (.loc 3) (.cons (.loc 1) (.cons (.glob 8) .nil)))))) (.cons (.set 5 (.call 14 (.cons (.loc 2) (.cons (.loc 2) (.cons (.loc 1) (.cons (.glob 9) .nil)))))) .nil)) (.cons (.set 2 (.call 10 (.cons (.loc 2) .nil))) (.cons (.unp [2, 3] (.call 8 (.cons (.lst (.cons (.loc 2) (.cons (.loc 3) .nil))) .nil))) (.cons (.set 4 (.glob 2)) (.cons (.set 5 (.call 14 (.cons (.loc 3) (.cons (.loc 3) (.cons (.loc 1) (.cons (.glob 9) .nil)))))) .nil))))) .nil)) (.cons (.ret (.tup (.cons (.loc 4) (.cons (.loc 5) .nil)))) .nil)))
def b_mpi_div : ISs := (.cons (.unp [3, 4] (.loc 0)) (.cons (.unp [5, 6] (.loc 1)) (.cons (.set 7 (.call 11 (.cons (.loc 3) .nil))) (.cons (.set 8 (.call 11 (.cons (.loc 4) .nil))) (.cons (.set 9 (.call 11 (.cons (.loc 5) .nil))) (.cons (.set 10 (.call 11 (.cons (.loc 6) .nil))) (.cons (.ite (.chain .Eq .Eq (.loc 7) (.loc 8) (.int 0)) (.cons (.ite (.bop .Or (.cons (.bop .And (.cons (.cmp .Lt (.loc 9) (.int 0)) (.cons (.cmp .Gt (.loc 10) (.int 0)) .nil))) (.cons (.bop .Or (.cons (.cmp .Eq (.loc 9) (.int 0)) (.cons (.cmp .Eq (.loc 10) (.int 0)) .nil))) .nil))) (.cons (.ret (.tup (.cons (.glob 6) (.cons (.glob 5) .nil)))) .nil) .nil) (.cons (.ret (.tup (.cons (.glob 2) (.cons (.glob 2) .nil)))) .nil)) .nil) (.cons (.ite (.bop .And (.cons (.cmp .Lt (.loc 9) (.int 0)) (.cons (.cmp .Gt (.loc 10) (.int 0)) .nil))) (.cons (.ret (.tup (.cons (.glob 6) (.cons (.glob 5) .nil)))) .nil) .nil) (.cons (.ite (.cmp .Lt (.loc 9) (.int 0)) (.cons (.ret (.call 20 (.cons (.call 17 (.cons (.loc 0) .nil)) (.cons (.call 17 (.cons (.loc 1) .nil)) (.cons (.loc 2) .nil))))) .nil) .nil) (.cons (.ite (.cmp .Eq (.loc 9) (.int 0)) (.cons (.ite (.bop .And (.cons (.cmp .Lt (.loc 7) (.int 0)) (.cons (.cmp .Gt (.loc 8) (.int 0)) .nil))) (.cons (.ret (.tup (.cons (.glob 6) (.cons (.glob 5) .nil)))) .nil) .nil) (.cons (.ite (.cmp .Eq (.loc 9) (.loc 10)) (.cons (.ret (.tup (.cons (.glob 6) (.cons (.glob 5) .nil)))) .nil) .nil) (.cons (.ite (.cmp .GtE (.loc 7) (.int 0)) (.cons (.set 11 (.call 15 (.cons (.loc 3) (.cons (.loc 6) (.cons (.loc 2) (.cons (.glob 8) .nil)))))) (.cons (.set 12 (.glob 5)) .nil)) .nil) (.cons (.ite (.cmp .LtE (.loc 8) (.int 0)) (.cons (.set 11 (.glob 6)) (.cons (.set 12 (.call 15 (.cons (.loc 4) (.cons (.loc 6) (.cons (.loc 2) (.cons (.glob 9) .nil)))))) .nil)) .nil) .nil)))) (.cons (.ite (.cmp .GtE (.loc 7) (.int 0)) (.cons (.set 11 (.call 15 (.cons (.loc 3) (.cons (.loc 6) (.cons (.loc 2) (.cons (.glob 8) .nil)))))) (.cons (.set 12 (.call 15 (.cons (.loc 4) (.cons (.loc 5) (.cons (.loc 2) (.cons (.glob 9) .nil)))))) (.cons (.ite (.cmp .Eq (.loc 11) (.glob 4)) (.cons (.set 11 (.glob 2)) .nil) .nil) (.cons (.ite (.cmp .Eq (.loc 12) (.glob 4)) (.cons (.set 12 (.glob 5)) .nil) .nil) .nil)))) (.cons (.ite (.cmp .LtE (.loc 8) (.int 0)) (.cons (.set 11 (.call 15 (.cons (.loc 3) (.cons (.loc 5) (.cons (.loc 2) (.cons (.glob 8) .nil)))))) (.cons (.set 12 (.call 15 (.cons (.loc 4) (.cons (.loc 6) (.cons (.loc 2) (.cons (.glob 9) .nil)))))) (.cons (.ite (.cmp .Eq (.loc 11) (.glob 4)) (.cons (.set 11 (.glob 6)) .nil) .nil) (.cons (.ite (.cmp .Eq (.loc 12) (.glob 4)) (.cons (.set 12 (.glob 2)) .nil) .nil) .nil)))) (.cons (.set 11 (.call 15 (.cons (.loc 3) (.cons (.loc 5) (.cons (.loc 2) (.cons (.glob 8) .nil)))))) (.cons (.set 12 (.call 15 (.cons (.loc 4) (.cons (.loc 5) (.cons (.loc 2) (.cons (.glob 9) .nil)))))) (.cons (.ite (.cmp .Eq (.loc 11) (.glob 4)) (.cons (.set 11 (.glob 6)) .nil) .nil) (.cons (.ite (.cmp .Eq (.loc 12) (.glob 4)) (.cons (.set 12 (.glob 5)) .nil) .nil) .nil))))) .nil)) .nil)) (.cons (.ret (.tup (.cons (.loc 11) (.cons (.loc 12) .nil)))) .nil)))))))))))
def b_mpi_pow_int : ISs := (.cons (.unp [3, 4] (.loc 0)) (.cons (.ite (.cmp .Lt (.loc 1) (.int 0)) (.cons (.ret (.call 20 (.cons (.tup (.cons (.glob 3) (.cons (.glob 3) .nil))) (.cons (.call 21 (.cons (.loc 0) (.cons (.neg (.loc 1)) (.cons (.bin .Add (.loc 2) (.int 20)) .nil)))) (.cons (.loc 2) .nil))))) .nil) .nil) (.cons (.ite (.cmp .Eq (.loc 1) (.int 0)) (.cons (.ret (.tup (.cons (.glob 3) (.cons (.glob 3) .nil)))) .nil) .nil) (.cons (.ite (.cmp .Eq (.loc 1) (.int 1)) (.cons (.ret (.loc 0)) .nil) .nil) (.cons (.ite (.cmp .Eq (.loc 1) (.int 2)) (.cons (.ret (.call 19 (.cons (.loc 0) (.cons (.loc 2) .nil)))) .nil) .nil) (.cons (.ite (.bin .BitAnd (.loc 1) (.int 1)) (.cons (.set 5 (.call 16 (.cons (.loc 3) (.cons (.loc 1) (.cons (.loc 2) (.cons (.glob 8) .nil)))))) (.cons (.set 6 (.call 16 (.cons (.loc 4) (.cons (.loc 1) (.cons (.loc 2) (.cons (.glob 9) .nil)))))) .nil)) (.cons (.set 7 (.call 11 (.cons (.loc 3) .nil))) (.cons (.set 8 (.call 11 (.cons (.loc 4) .nil))) (.cons (.ite (.cmp .GtE (.loc 7) (.int 0)) (.cons (.set 5 (.call 16 (.cons (.loc 3) (.cons (.loc 1) (.cons (.loc 2) (.cons (.glob 8) .nil)))))) (.cons (.set 6 (.call 16 (.cons (.loc 4) (.cons (.loc 1) (.cons (.loc 2) (.cons (.glob 9) .nil)))))) .nil)) (.cons (.ite (.cmp .LtE (.loc 8) (.int 0)) (.cons (.set 5 (.call 16 (.cons (.loc 4) (.cons (.loc 1) (.cons (.loc 2) (.cons (.glob 8) .nil)))))) (.cons (.set 6 (.call 16 (.cons (.loc 3) (.cons (.loc 1) (.cons (.loc 2) (.cons (.glob 9) .nil)))))) .nil)) (.cons (.set 5 (.glob 2)) (.cons (.set 3 (.call 10 (.cons (.loc 3) .nil))) (.cons (.ite (.call 7 (.cons (.loc 3) (.cons (.loc 4) .nil))) (.cons (.set 6 (.call 16 (.cons (.loc 3) (.cons (.loc 1) (.cons (.loc 2) (.cons (.glob 9) .nil)))))) .nil) (.cons (.set 6 (.call 16 (.cons (.loc 4) (.cons (.loc 1) (.cons (.loc 2) (.cons (.glob 9) .nil)))))) .nil)) .nil)))) .nil)) .nil)))) (.cons (.ret (.tup (.cons (.loc 5) (.cons (.loc 6) .nil)))) .nil)))))))
def b_law_mixed : ISs := (.cons (.set 2 (.ite (.cmp .Lt (.loc 1) (.bi .len (.cons (.loc 0) .nil))) (.item (.loc 0) (.loc 1)) (.int 0))) (.cons (.ite (.cmp .GtE (.loc 2) (.bin .Pow (.int 2) (.int 64))) (.cons (.ret (.loc 2)) .nil) .nil) (.cons (.ret (.bin .Mod (.bin .FloorDiv (.bin .Pow (.bin .Add (.bin .Mult (.loc 2) (.int 6364136223846793005)) (.bin .Mult (.bin .Add (.loc 1) (.int 1)) (.int 1442695040888963407))) (.int 3)) (.bin .Pow (.int 2) (.int 40))) (.bin .Pow (.int 2) (.int 190)))) .nil)))
def b_law_made : ISs := (.cons (.unp [2, 3] (.ite (.cmp .Lt (.loc 0) (.int 0)) (.tup (.cons (.int 1) (.cons (.neg (.loc 0)) .nil))) (.tup (.cons (.int 0) (.cons (.loc 0) .nil))))) (.cons (.ite (.cmp .Eq (.loc 3) (.int 0)) (.cons (.ret (.tup (.cons (.int 0) (.cons (.int 0) (.cons (.int 0) (.cons (.int 0) .nil)))))) .nil) .nil) (.cons (.set 4 (.bin .Sub (.bitlen (.bin .BitAnd (.loc 3) (.neg (.loc 3)))) (.int 1))) (.cons (.set 3 (.bin .FloorDiv (.loc 3) (.bin .Pow (.int 2) (.loc 4)))) (.cons (.ret (.tup (.cons (.loc 2) (.cons (.loc 3) (.cons (.bin .Add (.loc 1) (.loc 4)) (.cons (.bitlen (.loc 3)) .nil)))))) .nil)))))
def b_law_value : ISs := (.cons (.ret (.tup (.cons (.ite (.cmp .Eq (.item (.loc 0) (.int 0)) (.int 1)) (.neg (.item (.loc 0) (.int 1))) (.item (.loc 0) (.int 1))) (.cons (.item (.loc 0) (.int 2)) .nil)))) .nil)
def b_law_times : ISs := (.cons (.ret (.tup (.cons (.bin .Mult (.item (.loc 0) (.int 0)) (.item (.loc 1) (.int 0))) (.cons (.bin .Add (.item (.loc 0) (.int 1)) (.item (.loc 1) (.int 1))) .nil)))) .nil)
def b_law_less : ISs := (.cons (.set 2 (.bi .min (.cons (.item (.loc 0) (.int 1)) (.cons (.item (.loc 1) (.int 1)) .nil)))) (.cons (.ret (.cmp .Lt (.bin .Mult (.item (.loc 0) (.int 0)) (.bin .Pow (.int 2) (.bin .Sub (.item (.loc 0) (.int 1)) (.loc 2)))) (.bin .Mult (.item (.loc 1) (.int 0)) (.bin .Pow (.int 2) (.bin .Sub (.item (.loc 1) (.int 1)) (.loc 2)))))) .nil))
def b_law_grid : ISs := (.cons (.unp [1, 2, 3] (.tup (.cons (.bin .Mod (.loc 0) (.int 6)) (.cons (.bin .Sub (.bin .Mod (.bin .FloorDiv (.loc 0) (.int 6)) (.int 25)) (.int 12)) (.cons (.bin .Add (.int 1) (.bin .Mod (.bin .FloorDiv (.loc 0) (.int 150)) (.int 24))) .nil))))) (.cons (.unp [4, 5] (.tup (.cons (.bin .Sub (.bin .Mod (.bin .FloorDiv (.loc 0) (.bin .Pow (.int 2) (.int 13))) (.bin .Pow (.int 2) (.loc 3))) (.bin .Pow (.int 2) (.bin .Sub (.loc 3) (.int 1)))) (.cons (.bin .Mod (.bin .FloorDiv (.loc 0) (.bin .Pow (.int 2) (.int 40))) (.bin .Pow (.int 2) (.bin .Add (.int 1) (.bin .Mod (.bin .FloorDiv (.loc 0) (.bin .Pow (.int 2) (.int 66))) (.int 24))))) .nil)))) (.cons (.ite (.cmp .Eq (.loc 1) (.int 0)) (.cons (.set 5 (.int 0)) .nil) (.cons (.ite (.cmp .Eq (.loc 1) (.int 1)) (.cons (.set 4 (.int 0)) .nil) (.cons (.ite (.cmp .Eq (.loc 1) (.int 2)) (.cons (.set 4 (.neg (.loc 5))) .nil) .nil) .nil)) .nil)) (.cons (.ret (.tup (.cons (.loc 4) (.cons (.bin .Add (.loc 4) (.loc 5)) (.cons (.loc 2) .nil))))) .nil))))
def b_law_apart : ISs := (.cons (.unp [1, 2, 3] (.call 27 (.cons (.loc 0) .nil))) (.cons (.unp [4, 5] (.tup (.cons (.bin .Sub (.loc 2) (.loc 1)) (.cons (.bin .Add (.int 1) (.bi .abs (.cons (.loc 1) .nil))) .nil)))) (.cons (.ret (.ite (.cmp .Eq (.bin .Mod (.bin .FloorDiv (.loc 0) (.bin .Pow (.int 2) (.int 110))) (.int 2)) (.int 0)) (.tup (.cons (.loc 5) (.cons (.bin .Add (.loc 5) (.loc 4)) (.cons (.loc 3) .nil)))) (.tup (.cons (.bin .Sub (.neg (.loc 5)) (.loc 4)) (.cons (.neg (.loc 5)) (.cons (.loc 3) .nil)))))) .nil)))
def b_law_span : ISs := (.cons (.ret (.tup (.cons (.call 23 (.cons (.item (.loc 0) (.int 0)) (.cons (.item (.loc 0) (.int 2)) .nil))) (.cons (.call 23 (.cons (.item (.loc 0) (.int 1)) (.cons (.item (.loc 0) (.int 2)) .nil))) .nil)))) .nil)
def b_law_within : ISs := (.cons (.unp [2, 3, 4, 5] (.comp (.call 24 (.cons (.loc 0) .nil)) (.bin .Add (.loc 0) (.loc 1)))) (.cons (.ret (.bop .And (.cons (.not (.call 26 (.cons (.loc 2) (.cons (.loc 4) .nil)))) (.cons (.not (.call 26 (.cons (.loc 5) (.cons (.loc 3) .nil)))) (.cons (.not (.call 26 (.cons (.loc 3) (.cons (.loc 2) .nil)))) .nil))))) .nil))
def b_law_holds : ISs := (.cons (.ret (.bop .And (.cons (.not (.call 26 (.cons (.loc 1) (.cons (.call 24 (.cons (.item (.loc 0) (.int 0)) .nil)) .nil)))) (.cons (.not (.call 26 (.cons (.call 24 (.cons (.item (.loc 0) (.int 1)) .nil)) (.cons (.loc 1) .nil)))) .nil)))) .nil)
def b_law_one_over : ISs := (.cons (.setc 2 (.call 25 (.cons (.call 24 (.cons (.loc 0) .nil)) (.cons (.loc 2) .nil))) (.loc 0)) (.cons (.ite (.cmp .Lt (.item (.loc 1) (.int 0)) (.int 0)) (.cons (.set 2 (.lst (.cons (.item (.loc 2) (.int 1)) (.cons (.item (.loc 2) (.int 0)) .nil)))) .nil) .nil) (.cons (.ret (.bop .And (.cons (.not (.call 26 (.cons (.tup (.cons (.int 1) (.cons (.int 0) .nil))) (.cons (.item (.loc 2) (.int 0)) .nil)))) (.cons (.not (.call 26 (.cons (.item (.loc 2) (.int 1)) (.cons (.tup (.cons (.int 1) (.cons (.int 0) .nil))) .nil)))) .nil)))) .nil)))
def b_law : ISs := (.cons (.set 1 (.call 22 (.cons (.loc 0) (.cons (.int 0) .nil)))) (.cons (.unp [2, 3, 4, 5] (.tup (.cons (.bin .Add (.int 1) (.bin .Mod (.loc 1) (.int 60))) (.cons (.bin .Mod (.bin .FloorDiv (.loc 1) (.int 60)) (.int 5)) (.cons (.bin .Mod (.bin .FloorDiv (.loc 1) (.int 300)) (.int 5)) (.cons (.bin .Add (.int 1) (.bin .Mod (.bin .FloorDiv (.loc 1) (.int 1500)) (.int 4))) .nil)))))) (.cons (.unp [6, 7, 8] (.call 27 (.cons (.call 22 (.cons (.loc 0) (.cons (.int 1) .nil))) .nil))) (.cons (.unp [9, 10] (.tup (.cons (.call 29 (.cons (.tup (.cons (.loc 6) (.cons (.loc 7) (.cons (.loc 8) .nil)))) .nil)) (.cons (.call 23 (.cons (.int 1) (.cons (.int 0) .nil))) .nil)))) (.cons (.unp [11, 12] (.tup (.cons (.call 18 (.cons (.loc 9) (.cons (.loc 9) (.cons (.loc 2) .nil)))) (.cons (.call 19 (.cons (.loc 9) (.cons (.loc 2) .nil))) .nil)))) (.cons (.ite (.bop .Or (.cons (.cmp .NotEq (.call 21 (.cons (.loc 9) (.cons (.int 2) (.cons (.loc 2) .nil)))) (.loc 12)) (.cons (.not (.call 30 (.cons (.loc 12) (.cons (.loc 11) .nil)))) (.cons (.bop .And (.cons (.bop .Or (.cons (.cmp .GtE (.loc 6) (.int 0)) (.cons (.cmp .LtE (.loc 7) (.int 0)) .nil))) (.cons (.cmp .NotEq (.loc 12) (.loc 11)) .nil))) .nil)))) (.cons (.ret (.bool false)) .nil) .nil) (.cons (.unp [13, 14] (.tup (.cons (.call 21 (.cons (.loc 9) (.cons (.loc 3) (.cons (.loc 2) .nil)))) (.cons (.call 21 (.cons (.loc 9) (.cons (.loc 4) (.cons (.loc 2) .nil)))) .nil)))) (.cons (.ite (.bop .Or (.cons (.not (.call 30 (.cons (.call 21 (.cons (.loc 9) (.cons (.bin .Add (.loc 3) (.loc 4)) (.cons (.loc 2) .nil)))) (.cons (.call 18 (.cons (.loc 13) (.cons (.loc 14) (.cons (.loc 2) .nil)))) .nil)))) (.cons (.not (.call 30 (.cons (.call 21 (.cons (.loc 9) (.cons (.bin .Mult (.loc 3) (.loc 4)) (.cons (.loc 2) .nil)))) (.cons (.call 21 (.cons (.loc 13) (.cons (.loc 4) (.cons (.loc 2) .nil)))) .nil)))) .nil))) (.cons (.ret (.bool false)) .nil) .nil) (.cons (.ite (.bop .Or (.cons (.cmp .NotEq (.call 21 (.cons (.call 17 (.cons (.loc 9) .nil)) (.cons (.loc 3) (.cons (.loc 2) .nil)))) (.ite (.cmp .Eq (.bin .Mod (.loc 3) (.int 2)) (.int 1)) (.call 17 (.cons (.loc 13) .nil)) (.loc 13))) (.cons (.bop .And (.cons (.cmp .Eq (.bin .Mod (.loc 3) (.int 2)) (.int 0)) (.cons (.cmp .Lt (.item (.call 24 (.cons (.item (.loc 13) (.int 0)) .nil)) (.int 0)) (.int 0)) .nil))) .nil))) (.cons (.ret (.bool false)) .nil) .nil) (.cons (.ite (.cmp .NotEq (.call 21 (.cons (.loc 9) (.cons (.int 0) (.cons (.loc 2) .nil)))) (.tup (.cons (.loc 10) (.cons (.loc 10) .nil)))) (.cons (.ret (.bool false)) .nil) .nil) (.cons (.set 15 (.call 28 (.cons (.call 22 (.cons (.loc 0) (.cons (.int 2) .nil))) .nil))) (.cons (.unp [16, 17] (.tup (.cons (.call 29 (.cons (.loc 15) .nil)) (.cons (.bin .Pow (.bin .Add (.item (.loc 15) (.int 0)) (.bin .FloorDiv (.bin .Mult (.bin .Sub (.item (.loc 15) (.int 1)) (.item (.loc 15) (.int 0))) (.bin .Mod (.bin .FloorDiv (.loc 1) (.bin .Pow (.int 2) (.int 50))) (.int 9))) (.int 8))) (.loc 5)) .nil)))) (.cons (.unp [18, 19] (.tup (.cons (.call 21 (.cons (.loc 16) (.cons (.loc 5) (.cons (.loc 2) .nil)))) (.cons (.call 21 (.cons (.loc 16) (.cons (.neg (.loc 5)) (.cons (.loc 2) .nil)))) .nil)))) (.cons (.ret (.bop .And (.cons (.call 32 (.cons (.loc 19) (.cons (.tup (.cons (.loc 17) (.cons (.bin .Mult (.item (.loc 15) (.int 2)) (.loc 5)) .nil))) .nil))) (.cons (.call 31 (.cons (.call 18 (.cons (.loc 18) (.cons (.loc 19) (.cons (.loc 2) .nil)))) (.cons (.tup (.cons (.int 1) (.cons (.int 0) .nil))) .nil))) (.cons (.call 31 (.cons (.call 18 (.cons (.loc 19) (.cons (.loc 18) (.cons (.loc 2) .nil)))) (.cons (.tup (.cons (.int 1) (.cons (.int 0) .nil))) .nil))) .nil))))) .nil))))))))))))))
def sF : Str := "f"
def sC : Str := "c"
def sD : Str := "d"
def sU : Str := "u"
def sN : Str := "n"
def T : List FR := [
  ⟨1, [], 1, b_trailing⟩,
  ⟨6, [], 8, b_unorm⟩,
  ⟨6, [], 6, b_normalize⟩,
  ⟨2, [], 13, b_mpf_cmp⟩,
  ⟨2, [], 2, b_mpf_lt⟩,
  ⟨2, [], 2, b_mpf_le⟩,
  ⟨2, [], 2, b_mpf_gt⟩,
  ⟨2, [], 2, b_mpf_ge⟩,
  ⟨1, [], 4, b_mpf_min_max⟩,
  ⟨3, [.int 0, .str "d"], 7, b_mpf_pos⟩,
  ⟨3, [.int 0, .str "d"], 7, b_mpf_neg⟩,
  ⟨1, [], 5, b_mpf_sign⟩,
  ⟨5, [.int 0, .str "d", .int 0], 17, b_mpf_add⟩,
  ⟨4, [.int 0, .str "d"], 4, b_mpf_sub⟩,
  ⟨4, [.int 0, .str "d"], 17, b_mpf_mul⟩,
  ⟨4, [.str "d"], 19, b_mpf_div⟩,
  ⟨4, [.str "d"], 16, b_mpf_pow_int⟩,
  ⟨2, [.int 0], 6, b_mpi_neg⟩,
  ⟨3, [.int 0], 14, b_mpi_mul⟩,
  ⟨2, [.int 0], 6, b_mpi_square⟩,
  ⟨3, [], 13, b_mpi_div⟩,
  ⟨3, [], 9, b_mpi_pow_int⟩,
  ⟨2, [], 3, b_law_mixed⟩,
  ⟨2, [], 5, b_law_made⟩,
  ⟨1, [], 1, b_law_value⟩,
  ⟨2, [], 2, b_law_times⟩,
  ⟨2, [], 3, b_law_less⟩,
  ⟨1, [], 6, b_law_grid⟩,
  ⟨1, [], 6, b_law_apart⟩,
  ⟨1, [], 1, b_law_span⟩,
  ⟨2, [], 6, b_law_within⟩,
  ⟨2, [], 2, b_law_holds⟩,
  ⟨2, [], 3, b_law_one_over⟩,
  ⟨1, [], 20, b_law⟩]
def GG : GT where
  dat := [(("MPZ_ZERO" : Str), .int 0), (("MPZ_ONE" : Str), .int 1), (("fzero" : Str), .tuple [.int 0, .int 0, .int 0, .int 0]), (("fone" : Str), .tuple [.int 0, .int 1, .int 0, .int 1]), (("fnan" : Str), .tuple [.int 0, .int 0, .int (-123), .int (-1)]), (("finf" : Str), .tuple [.int 0, .int 0, .int (-456), .int (-2)]), (("fninf" : Str), .tuple [.int 1, .int 0, .int (-789), .int (-3)]), (("round_nearest" : Str), .str "n"), (("round_floor" : Str), .str "f"), (("round_ceiling" : Str), .str "c"), (("round_up" : Str), .str "u"), (("round_down" : Str), .str "d"), (("round_fast" : Str), .str "d")]
  fns := [(("trailing" : Str), 21), (("_normalize" : Str), 38), (("normalize" : Str), 45), (("mpf_cmp" : Str), 52), (("mpf_lt" : Str), 59), (("mpf_le" : Str), 66), (("mpf_gt" : Str), 73), (("mpf_ge" : Str), 80), (("mpf_min_max" : Str), 87), (("mpf_pos" : Str), 95), (("mpf_neg" : Str), 103), (("mpf_sign" : Str), 110), (("mpf_add" : Str), 118), (("mpf_sub" : Str), 126), (("mpf_mul" : Str), 134), (("mpf_div" : Str), 142), (("mpf_pow_int" : Str), 151), (("mpi_neg" : Str), 159), (("mpi_mul" : Str), 167), (("mpi_square" : Str), 175), (("mpi_div" : Str), 182), (("mpi_pow_int" : Str), 189), (("_law_mixed" : Str), 196), (("_law_made" : Str), 203), (("_law_value" : Str), 210), (("_law_times" : Str), 217), (("_law_less" : Str), 224), (("_law_grid" : Str), 231), (("_law_apart" : Str), 238), (("_law_span" : Str), 245), (("_law_within" : Str), 250), (("_law_holds" : Str), 257), (("_law_one_over" : Str), 262), (("law" : Str), 269)]
  tab := [(("shifts_down" : Str), [(("f" : Str), .tuple [.int 1, .int 0]), (("c" : Str), .tuple [.int 0, .int 1]), (("d" : Str), .tuple [.int 1, .int 1]), (("u" : Str), .tuple [.int 0, .int 0])])]
end Mine

end

-- part Num1
section
open PySem
set_option maxRecDepth 100000
set_option linter.unusedVariables false
namespace Mine

def nb (m : Nat) : Nat := if m = 0 then 0 else m.log2 + 1
theorem bits_nat (m : Nat) : bits (m : Int) = nb m := by
  unfold bits Builtin.Int.intBits nb
  by_cases h : m = 0
  · simp [h]
  · simp [h]
theorem bits_neg (a : Int) : bits (-a) = bits a := by
  unfold bits Builtin.Int.intBits
  simp
theorem bits_abs (a : Int) : bits a = nb a.natAbs := by
  unfold bits Builtin.Int.intBits nb
  simp
theorem lt_nb (m : Nat) : m < 2 ^ nb m := by
  unfold nb
  split
  · subst_vars; decide
  · exact Nat.lt_log2_self
theorem nb_pow_le {m : Nat} (h : m ≠ 0) : 2 ^ (nb m - 1) ≤ m := by
  unfold nb
  rw [if_neg h]
  exact Nat.log2_self_le h
theorem nb_pos {m : Nat} (h : m ≠ 0) : 1 ≤ nb m := by unfold nb; rw [if_neg h]; omega
theorem nb_zero : nb 0 = 0 := rfl
theorem nb_le {m k : Nat} (h : m < 2 ^ k) : nb m ≤ k := by
  by_cases hm : m = 0
  · subst hm; exact Nat.zero_le _
  · have h1 := nb_pow_le hm
    have h2 := nb_pos hm
    have : 2 ^ (nb m - 1) < 2 ^ k := Nat.lt_of_le_of_lt h1 h
    have := (Nat.pow_lt_pow_iff_right (a := 2) (by decide)).mp this
    omega
theorem lt_of_nb_le {m k : Nat} (h : nb m ≤ k) : m < 2 ^ k := Nat.lt_of_lt_of_le (lt_nb m) (Nat.pow_le_pow_right (by decide) h)
theorem nb_eq {m k : Nat} (h1 : 2 ^ k ≤ m) (h2 : m < 2 ^ (k + 1)) : nb m = k + 1 := by
  have h3 : m ≠ 0 := fun c => by subst c; have := Nat.two_pow_pos k; omega
  have := nb_le h2
  have h4 := lt_nb m
  have : 2 ^ k < 2 ^ nb m := Nat.lt_of_le_of_lt h1 h4
  have := (Nat.pow_lt_pow_iff_right (a := 2) (by decide)).mp this
  omega
theorem nb_mono {a b : Nat} (h : a ≤ b) : nb a ≤ nb b := nb_le (Nat.lt_of_le_of_lt h (lt_nb b))
theorem nb_mul_le (a b : Nat) : nb (a * b) ≤ nb a + nb b := nb_le (by
  rw [Nat.pow_add]
  exact Nat.mul_lt_mul'' (lt_nb a) (lt_nb b))
theorem nb_two_pow (k : Nat) : nb (2 ^ k) = k + 1 := nb_eq (Nat.le_refl _) (Nat.pow_lt_pow_right (by decide) (by omega))
theorem nb_pow_le_mul (a n : Nat) : nb (a ^ n) ≤ nb a * n + 1 := by
  refine nb_le ?_
  have h : a ^ n ≤ (2 ^ nb a) ^ n := Nat.pow_le_pow_left (Nat.le_of_lt (lt_nb a)) n
  rw [← Nat.pow_mul] at h
  exact Nat.lt_of_le_of_lt h (Nat.pow_lt_pow_right (by decide) (by omega))
theorem nb_one : nb 1 = 1 := by decide

/-! trailing zeros -/
def tz (m : Nat) : Nat := if h : m = 0 ∨ m % 2 = 1 then 0 else tz (m / 2) + 1
termination_by m
decreasing_by omega
def od (m : Nat) : Nat := m / 2 ^ tz m
theorem tz_odd {m : Nat} (h : m % 2 = 1) : tz m = 0 := by rw [tz, dif_pos (.inr h)]
theorem od_odd {m : Nat} (h : m % 2 = 1) : od m = m := by rw [od, tz_odd h]; simp
theorem tz_even {m : Nat} (h : m ≠ 0) : tz (2 * m) = tz m + 1 := by
  rw [tz, dif_neg (by omega)]
  congr 2
  omega
theorem od_even {m : Nat} (h : m ≠ 0) : od (2 * m) = od m := by
  rw [od, od, tz_even h, Nat.pow_succ, Nat.mul_comm (2 ^ tz m) 2, Nat.mul_div_mul_left _ _ (by decide)]
theorem tz_shift {m : Nat} (h : m ≠ 0) (u : Nat) : tz (m * 2 ^ u) = tz m + u ∧ od (m * 2 ^ u) = od m := by
  induction u with
  | zero => simp
  | succ u ih =>
    have e : m * 2 ^ (u + 1) = 2 * (m * 2 ^ u) := by rw [Nat.pow_succ]; ac_rfl
    have h2 : m * 2 ^ u ≠ 0 := Nat.mul_ne_zero h (Nat.ne_of_gt (Nat.two_pow_pos u))
    rw [e, tz_even h2, od_even h2, ih.1, ih.2]
    exact ⟨rfl, rfl⟩
theorem od_spec {m : Nat} (h : m ≠ 0) : od m % 2 = 1 ∧ od m * 2 ^ tz m = m := by
  induction m using Nat.strongRecOn with
  | _ m ih =>
    by_cases ho : m % 2 = 1
    · rw [od_odd ho, tz_odd ho]; simp [ho]
    · have e : m = 2 * (m / 2) := by omega
      have h2 : m / 2 ≠ 0 := by omega
      have := ih (m / 2) (by omega) h2
      rw [e, od_even h2, tz_even h2]
      refine ⟨this.1, ?_⟩
      rw [Nat.pow_succ, ← Nat.mul_assoc, this.2]
      omega
theorem od_ne {m : Nat} (h : m ≠ 0) : od m ≠ 0 := fun c => by have := (od_spec h).1; rw [c] at this; cases this
theorem nb_shift {m : Nat} (h : m ≠ 0) (u : Nat) : nb (m * 2 ^ u) = nb m + u := by
  have h1 := nb_pow_le h
  have h2 := lt_nb m
  have h3 := nb_pos h
  have := nb_eq (m := m * 2 ^ u) (k := nb m - 1 + u) (by rw [Nat.pow_add]; exact Nat.mul_le_mul_right _ h1)
    (by rw [show nb m - 1 + u + 1 = nb m + u by omega, Nat.pow_add]; exact Nat.mul_lt_mul_of_pos_right h2 (Nat.two_pow_pos u))
  omega
theorem nb_od {m : Nat} (h : m ≠ 0) : nb (od m) + tz m = nb m := by
  have := nb_shift (od_ne h) (tz m)
  rw [(od_spec h).2] at this
  omega

theorem and_pred {m : Nat} (h : m ≠ 0) : (m &&& (m - 1)) + 2 ^ tz m = m := by
  induction m using Nat.strongRecOn with
  | _ m ih =>
    by_cases ho : m % 2 = 1
    · rw [tz_odd ho]
      have h1 : (m &&& (m - 1)) / 2 = m / 2 := by rw [Nat.and_div_two, show (m - 1) / 2 = m / 2 by omega, Nat.and_self]
      have h2 : (m &&& (m - 1)) % 2 = 0 := by
        have : (m - 1) % 2 = 0 := by omega
        have := Nat.and_mod_two_pow (a := m) (b := m - 1) (n := 1)
        simp only [Nat.pow_one] at this
        rw [this, ‹(m - 1) % 2 = 0›]
        simp
      omega
    · have h2 : m / 2 ≠ 0 := by omega
      have e : m = 2 * (m / 2) := by omega
      have := ih (m / 2) (by omega) h2
      have ht : tz m = tz (m / 2) + 1 := by
        have := tz_even h2
        rw [← e] at this
        exact this
      rw [ht]
      have h1 : (m &&& (m - 1)) / 2 = (m / 2 &&& (m / 2 - 1)) := by rw [Nat.and_div_two, show (m - 1) / 2 = m / 2 - 1 by omega]
      have h3 : (m &&& (m - 1)) % 2 = 0 := by
        have h4 := Nat.and_mod_two_pow (a := m) (b := m - 1) (n := 1)
        simp only [Nat.pow_one] at h4
        rw [h4, show m % 2 = 0 by omega]
        simp
      rw [Nat.pow_succ]
      omega
theorem band_neg {m : Nat} (h : m ≠ 0) : Builtin.bitAnd (m : Int) (-(m : Int)) = ((2 ^ tz m : Nat) : Int) := by
  have h1 : decide ((0 : Int) ≤ m) = true := by simp
  have h2 : decide ((0 : Int) ≤ -(m : Int)) = false := by simp; omega
  unfold Builtin.bitAnd
  rw [h1, h2]
  simp only
  have : (Builtin.bitNot (-(m : Int))).toNat = m - 1 := by unfold Builtin.bitNot; omega
  rw [this]
  have := and_pred h
  simp only [Int.toNat_natCast]
  omega
theorem band_one (m : Nat) : Builtin.bitAnd (m : Int) 1 = ((m % 2 : Nat) : Int) := by
  have h1 : decide ((0 : Int) ≤ m) = true := by simp
  unfold Builtin.bitAnd
  rw [h1]
  simp only [show decide ((0 : Int) ≤ 1) = true from rfl, Int.toNat_natCast]
  simp
end Mine

end

-- part Num2
section
open PySem
set_option maxRecDepth 100000
set_option linter.unusedVariables false
namespace Mine

def mg (a e : Int) : Rat := (a : Rat) * (2 : Rat) ^ e
theorem two_zpow_pos (e : Int) : (0 : Rat) < (2 : Rat) ^ e := Rat.zpow_pos (by decide)
theorem two_add (a b : Int) : (2 : Rat) ^ (a + b) = 2 ^ a * 2 ^ b := Rat.zpow_add (by decide) a b
theorem two_nat (n : Nat) : (2 : Rat) ^ (n : Int) = (((2 : Int) ^ n : Int) : Rat) := by
  rw [Rat.zpow_natCast]
  induction n with
  | zero => rfl
  | succ n ih => rw [Rat.pow_succ, ih, Int.pow_succ, Rat.intCast_mul]; rfl
theorem mg_shift (a e : Int) (k : Nat) : mg (a * 2 ^ k) e = mg a (e + k) := by
  unfold mg
  rw [two_add, two_nat, Rat.intCast_mul]
  grind
theorem mg_le {a b e : Int} : mg a e ≤ mg b e ↔ a ≤ b := by
  unfold mg
  have h := two_zpow_pos e
  constructor
  · intro q
    have := Rat.le_of_mul_le_mul_right q h
    exact Rat.intCast_le_intCast.mp this
  · intro q
    exact Rat.mul_le_mul_of_nonneg_right (Rat.intCast_le_intCast.mpr q) (Rat.le_of_lt h)
theorem mg_lt {a b e : Int} : mg a e < mg b e ↔ a < b := by
  have h := mg_le (a := b) (b := a) (e := e)
  rw [← Rat.not_le, h]
  omega
theorem mg_inj {a b e : Int} : mg a e = mg b e ↔ a = b := by
  have h1 := mg_le (a := a) (b := b) (e := e)
  have h2 := mg_le (a := b) (b := a) (e := e)
  constructor
  · intro q; rw [q] at h1 h2; have := h1.mp Rat.le_refl; have := h2.mp Rat.le_refl; omega
  · intro q; rw [q]
theorem mg_neg (a e : Int) : mg (-a) e = -mg a e := by
  unfold mg; rw [Rat.intCast_neg]; grind
theorem mg_zero (e : Int) : mg 0 e = 0 := by unfold mg; simp
theorem mg_mul (a e b f : Int) : mg a e * mg b f = mg (a * b) (e + f) := by
  unfold mg; rw [two_add, Rat.intCast_mul]; grind
theorem mg_one : mg 1 0 = 1 := by unfold mg; simp
theorem mg_pow (a e : Int) (n : Nat) : mg a e ^ n = mg (a ^ n) (e * n) := by
  induction n with
  | zero => simp [mg_one]
  | succ n ih => rw [Rat.pow_succ, ih, mg_mul, Int.pow_succ]; congr 1; rw [Int.natCast_succ, Int.mul_add]; omega
theorem mg_pos {a e : Int} : 0 < mg a e ↔ 0 < a := by rw [← mg_zero e, mg_lt]
theorem mg_nonneg {a e : Int} : 0 ≤ mg a e ↔ 0 ≤ a := by rw [← mg_zero e, mg_le]
theorem mg_eq0 {a e : Int} : mg a e = 0 ↔ a = 0 := by rw [← mg_zero e, mg_inj]
theorem mg_neg' {a e : Int} : mg a e < 0 ↔ a < 0 := by rw [← mg_zero e, mg_lt]
theorem mg_nonpos {a e : Int} : mg a e ≤ 0 ↔ a ≤ 0 := by rw [← mg_zero e, mg_le]

/-! ## floats -/
structure Fp where
  s : Bool
  m : Nat
  e : Int
def sg (s : Bool) : Int := if s then 1 else 0
def Fp.pd (x : Fp) : PyData := .tuple [.int (sg x.s), .int x.m, .int x.e, .int (nb x.m)]
def Fp.N (x : Fp) : Int := if x.s then -(x.m : Int) else x.m
def Fp.v (x : Fp) : Rat := mg x.N x.e
structure Fp.ok (x : Fp) : Prop where
  z : x.m = 0 → x.s = false ∧ x.e = 0
  o : x.m ≠ 0 → x.m % 2 = 1
def mkF (N e : Int) : Fp := if N = 0 then ⟨false, 0, 0⟩ else ⟨decide (N < 0), od N.natAbs, e + tz N.natAbs⟩
theorem mkF_ok (N e : Int) : (mkF N e).ok := by
  unfold mkF
  split
  · exact ⟨fun _ => ⟨rfl, rfl⟩, fun h => absurd rfl h⟩
  · rename_i h
    have h2 : N.natAbs ≠ 0 := by omega
    exact ⟨fun c => absurd c (od_ne h2), fun _ => (od_spec h2).1⟩
theorem mkF_v (N e : Int) : (mkF N e).v = mg N e := by
  unfold mkF
  split
  · rename_i h; subst h; simp [Fp.v, Fp.N, mg_zero]
  · rename_i h
    have h2 : N.natAbs ≠ 0 := by omega
    have h3 := (od_spec h2).2
    simp only [Fp.v, Fp.N]
    rw [← mg_shift]
    congr 1
    have h4 : ((od N.natAbs : Nat) : Int) * 2 ^ tz N.natAbs = (N.natAbs : Int) := by exact_mod_cast h3
    by_cases hn : N < 0
    · simp only [hn, decide_true, if_true]
      rw [Int.neg_mul, h4]; omega
    · simp only [hn, decide_false]
      rw [if_neg (by decide), h4]; omega
theorem mkF_self {x : Fp} (h : x.ok) : mkF x.N x.e = x := by
  obtain ⟨s, m, e⟩ := x
  unfold mkF Fp.N
  by_cases hm : m = 0
  · have := h.z hm
    simp only at this
    subst hm; obtain ⟨rfl, rfl⟩ := this
    simp
  · have ho := h.o hm
    simp only at ho
    cases s
    · simp only [Bool.false_eq_true, if_false]
      rw [if_neg (by omega)]
      simp [tz_odd ho, od_odd ho]
    · simp only [if_true]
      rw [if_neg (by omega)]
      simp [tz_odd ho, od_odd ho]
      omega
theorem mkF_shift (N e : Int) (u : Nat) : mkF (N * 2 ^ u) e = mkF N (e + u) := by
  unfold mkF
  by_cases h : N = 0
  · simp [h]
  · have hp : (0 : Int) < 2 ^ u := Int.pow_pos (by decide)
    have h1 : N * 2 ^ u ≠ 0 := Int.mul_ne_zero h (by omega)
    rw [if_neg h1, if_neg h]
    have h2 : N.natAbs ≠ 0 := by omega
    have h3 : (N * 2 ^ u).natAbs = N.natAbs * 2 ^ u := by rw [Int.natAbs_mul, Int.natAbs_pow]; rfl
    have h4 := tz_shift h2 u
    rw [h3, h4.1, h4.2]
    have h5 : (N * 2 ^ u < 0) ↔ N < 0 := by
      constructor
      · intro q
        by_cases hn : N < 0
        · exact hn
        · have := Int.mul_nonneg (show 0 ≤ N by omega) (Int.le_of_lt hp); omega
      · intro q; exact Int.mul_neg_of_neg_of_pos q hp
    simp only [h5]
    congr 1
    simp; omega
theorem mkF_inj {N e N' e' : Int} (h : mg N e = mg N' e') : mkF N e = mkF N' e' := by
  by_cases hl : e ≤ e'
  · have q : e' = e + ((e' - e).toNat : Nat) := by omega
    rw [q, ← mg_shift, mg_inj] at h
    rw [h, mkF_shift]
    congr 1
    omega
  · have q : e = e' + ((e - e').toNat : Nat) := by omega
    rw [q, ← mg_shift, mg_inj] at h
    rw [← h, mkF_shift]
    congr 1
theorem Fp.inj {x y : Fp} (hx : x.ok) (hy : y.ok) (h : x.v = y.v) : x = y := by
  rw [← mkF_self hx, ← mkF_self hy]
  exact mkF_inj h

/-! ## rounding: d = true is down (floor), false is up -/
def Rnd (d : Bool) (p : Nat) (N e : Int) : Fp := mkF (if d then N / 2 ^ (nb N.natAbs - p) else -((-N) / 2 ^ (nb N.natAbs - p))) (e + (nb N.natAbs - p : Nat))
def Rep (p : Nat) (z : Rat) : Prop := ∃ k j : Int, -2 ^ p ≤ k ∧ k ≤ 2 ^ p ∧ z = mg k j
theorem pow2_pos (n : Nat) : (0 : Int) < 2 ^ n := Int.pow_pos (by decide)
theorem Rnd_le (p : Nat) (N e : Int) : (Rnd true p N e).v ≤ mg N e := by
  unfold Rnd
  rw [mkF_v, if_pos rfl, ← mg_shift, mg_le]
  exact Int.ediv_mul_le _ (Int.ne_of_gt (pow2_pos _))
theorem natAbs_lt_pow {N : Int} {k : Nat} (h : N.natAbs < 2 ^ k) : -2 ^ k < N ∧ N < 2 ^ k := by
  have : ((2 ^ k : Nat) : Int) = 2 ^ k := by simp
  omega
theorem natAbs_ge_pow {N : Int} {k : Nat} (h : 2 ^ k ≤ N.natAbs) : (2 : Int) ^ k ≤ N ∨ N ≤ -2 ^ k := by
  have : ((2 ^ k : Nat) : Int) = 2 ^ k := by simp
  omega
theorem Rnd_rep (d : Bool) (p : Nat) (N e : Int) : Rep p (Rnd d p N e).v := by
  have key : ∀ N : Int, ∀ q : Nat, N.natAbs < 2 ^ (p + q) → -2 ^ p ≤ N / 2 ^ q ∧ N / 2 ^ q ≤ 2 ^ p := fun N q h => by
    have := natAbs_lt_pow h
    rw [Int.pow_add] at this
    refine ⟨Int.le_ediv_of_mul_le (pow2_pos q) (by rw [Int.neg_mul]; omega), Int.le_of_lt (Int.ediv_lt_of_lt_mul (pow2_pos q) this.2)⟩
  have hN : N.natAbs < 2 ^ (p + (nb N.natAbs - p)) := Nat.lt_of_lt_of_le (lt_nb _) (Nat.pow_le_pow_right (by decide) (by omega))
  unfold Rnd
  rw [mkF_v]
  refine ⟨_, _, ?_, ?_, rfl⟩
  · cases d
    · have := key (-N) (nb N.natAbs - p) (by simpa using hN); simp only [Bool.false_eq_true, if_false]; omega
    · exact (key N _ hN).1
  · cases d
    · have := key (-N) (nb N.natAbs - p) (by simpa using hN); simp only [Bool.false_eq_true, if_false]; omega
    · exact (key N _ hN).2
theorem Rnd_max {p : Nat} (hp : 1 ≤ p) {N e : Int} {z : Rat} (hr : Rep p z) (hz : z ≤ mg N e) : z ≤ (Rnd true p N e).v := by
  obtain ⟨k, j, k1, k2, rfl⟩ := hr
  unfold Rnd
  rw [mkF_v, if_pos rfl]
  generalize hn : nb N.natAbs - p = n
  have case1 : ∀ k : Int, ∀ u : Nat, mg k (e + n + u) ≤ mg N e → mg k (e + n + u) ≤ mg (N / 2 ^ n) (e + n) := fun k u h => by
    rw [← mg_shift, mg_le]
    rw [← mg_shift, ← mg_shift, mg_le] at h
    exact Int.le_ediv_of_mul_le (pow2_pos n) h
  by_cases hj : e + n ≤ j
  · have q : j = e + n + ((j - (e + n)).toNat : Nat) := by omega
    rw [q] at hz ⊢
    exact case1 _ _ hz
  · have q : e + n = j + ((e + n - j).toNat : Nat) := by omega
    by_cases h0 : n = 0
    · subst h0
      simpa using hz
    · have hm : N.natAbs ≠ 0 := fun c => by rw [c] at hn; rw [nb_zero] at hn; omega
      have hb := nb_pow_le hm
      have hbn : nb N.natAbs = p + n := by omega
      rw [hbn] at hb
      generalize hu : (e + n - j).toNat = u at q
      have hu1 : 1 ≤ u := by omega
      have hpu : (2 : Int) ^ p ≤ 2 ^ (p - 1) * 2 ^ u := by
        rw [← Int.pow_add]
        exact_mod_cast Nat.pow_le_pow_right (n := 2) (by decide) (show p ≤ p - 1 + u by omega)
      have hsp : (2 : Int) ^ (p + n - 1) = 2 ^ (p - 1) * 2 ^ n := by rw [← Int.pow_add]; congr 1; omega
      rcases natAbs_ge_pow hb with h | h
      · rw [q, ← mg_shift, mg_le]
        rw [hsp] at h
        have h2 : (2 : Int) ^ (p - 1) ≤ N / 2 ^ n := Int.le_ediv_of_mul_le (pow2_pos n) h
        have h3 := Int.mul_le_mul_of_nonneg_right h2 (Int.le_of_lt (pow2_pos u))
        omega
      · rw [hsp] at h
        have h4 : mg N e ≤ mg (-2 ^ (p - 1)) (e + n) := by
          rw [← mg_shift, mg_le, Int.neg_mul]; exact h
        have h5 := Rat.le_trans hz h4
        rw [q, ← mg_shift, mg_le, Int.neg_mul] at h5
        have hk : k = -2 ^ (p - 1) * 2 ^ u := by rw [Int.neg_mul]; omega
        have h6 : mg k j = mg (-2 ^ (p - 1)) (e + n) := by rw [q, ← mg_shift, hk]
        rw [h6]
        have := case1 (-2 ^ (p - 1)) 0 (by simpa [← h6] using hz)
        simpa using this

def Fp.R (d : Bool) (p : Nat) (x : Fp) : Fp := Rnd d p x.N x.e
def Fp.neg (x : Fp) : Fp := if x.m = 0 then x else ⟨!x.s, x.m, x.e⟩
theorem Fp.neg_ok {x : Fp} (h : x.ok) : x.neg.ok := by
  unfold Fp.neg
  split
  · exact h
  · rename_i hm; exact ⟨fun c => absurd c hm, fun _ => h.o hm⟩
theorem Fp.neg_N (x : Fp) : x.neg.N = -x.N := by
  obtain ⟨s, m, e⟩ := x
  unfold Fp.neg Fp.N
  split
  · rename_i h; simp only at h; subst h; cases s <;> simp
  · cases s <;> simp
theorem Fp.neg_v (x : Fp) : x.neg.v = -x.v := by
  unfold Fp.v
  rw [Fp.neg_N, mg_neg]
  congr 2
  unfold Fp.neg; split <;> rfl
theorem Fp.neg_e (x : Fp) : x.neg.e = x.e := by unfold Fp.neg; split <;> rfl
theorem Fp.neg_m (x : Fp) : x.neg.m = x.m := by unfold Fp.neg; split <;> rfl
theorem mkF_neg (N e : Int) : mkF (-N) e = (mkF N e).neg := by
  refine Fp.inj (mkF_ok _ _) (Fp.neg_ok (mkF_ok _ _)) ?_
  rw [Fp.neg_v, mkF_v, mkF_v, mg_neg]
theorem Fp.R_ok (d : Bool) (p : Nat) (x : Fp) : (x.R d p).ok := mkF_ok _ _
theorem Fp.R_neg (d : Bool) (p : Nat) (x : Fp) : x.neg.R d p = (x.R (!d) p).neg := by
  unfold Fp.R Rnd
  rw [Fp.neg_N, Fp.neg_e, Int.natAbs_neg]
  cases d
  · simp only [Bool.false_eq_true, if_false, Bool.not_false, if_true, Int.neg_neg]
    exact mkF_neg _ _
  · simp only [Bool.false_eq_true, if_false, Bool.not_true, if_true]
    rw [← mkF_neg, Int.neg_neg]
theorem Fp.neg_neg (x : Fp) : x.neg.neg = x := by
  obtain ⟨s, m, e⟩ := x
  unfold Fp.neg
  by_cases h : m = 0 <;> simp [h]
theorem Rep.neg {p : Nat} {z : Rat} (h : Rep p z) : Rep p (-z) := by
  obtain ⟨k, j, h1, h2, rfl⟩ := h
  exact ⟨-k, j, by omega, by omega, (mg_neg k j).symm⟩
theorem Fp.R_le (p : Nat) (x : Fp) : (x.R true p).v ≤ x.v := Rnd_le p _ _
theorem Fp.R_ge (p : Nat) (x : Fp) : x.v ≤ (x.R false p).v := by
  have h := Fp.R_le p x.neg
  rw [Fp.R_neg, Fp.neg_v, Fp.neg_v] at h
  simp only [Bool.not_true] at h
  grind
theorem Fp.R_rep (d : Bool) (p : Nat) (x : Fp) : Rep p (x.R d p).v := Rnd_rep _ _ _ _
theorem Fp.R_max {p : Nat} (hp : 1 ≤ p) {x : Fp} {z : Rat} (hr : Rep p z) (h : z ≤ x.v) : z ≤ (x.R true p).v := Rnd_max hp hr h
theorem Fp.R_min {p : Nat} (hp : 1 ≤ p) {x : Fp} {z : Rat} (hr : Rep p z) (h : x.v ≤ z) : (x.R false p).v ≤ z := by
  have h2 := Fp.R_max (x := x.neg) hp hr.neg (by rw [Fp.neg_v]; grind)
  rw [Fp.R_neg, Fp.neg_v] at h2
  simp only [Bool.not_true] at h2
  grind
theorem Fp.R_mono {p : Nat} (hp : 1 ≤ p) {x y : Fp} (h : x.v ≤ y.v) (d : Bool) : (x.R d p).v ≤ (y.R d p).v := by
  cases d
  · exact Fp.R_min hp (Fp.R_rep _ _ _) (Rat.le_trans h (Fp.R_ge _ _))
  · exact Fp.R_max hp (Fp.R_rep _ _ _) (Rat.le_trans (Fp.R_le _ _) h)
theorem Rep_zero (p : Nat) : Rep p 0 := ⟨0, 0, by have := pow2_pos p; omega, by have := pow2_pos p; omega, (mg_zero 0).symm⟩
theorem Fp.R_nonneg {p : Nat} (hp : 1 ≤ p) {x : Fp} (h : 0 ≤ x.v) (d : Bool) : 0 ≤ (x.R d p).v := by
  cases d
  · exact Rat.le_trans h (Fp.R_ge _ _)
  · exact Fp.R_max hp (Rep_zero p) h
theorem Fp.R_nonpos {p : Nat} (hp : 1 ≤ p) {x : Fp} (h : x.v ≤ 0) (d : Bool) : (x.R d p).v ≤ 0 := by
  cases d
  · exact Fp.R_min hp (Rep_zero p) h
  · exact Rat.le_trans (Fp.R_le _ _) h
theorem Fp.R_self {p : Nat} {x : Fp} (hx : x.ok) (h : nb x.m ≤ p) (d : Bool) : x.R d p = x := by
  have : x.N.natAbs = x.m := by unfold Fp.N; split <;> omega
  unfold Fp.R Rnd
  rw [this, show nb x.m - p = 0 by omega]
  cases d <;> simp [mkF_self hx]
theorem Fp.v_pos {x : Fp} : 0 < x.v ↔ x.s = false ∧ x.m ≠ 0 := by
  unfold Fp.v Fp.N; rw [mg_pos]; cases x.s <;> simp <;> omega
theorem Fp.v_neg' {x : Fp} : x.v < 0 ↔ x.s = true ∧ x.m ≠ 0 := by
  unfold Fp.v Fp.N; rw [mg_neg']; cases x.s <;> simp <;> omega
theorem Fp.v_zero {x : Fp} : x.v = 0 ↔ x.m = 0 := by
  unfold Fp.v Fp.N; rw [mg_eq0]; cases x.s <;> simp

/-! sizes -/
theorem mkF_m_le (N e : Int) : (mkF N e).m ≤ N.natAbs := by
  unfold mkF
  split
  · exact Nat.zero_le _
  · exact Nat.div_le_self _ _
theorem mkF_nb {N e : Int} {p : Nat} (hp : 1 ≤ p) (h : N.natAbs ≤ 2 ^ p) : nb (mkF N e).m ≤ p := by
  by_cases hc : (mkF N e).m = 2 ^ p
  · have ho := (mkF_ok N e).o (by rw [hc]; exact Nat.ne_of_gt (Nat.two_pow_pos p))
    rw [hc] at ho
    obtain ⟨q, rfl⟩ : ∃ q, p = q + 1 := ⟨p - 1, by omega⟩
    rw [Nat.pow_succ] at ho
    omega
  · have := mkF_m_le N e
    exact nb_le (by omega)
theorem Rnd_abs (d : Bool) (p : Nat) (N : Int) : (if d then N / 2 ^ (nb N.natAbs - p) else -((-N) / 2 ^ (nb N.natAbs - p))).natAbs ≤ 2 ^ p := by
  have key : ∀ N : Int, ∀ q : Nat, N.natAbs < 2 ^ (p + q) → -2 ^ p ≤ N / 2 ^ q ∧ N / 2 ^ q ≤ 2 ^ p := fun N q h => by
    have := natAbs_lt_pow h
    rw [Int.pow_add] at this
    refine ⟨Int.le_ediv_of_mul_le (pow2_pos q) (by rw [Int.neg_mul]; omega), Int.le_of_lt (Int.ediv_lt_of_lt_mul (pow2_pos q) this.2)⟩
  have hN : N.natAbs < 2 ^ (p + (nb N.natAbs - p)) := Nat.lt_of_lt_of_le (lt_nb _) (Nat.pow_le_pow_right (by decide) (by omega))
  have hc : ((2 ^ p : Nat) : Int) = 2 ^ p := by simp
  cases d
  · have := key (-N) (nb N.natAbs - p) (by simpa using hN); simp only [Bool.false_eq_true, if_false]; omega
  · have := key N (nb N.natAbs - p) hN; simp only [if_true]; omega
theorem Fp.R_nb {p : Nat} (hp : 1 ≤ p) (x : Fp) (d : Bool) : nb (x.R d p).m ≤ p := mkF_nb hp (Rnd_abs d p x.N)
theorem tz_le {m p : Nat} (h0 : m ≠ 0) (h : m ≤ 2 ^ p) : tz m ≤ p := by
  have h1 := (od_spec h0).2
  have h2 := od_ne h0
  have h3 : 2 ^ tz m ≤ 2 ^ p := Nat.le_trans (by rw [← h1]; rw [h1]; exact Nat.le_trans (Nat.le_mul_of_pos_left _ (by omega)) (Nat.le_of_eq h1)) h
  exact (Nat.pow_le_pow_iff_right (by decide)).mp h3
theorem Fp.N_abs (x : Fp) : x.N.natAbs = x.m := by unfold Fp.N; split <;> omega
/-- the exponent moves by at most the bits -/
theorem Fp.R_e {p : Nat} (x : Fp) (d : Bool) {B : Nat} (h : x.e.natAbs + nb x.m + p ≤ B) : (x.R d p).e.natAbs ≤ B := by
  unfold Fp.R Rnd
  generalize hM : (if d then x.N / 2 ^ (nb x.N.natAbs - p) else -((-x.N) / 2 ^ (nb x.N.natAbs - p))) = M
  have hA := Rnd_abs d p x.N
  rw [hM] at hA
  unfold mkF
  by_cases h0 : M = 0
  · rw [if_pos h0]; exact Nat.zero_le _
  · rw [if_neg h0]
    simp only
    have := hA
    have := tz_le (by omega) this
    rw [Fp.N_abs] at *
    omega
end Mine

end

-- part Sp1
section
open PySem
set_option maxRecDepth 100000
set_option linter.unusedVariables false
set_option linter.unusedSimpArgs false
namespace Mine

theorem run_ret {n f : Nat} {r : FR} {args : List PyData} {d : PyData} (hr : T[f]? = some r) (hl : args.length ≤ r.k ∧ r.k ≤ args.length + r.dfl.length)
    (h : exs GG (run GG T n) ((args ++ r.dfl.drop (args.length + r.dfl.length - r.k)).map some ++ List.replicate (r.nl - r.k) none) r.body = some (.ret d)) : run GG T (n + 1) f args = some d := by
  unfold run
  rw [hr]
  simp only
  rw [if_pos hl, h]
theorem get0 (d : Option PyData) (ρ : Loc) : getD (d :: ρ) 0 = d := by cases d <;> rfl
theorem getS (d : Option PyData) (ρ : Loc) (i : Nat) : getD (d :: ρ) (i + 1) = getD ρ i := rfl
theorem setA0 (ρ : Loc) : setAll [] [] ρ = some ρ := rfl
theorem setAS (i : Nat) (is : List Nat) (d : PyData) (ds : List PyData) (ρ : Loc) : setAll (i :: is) (d :: ds) ρ = setAll is ds (ρ.set i (some d)) := rfl
theorem tr_int (a : Int) : truth (.int a) = some (a != 0) := rfl
theorem tr_bool (b : Bool) : truth (.bool b) = some b := rfl
theorem neg_int (a : Int) : negD (.int a) = some (.int (-a)) := rfl
theorem b_add (a b : Int) : binD .Add (.int a) (.int b) = some (.int (a + b)) := rfl
theorem b_sub (a b : Int) : binD .Sub (.int a) (.int b) = some (.int (a - b)) := rfl
theorem b_and (a b : Int) : binD .BitAnd (.int a) (.int b) = some (.int (Builtin.bitAnd a b)) := rfl
theorem b_xor (a b : Int) : binD .BitXor (.int a) (.int b) = some (.int (Builtin.bitXor a b)) := rfl
theorem c_eq (a b : Int) : cmpD .Eq (.int a) (.int b) = some (a == b) := rfl
theorem c_ne (a b : Int) : cmpD .NotEq (.int a) (.int b) = some (a != b) := rfl
theorem c_lt (a b : Int) : cmpD .Lt (.int a) (.int b) = some (decide (a < b)) := rfl
theorem c_le (a b : Int) : cmpD .LtE (.int a) (.int b) = some (decide (a ≤ b)) := rfl
theorem c_gt (a b : Int) : cmpD .Gt (.int a) (.int b) = some (decide (a > b)) := rfl
theorem c_ge (a b : Int) : cmpD .GtE (.int a) (.int b) = some (decide (a ≥ b)) := rfl
theorem a_add (a b : Int) : augD .Add (.int a) (.int b) = some (.int (a + b)) := rfl
theorem a_sub (a b : Int) : augD .Sub (.int a) (.int b) = some (.int (a - b)) := rfl
theorem a_xor (a b : Int) : augD .BitXor (.int a) (.int b) = some (.int (Builtin.bitXor a b)) := rfl
theorem b_mul {a b : Int} (h : bits a + bits b ≤ 134217728) : binD .Mult (.int a) (.int b) = some (.int (a * b)) := if_pos h
theorem b_shl {a : Int} {n : Nat} (h : bits a + n ≤ 2 ^ 27) : binD .LShift (.int a) (.int n) = some (.int (a * 2 ^ n)) := by
  have : (0 : Int) ≤ n ∧ (bits a : Int) + n ≤ 2 ^ 27 := ⟨by omega, by omega⟩
  show (if (0 : Int) ≤ n ∧ (bits a : Int) + n ≤ 2 ^ 27 then some (PyData.int (a * 2 ^ (n : Int).toNat)) else none) = _
  rw [if_pos this]; rfl
theorem b_shr (a : Int) (n : Nat) : binD .RShift (.int a) (.int n) = some (.int (a / 2 ^ n)) := by
  show (if (0 : Int) ≤ n then some (PyData.int (a.fdiv (2 ^ (n : Int).toNat))) else none) = _
  rw [if_pos (by omega), Int.fdiv_eq_ediv_of_nonneg _ (Int.le_of_lt (pow2_pos _))]; rfl
theorem a_shr (a : Int) (n : Nat) : augD .RShift (.int a) (.int n) = some (.int (a / 2 ^ n)) := b_shr a n
theorem b_pow {a : Int} {n : Nat} (h : bits a * n ≤ 2 ^ 27) : binD .Pow (.int a) (.int n) = some (.int (a ^ n)) := by
  show (if (0 : Int) ≤ n ∧ (bits a : Int) * n ≤ 2 ^ 27 then some (PyData.int (a ^ (n : Int).toNat)) else none) = _
  rw [if_pos ⟨by omega, by exact_mod_cast h⟩]; rfl
theorem a_pow {a : Int} {n : Nat} (h : bits a * n ≤ 2 ^ 27) : augD .Pow (.int a) (.int n) = some (.int (a ^ n)) := b_pow h
theorem b_mod {a b : Int} (h : 0 < b) : binD .Mod (.int a) (.int b) = some (.int (a % b)) := by
  show (if b ≠ 0 then some (PyData.int (a.fmod b)) else none) = _
  rw [if_pos (by omega), Int.fmod_eq_emod_of_nonneg _ (by omega)]
theorem b_div {a b : Int} (h : 0 < b) (h2 : bits b ≤ 1000) : binD .FloorDiv (.int a) (.int b) = some (.int (a / b)) := by
  show (if b ≠ 0 ∧ bits b ≤ 1000 then some (PyData.int (a.fdiv b)) else none) = _
  rw [if_pos ⟨by omega, h2⟩, Int.fdiv_eq_ediv_of_nonneg _ (by omega)]

theorem dat0 : GG.dat[0]? = some ((("MPZ_ZERO" : Str), .int 0) : Str × PyData) := rfl
theorem dat1 : GG.dat[1]? = some ((("MPZ_ONE" : Str), .int 1) : Str × PyData) := rfl
theorem dat2 : GG.dat[2]? = some ((("fzero" : Str), .tuple [.int 0, .int 0, .int 0, .int 0]) : Str × PyData) := rfl
theorem dat3 : GG.dat[3]? = some ((("fone" : Str), .tuple [.int 0, .int 1, .int 0, .int 1]) : Str × PyData) := rfl
theorem dat4 : GG.dat[4]? = some ((("fnan" : Str), .tuple [.int 0, .int 0, .int (-123), .int (-1)]) : Str × PyData) := rfl
theorem dat5 : GG.dat[5]? = some ((("finf" : Str), .tuple [.int 0, .int 0, .int (-456), .int (-2)]) : Str × PyData) := rfl
theorem dat6 : GG.dat[6]? = some ((("fninf" : Str), .tuple [.int 1, .int 0, .int (-789), .int (-3)]) : Str × PyData) := rfl
def rs (d : Bool) : PyData := .str (if d then "f" else "c")
theorem dat7 : GG.dat[7]? = some ((("round_nearest" : Str), .str "n") : Str × PyData) := rfl
theorem dat8 : GG.dat[8]? = some ((("round_floor" : Str), rs true) : Str × PyData) := rfl
theorem dat9 : GG.dat[9]? = some ((("round_ceiling" : Str), rs false) : Str × PyData) := rfl
def shD : List (Str × PyData) := [(("f" : Str), .tuple [.int 1, .int 0]), (("c" : Str), .tuple [.int 0, .int 1]), (("d" : Str), .tuple [.int 1, .int 1]), (("u" : Str), .tuple [.int 0, .int 0])]
theorem tab0 : GG.tab[0]? = some ((("shifts_down" : Str), shD) : Str × List (Str × PyData)) := rfl
theorem dsF : dsubD shD (rs true) = some (.tuple [.int 1, .int 0]) := rfl
theorem dsC : dsubD shD (rs false) = some (.tuple [.int 0, .int 1]) := rfl
theorem strne (d : Bool) : cmpD .Eq (rs d) (.str "n") = some false := by cases d <;> decide +kernel
theorem strf : (0 : Nat) = 0 := rfl
theorem it0 (x : PyData) (xs : List PyData) : itemD (.tuple (x :: xs)) (.int 0) = some x := rfl
theorem it1 (x y : PyData) (xs : List PyData) : itemD (.tuple (x :: y :: xs)) (.int 1) = some y := rfl
theorem it2 (x y z : PyData) (xs : List PyData) : itemD (.tuple (x :: y :: z :: xs)) (.int 2) = some z := rfl
theorem it3 (x y z t : PyData) (xs : List PyData) : itemD (.tuple (x :: y :: z :: t :: xs)) (.int 3) = some t := rfl

theorem trailing_spec {n : Nat} (hn : 1 ≤ n) {m : Nat} (hm : m ≠ 0) : run GG T n 0 [.int m] = some (.int (tz m)) := by
  obtain ⟨n, rfl⟩ : ∃ k, n = k + 1 := ⟨n - 1, by omega⟩
  refine run_ret rfl ⟨Nat.le_refl _, Nat.le_refl _⟩ ?_
  have h0 : ((m : Int) != 0) = true := by simp [hm]
  show exs GG _ [some (.int m)] b_trailing = _
  simp only [b_trailing, exs, ex, ev, evs, evB, get0, getS, List.set_cons_zero, List.set_cons_succ, setA0, setAS, Option.map_some, tr_int, tr_bool, neg_int, b_add, b_sub, b_and, b_xor, c_eq, c_ne, c_lt, c_le, c_gt, c_ge, Bool.not_true, Bool.not_false, if_true, if_false, Bool.false_eq_true, decide_true, decide_false, Int.natCast_one, Int.natCast_zero, Int.cast_ofNat_Int, beq_self_eq_true, List.length_cons, List.length_nil, Nat.reduceAdd, Nat.reduceLeDiff, Nat.zero_add, dat0, dat1, dat2, dat3, dat4, dat5, dat6, dat7, dat8, dat9, tab0, dsF, dsC, it0, it1, it2, it3, strne, strf, h0, band_neg hm, bits_nat, nb_two_pow]
  simp

theorem od_mod {m : Nat} (h : m % 2 = 1) : m ≠ 0 := by omega
/-- the last lines of _normalize -/
theorem norm_tail {n : Nat} (hn : 1 ≤ n) (p r x y : Option PyData) {M : Nat} {E : Int} (hM : M ≠ 0) {B : Int} (hB : B = nb M ∨ od M = 1) {ss : Int} :
    exs GG (run GG T n) [some (.int ss), some (.int M), some (.int E), some (.int B), p, r, x, y]
      (.cons (.ite (.not (.bin .BitAnd (.loc 1) (.int 1))) (.cons (.set 7 (.call 0 (.cons (.loc 1) .nil))) (.cons (.aug 1 .RShift (.loc 7)) (.cons (.aug 2 .Add (.loc 7)) (.cons (.aug 3 .Sub (.loc 7)) .nil)))) .nil) (.cons (.ite (.cmp .Eq (.loc 1) (.int 1)) (.cons (.set 3 (.int 1)) .nil) .nil) (.cons (.ret (.tup (.cons (.loc 0) (.cons (.loc 1) (.cons (.loc 2) (.cons (.loc 3) .nil)))))) .nil))) =
      some (.ret (.tuple [.int ss, .int (od M), .int (E + tz M), .int (nb (od M))])) := by
  have hb := nb_od hM
  by_cases ho : M % 2 = 1
  · have h1 : (((M % 2 : Nat) : Int) != 0) = true := by rw [ho]; rfl
    by_cases h2 : M = 1
    · have h3 : ((M : Int) == 1) = true := by simp [h2]
      simp only [exs, ex, ev, evs, evB, get0, getS, List.set_cons_zero, List.set_cons_succ, setA0, setAS, Option.map_some, tr_int, tr_bool, neg_int, b_add, b_sub, b_and, b_xor, c_eq, c_ne, c_lt, c_le, c_gt, c_ge, Bool.not_true, Bool.not_false, if_true, if_false, Bool.false_eq_true, decide_true, decide_false, Int.natCast_one, Int.natCast_zero, Int.cast_ofNat_Int, beq_self_eq_true, List.length_cons, List.length_nil, Nat.reduceAdd, Nat.reduceLeDiff, Nat.zero_add, dat0, dat1, dat2, dat3, dat4, dat5, dat6, dat7, dat8, dat9, tab0, dsF, dsC, it0, it1, it2, it3, strne, strf, band_one, h1, od_odd ho, tz_odd ho, h3]
      subst h2
      simp [nb_one]
    · have h3 : ((M : Int) == 1) = false := by simp; omega
      rw [od_odd ho] at hb hB
      simp only [exs, ex, ev, evs, evB, get0, getS, List.set_cons_zero, List.set_cons_succ, setA0, setAS, Option.map_some, tr_int, tr_bool, neg_int, b_add, b_sub, b_and, b_xor, c_eq, c_ne, c_lt, c_le, c_gt, c_ge, Bool.not_true, Bool.not_false, if_true, if_false, Bool.false_eq_true, decide_true, decide_false, Int.natCast_one, Int.natCast_zero, Int.cast_ofNat_Int, beq_self_eq_true, List.length_cons, List.length_nil, Nat.reduceAdd, Nat.reduceLeDiff, Nat.zero_add, dat0, dat1, dat2, dat3, dat4, dat5, dat6, dat7, dat8, dat9, tab0, dsF, dsC, it0, it1, it2, it3, strne, strf, band_one, h1, h3, od_odd ho, tz_odd ho]
      simp
      rcases hB with h | h
      · exact h
      · exact absurd h h2
  · have h1 : (((M % 2 : Nat) : Int) != 0) = false := by rw [show M % 2 = 0 by omega]; rfl
    have hd : (M : Int) / 2 ^ tz M = (od M : Int) := by rw [od]; simp
    by_cases h2 : od M = 1
    · simp only [exs, ex, ev, evs, evB, get0, getS, List.set_cons_zero, List.set_cons_succ, setA0, setAS, Option.map_some, tr_int, tr_bool, neg_int, b_add, b_sub, b_and, b_xor, c_eq, c_ne, c_lt, c_le, c_gt, c_ge, Bool.not_true, Bool.not_false, if_true, if_false, Bool.false_eq_true, decide_true, decide_false, Int.natCast_one, Int.natCast_zero, Int.cast_ofNat_Int, beq_self_eq_true, List.length_cons, List.length_nil, Nat.reduceAdd, Nat.reduceLeDiff, Nat.zero_add, dat0, dat1, dat2, dat3, dat4, dat5, dat6, dat7, dat8, dat9, tab0, dsF, dsC, it0, it1, it2, it3, strne, strf, band_one, h1, trailing_spec hn hM, a_shr, a_add, a_sub, hd, h2]
      simp [nb_one]
    · have h3 : ((od M : Int) == 1) = false := by simp; omega
      simp only [exs, ex, ev, evs, evB, get0, getS, List.set_cons_zero, List.set_cons_succ, setA0, setAS, Option.map_some, tr_int, tr_bool, neg_int, b_add, b_sub, b_and, b_xor, c_eq, c_ne, c_lt, c_le, c_gt, c_ge, Bool.not_true, Bool.not_false, if_true, if_false, Bool.false_eq_true, decide_true, decide_false, Int.natCast_one, Int.natCast_zero, Int.cast_ofNat_Int, beq_self_eq_true, List.length_cons, List.length_nil, Nat.reduceAdd, Nat.reduceLeDiff, Nat.zero_add, dat0, dat1, dat2, dat3, dat4, dat5, dat6, dat7, dat8, dat9, tab0, dsF, dsC, it0, it1, it2, it3, strne, strf, band_one, h1, trailing_spec hn hM, a_shr, a_add, a_sub, hd, h3]
      simp
      rcases hB with h | h
      · omega
      · exact absurd h h2

theorem exs_next {C : Nat → List PyData → Option PyData} {ρ ρ' : Loc} {s : IS} {r : ISs} (h : ex GG C ρ s = some (.next ρ')) : exs GG C ρ (.cons s r) = exs GG C ρ' r := by
  rw [exs, h]
theorem mkF_sm {M : Nat} (hM : M ≠ 0) (s : Bool) (E : Int) : mkF (if s then -(M : Int) else M) E = ⟨s, od M, E + tz M⟩ := by
  unfold mkF
  cases s
  · simp only [Bool.false_eq_true, if_false]
    rw [if_neg (by omega)]
    simp <;> omega
  · simp only [if_true]
    rw [if_neg (by omega)]
    simp <;> omega
theorem pow2_cast (q : Nat) : ((2 ^ q : Nat) : Int) = 2 ^ q := by simp
/-- the rounded mantissa -/
def rm (dn : Bool) (m q : Nat) : Nat := if dn then m / 2 ^ q else (-((-(m : Int)) / 2 ^ q)).toNat
theorem rm_cast (dn : Bool) (m q : Nat) : ((rm dn m q : Nat) : Int) = if dn then (m : Int) / 2 ^ q else -((-(m : Int)) / 2 ^ q) := by
  unfold rm
  cases dn
  · simp only [Bool.false_eq_true, if_false]
    have : (-(m : Int)) / 2 ^ q ≤ 0 := by
      have := Int.ediv_le_ediv (pow2_pos q) (show -(m : Int) ≤ 0 by omega)
      simpa using this
    omega
  · simp
theorem rm_bounds (dn : Bool) {m p q : Nat} (hp : 1 ≤ p) (hq : nb m = p + q) : 2 ^ (p - 1) ≤ rm dn m q ∧ rm dn m q ≤ 2 ^ p := by
  have hm : m ≠ 0 := fun c => by subst c; rw [nb_zero] at hq; omega
  have h1 := nb_pow_le hm
  have h2 := lt_nb m
  rw [hq] at h1 h2
  rw [show p + q - 1 = (p - 1) + q by omega, Nat.pow_add] at h1
  rw [Nat.pow_add] at h2
  have hc := rm_cast dn m q
  have e1 : ((2 ^ (p - 1) * 2 ^ q : Nat) : Int) ≤ m := by exact_mod_cast h1
  have e2 : (m : Int) < ((2 ^ p * 2 ^ q : Nat) : Int) := by exact_mod_cast h2
  rw [Int.natCast_mul, pow2_cast, pow2_cast] at e1 e2
  have p1 := pow2_cast (p - 1)
  have p2 := pow2_cast p
  have hpq := pow2_pos q
  cases dn
  · simp only [Bool.false_eq_true, if_false] at hc
    have a1 : (-(m : Int)) / 2 ^ q ≤ -2 ^ (p - 1) := by
      have := Int.ediv_le_ediv hpq (show -(m : Int) ≤ (-2 ^ (p - 1)) * 2 ^ q by rw [Int.neg_mul]; omega)
      rwa [Int.mul_ediv_cancel _ (Int.ne_of_gt hpq)] at this
    have a2 : -2 ^ p ≤ (-(m : Int)) / 2 ^ q := Int.le_ediv_of_mul_le hpq (by rw [Int.neg_mul]; omega)
    omega
  · simp only [if_true] at hc
    have a1 : (2 : Int) ^ (p - 1) ≤ (m : Int) / 2 ^ q := Int.le_ediv_of_mul_le hpq e1
    have a2 : (m : Int) / 2 ^ q < 2 ^ p := Int.ediv_lt_of_lt_mul hpq e2
    omega
theorem od_pow (p : Nat) : od (2 ^ p) = 1 := by
  have := (tz_shift (m := 1) (by decide) p).2
  rw [Nat.one_mul] at this
  rw [this, od_odd (by decide)]
theorem unorm_spec {n : Nat} (hn : 2 ≤ n) (d s : Bool) {m : Nat} (hm : m ≠ 0) (e : Int) {p : Nat} (hp : 1 ≤ p) :
    run GG T n 1 [.int (sg s), .int m, .int e, .int (nb m), .int p, rs d] = some (Rnd d p (if s then -(m : Int) else m) e).pd := by
  obtain ⟨n, rfl⟩ : ∃ k, n = k + 1 := ⟨n - 1, by omega⟩
  refine run_ret rfl ⟨Nat.le_refl _, Nat.le_refl _⟩ ?_
  have h0 : ((m : Int) != 0) = true := by simp [hm]
  have hab : (if s then -(m : Int) else (m : Int)).natAbs = m := by cases s <;> simp
  show exs GG _ [some (.int (sg s)), some (.int m), some (.int e), some (.int (nb m)), some (.int p), some (rs d), none, none] b_unorm = _
  unfold b_unorm
  refine (exs_next (ρ' := [some (.int (sg s)), some (.int m), some (.int e), some (.int (nb m)), some (.int p), some (rs d), none, none]) (by simp only [exs, ex, ev, evs, evB, get0, getS, List.set_cons_zero, List.set_cons_succ, setA0, setAS, Option.map_some, tr_int, tr_bool, neg_int, b_add, b_sub, b_and, b_xor, c_eq, c_ne, c_lt, c_le, c_gt, c_ge, Bool.not_true, Bool.not_false, if_true, if_false, Bool.false_eq_true, decide_true, decide_false, Int.natCast_one, Int.natCast_zero, Int.cast_ofNat_Int, beq_self_eq_true, List.length_cons, List.length_nil, Nat.reduceAdd, Nat.reduceLeDiff, Nat.zero_add, dat0, dat1, dat2, dat3, dat4, dat5, dat6, dat7, dat8, dat9, tab0, dsF, dsC, it0, it1, it2, it3, strne, strf, h0])).trans ?_
  refine (exs_next (ρ' := [some (.int (sg s)), some (.int m), some (.int e), some (.int (nb m)), some (.int p), some (rs d), some (.int ((nb m : Int) - p)), none]) (by simp only [exs, ex, ev, evs, evB, get0, getS, List.set_cons_zero, List.set_cons_succ, setA0, setAS, Option.map_some, tr_int, tr_bool, neg_int, b_add, b_sub, b_and, b_xor, c_eq, c_ne, c_lt, c_le, c_gt, c_ge, Bool.not_true, Bool.not_false, if_true, if_false, Bool.false_eq_true, decide_true, decide_false, Int.natCast_one, Int.natCast_zero, Int.cast_ofNat_Int, beq_self_eq_true, List.length_cons, List.length_nil, Nat.reduceAdd, Nat.reduceLeDiff, Nat.zero_add, dat0, dat1, dat2, dat3, dat4, dat5, dat6, dat7, dat8, dat9, tab0, dsF, dsC, it0, it1, it2, it3, strne, strf])).trans ?_
  by_cases hk : p < nb m
  · have hq : ((nb m : Int) - p) = ((nb m - p : Nat) : Int) := by omega
    have hbd := rm_bounds (d ^^ s) (m := m) (p := p) (q := nb m - p) hp (by omega)
    have hcast := rm_cast (d ^^ s) m (nb m - p)
    generalize hM : rm (d ^^ s) m (nb m - p) = M at hbd hcast
    have hM0 : M ≠ 0 := fun c => by have := Nat.two_pow_pos (p - 1); omega
    have hgt : (((nb m - p : Nat) : Int) > 0) = True := by simp; omega
    refine (exs_next (ρ' := [some (.int (sg s)), some (.int M), some (.int (e + (nb m - p : Nat))), some (.int p), some (.int p), some (rs d), some (.int ((nb m : Int) - p)), none]) ?_).trans ?_
    · rw [hcast]
      cases d <;> cases s <;> simp only [exs, ex, ev, evs, evB, get0, getS, List.set_cons_zero, List.set_cons_succ, setA0, setAS, Option.map_some, tr_int, tr_bool, neg_int, b_add, b_sub, b_and, b_xor, c_eq, c_ne, c_lt, c_le, c_gt, c_ge, Bool.not_true, Bool.not_false, if_true, if_false, Bool.false_eq_true, decide_true, decide_false, Int.natCast_one, Int.natCast_zero, Int.cast_ofNat_Int, beq_self_eq_true, List.length_cons, List.length_nil, Nat.reduceAdd, Nat.reduceLeDiff, Nat.zero_add, dat0, dat1, dat2, dat3, dat4, dat5, dat6, dat7, dat8, dat9, tab0, dsF, dsC, it0, it1, it2, it3, strne, strf, hq, hgt, sg, a_shr, b_shr, a_add, Bool.xor_true, Bool.xor_false, Bool.true_bne, bne_self_eq_false, Int.reduceBNe, Bool.false_bne] <;> rfl
    · refine (norm_tail (by omega) _ _ _ _ hM0 ?_).trans ?_
      · by_cases hMp : M = 2 ^ p
        · right; rw [hMp, od_pow]
        · left
          have := nb_eq (m := M) (k := p - 1) hbd.1 (by rw [show p - 1 + 1 = p by omega]; omega)
          omega
      · have : (Rnd d p (if s then -(m : Int) else m) e) = ⟨s, od M, e + (nb m - p : Nat) + tz M⟩ := by
          unfold Rnd
          rw [hab, ← mkF_sm hM0 s]
          congr 1
          cases d <;> cases s <;> simp only [Bool.false_eq_true, if_false, if_true, Bool.xor_true, Bool.xor_false, Bool.not_true, Bool.not_false, Int.neg_neg, bne_self_eq_false, Bool.true_bne, Bool.false_bne] at hcast ⊢ <;> omega
        rw [this]
        rfl
  · have hgt : ((nb m : Int) - p > 0) = False := by simp; omega
    refine (exs_next (ρ' := [some (.int (sg s)), some (.int m), some (.int e), some (.int (nb m)), some (.int p), some (rs d), some (.int ((nb m : Int) - p)), none]) (by simp only [exs, ex, ev, evs, evB, get0, getS, List.set_cons_zero, List.set_cons_succ, setA0, setAS, Option.map_some, tr_int, tr_bool, neg_int, b_add, b_sub, b_and, b_xor, c_eq, c_ne, c_lt, c_le, c_gt, c_ge, Bool.not_true, Bool.not_false, if_true, if_false, Bool.false_eq_true, decide_true, decide_false, Int.natCast_one, Int.natCast_zero, Int.cast_ofNat_Int, beq_self_eq_true, List.length_cons, List.length_nil, Nat.reduceAdd, Nat.reduceLeDiff, Nat.zero_add, dat0, dat1, dat2, dat3, dat4, dat5, dat6, dat7, dat8, dat9, tab0, dsF, dsC, it0, it1, it2, it3, strne, strf, hgt])).trans ?_
    refine (norm_tail (by omega) _ _ _ _ hm (.inl rfl)).trans ?_
    have : (Rnd d p (if s then -(m : Int) else m) e) = ⟨s, od m, e + tz m⟩ := by
      unfold Rnd
      rw [hab, ← mkF_sm hm s, show nb m - p = 0 by omega]
      cases d <;> simp
    rw [this]
    rfl
theorem norm_spec {n : Nat} (hn : 3 ≤ n) (d s : Bool) {m : Nat} (hm : m ≠ 0) (e : Int) {p : Nat} (hp : 1 ≤ p) :
    run GG T n 2 [.int (sg s), .int m, .int e, .int (nb m), .int p, rs d] = some (Rnd d p (if s then -(m : Int) else m) e).pd := by
  obtain ⟨n, rfl⟩ : ∃ k, n = k + 1 := ⟨n - 1, by omega⟩
  refine run_ret rfl ⟨Nat.le_refl _, Nat.le_refl _⟩ ?_
  show exs GG _ [some (.int (sg s)), some (.int m), some (.int e), some (.int (nb m)), some (.int p), some (rs d)] b_normalize = _
  have h1 : ((m : Int) ≥ 0) = True := by simp
  simp only [b_normalize, exs, ex, ev, evs, evB, get0, getS, List.set_cons_zero, List.set_cons_succ, setA0, setAS, Option.map_some, tr_int, tr_bool, neg_int, b_add, b_sub, b_and, b_xor, c_eq, c_ne, c_lt, c_le, c_gt, c_ge, Bool.not_true, Bool.not_false, if_true, if_false, Bool.false_eq_true, decide_true, decide_false, Int.natCast_one, Int.natCast_zero, Int.cast_ofNat_Int, beq_self_eq_true, List.length_cons, List.length_nil, Nat.reduceAdd, Nat.reduceLeDiff, Nat.zero_add, dat0, dat1, dat2, dat3, dat4, dat5, dat6, dat7, dat8, dat9, tab0, dsF, dsC, it0, it1, it2, it3, strne, strf, bits_nat, h1, unorm_spec (n := n) (by omega) d s hm e hp]
theorem norm0_spec {n : Nat} (hn : 3 ≤ n) (s e p r : PyData) : run GG T n 2 [s, .int 0, e, .int 0, p, r] = some (Fp.mk false 0 0).pd := by
  obtain ⟨n, rfl⟩ : ∃ k, n = k + 2 := ⟨n - 2, by omega⟩
  refine run_ret rfl ⟨Nat.le_refl _, Nat.le_refl _⟩ ?_
  show exs GG _ [some s, some (.int 0), some e, some (.int 0), some p, some r] b_normalize = _
  have : run GG T (n + 1) 1 [s, .int 0, e, .int 0, p, r] = some (Fp.mk false 0 0).pd := run_ret rfl ⟨Nat.le_refl _, Nat.le_refl _⟩ rfl
  have h1 : ((0 : Int) ≥ 0) = True := by simp
  simp only [b_normalize, exs, ex, ev, evs, evB, get0, getS, List.set_cons_zero, List.set_cons_succ, setA0, setAS, Option.map_some, tr_int, tr_bool, neg_int, b_add, b_sub, b_and, b_xor, c_eq, c_ne, c_lt, c_le, c_gt, c_ge, Bool.not_true, Bool.not_false, if_true, if_false, Bool.false_eq_true, decide_true, decide_false, Int.natCast_one, Int.natCast_zero, Int.cast_ofNat_Int, beq_self_eq_true, List.length_cons, List.length_nil, Nat.reduceAdd, Nat.reduceLeDiff, Nat.zero_add, dat0, dat1, dat2, dat3, dat4, dat5, dat6, dat7, dat8, dat9, tab0, dsF, dsC, it0, it1, it2, it3, strne, strf, h1, this, show bits 0 = 0 from rfl]
end Mine

end

-- part Sp2
section
open PySem
set_option maxRecDepth 100000
set_option linter.unusedVariables false
set_option linter.unusedSimpArgs false
namespace Mine

def Fp.zero : Fp := ⟨false, 0, 0⟩
def Fp.one : Fp := ⟨false, 1, 0⟩
theorem Fp.eta {x : Fp} {s : Bool} {m : Nat} {e : Int} (h : x = ⟨s, m, e⟩) : x.s = s ∧ x.m = m ∧ x.e = e := by subst h; exact ⟨rfl, rfl, rfl⟩
theorem Fp.eq_zero {x : Fp} (h : x.ok) (hm : x.m = 0) : x = Fp.zero := by
  obtain ⟨s, m, e⟩ := x
  have := h.z hm
  simp only at this hm
  obtain ⟨rfl, rfl⟩ := this
  subst hm; rfl
theorem Fp.zero_ok : Fp.zero.ok := ⟨fun _ => ⟨rfl, rfl⟩, fun h => absurd rfl h⟩
theorem Fp.one_ok : Fp.one.ok := ⟨fun h => (by cases h), fun _ => rfl⟩
theorem Fp.zero_v : Fp.zero.v = 0 := Fp.v_zero.mpr rfl
theorem Fp.one_v : Fp.one.v = 1 := mg_one
theorem Fp.R_zero (d : Bool) (p : Nat) : Fp.zero.R d p = Fp.zero := Fp.R_self Fp.zero_ok (Nat.zero_le _) d
theorem Fp.R_one (d : Bool) {p : Nat} (hp : 1 ≤ p) : Fp.one.R d p = Fp.one := Fp.R_self Fp.one_ok hp d
def sgn (x : Fp) : Int := if x.m = 0 then 0 else if x.s then -1 else 1
theorem c_tup (xs ys : List PyData) : cmpD .Eq (.tuple xs) (.tuple ys) = if SeqAt.shaped (.tuple xs) = true ∧ SeqAt.shaped (.tuple ys) = true then some (PyData.eqv (.tuple xs) (.tuple ys)) else none := rfl
theorem bits0 : bits 0 = 0 := rfl
theorem eq4 (a b c d a' b' c' d' : Int) : cmpD .Eq (.tuple [.int a, .int b, .int c, .int d]) (.tuple [.int a', .int b', .int c', .int d']) = some (a == a' && (b == b' && (c == c' && d == d'))) := by
  rw [c_tup, if_pos ⟨rfl, rfl⟩]
  simp [PyData.eqv, PyData.eqvAll]
theorem pw0 : binD .Pow (.int (-1)) (.int 0) = some (.int 1) := rfl
theorem pw1 : binD .Pow (.int (-1)) (.int 1) = some (.int (-1)) := rfl
theorem sg_f : sg false = 0 := rfl
theorem sg_t : sg true = 1 := rfl
theorem bxor_sg (a b : Bool) : Builtin.bitXor (sg a) (sg b) = sg (a ^^ b) := by cases a <;> cases b <;> decide +kernel
theorem band_sg (s : Bool) (n : Nat) : Builtin.bitAnd (sg s) (n : Int) = sg (s && n % 2 == 1) := by
  unfold Builtin.bitAnd
  have h2 : decide ((0 : Int) ≤ n) = true := by simp
  rw [h2]
  cases s
  · simp [sg]
  · simp [sg, Nat.one_and_eq_mod_two]
    omega

theorem sign_spec {n : Nat} (hn : 1 ≤ n) {x : Fp} (hx : x.ok) : run GG T n 11 [x.pd] = some (.int (sgn x)) := by
  obtain ⟨n, rfl⟩ : ∃ k, n = k + 1 := ⟨n - 1, by omega⟩
  refine run_ret rfl ⟨Nat.le_refl _, Nat.le_refl _⟩ ?_
  show exs GG _ [some x.pd, none, none, none, none] b_mpf_sign = _
  by_cases hm : x.m = 0
  · rw [Fp.eq_zero hx hm]; rfl
  · have h0 : ((x.m : Int) != 0) = true := by simp [hm]
    unfold sgn
    cases hs : x.s <;> simp only [b_mpf_sign, Fp.pd, exs, ex, ev, evs, evB, get0, getS, List.set_cons_zero, List.set_cons_succ, setA0, setAS, Option.map_some, tr_int, tr_bool, neg_int, b_add, b_sub, b_and, b_xor, c_eq, c_ne, c_lt, c_le, c_gt, c_ge, Bool.not_true, Bool.not_false, if_true, if_false, Bool.false_eq_true, decide_true, decide_false, Int.natCast_one, Int.natCast_zero, Int.cast_ofNat_Int, beq_self_eq_true, List.length_cons, List.length_nil, Nat.reduceAdd, Nat.reduceLeDiff, Nat.zero_add, dat0, dat1, dat2, dat3, dat4, dat5, dat6, dat7, dat8, dat9, tab0, dsF, dsC, it0, it1, it2, it3, strne, strf, h0, hs, sg_f, sg_t, pw0, pw1, hm]

theorem neg_spec {n : Nat} (hn : 1 ≤ n) {x : Fp} (hx : x.ok) (r : PyData) : run GG T n 10 [x.pd, .int 0, r] = some x.neg.pd := by
  obtain ⟨n, rfl⟩ : ∃ k, n = k + 1 := ⟨n - 1, by omega⟩
  refine run_ret rfl ⟨Nat.le_refl _, Nat.le_add_right _ _⟩ ?_
  show exs GG _ [some x.pd, some (.int 0), some r, none, none, none, none] b_mpf_neg = _
  by_cases hm : x.m = 0
  · rw [Fp.eq_zero hx hm]; rfl
  · have h0 : ((x.m : Int) != 0) = true := by simp [hm]
    cases hs : x.s <;> simp only [b_mpf_neg, Fp.pd, Fp.neg, exs, ex, ev, evs, evB, get0, getS, List.set_cons_zero, List.set_cons_succ, setA0, setAS, Option.map_some, tr_int, tr_bool, neg_int, b_add, b_sub, b_and, b_xor, c_eq, c_ne, c_lt, c_le, c_gt, c_ge, Bool.not_true, Bool.not_false, if_true, if_false, Bool.false_eq_true, decide_true, decide_false, Int.natCast_one, Int.natCast_zero, Int.cast_ofNat_Int, beq_self_eq_true, List.length_cons, List.length_nil, Nat.reduceAdd, Nat.reduceLeDiff, Nat.zero_add, dat0, dat1, dat2, dat3, dat4, dat5, dat6, dat7, dat8, dat9, tab0, dsF, dsC, it0, it1, it2, it3, strne, strf, h0, hs, hm, sg, bne_self_eq_false] <;> rfl
theorem neg1_spec {n : Nat} (hn : 1 ≤ n) {x : Fp} (hx : x.ok) : run GG T n 10 [x.pd] = some x.neg.pd := by
  obtain ⟨n, rfl⟩ : ∃ k, n = k + 1 := ⟨n - 1, by omega⟩
  have := neg_spec (n := n + 1) (by omega) hx (.str "d")
  exact this
theorem pos_spec {n : Nat} (hn : 4 ≤ n) {x : Fp} (hx : x.ok) {p : Nat} (hp : 1 ≤ p) (d : Bool) : run GG T n 9 [x.pd, .int p, rs d] = some (x.R d p).pd := by
  obtain ⟨n, rfl⟩ : ∃ k, n = k + 1 := ⟨n - 1, by omega⟩
  refine run_ret rfl ⟨Nat.le_refl _, Nat.le_add_right _ _⟩ ?_
  show exs GG _ [some x.pd, some (.int p), some (rs d), none, none, none, none] b_mpf_pos = _
  have hp0 : ((p : Int) != 0) = true := by simp; omega
  by_cases hm : x.m = 0
  · rw [Fp.eq_zero hx hm, Fp.R_zero]
    simp only [b_mpf_pos, Fp.pd, Fp.zero, exs, ex, ev, evs, evB, get0, getS, List.set_cons_zero, List.set_cons_succ, setA0, setAS, Option.map_some, tr_int, tr_bool, neg_int, b_add, b_sub, b_and, b_xor, c_eq, c_ne, c_lt, c_le, c_gt, c_ge, Bool.not_true, Bool.not_false, if_true, if_false, Bool.false_eq_true, decide_true, decide_false, Int.natCast_one, Int.natCast_zero, Int.cast_ofNat_Int, beq_self_eq_true, List.length_cons, List.length_nil, Nat.reduceAdd, Nat.reduceLeDiff, Nat.zero_add, dat0, dat1, dat2, dat3, dat4, dat5, dat6, dat7, dat8, dat9, tab0, dsF, dsC, it0, it1, it2, it3, strne, strf, hp0, sg_f, nb_zero, bne_self_eq_false, norm0_spec (show 3 ≤ n by omega)]
  · have h0 : ((x.m : Int) != 0) = true := by simp [hm]
    simp only [b_mpf_pos, Fp.pd, exs, ex, ev, evs, evB, get0, getS, List.set_cons_zero, List.set_cons_succ, setA0, setAS, Option.map_some, tr_int, tr_bool, neg_int, b_add, b_sub, b_and, b_xor, c_eq, c_ne, c_lt, c_le, c_gt, c_ge, Bool.not_true, Bool.not_false, if_true, if_false, Bool.false_eq_true, decide_true, decide_false, Int.natCast_one, Int.natCast_zero, Int.cast_ofNat_Int, beq_self_eq_true, List.length_cons, List.length_nil, Nat.reduceAdd, Nat.reduceLeDiff, Nat.zero_add, dat0, dat1, dat2, dat3, dat4, dat5, dat6, dat7, dat8, dat9, tab0, dsF, dsC, it0, it1, it2, it3, strne, strf, hp0, h0, norm_spec (show 3 ≤ n by omega) d x.s hm x.e hp]
    rfl

def mulF (x y : Fp) : Fp := if x.m * y.m = 0 then .zero else ⟨x.s ^^ y.s, x.m * y.m, x.e + y.e⟩
theorem mulF_ok {x y : Fp} (hx : x.ok) (hy : y.ok) : (mulF x y).ok := by
  unfold mulF
  split
  · exact Fp.zero_ok
  · rename_i h
    have h1 : x.m ≠ 0 := fun c => h (by rw [c, Nat.zero_mul])
    have h2 : y.m ≠ 0 := fun c => h (by rw [c, Nat.mul_zero])
    refine ⟨fun c => absurd c h, fun _ => ?_⟩
    show x.m * y.m % 2 = 1
    rw [Nat.mul_mod, hx.o h1, hy.o h2]
theorem mulF_v (x y : Fp) : (mulF x y).v = x.v * y.v := by
  unfold Fp.v
  rw [mg_mul]
  unfold mulF
  split
  · rename_i h
    have : x.N * y.N = 0 := by
      rcases Nat.mul_eq_zero.mp h with h | h
      · rw [show x.N = 0 by unfold Fp.N; simp [h], Int.zero_mul]
      · rw [show y.N = 0 by unfold Fp.N; simp [h], Int.mul_zero]
    rw [this, mg_zero]; exact mg_zero _
  · show mg (Fp.N ⟨_, _, _⟩) _ = _
    congr 1
    unfold Fp.N
    cases x.s <;> cases y.s <;> simp [Int.neg_mul, Int.mul_neg]
theorem mulF_nb (x y : Fp) : nb (mulF x y).m ≤ nb x.m + nb y.m := by
  unfold mulF
  split
  · exact Nat.zero_le _
  · exact nb_mul_le _ _
theorem mulF_e (x y : Fp) : (mulF x y).e.natAbs ≤ x.e.natAbs + y.e.natAbs := by
  unfold mulF
  split
  · exact Nat.zero_le _
  · exact Int.natAbs_add_le _ _
theorem mul_spec {n : Nat} (hn : 4 ≤ n) {x y : Fp} (hx : x.ok) (hy : y.ok) {p : Nat} (hp : 1 ≤ p) (d : Bool) (hb : nb x.m + nb y.m ≤ 134217728) :
    run GG T n 14 [x.pd, y.pd, .int p, rs d] = some ((mulF x y).R d p).pd := by
  obtain ⟨n, rfl⟩ : ∃ k, n = k + 1 := ⟨n - 1, by omega⟩
  refine run_ret rfl ⟨Nat.le_refl _, Nat.le_add_right _ _⟩ ?_
  show exs GG _ (some x.pd :: some y.pd :: some (.int p) :: some (rs d) :: List.replicate 13 none) b_mpf_mul = _
  have hp0 : ((p : Int) != 0) = true := by simp; omega
  have hmul : binD .Mult (.int (x.m : Int)) (.int (y.m : Int)) = some (.int ((x.m * y.m : Nat) : Int)) := by
    rw [b_mul (by rw [bits_nat, bits_nat]; exact hb), Int.natCast_mul]
  have hrep : List.replicate 13 (none : Option PyData) = [none, none, none, none, none, none, none, none, none, none, none, none, none] := rfl
  rw [hrep]
  by_cases hz : x.m * y.m = 0
  · have hm0 : ((((x.m * y.m : Nat) : Int)) != 0) = false := by rw [hz]; rfl
    have hres : (mulF x y).R d p = Fp.zero := by rw [mulF, if_pos hz, Fp.R_zero]
    rw [hres]
    have hcase : ∀ z : Fp, z.ok → z.m = 0 → z.e = 0 := fun z hz h => (hz.z h).2
    by_cases h1 : x.m = 0
    · have e1 := hcase x hx h1
      have h1' : ((x.m : Int) != 0) = false := by simp [h1]
      by_cases h2 : y.m = 0
      · have e2 := hcase y hy h2
        have h2' : ((y.m : Int) != 0) = false := by simp [h2]
        simp only [b_mpf_mul, Fp.pd, exs, ex, ev, evs, evB, get0, getS, List.set_cons_zero, List.set_cons_succ, setA0, setAS, Option.map_some, tr_int, tr_bool, neg_int, b_add, b_sub, b_and, b_xor, c_eq, c_ne, c_lt, c_le, c_gt, c_ge, Bool.not_true, Bool.not_false, if_true, if_false, Bool.false_eq_true, decide_true, decide_false, Int.natCast_one, Int.natCast_zero, Int.cast_ofNat_Int, beq_self_eq_true, List.length_cons, List.length_nil, Nat.reduceAdd, Nat.reduceLeDiff, Nat.zero_add, dat0, dat1, dat2, dat3, dat4, dat5, dat6, dat7, dat8, dat9, tab0, dsF, dsC, it0, it1, it2, it3, strne, strf, hmul, hm0, h1', h2', e1, e2, bne_self_eq_false]
        rfl
      · have h2' : ((y.m : Int) != 0) = true := by simp [h2]
        simp only [b_mpf_mul, Fp.pd, exs, ex, ev, evs, evB, get0, getS, List.set_cons_zero, List.set_cons_succ, setA0, setAS, Option.map_some, tr_int, tr_bool, neg_int, b_add, b_sub, b_and, b_xor, c_eq, c_ne, c_lt, c_le, c_gt, c_ge, Bool.not_true, Bool.not_false, if_true, if_false, Bool.false_eq_true, decide_true, decide_false, Int.natCast_one, Int.natCast_zero, Int.cast_ofNat_Int, beq_self_eq_true, List.length_cons, List.length_nil, Nat.reduceAdd, Nat.reduceLeDiff, Nat.zero_add, dat0, dat1, dat2, dat3, dat4, dat5, dat6, dat7, dat8, dat9, tab0, dsF, dsC, it0, it1, it2, it3, strne, strf, hmul, hm0, h1', h2', e1, bne_self_eq_false]
        rfl
    · have h2 : y.m = 0 := by rcases Nat.mul_eq_zero.mp hz with h | h; exact absurd h h1; exact h
      have e2 := hcase y hy h2
      have h1' : ((x.m : Int) != 0) = true := by simp [h1]
      have h2' : ((y.m : Int) != 0) = false := by simp [h2]
      simp only [b_mpf_mul, Fp.pd, exs, ex, ev, evs, evB, get0, getS, List.set_cons_zero, List.set_cons_succ, setA0, setAS, Option.map_some, tr_int, tr_bool, neg_int, b_add, b_sub, b_and, b_xor, c_eq, c_ne, c_lt, c_le, c_gt, c_ge, Bool.not_true, Bool.not_false, if_true, if_false, Bool.false_eq_true, decide_true, decide_false, Int.natCast_one, Int.natCast_zero, Int.cast_ofNat_Int, beq_self_eq_true, List.length_cons, List.length_nil, Nat.reduceAdd, Nat.reduceLeDiff, Nat.zero_add, dat0, dat1, dat2, dat3, dat4, dat5, dat6, dat7, dat8, dat9, tab0, dsF, dsC, it0, it1, it2, it3, strne, strf, hmul, hm0, h1', h2', e2, bne_self_eq_false]
      rfl
  · have hm0 : ((((x.m * y.m : Nat) : Int)) != 0) = true := by rw [bne_iff_ne]; exact_mod_cast hz
    have hres : (mulF x y).R d p = Rnd d p (if (x.s ^^ y.s) then -((x.m * y.m : Nat) : Int) else ((x.m * y.m : Nat) : Int)) (x.e + y.e) := by rw [mulF, if_neg hz]; rfl
    rw [hres]
    simp only [b_mpf_mul, Fp.pd, exs, ex, ev, evs, evB, get0, getS, List.set_cons_zero, List.set_cons_succ, setA0, setAS, Option.map_some, tr_int, tr_bool, neg_int, b_add, b_sub, b_and, b_xor, c_eq, c_ne, c_lt, c_le, c_gt, c_ge, Bool.not_true, Bool.not_false, if_true, if_false, Bool.false_eq_true, decide_true, decide_false, Int.natCast_one, Int.natCast_zero, Int.cast_ofNat_Int, beq_self_eq_true, List.length_cons, List.length_nil, Nat.reduceAdd, Nat.reduceLeDiff, Nat.zero_add, dat0, dat1, dat2, dat3, dat4, dat5, dat6, dat7, dat8, dat9, tab0, dsF, dsC, it0, it1, it2, it3, strne, strf, hmul, hm0, hp0, bits_nat, bxor_sg, norm_spec (show 3 ≤ n by omega) d (x.s ^^ y.s) hz (x.e + y.e) hp]
theorem mul0_spec {n : Nat} (hn : 4 ≤ n) {x y : Fp} (hx : x.ok) (hy : y.ok) (hb : nb x.m + nb y.m ≤ 134217728) :
    run GG T n 14 [x.pd, y.pd] = some (mulF x y).pd := by
  obtain ⟨n, rfl⟩ : ∃ k, n = k + 1 := ⟨n - 1, by omega⟩
  refine run_ret rfl ⟨by show 2 ≤ 4; omega, by show 4 ≤ 2 + 2; omega⟩ ?_
  show exs GG _ (some x.pd :: some y.pd :: some (.int 0) :: some (.str "d") :: List.replicate 13 none) b_mpf_mul = _
  have hmul : binD .Mult (.int (x.m : Int)) (.int (y.m : Int)) = some (.int ((x.m * y.m : Nat) : Int)) := by
    rw [b_mul (by rw [bits_nat, bits_nat]; exact hb), Int.natCast_mul]
  have hrep : List.replicate 13 (none : Option PyData) = [none, none, none, none, none, none, none, none, none, none, none, none, none] := rfl
  rw [hrep]
  by_cases hz : x.m * y.m = 0
  · have hm0 : ((((x.m * y.m : Nat) : Int)) != 0) = false := by rw [hz]; rfl
    have hres : (mulF x y) = Fp.zero := by rw [mulF, if_pos hz]
    rw [hres]
    have hcase : ∀ z : Fp, z.ok → z.m = 0 → z.e = 0 := fun z hz h => (hz.z h).2
    by_cases h1 : x.m = 0
    · have e1 := hcase x hx h1
      have h1' : ((x.m : Int) != 0) = false := by simp [h1]
      by_cases h2 : y.m = 0
      · have e2 := hcase y hy h2
        have h2' : ((y.m : Int) != 0) = false := by simp [h2]
        simp only [b_mpf_mul, Fp.pd, exs, ex, ev, evs, evB, get0, getS, List.set_cons_zero, List.set_cons_succ, setA0, setAS, Option.map_some, tr_int, tr_bool, neg_int, b_add, b_sub, b_and, b_xor, c_eq, c_ne, c_lt, c_le, c_gt, c_ge, Bool.not_true, Bool.not_false, if_true, if_false, Bool.false_eq_true, decide_true, decide_false, Int.natCast_one, Int.natCast_zero, Int.cast_ofNat_Int, beq_self_eq_true, List.length_cons, List.length_nil, Nat.reduceAdd, Nat.reduceLeDiff, Nat.zero_add, dat0, dat1, dat2, dat3, dat4, dat5, dat6, dat7, dat8, dat9, tab0, dsF, dsC, it0, it1, it2, it3, strne, strf, hmul, hm0, h1', h2', e1, e2, bne_self_eq_false]
        rfl
      · have h2' : ((y.m : Int) != 0) = true := by simp [h2]
        simp only [b_mpf_mul, Fp.pd, exs, ex, ev, evs, evB, get0, getS, List.set_cons_zero, List.set_cons_succ, setA0, setAS, Option.map_some, tr_int, tr_bool, neg_int, b_add, b_sub, b_and, b_xor, c_eq, c_ne, c_lt, c_le, c_gt, c_ge, Bool.not_true, Bool.not_false, if_true, if_false, Bool.false_eq_true, decide_true, decide_false, Int.natCast_one, Int.natCast_zero, Int.cast_ofNat_Int, beq_self_eq_true, List.length_cons, List.length_nil, Nat.reduceAdd, Nat.reduceLeDiff, Nat.zero_add, dat0, dat1, dat2, dat3, dat4, dat5, dat6, dat7, dat8, dat9, tab0, dsF, dsC, it0, it1, it2, it3, strne, strf, hmul, hm0, h1', h2', e1, bne_self_eq_false]
        rfl
    · have h2 : y.m = 0 := by rcases Nat.mul_eq_zero.mp hz with h | h; exact absurd h h1; exact h
      have e2 := hcase y hy h2
      have h1' : ((x.m : Int) != 0) = true := by simp [h1]
      have h2' : ((y.m : Int) != 0) = false := by simp [h2]
      simp only [b_mpf_mul, Fp.pd, exs, ex, ev, evs, evB, get0, getS, List.set_cons_zero, List.set_cons_succ, setA0, setAS, Option.map_some, tr_int, tr_bool, neg_int, b_add, b_sub, b_and, b_xor, c_eq, c_ne, c_lt, c_le, c_gt, c_ge, Bool.not_true, Bool.not_false, if_true, if_false, Bool.false_eq_true, decide_true, decide_false, Int.natCast_one, Int.natCast_zero, Int.cast_ofNat_Int, beq_self_eq_true, List.length_cons, List.length_nil, Nat.reduceAdd, Nat.reduceLeDiff, Nat.zero_add, dat0, dat1, dat2, dat3, dat4, dat5, dat6, dat7, dat8, dat9, tab0, dsF, dsC, it0, it1, it2, it3, strne, strf, hmul, hm0, h1', h2', e2, bne_self_eq_false]
      rfl
  · have hm0 : ((((x.m * y.m : Nat) : Int)) != 0) = true := by rw [bne_iff_ne]; exact_mod_cast hz
    have hres : (mulF x y) = ⟨x.s ^^ y.s, x.m * y.m, x.e + y.e⟩ := by rw [mulF, if_neg hz]
    rw [hres]
    simp only [b_mpf_mul, Fp.pd, exs, ex, ev, evs, evB, get0, getS, List.set_cons_zero, List.set_cons_succ, setA0, setAS, Option.map_some, tr_int, tr_bool, neg_int, b_add, b_sub, b_and, b_xor, c_eq, c_ne, c_lt, c_le, c_gt, c_ge, Bool.not_true, Bool.not_false, if_true, if_false, Bool.false_eq_true, decide_true, decide_false, Int.natCast_one, Int.natCast_zero, Int.cast_ofNat_Int, beq_self_eq_true, List.length_cons, List.length_nil, Nat.reduceAdd, Nat.reduceLeDiff, Nat.zero_add, dat0, dat1, dat2, dat3, dat4, dat5, dat6, dat7, dat8, dat9, tab0, dsF, dsC, it0, it1, it2, it3, strne, strf, hmul, hm0, bits_nat, bxor_sg, bne_self_eq_false]

def powF (x : Fp) (k : Nat) : Fp := if x.m = 0 then .zero else ⟨x.s && k % 2 == 1, x.m ^ k, x.e * k⟩
theorem odd_pow {m : Nat} (h : m % 2 = 1) (k : Nat) : m ^ k % 2 = 1 := by
  induction k with
  | zero => rfl
  | succ k ih => rw [Nat.pow_succ, Nat.mul_mod, ih, h]
theorem powF_ok {x : Fp} (hx : x.ok) (k : Nat) : (powF x k).ok := by
  unfold powF
  split
  · exact Fp.zero_ok
  · rename_i h
    exact ⟨fun c => absurd (Nat.pow_eq_zero.mp c).1 h, fun _ => odd_pow (hx.o h) k⟩
theorem negInt_pow (a : Int) (k : Nat) : (-a) ^ k = if k % 2 = 1 then -(a ^ k) else a ^ k := by
  induction k with
  | zero => simp
  | succ k ih =>
    rw [Int.pow_succ, ih, Int.pow_succ]
    by_cases h : k % 2 = 1
    · rw [if_pos h, if_neg (by omega), Int.neg_mul_neg]
    · rw [if_neg h, if_pos (by omega), Int.mul_neg]
theorem powF_v (x : Fp) {k : Nat} (hk : 1 ≤ k) : (powF x k).v = x.v ^ k := by
  unfold Fp.v
  rw [mg_pow]
  unfold powF
  split
  · rename_i h
    have : x.N ^ k = 0 := by
      rw [show x.N = 0 by unfold Fp.N; simp [h], Int.zero_pow (by omega)]
    rw [this, mg_zero]; exact mg_zero _
  · show mg (Fp.N ⟨_, _, _⟩) _ = _
    congr 1
    unfold Fp.N
    cases x.s
    · simp
    · by_cases h : k % 2 = 1 <;> simp [h, negInt_pow]
theorem bits_small {a : Int} (h : a.natAbs < 2 ^ 40) : bits a ≤ 40 := by rw [bits_abs]; exact nb_le h
theorem intid (a : Int) : biD .int [.int a] = some (.int a) := rfl
theorem pow_spec {n : Nat} (hn : 4 ≤ n) {x : Fp} (hx : x.ok) {p : Nat} (hp : 1 ≤ p) (d : Bool) {k : Nat} (hk : 3 ≤ k) (hk2 : k ≤ 100) (hb : nb x.m * k < 1000) (he : x.e.natAbs < 2 ^ 40) :
    run GG T n 16 [x.pd, .int k, .int p, rs d] = some ((powF x k).R d p).pd := by
  obtain ⟨n, rfl⟩ : ∃ k, n = k + 1 := ⟨n - 1, by omega⟩
  refine run_ret rfl ⟨Nat.le_refl _, Nat.le_add_right _ _⟩ ?_
  show exs GG _ (some x.pd :: some (.int k) :: some (.int p) :: some (rs d) :: List.replicate 12 none) b_mpf_pow_int = _
  have hrep : List.replicate 12 (none : Option PyData) = [none, none, none, none, none, none, none, none, none, none, none, none] := rfl
  rw [hrep]
  have k0 : ((k : Int) == 0) = false := by simp <;> omega
  have k1 : ((k : Int) == 1) = false := by simp <;> omega
  have k2 : ((k : Int) == 2) = false := by simp <;> omega
  have k3 : ((k : Int) == -1) = false := by simp <;> omega
  have k4 : ((k : Int) < 0) = False := by simp
  have bk : bits (k : Int) ≤ 40 := bits_small (by simp; omega)
  have be : bits x.e ≤ 40 := bits_small he
  have nbx : nb x.m < 1000 := by
    have : nb x.m * 1 ≤ nb x.m * k := Nat.mul_le_mul_left _ (by omega)
    omega
  have bnb : bits ((nb x.m : Nat) : Int) ≤ 40 := bits_small (by simp; omega)
  have hek : binD .Mult (.int x.e) (.int (k : Int)) = some (.int (x.e * k)) := b_mul (by omega)
  have hbk : binD .Mult (.int ((nb x.m : Nat) : Int)) (.int (k : Int)) = some (.int (((nb x.m : Nat) : Int) * k)) := b_mul (by omega)
  have hlt : (((nb x.m : Nat) : Int) * k < 1000) = True := by
    have : ((nb x.m * k : Nat) : Int) < 1000 := by omega
    rw [Int.natCast_mul] at this
    simp [this]
  have hpw : augD .Pow (.int (x.m : Int)) (.int (k : Int)) = some (.int ((x.m ^ k : Nat) : Int)) := by
    rw [a_pow (by rw [bits_nat]; omega), Int.natCast_pow]
  by_cases hm : x.m = 0
  · have hxz := Fp.eq_zero hx hm
    have hres : (powF x k).R d p = Fp.zero := by rw [powF, if_pos hm, Fp.R_zero]
    rw [hres]
    have e0 := (hx.z hm).2
    have h0' : ((x.m : Int) != 0) = false := by simp [hm]
    have h1' : ((x.m : Int) == 1) = false := by simp [hm]
    have hz : (x.m ^ k : Nat) = 0 := by rw [hm]; exact Nat.zero_pow (by omega)
    simp only [b_mpf_pow_int, Fp.pd, exs, ex, ev, evs, evB, get0, getS, List.set_cons_zero, List.set_cons_succ, setA0, setAS, Option.map_some, tr_int, tr_bool, neg_int, b_add, b_sub, b_and, b_xor, c_eq, c_ne, c_lt, c_le, c_gt, c_ge, Bool.not_true, Bool.not_false, if_true, if_false, Bool.false_eq_true, decide_true, decide_false, Int.natCast_one, Int.natCast_zero, Int.cast_ofNat_Int, beq_self_eq_true, List.length_cons, List.length_nil, Nat.reduceAdd, Nat.reduceLeDiff, Nat.zero_add, dat0, dat1, dat2, dat3, dat4, dat5, dat6, dat7, dat8, dat9, tab0, dsF, dsC, it0, it1, it2, it3, strne, strf, h0', e0, bne_self_eq_false, intid, k0, k1, k2, k3, k4, h1', hbk, hlt, hpw, hek, band_sg, bits_nat, hz, nb_zero]
    have := hek
    rw [e0] at this
    simp only [this, exs, ex, ev, evs, evB, get0, getS, List.set_cons_zero, List.set_cons_succ, setA0, setAS, Option.map_some, tr_int, tr_bool, neg_int, b_add, b_sub, b_and, b_xor, c_eq, c_ne, c_lt, c_le, c_gt, c_ge, Bool.not_true, Bool.not_false, if_true, if_false, Bool.false_eq_true, decide_true, decide_false, Int.natCast_one, Int.natCast_zero, Int.cast_ofNat_Int, beq_self_eq_true, List.length_cons, List.length_nil, Nat.reduceAdd, Nat.reduceLeDiff, Nat.zero_add, dat0, dat1, dat2, dat3, dat4, dat5, dat6, dat7, dat8, dat9, tab0, dsF, dsC, it0, it1, it2, it3, strne, strf, bits0, norm0_spec (show 3 ≤ n by omega)]
    rfl
  · have h0' : ((x.m : Int) != 0) = true := by simp [hm]
    have hres : (powF x k).R d p = Rnd d p (if (x.s && k % 2 == 1) then -((x.m ^ k : Nat) : Int) else ((x.m ^ k : Nat) : Int)) (x.e * k) := by rw [powF, if_neg hm]; rfl
    by_cases h1 : x.m = 1
    · have h1' : ((x.m : Int) == 1) = true := by simp [h1]
      have hr2 : (powF x k).R d p = ⟨x.s && k % 2 == 1, 1, x.e * k⟩ := by
        have : powF x k = ⟨x.s && k % 2 == 1, 1, x.e * k⟩ := by rw [powF, if_neg hm, h1, Nat.one_pow]
        rw [this]
        exact Fp.R_self ⟨fun c => (by cases c), fun _ => rfl⟩ hp d
      rw [hr2]
      simp only [b_mpf_pow_int, Fp.pd, exs, ex, ev, evs, evB, get0, getS, List.set_cons_zero, List.set_cons_succ, setA0, setAS, Option.map_some, tr_int, tr_bool, neg_int, b_add, b_sub, b_and, b_xor, c_eq, c_ne, c_lt, c_le, c_gt, c_ge, Bool.not_true, Bool.not_false, if_true, if_false, Bool.false_eq_true, decide_true, decide_false, Int.natCast_one, Int.natCast_zero, Int.cast_ofNat_Int, beq_self_eq_true, List.length_cons, List.length_nil, Nat.reduceAdd, Nat.reduceLeDiff, Nat.zero_add, dat0, dat1, dat2, dat3, dat4, dat5, dat6, dat7, dat8, dat9, tab0, dsF, dsC, it0, it1, it2, it3, strne, strf, h0', intid, k0, k1, k2, k3, k4, h1', hek, band_sg]
      rfl
    · have h1' : ((x.m : Int) == 1) = false := by simp <;> omega
      have hmk : x.m ^ k ≠ 0 := fun c => hm (Nat.pow_eq_zero.mp c).1
      rw [hres]
      simp only [b_mpf_pow_int, Fp.pd, exs, ex, ev, evs, evB, get0, getS, List.set_cons_zero, List.set_cons_succ, setA0, setAS, Option.map_some, tr_int, tr_bool, neg_int, b_add, b_sub, b_and, b_xor, c_eq, c_ne, c_lt, c_le, c_gt, c_ge, Bool.not_true, Bool.not_false, if_true, if_false, Bool.false_eq_true, decide_true, decide_false, Int.natCast_one, Int.natCast_zero, Int.cast_ofNat_Int, beq_self_eq_true, List.length_cons, List.length_nil, Nat.reduceAdd, Nat.reduceLeDiff, Nat.zero_add, dat0, dat1, dat2, dat3, dat4, dat5, dat6, dat7, dat8, dat9, tab0, dsF, dsC, it0, it1, it2, it3, strne, strf, h0', intid, k0, k1, k2, k3, k4, h1', hek, hbk, hlt, hpw, band_sg, bits_nat, norm_spec (show 3 ≤ n by omega) d (x.s && k % 2 == 1) hmk (x.e * k) hp]
end Mine

end

-- part Sp3
section
open PySem
set_option maxRecDepth 100000
set_option linter.unusedVariables false
set_option linter.unusedSimpArgs false
namespace Mine

theorem Rnd_neg (d : Bool) (p : Nat) (N e : Int) : Rnd d p (-N) e = (Rnd (!d) p N e).neg := by
  unfold Rnd
  rw [Int.natAbs_neg]
  cases d
  · simp only [Bool.false_eq_true, if_false, Bool.not_false, if_true, Int.neg_neg]
    exact mkF_neg _ _
  · simp only [Bool.false_eq_true, if_false, Bool.not_true, if_true]
    rw [← mkF_neg, Int.neg_neg]
theorem Rnd_ge (p : Nat) (N e : Int) : mg N e ≤ (Rnd false p N e).v := by
  have h := Rnd_le p (-N) e
  rw [Rnd_neg, Fp.neg_v, mg_neg] at h
  simp only [Bool.not_true] at h
  grind
theorem Rep_one (p : Nat) (e : Int) : Rep p (mg 1 e) := ⟨1, e, by have := pow2_pos p; omega, by have := pow2_pos p; omega, rfl⟩
theorem Rnd_pos {p : Nat} (hp : 1 ≤ p) {N : Int} (h : 0 < N) (e : Int) (d : Bool) : 0 < (Rnd d p N e).v := by
  cases d
  · exact Std.lt_of_lt_of_le (mg_pos.mpr h) (Rnd_ge p N e)
  · exact Std.lt_of_lt_of_le (mg_pos.mpr (by decide : (0 : Int) < 1)) (Rnd_max hp (Rep_one p e) (mg_le.mpr (by omega)))
theorem Rnd_negv {p : Nat} (hp : 1 ≤ p) {N : Int} (h : N < 0) (e : Int) (d : Bool) : (Rnd d p N e).v < 0 := by
  have := Rnd_pos hp (show 0 < -N by omega) e (!d)
  rw [Rnd_neg, Fp.neg_v, Bool.not_not] at this
  grind
theorem Rnd_s {p : Nat} (hp : 1 ≤ p) {N : Int} (h : N ≠ 0) (e : Int) (d : Bool) : (Rnd d p N e).s = decide (N < 0) := by
  by_cases hn : N < 0
  · rw [(Fp.v_neg'.mp (Rnd_negv hp hn e d)).1]; simp [hn]
  · rw [(Fp.v_pos.mp (Rnd_pos hp (show 0 < N by omega) e d)).1]; simp [hn]

theorem tnot (a : Int) : (1 : Int) = sg true := rfl
theorem bop_or_bc {M : Nat} : True := trivial

theorem xor1f : Builtin.bitXor 0 1 = 1 := by decide +kernel
theorem xor1t : Builtin.bitXor 1 1 = 0 := by decide +kernel
/-- the difference of two numbers of one sign and one height -/
theorem add_spec {n : Nat} (hn : 4 ≤ n) {x y : Fp} (hs : x.s = y.s) (h1 : x.m ≠ 0) (h2 : y.m ≠ 0) (hx : x.ok) (hy : y.ok) (hb1 : nb x.m ≤ 1000) (hb2 : nb y.m ≤ 1000) (he : x.e ≠ y.e) (hh : (nb x.m : Int) + x.e = nb y.m + y.e) :
    ∃ z : Fp, run GG T n 12 [x.pd, y.pd, .int 5, rs true, .int 1] = some z.pd ∧ z.s = decide (x.v < y.v) := by
  obtain ⟨n, rfl⟩ : ∃ k, n = k + 1 := ⟨n - 1, by omega⟩
  have hrep : List.replicate 12 (none : Option PyData) = [none, none, none, none, none, none, none, none, none, none, none, none] := rfl
  have m1 : ((x.m : Int) != 0) = true := by simp [h1]
  have m2 : ((y.m : Int) != 0) = true := by simp [h2]
  have o1 := hx.o h1
  have o2 := hy.o h2
  by_cases hlt : y.e < x.e
  · obtain ⟨q, hq⟩ : ∃ q : Nat, x.e - y.e = q := ⟨(x.e - y.e).toNat, by omega⟩
    have hq0 : 1 ≤ q := by omega
    have hD : x.N * 2 ^ q - y.N ≠ 0 := by
      have e1 : x.N * 2 ^ q = 2 * (x.N * 2 ^ (q - 1)) := by
        rw [show q = q - 1 + 1 by omega, Int.pow_succ]; simp; rw [Int.mul_comm 2, Int.mul_assoc]
      have e2 : y.N % 2 = 1 := by unfold Fp.N; split <;> omega
      omega
    have hv : x.v < y.v ↔ x.N * 2 ^ q - y.N < 0 := by
      unfold Fp.v
      rw [show x.e = y.e + q by omega, ← mg_shift, mg_lt]; omega
    refine ⟨Rnd true 5 (x.N * 2 ^ q - y.N) y.e, run_ret rfl ⟨Nat.le_refl _, Nat.le_add_right _ _⟩ ?_, by rw [Rnd_s (by decide) hD]; simp only [hv]⟩
    show exs GG _ (some x.pd :: some y.pd :: some (.int 5) :: some (rs true) :: some (.int 1) :: List.replicate 12 none) b_mpf_add = _
    rw [hrep]
    have q0 : (((q : Nat) : Int) != 0) = true := by simp; omega
    have q1 : (((q : Nat) : Int) > 0) = True := by simp; omega
    have hdel : (nb x.m : Int) + x.e - nb y.m - y.e = 0 := by omega
    have hshl : binD .LShift (.int (x.m : Int)) (.int (q : Int)) = some (.int ((x.m : Int) * 2 ^ q)) := b_shl (by rw [bits_nat]; omega)
    have l5 : ((0 : Int) > 9) = False := by simp
    have n5 : ((5 : Int) != 0) = true := rfl
    have n1 : ((1 : Int) != 0) = true := rfl
    have n0 : ((0 : Int) != 0) = false := rfl
    have e01 : ((0 : Int) == 1) = false := rfl
    have e10 : ((1 : Int) == 0) = false := rfl
    have add9 : (5 : Int) + 4 = 9 := rfl
    rcases (show 0 ≤ x.N * 2 ^ q - y.N ∨ x.N * 2 ^ q - y.N < 0 by omega) with hpos | hneg
    · obtain ⟨M, hM⟩ : ∃ M : Nat, x.N * 2 ^ q - y.N = M := ⟨(x.N * 2 ^ q - y.N).toNat, by omega⟩
      have hM0 : M ≠ 0 := fun c => hD (by rw [hM, c]; rfl)
      have hge : ((M : Int) ≥ 0) = True := by simp
      rw [hM]
      have hnorm := norm_spec (n := n) (by omega) true false hM0 y.e (p := 5) (by decide)
      simp only [sg_f, Bool.false_eq_true, if_false, Int.cast_ofNat_Int] at hnorm
      cases hsx : x.s
      · have hsy : y.s = false := by rw [← hs, hsx]
        have hE : (x.m : Int) * 2 ^ q - y.m = M := by rw [← hM]; unfold Fp.N; simp [hsx, hsy]
        by_cases h100 : ((q : Int) > 100)
        · simp only [b_mpf_add, Fp.pd, exs, ex, ev, evs, evB, get0, getS, List.set_cons_zero, List.set_cons_succ, setA0, setAS, Option.map_some, tr_int, tr_bool, neg_int, b_add, b_sub, b_and, b_xor, c_eq, c_ne, c_lt, c_le, c_gt, c_ge, Bool.not_true, Bool.not_false, if_true, if_false, Bool.false_eq_true, decide_true, decide_false, Int.natCast_one, Int.natCast_zero, Int.cast_ofNat_Int, beq_self_eq_true, List.length_cons, List.length_nil, Nat.reduceAdd, Nat.reduceLeDiff, Nat.zero_add, dat0, dat1, dat2, dat3, dat4, dat5, dat6, dat7, dat8, dat9, tab0, dsF, dsC, it0, it1, it2, it3, strne, strf, hsx, hsy, sg_f, sg_t, a_xor, xor1f, m1, m2, hq, q0, q1, h100, n5, n0, n1, hdel, add9, l5, e01, hshl, hE, hge, bits_nat, hnorm]
        · simp only [b_mpf_add, Fp.pd, exs, ex, ev, evs, evB, get0, getS, List.set_cons_zero, List.set_cons_succ, setA0, setAS, Option.map_some, tr_int, tr_bool, neg_int, b_add, b_sub, b_and, b_xor, c_eq, c_ne, c_lt, c_le, c_gt, c_ge, Bool.not_true, Bool.not_false, if_true, if_false, Bool.false_eq_true, decide_true, decide_false, Int.natCast_one, Int.natCast_zero, Int.cast_ofNat_Int, beq_self_eq_true, List.length_cons, List.length_nil, Nat.reduceAdd, Nat.reduceLeDiff, Nat.zero_add, dat0, dat1, dat2, dat3, dat4, dat5, dat6, dat7, dat8, dat9, tab0, dsF, dsC, it0, it1, it2, it3, strne, strf, hsx, hsy, sg_f, sg_t, a_xor, xor1f, m1, m2, hq, q0, q1, h100, n5, n0, n1, hdel, add9, l5, e01, hshl, hE, hge, bits_nat, hnorm]
      · have hsy : y.s = true := by rw [← hs, hsx]
        have hE : (y.m : Int) - (x.m : Int) * 2 ^ q = M := by rw [← hM]; unfold Fp.N; simp [hsx, hsy, Int.neg_mul]; omega
        by_cases h100 : ((q : Int) > 100)
        · simp only [b_mpf_add, Fp.pd, exs, ex, ev, evs, evB, get0, getS, List.set_cons_zero, List.set_cons_succ, setA0, setAS, Option.map_some, tr_int, tr_bool, neg_int, b_add, b_sub, b_and, b_xor, c_eq, c_ne, c_lt, c_le, c_gt, c_ge, Bool.not_true, Bool.not_false, if_true, if_false, Bool.false_eq_true, decide_true, decide_false, Int.natCast_one, Int.natCast_zero, Int.cast_ofNat_Int, beq_self_eq_true, List.length_cons, List.length_nil, Nat.reduceAdd, Nat.reduceLeDiff, Nat.zero_add, dat0, dat1, dat2, dat3, dat4, dat5, dat6, dat7, dat8, dat9, tab0, dsF, dsC, it0, it1, it2, it3, strne, strf, hsx, hsy, sg_f, sg_t, a_xor, xor1t, m1, m2, hq, q0, q1, h100, n5, n0, n1, hdel, add9, l5, e10, hshl, hE, hge, bits_nat, hnorm]
        · simp only [b_mpf_add, Fp.pd, exs, ex, ev, evs, evB, get0, getS, List.set_cons_zero, List.set_cons_succ, setA0, setAS, Option.map_some, tr_int, tr_bool, neg_int, b_add, b_sub, b_and, b_xor, c_eq, c_ne, c_lt, c_le, c_gt, c_ge, Bool.not_true, Bool.not_false, if_true, if_false, Bool.false_eq_true, decide_true, decide_false, Int.natCast_one, Int.natCast_zero, Int.cast_ofNat_Int, beq_self_eq_true, List.length_cons, List.length_nil, Nat.reduceAdd, Nat.reduceLeDiff, Nat.zero_add, dat0, dat1, dat2, dat3, dat4, dat5, dat6, dat7, dat8, dat9, tab0, dsF, dsC, it0, it1, it2, it3, strne, strf, hsx, hsy, sg_f, sg_t, a_xor, xor1t, m1, m2, hq, q0, q1, h100, n5, n0, n1, hdel, add9, l5, e10, hshl, hE, hge, bits_nat, hnorm]
    · obtain ⟨M, hM⟩ : ∃ M : Nat, x.N * 2 ^ q - y.N = -(M : Int) := ⟨(-(x.N * 2 ^ q - y.N)).toNat, by omega⟩
      have hM0 : M ≠ 0 := fun c => hD (by rw [hM, c]; rfl)
      have hge : (-(M : Int) ≥ 0) = False := by simp; omega
      rw [hM]
      have hnorm := norm_spec (n := n) (by omega) true true hM0 y.e (p := 5) (by decide)
      simp only [sg_t, if_true, Int.cast_ofNat_Int] at hnorm
      cases hsx : x.s
      · have hsy : y.s = false := by rw [← hs, hsx]
        have hE : (x.m : Int) * 2 ^ q - y.m = -(M : Int) := by rw [← hM]; unfold Fp.N; simp [hsx, hsy]
        by_cases h100 : ((q : Int) > 100)
        · simp only [b_mpf_add, Fp.pd, exs, ex, ev, evs, evB, get0, getS, List.set_cons_zero, List.set_cons_succ, setA0, setAS, Option.map_some, tr_int, tr_bool, neg_int, b_add, b_sub, b_and, b_xor, c_eq, c_ne, c_lt, c_le, c_gt, c_ge, Bool.not_true, Bool.not_false, if_true, if_false, Bool.false_eq_true, decide_true, decide_false, Int.natCast_one, Int.natCast_zero, Int.cast_ofNat_Int, beq_self_eq_true, List.length_cons, List.length_nil, Nat.reduceAdd, Nat.reduceLeDiff, Nat.zero_add, dat0, dat1, dat2, dat3, dat4, dat5, dat6, dat7, dat8, dat9, tab0, dsF, dsC, it0, it1, it2, it3, strne, strf, hsx, hsy, sg_f, sg_t, a_xor, xor1f, m1, m2, hq, q0, q1, h100, n5, n0, n1, hdel, add9, l5, e01, hshl, hE, hge, Int.neg_neg, bits_nat, hnorm]
        · simp only [b_mpf_add, Fp.pd, exs, ex, ev, evs, evB, get0, getS, List.set_cons_zero, List.set_cons_succ, setA0, setAS, Option.map_some, tr_int, tr_bool, neg_int, b_add, b_sub, b_and, b_xor, c_eq, c_ne, c_lt, c_le, c_gt, c_ge, Bool.not_true, Bool.not_false, if_true, if_false, Bool.false_eq_true, decide_true, decide_false, Int.natCast_one, Int.natCast_zero, Int.cast_ofNat_Int, beq_self_eq_true, List.length_cons, List.length_nil, Nat.reduceAdd, Nat.reduceLeDiff, Nat.zero_add, dat0, dat1, dat2, dat3, dat4, dat5, dat6, dat7, dat8, dat9, tab0, dsF, dsC, it0, it1, it2, it3, strne, strf, hsx, hsy, sg_f, sg_t, a_xor, xor1f, m1, m2, hq, q0, q1, h100, n5, n0, n1, hdel, add9, l5, e01, hshl, hE, hge, Int.neg_neg, bits_nat, hnorm]
      · have hsy : y.s = true := by rw [← hs, hsx]
        have hE : (y.m : Int) - (x.m : Int) * 2 ^ q = -(M : Int) := by rw [← hM]; unfold Fp.N; simp [hsx, hsy, Int.neg_mul]; omega
        by_cases h100 : ((q : Int) > 100)
        · simp only [b_mpf_add, Fp.pd, exs, ex, ev, evs, evB, get0, getS, List.set_cons_zero, List.set_cons_succ, setA0, setAS, Option.map_some, tr_int, tr_bool, neg_int, b_add, b_sub, b_and, b_xor, c_eq, c_ne, c_lt, c_le, c_gt, c_ge, Bool.not_true, Bool.not_false, if_true, if_false, Bool.false_eq_true, decide_true, decide_false, Int.natCast_one, Int.natCast_zero, Int.cast_ofNat_Int, beq_self_eq_true, List.length_cons, List.length_nil, Nat.reduceAdd, Nat.reduceLeDiff, Nat.zero_add, dat0, dat1, dat2, dat3, dat4, dat5, dat6, dat7, dat8, dat9, tab0, dsF, dsC, it0, it1, it2, it3, strne, strf, hsx, hsy, sg_f, sg_t, a_xor, xor1t, m1, m2, hq, q0, q1, h100, n5, n0, n1, hdel, add9, l5, e10, hshl, hE, hge, Int.neg_neg, bits_nat, hnorm]
        · simp only [b_mpf_add, Fp.pd, exs, ex, ev, evs, evB, get0, getS, List.set_cons_zero, List.set_cons_succ, setA0, setAS, Option.map_some, tr_int, tr_bool, neg_int, b_add, b_sub, b_and, b_xor, c_eq, c_ne, c_lt, c_le, c_gt, c_ge, Bool.not_true, Bool.not_false, if_true, if_false, Bool.false_eq_true, decide_true, decide_false, Int.natCast_one, Int.natCast_zero, Int.cast_ofNat_Int, beq_self_eq_true, List.length_cons, List.length_nil, Nat.reduceAdd, Nat.reduceLeDiff, Nat.zero_add, dat0, dat1, dat2, dat3, dat4, dat5, dat6, dat7, dat8, dat9, tab0, dsF, dsC, it0, it1, it2, it3, strne, strf, hsx, hsy, sg_f, sg_t, a_xor, xor1t, m1, m2, hq, q0, q1, h100, n5, n0, n1, hdel, add9, l5, e10, hshl, hE, hge, Int.neg_neg, bits_nat, hnorm]
  · obtain ⟨q, hq⟩ : ∃ q : Nat, y.e - x.e = q := ⟨(y.e - x.e).toNat, by omega⟩
    have hq0 : 1 ≤ q := by omega
    have hqn : x.e - y.e = -(q : Int) := by omega
    have hD : x.N - y.N * 2 ^ q ≠ 0 := by
      have e1 : y.N * 2 ^ q = 2 * (y.N * 2 ^ (q - 1)) := by
        rw [show q = q - 1 + 1 by omega, Int.pow_succ]; simp; rw [Int.mul_comm 2, Int.mul_assoc]
      have e2 : x.N % 2 = 1 := by unfold Fp.N; split <;> omega
      omega
    have hv : x.v < y.v ↔ x.N - y.N * 2 ^ q < 0 := by
      unfold Fp.v
      rw [show y.e = x.e + q by omega, ← mg_shift, mg_lt]; omega
    refine ⟨Rnd true 5 (x.N - y.N * 2 ^ q) x.e, run_ret rfl ⟨Nat.le_refl _, Nat.le_add_right _ _⟩ ?_, by rw [Rnd_s (by decide) hD]; simp only [hv]⟩
    show exs GG _ (some x.pd :: some y.pd :: some (.int 5) :: some (rs true) :: some (.int 1) :: List.replicate 12 none) b_mpf_add = _
    rw [hrep]
    have q0 : ((-((q : Nat) : Int)) != 0) = true := by simp; omega
    have q1 : (-((q : Nat) : Int) > 0) = False := by simp
    have q2 : (-((q : Nat) : Int) < 0) = True := by simp; omega
    have hdel : (nb y.m : Int) + y.e - nb x.m - x.e = 0 := by omega
    have hshl : binD .LShift (.int (y.m : Int)) (.int (q : Int)) = some (.int ((y.m : Int) * 2 ^ q)) := b_shl (by rw [bits_nat]; omega)
    have l5 : ((0 : Int) > 9) = False := by simp
    have n5 : ((5 : Int) != 0) = true := rfl
    have n1 : ((1 : Int) != 0) = true := rfl
    have n0 : ((0 : Int) != 0) = false := rfl
    have e01 : ((0 : Int) == 1) = false := rfl
    have e10 : ((1 : Int) == 0) = false := rfl
    have add9 : (5 : Int) + 4 = 9 := rfl
    rcases (show 0 ≤ x.N - y.N * 2 ^ q ∨ x.N - y.N * 2 ^ q < 0 by omega) with hpos | hneg
    · obtain ⟨M, hM⟩ : ∃ M : Nat, x.N - y.N * 2 ^ q = M := ⟨(x.N - y.N * 2 ^ q).toNat, by omega⟩
      have hM0 : M ≠ 0 := fun c => hD (by rw [hM, c]; rfl)
      have hge : ((M : Int) ≥ 0) = True := by simp
      rw [hM]
      have hnorm := norm_spec (n := n) (by omega) true false hM0 x.e (p := 5) (by decide)
      simp only [sg_f, Bool.false_eq_true, if_false, Int.cast_ofNat_Int] at hnorm
      cases hsx : x.s
      · have hsy : y.s = false := by rw [← hs, hsx]
        have hE : (x.m : Int) - (y.m : Int) * 2 ^ q = M := by rw [← hM]; unfold Fp.N; simp [hsx, hsy]
        by_cases h100 : (-(q : Int) < -100)
        · simp only [b_mpf_add, Fp.pd, exs, ex, ev, evs, evB, get0, getS, List.set_cons_zero, List.set_cons_succ, setA0, setAS, Option.map_some, tr_int, tr_bool, neg_int, b_add, b_sub, b_and, b_xor, c_eq, c_ne, c_lt, c_le, c_gt, c_ge, Bool.not_true, Bool.not_false, if_true, if_false, Bool.false_eq_true, decide_true, decide_false, Int.natCast_one, Int.natCast_zero, Int.cast_ofNat_Int, beq_self_eq_true, List.length_cons, List.length_nil, Nat.reduceAdd, Nat.reduceLeDiff, Nat.zero_add, dat0, dat1, dat2, dat3, dat4, dat5, dat6, dat7, dat8, dat9, tab0, dsF, dsC, it0, it1, it2, it3, strne, strf, hsx, hsy, sg_f, sg_t, a_xor, xor1f, m1, m2, hqn, q0, q1, q2, h100, n5, n0, n1, hdel, add9, l5, e01, Int.neg_neg, hshl, hE, hge, bits_nat, hnorm]
        · simp only [b_mpf_add, Fp.pd, exs, ex, ev, evs, evB, get0, getS, List.set_cons_zero, List.set_cons_succ, setA0, setAS, Option.map_some, tr_int, tr_bool, neg_int, b_add, b_sub, b_and, b_xor, c_eq, c_ne, c_lt, c_le, c_gt, c_ge, Bool.not_true, Bool.not_false, if_true, if_false, Bool.false_eq_true, decide_true, decide_false, Int.natCast_one, Int.natCast_zero, Int.cast_ofNat_Int, beq_self_eq_true, List.length_cons, List.length_nil, Nat.reduceAdd, Nat.reduceLeDiff, Nat.zero_add, dat0, dat1, dat2, dat3, dat4, dat5, dat6, dat7, dat8, dat9, tab0, dsF, dsC, it0, it1, it2, it3, strne, strf, hsx, hsy, sg_f, sg_t, a_xor, xor1f, m1, m2, hqn, q0, q1, q2, h100, n5, n0, n1, hdel, add9, l5, e01, Int.neg_neg, hshl, hE, hge, bits_nat, hnorm]
      · have hsy : y.s = true := by rw [← hs, hsx]
        have hE : (y.m : Int) * 2 ^ q - (x.m : Int) = M := by rw [← hM]; unfold Fp.N; simp [hsx, hsy, Int.neg_mul]; omega
        by_cases h100 : (-(q : Int) < -100)
        · simp only [b_mpf_add, Fp.pd, exs, ex, ev, evs, evB, get0, getS, List.set_cons_zero, List.set_cons_succ, setA0, setAS, Option.map_some, tr_int, tr_bool, neg_int, b_add, b_sub, b_and, b_xor, c_eq, c_ne, c_lt, c_le, c_gt, c_ge, Bool.not_true, Bool.not_false, if_true, if_false, Bool.false_eq_true, decide_true, decide_false, Int.natCast_one, Int.natCast_zero, Int.cast_ofNat_Int, beq_self_eq_true, List.length_cons, List.length_nil, Nat.reduceAdd, Nat.reduceLeDiff, Nat.zero_add, dat0, dat1, dat2, dat3, dat4, dat5, dat6, dat7, dat8, dat9, tab0, dsF, dsC, it0, it1, it2, it3, strne, strf, hsx, hsy, sg_f, sg_t, a_xor, xor1t, m1, m2, hqn, q0, q1, q2, h100, n5, n0, n1, hdel, add9, l5, e10, Int.neg_neg, hshl, hE, hge, bits_nat, hnorm]
        · simp only [b_mpf_add, Fp.pd, exs, ex, ev, evs, evB, get0, getS, List.set_cons_zero, List.set_cons_succ, setA0, setAS, Option.map_some, tr_int, tr_bool, neg_int, b_add, b_sub, b_and, b_xor, c_eq, c_ne, c_lt, c_le, c_gt, c_ge, Bool.not_true, Bool.not_false, if_true, if_false, Bool.false_eq_true, decide_true, decide_false, Int.natCast_one, Int.natCast_zero, Int.cast_ofNat_Int, beq_self_eq_true, List.length_cons, List.length_nil, Nat.reduceAdd, Nat.reduceLeDiff, Nat.zero_add, dat0, dat1, dat2, dat3, dat4, dat5, dat6, dat7, dat8, dat9, tab0, dsF, dsC, it0, it1, it2, it3, strne, strf, hsx, hsy, sg_f, sg_t, a_xor, xor1t, m1, m2, hqn, q0, q1, q2, h100, n5, n0, n1, hdel, add9, l5, e10, Int.neg_neg, hshl, hE, hge, bits_nat, hnorm]
    · obtain ⟨M, hM⟩ : ∃ M : Nat, x.N - y.N * 2 ^ q = -(M : Int) := ⟨(-(x.N - y.N * 2 ^ q)).toNat, by omega⟩
      have hM0 : M ≠ 0 := fun c => hD (by rw [hM, c]; rfl)
      have hge : (-(M : Int) ≥ 0) = False := by simp; omega
      rw [hM]
      have hnorm := norm_spec (n := n) (by omega) true true hM0 x.e (p := 5) (by decide)
      simp only [sg_t, if_true, Int.cast_ofNat_Int] at hnorm
      cases hsx : x.s
      · have hsy : y.s = false := by rw [← hs, hsx]
        have hE : (x.m : Int) - (y.m : Int) * 2 ^ q = -(M : Int) := by rw [← hM]; unfold Fp.N; simp [hsx, hsy]
        by_cases h100 : (-(q : Int) < -100)
        · simp only [b_mpf_add, Fp.pd, exs, ex, ev, evs, evB, get0, getS, List.set_cons_zero, List.set_cons_succ, setA0, setAS, Option.map_some, tr_int, tr_bool, neg_int, b_add, b_sub, b_and, b_xor, c_eq, c_ne, c_lt, c_le, c_gt, c_ge, Bool.not_true, Bool.not_false, if_true, if_false, Bool.false_eq_true, decide_true, decide_false, Int.natCast_one, Int.natCast_zero, Int.cast_ofNat_Int, beq_self_eq_true, List.length_cons, List.length_nil, Nat.reduceAdd, Nat.reduceLeDiff, Nat.zero_add, dat0, dat1, dat2, dat3, dat4, dat5, dat6, dat7, dat8, dat9, tab0, dsF, dsC, it0, it1, it2, it3, strne, strf, hsx, hsy, sg_f, sg_t, a_xor, xor1f, m1, m2, hqn, q0, q1, q2, h100, n5, n0, n1, hdel, add9, l5, e01, Int.neg_neg, hshl, hE, hge, bits_nat, hnorm]
        · simp only [b_mpf_add, Fp.pd, exs, ex, ev, evs, evB, get0, getS, List.set_cons_zero, List.set_cons_succ, setA0, setAS, Option.map_some, tr_int, tr_bool, neg_int, b_add, b_sub, b_and, b_xor, c_eq, c_ne, c_lt, c_le, c_gt, c_ge, Bool.not_true, Bool.not_false, if_true, if_false, Bool.false_eq_true, decide_true, decide_false, Int.natCast_one, Int.natCast_zero, Int.cast_ofNat_Int, beq_self_eq_true, List.length_cons, List.length_nil, Nat.reduceAdd, Nat.reduceLeDiff, Nat.zero_add, dat0, dat1, dat2, dat3, dat4, dat5, dat6, dat7, dat8, dat9, tab0, dsF, dsC, it0, it1, it2, it3, strne, strf, hsx, hsy, sg_f, sg_t, a_xor, xor1f, m1, m2, hqn, q0, q1, q2, h100, n5, n0, n1, hdel, add9, l5, e01, Int.neg_neg, hshl, hE, hge, bits_nat, hnorm]
      · have hsy : y.s = true := by rw [← hs, hsx]
        have hE : (y.m : Int) * 2 ^ q - (x.m : Int) = -(M : Int) := by rw [← hM]; unfold Fp.N; simp [hsx, hsy, Int.neg_mul]; omega
        by_cases h100 : (-(q : Int) < -100)
        · simp only [b_mpf_add, Fp.pd, exs, ex, ev, evs, evB, get0, getS, List.set_cons_zero, List.set_cons_succ, setA0, setAS, Option.map_some, tr_int, tr_bool, neg_int, b_add, b_sub, b_and, b_xor, c_eq, c_ne, c_lt, c_le, c_gt, c_ge, Bool.not_true, Bool.not_false, if_true, if_false, Bool.false_eq_true, decide_true, decide_false, Int.natCast_one, Int.natCast_zero, Int.cast_ofNat_Int, beq_self_eq_true, List.length_cons, List.length_nil, Nat.reduceAdd, Nat.reduceLeDiff, Nat.zero_add, dat0, dat1, dat2, dat3, dat4, dat5, dat6, dat7, dat8, dat9, tab0, dsF, dsC, it0, it1, it2, it3, strne, strf, hsx, hsy, sg_f, sg_t, a_xor, xor1t, m1, m2, hqn, q0, q1, q2, h100, n5, n0, n1, hdel, add9, l5, e10, Int.neg_neg, hshl, hE, hge, bits_nat, hnorm]
        · simp only [b_mpf_add, Fp.pd, exs, ex, ev, evs, evB, get0, getS, List.set_cons_zero, List.set_cons_succ, setA0, setAS, Option.map_some, tr_int, tr_bool, neg_int, b_add, b_sub, b_and, b_xor, c_eq, c_ne, c_lt, c_le, c_gt, c_ge, Bool.not_true, Bool.not_false, if_true, if_false, Bool.false_eq_true, decide_true, decide_false, Int.natCast_one, Int.natCast_zero, Int.cast_ofNat_Int, beq_self_eq_true, List.length_cons, List.length_nil, Nat.reduceAdd, Nat.reduceLeDiff, Nat.zero_add, dat0, dat1, dat2, dat3, dat4, dat5, dat6, dat7, dat8, dat9, tab0, dsF, dsC, it0, it1, it2, it3, strne, strf, hsx, hsy, sg_f, sg_t, a_xor, xor1t, m1, m2, hqn, q0, q1, q2, h100, n5, n0, n1, hdel, add9, l5, e10, Int.neg_neg, hshl, hE, hge, bits_nat, hnorm]
theorem sub_spec {n : Nat} (hn : 5 ≤ n) {x y : Fp} (hs : x.s = y.s) (h1 : x.m ≠ 0) (h2 : y.m ≠ 0) (hx : x.ok) (hy : y.ok) (hb1 : nb x.m ≤ 1000) (hb2 : nb y.m ≤ 1000) (he : x.e ≠ y.e) (hh : (nb x.m : Int) + x.e = nb y.m + y.e) :
    ∃ z : Fp, run GG T n 13 [x.pd, y.pd, .int 5, rs true] = some z.pd ∧ z.s = decide (x.v < y.v) := by
  obtain ⟨n, rfl⟩ : ∃ k, n = k + 1 := ⟨n - 1, by omega⟩
  obtain ⟨z, hz, hzs⟩ := add_spec (n := n) (by omega) hs h1 h2 hx hy hb1 hb2 he hh
  refine ⟨z, run_ret rfl ⟨Nat.le_refl _, Nat.le_add_right _ _⟩ ?_, hzs⟩
  show exs GG _ [some x.pd, some y.pd, some (.int 5), some (rs true)] b_mpf_sub = _
  simp only [b_mpf_sub, exs, ex, ev, evs, evB, get0, getS, List.set_cons_zero, List.set_cons_succ, setA0, setAS, Option.map_some, tr_int, tr_bool, neg_int, b_add, b_sub, b_and, b_xor, c_eq, c_ne, c_lt, c_le, c_gt, c_ge, Bool.not_true, Bool.not_false, if_true, if_false, Bool.false_eq_true, decide_true, decide_false, Int.natCast_one, Int.natCast_zero, Int.cast_ofNat_Int, beq_self_eq_true, List.length_cons, List.length_nil, Nat.reduceAdd, Nat.reduceLeDiff, Nat.zero_add, dat0, dat1, dat2, dat3, dat4, dat5, dat6, dat7, dat8, dat9, tab0, dsF, dsC, it0, it1, it2, it3, strne, strf, hz]
end Mine

end

-- part Sp4
section
open PySem
set_option maxRecDepth 100000
set_option linter.unusedVariables false
set_option linter.unusedSimpArgs false
namespace Mine

theorem mg_one_le {a b : Int} (h : a ≤ b) : mg 1 a ≤ mg 1 b := by
  rw [show b = a + ((b - a).toNat : Nat) by omega, ← mg_shift, mg_le, Int.one_mul]
  have := pow2_pos (b - a).toNat
  omega
theorem mag_lt {a b : Nat} {e f : Int} (h : (nb a : Int) + e < nb b + f) (hb : b ≠ 0) : mg a e < mg b f := by
  have h1 : mg a e < mg 1 (e + nb a) := by
    rw [← mg_shift, mg_lt, Int.one_mul, ← pow2_cast]
    exact_mod_cast lt_nb a
  have h2 : mg 1 (f + (nb b - 1 : Nat)) ≤ mg b f := by
    rw [← mg_shift, mg_le, Int.one_mul, ← pow2_cast]
    exact_mod_cast nb_pow_le hb
  have h3 := nb_pos hb
  have h4 : mg 1 (e + nb a) ≤ mg 1 (f + (nb b - 1 : Nat)) := mg_one_le (by omega)
  grind
theorem Fp.v_f {x : Fp} (h : x.s = false) : x.v = mg x.m x.e := by unfold Fp.v Fp.N; simp [h]
theorem Fp.v_t {x : Fp} (h : x.s = true) : x.v = -mg x.m x.e := by unfold Fp.v Fp.N; simp [h, mg_neg]
theorem sgn_neg {x : Fp} (hx : x.ok) : (sgn x < 0 ↔ x.v < 0) ∧ (sgn x > 0 ↔ 0 < x.v) := by
  rw [Fp.v_neg', Fp.v_pos]
  unfold sgn
  by_cases h : x.m = 0
  · simp [h]
  · cases hs : x.s <;> simp [h]
theorem sgn_zero {x : Fp} : sgn x = 0 ↔ x.v = 0 := by
  rw [Fp.v_zero]
  unfold sgn
  by_cases h : x.m = 0
  · simp [h]
  · cases hs : x.s <;> simp [h]
theorem cmp_spec {n : Nat} (hn : 6 ≤ n) {x y : Fp} (hx : x.ok) (hy : y.ok) (hb1 : nb x.m ≤ 1000) (hb2 : nb y.m ≤ 1000) :
    ∃ c : Int, run GG T n 3 [x.pd, y.pd] = some (.int c) ∧ (c < 0 ↔ x.v < y.v) ∧ (c > 0 ↔ y.v < x.v) := by
  obtain ⟨n, rfl⟩ : ∃ k, n = k + 1 := ⟨n - 1, by omega⟩
  have run' : ∀ c : Int, exs GG (run GG T n) (some x.pd :: some y.pd :: List.replicate 11 none) b_mpf_cmp = some (.ret (.int c)) → run GG T (n + 1) 3 [x.pd, y.pd] = some (.int c) := fun c h => run_ret rfl ⟨Nat.le_refl _, Nat.le_add_right _ _⟩ h
  have hrep : List.replicate 11 (none : Option PyData) = [none, none, none, none, none, none, none, none, none, none, none] := rfl
  rw [hrep] at run'
  have sx := sign_spec (n := n) (by omega) hx
  have sy := sign_spec (n := n) (by omega) hy
  have z00 : ((0 : Int) == 0) = true := rfl
  by_cases h1 : x.m = 0
  · have hz := Fp.eq_zero hx h1
    have hg := sgn_neg hy
    refine ⟨-sgn y, run' _ ?_, ?_⟩
    · subst hz
      simp only [Fp.pd] at sy
      simp only [b_mpf_cmp, Fp.pd, Fp.zero, exs, ex, ev, evs, evB, get0, getS, List.set_cons_zero, List.set_cons_succ, setA0, setAS, Option.map_some, tr_int, tr_bool, neg_int, b_add, b_sub, b_and, b_xor, c_eq, c_ne, c_lt, c_le, c_gt, c_ge, Bool.not_true, Bool.not_false, if_true, if_false, Bool.false_eq_true, decide_true, decide_false, Int.natCast_one, Int.natCast_zero, Int.cast_ofNat_Int, beq_self_eq_true, List.length_cons, List.length_nil, Nat.reduceAdd, Nat.reduceLeDiff, Nat.zero_add, dat0, dat1, dat2, dat3, dat4, dat5, dat6, dat7, dat8, dat9, tab0, dsF, dsC, it0, it1, it2, it3, strne, strf, sg_f, bne_self_eq_false, nb_zero, eq4, z00, Bool.and_self, sy]
    · rw [hz, Fp.zero_v]
      exact ⟨⟨fun h => hg.2.mp (by omega), fun h => by have := hg.2.mpr h; omega⟩, ⟨fun h => hg.1.mp (by omega), fun h => by have := hg.1.mpr h; omega⟩⟩
  · have m1 : ((x.m : Int) != 0) = true := by simp [h1]
    have m1' : ((x.m : Int) == 0) = false := by simp [h1]
    by_cases h2 : y.m = 0
    · have hz := Fp.eq_zero hy h2
      have hg := sgn_neg hx
      refine ⟨sgn x, run' _ ?_, ?_⟩
      · subst hz
        simp only [Fp.pd] at sx
        simp only [b_mpf_cmp, Fp.pd, Fp.zero, exs, ex, ev, evs, evB, get0, getS, List.set_cons_zero, List.set_cons_succ, setA0, setAS, Option.map_some, tr_int, tr_bool, neg_int, b_add, b_sub, b_and, b_xor, c_eq, c_ne, c_lt, c_le, c_gt, c_ge, Bool.not_true, Bool.not_false, if_true, if_false, Bool.false_eq_true, decide_true, decide_false, Int.natCast_one, Int.natCast_zero, Int.cast_ofNat_Int, beq_self_eq_true, List.length_cons, List.length_nil, Nat.reduceAdd, Nat.reduceLeDiff, Nat.zero_add, dat0, dat1, dat2, dat3, dat4, dat5, dat6, dat7, dat8, dat9, tab0, dsF, dsC, it0, it1, it2, it3, strne, strf, sg_f, bne_self_eq_false, nb_zero, eq4, m1, m1', z00, Bool.and_self, Bool.and_false, Bool.false_and, sx]
      · rw [hz, Fp.zero_v]; exact hg
    · have m2 : ((y.m : Int) != 0) = true := by simp [h2]
      have n1 : ((1 : Int) != 0) = true := rfl
      have n0 : ((0 : Int) != 0) = false := rfl
      have n01 : ((0 : Int) != 1) = true := rfl
      have n10 : ((1 : Int) != 0) = true := rfl
      have n11 : ((1 : Int) != 1) = false := rfl
      by_cases hs : x.s = y.s
      · by_cases he : x.e = y.e
        · have ee : (y.e == y.e) = true := by simp
          by_cases hm : x.m = y.m
          · refine ⟨0, run' _ ?_, ?_⟩
            · cases hsy : y.s <;> rw [hsy] at hs <;> simp only [b_mpf_cmp, Fp.pd, exs, ex, ev, evs, evB, get0, getS, List.set_cons_zero, List.set_cons_succ, setA0, setAS, Option.map_some, tr_int, tr_bool, neg_int, b_add, b_sub, b_and, b_xor, c_eq, c_ne, c_lt, c_le, c_gt, c_ge, Bool.not_true, Bool.not_false, if_true, if_false, Bool.false_eq_true, decide_true, decide_false, Int.natCast_one, Int.natCast_zero, Int.cast_ofNat_Int, beq_self_eq_true, List.length_cons, List.length_nil, Nat.reduceAdd, Nat.reduceLeDiff, Nat.zero_add, dat0, dat1, dat2, dat3, dat4, dat5, dat6, dat7, dat8, dat9, tab0, dsF, dsC, it0, it1, it2, it3, strne, strf, sg_f, sg_t, hs, hsy, he, hm, m2, n0, n11, ee]
            · have : x.v = y.v := by unfold Fp.v Fp.N; rw [hs, hm, he]
              rw [this]
              constructor <;> constructor <;> intro h <;> grind
          · have e12 : ((x.m : Int) == y.m) = false := by simp; omega
            have hcmp : (x.v < y.v ↔ x.N < y.N) ∧ (y.v < x.v ↔ y.N < x.N) := by unfold Fp.v; rw [he, mg_lt, mg_lt]; exact ⟨Iff.rfl, Iff.rfl⟩
            rw [hcmp.1, hcmp.2]
            unfold Fp.N
            cases hsy : y.s <;> rw [hsy] at hs
            · by_cases hlt : (x.m : Int) > y.m
              · refine ⟨1, run' _ ?_, ?_⟩
                · simp only [b_mpf_cmp, Fp.pd, exs, ex, ev, evs, evB, get0, getS, List.set_cons_zero, List.set_cons_succ, setA0, setAS, Option.map_some, tr_int, tr_bool, neg_int, b_add, b_sub, b_and, b_xor, c_eq, c_ne, c_lt, c_le, c_gt, c_ge, Bool.not_true, Bool.not_false, if_true, if_false, Bool.false_eq_true, decide_true, decide_false, Int.natCast_one, Int.natCast_zero, Int.cast_ofNat_Int, beq_self_eq_true, List.length_cons, List.length_nil, Nat.reduceAdd, Nat.reduceLeDiff, Nat.zero_add, dat0, dat1, dat2, dat3, dat4, dat5, dat6, dat7, dat8, dat9, tab0, dsF, dsC, it0, it1, it2, it3, strne, strf, sg_f, sg_t, hs, hsy, he, m1, m2, n0, n1, n11, ee, e12, hlt]
                · simp only [hs, Bool.false_eq_true, if_false]; omega
              · refine ⟨-1, run' _ ?_, ?_⟩
                · simp only [b_mpf_cmp, Fp.pd, exs, ex, ev, evs, evB, get0, getS, List.set_cons_zero, List.set_cons_succ, setA0, setAS, Option.map_some, tr_int, tr_bool, neg_int, b_add, b_sub, b_and, b_xor, c_eq, c_ne, c_lt, c_le, c_gt, c_ge, Bool.not_true, Bool.not_false, if_true, if_false, Bool.false_eq_true, decide_true, decide_false, Int.natCast_one, Int.natCast_zero, Int.cast_ofNat_Int, beq_self_eq_true, List.length_cons, List.length_nil, Nat.reduceAdd, Nat.reduceLeDiff, Nat.zero_add, dat0, dat1, dat2, dat3, dat4, dat5, dat6, dat7, dat8, dat9, tab0, dsF, dsC, it0, it1, it2, it3, strne, strf, sg_f, sg_t, hs, hsy, he, m1, m2, n0, n1, n11, ee, e12, hlt]
                · simp only [hs, Bool.false_eq_true, if_false]; omega
            · by_cases hlt : (x.m : Int) > y.m
              · refine ⟨-1, run' _ ?_, ?_⟩
                · simp only [b_mpf_cmp, Fp.pd, exs, ex, ev, evs, evB, get0, getS, List.set_cons_zero, List.set_cons_succ, setA0, setAS, Option.map_some, tr_int, tr_bool, neg_int, b_add, b_sub, b_and, b_xor, c_eq, c_ne, c_lt, c_le, c_gt, c_ge, Bool.not_true, Bool.not_false, if_true, if_false, Bool.false_eq_true, decide_true, decide_false, Int.natCast_one, Int.natCast_zero, Int.cast_ofNat_Int, beq_self_eq_true, List.length_cons, List.length_nil, Nat.reduceAdd, Nat.reduceLeDiff, Nat.zero_add, dat0, dat1, dat2, dat3, dat4, dat5, dat6, dat7, dat8, dat9, tab0, dsF, dsC, it0, it1, it2, it3, strne, strf, sg_f, sg_t, hs, hsy, he, m1, m2, n0, n1, n11, ee, e12, hlt]
                · simp only [hs, if_true]; omega
              · refine ⟨1, run' _ ?_, ?_⟩
                · simp only [b_mpf_cmp, Fp.pd, exs, ex, ev, evs, evB, get0, getS, List.set_cons_zero, List.set_cons_succ, setA0, setAS, Option.map_some, tr_int, tr_bool, neg_int, b_add, b_sub, b_and, b_xor, c_eq, c_ne, c_lt, c_le, c_gt, c_ge, Bool.not_true, Bool.not_false, if_true, if_false, Bool.false_eq_true, decide_true, decide_false, Int.natCast_one, Int.natCast_zero, Int.cast_ofNat_Int, beq_self_eq_true, List.length_cons, List.length_nil, Nat.reduceAdd, Nat.reduceLeDiff, Nat.zero_add, dat0, dat1, dat2, dat3, dat4, dat5, dat6, dat7, dat8, dat9, tab0, dsF, dsC, it0, it1, it2, it3, strne, strf, sg_f, sg_t, hs, hsy, he, m1, m2, n0, n1, n11, ee, e12, hlt]
                · simp only [hs, if_true]; omega
        · have e12 : (x.e == y.e) = false := by simp [he]
          rcases (show (nb x.m : Int) + x.e < nb y.m + y.e ∨ (nb x.m : Int) + x.e > nb y.m + y.e ∨ (nb x.m : Int) + x.e = nb y.m + y.e by omega) with hh | hh | hh
          · have hml := mag_lt hh h2
            cases hsy : y.s <;> rw [hsy] at hs
            · refine ⟨-1, run' _ ?_, ?_⟩
              · simp only [b_mpf_cmp, Fp.pd, exs, ex, ev, evs, evB, get0, getS, List.set_cons_zero, List.set_cons_succ, setA0, setAS, Option.map_some, tr_int, tr_bool, neg_int, b_add, b_sub, b_and, b_xor, c_eq, c_ne, c_lt, c_le, c_gt, c_ge, Bool.not_true, Bool.not_false, if_true, if_false, Bool.false_eq_true, decide_true, decide_false, Int.natCast_one, Int.natCast_zero, Int.cast_ofNat_Int, beq_self_eq_true, List.length_cons, List.length_nil, Nat.reduceAdd, Nat.reduceLeDiff, Nat.zero_add, dat0, dat1, dat2, dat3, dat4, dat5, dat6, dat7, dat8, dat9, tab0, dsF, dsC, it0, it1, it2, it3, strne, strf, sg_f, sg_t, hs, hsy, m1, m2, n0, n1, n11, e12, hh]
              · rw [Fp.v_f hs, Fp.v_f hsy]
                constructor <;> constructor <;> intro h <;> grind
            · refine ⟨1, run' _ ?_, ?_⟩
              · simp only [b_mpf_cmp, Fp.pd, exs, ex, ev, evs, evB, get0, getS, List.set_cons_zero, List.set_cons_succ, setA0, setAS, Option.map_some, tr_int, tr_bool, neg_int, b_add, b_sub, b_and, b_xor, c_eq, c_ne, c_lt, c_le, c_gt, c_ge, Bool.not_true, Bool.not_false, if_true, if_false, Bool.false_eq_true, decide_true, decide_false, Int.natCast_one, Int.natCast_zero, Int.cast_ofNat_Int, beq_self_eq_true, List.length_cons, List.length_nil, Nat.reduceAdd, Nat.reduceLeDiff, Nat.zero_add, dat0, dat1, dat2, dat3, dat4, dat5, dat6, dat7, dat8, dat9, tab0, dsF, dsC, it0, it1, it2, it3, strne, strf, sg_f, sg_t, hs, hsy, m1, m2, n0, n1, n11, e12, hh]
              · rw [Fp.v_t hs, Fp.v_t hsy]
                constructor <;> constructor <;> intro h <;> grind
          · have hml := mag_lt hh h1
            have hnl : ((nb x.m : Int) + x.e < nb y.m + y.e) = False := by simp; omega
            cases hsy : y.s <;> rw [hsy] at hs
            · refine ⟨1, run' _ ?_, ?_⟩
              · simp only [b_mpf_cmp, Fp.pd, exs, ex, ev, evs, evB, get0, getS, List.set_cons_zero, List.set_cons_succ, setA0, setAS, Option.map_some, tr_int, tr_bool, neg_int, b_add, b_sub, b_and, b_xor, c_eq, c_ne, c_lt, c_le, c_gt, c_ge, Bool.not_true, Bool.not_false, if_true, if_false, Bool.false_eq_true, decide_true, decide_false, Int.natCast_one, Int.natCast_zero, Int.cast_ofNat_Int, beq_self_eq_true, List.length_cons, List.length_nil, Nat.reduceAdd, Nat.reduceLeDiff, Nat.zero_add, dat0, dat1, dat2, dat3, dat4, dat5, dat6, dat7, dat8, dat9, tab0, dsF, dsC, it0, it1, it2, it3, strne, strf, sg_f, sg_t, hs, hsy, m1, m2, n0, n1, n11, e12, hnl, hh]
              · rw [Fp.v_f hs, Fp.v_f hsy]
                constructor <;> constructor <;> intro h <;> grind
            · refine ⟨-1, run' _ ?_, ?_⟩
              · simp only [b_mpf_cmp, Fp.pd, exs, ex, ev, evs, evB, get0, getS, List.set_cons_zero, List.set_cons_succ, setA0, setAS, Option.map_some, tr_int, tr_bool, neg_int, b_add, b_sub, b_and, b_xor, c_eq, c_ne, c_lt, c_le, c_gt, c_ge, Bool.not_true, Bool.not_false, if_true, if_false, Bool.false_eq_true, decide_true, decide_false, Int.natCast_one, Int.natCast_zero, Int.cast_ofNat_Int, beq_self_eq_true, List.length_cons, List.length_nil, Nat.reduceAdd, Nat.reduceLeDiff, Nat.zero_add, dat0, dat1, dat2, dat3, dat4, dat5, dat6, dat7, dat8, dat9, tab0, dsF, dsC, it0, it1, it2, it3, strne, strf, sg_f, sg_t, hs, hsy, m1, m2, n0, n1, n11, e12, hnl, hh]
              · rw [Fp.v_t hs, Fp.v_t hsy]
                constructor <;> constructor <;> intro h <;> grind
          · obtain ⟨z, hz, hzs⟩ := sub_spec (n := n) (by omega) hs h1 h2 hx hy hb1 hb2 he hh
            have hne : x.v ≠ y.v := fun c => he (by rw [Fp.inj hx hy c])
            have hnl : ((nb x.m : Int) + x.e < nb y.m + y.e) = False := by simp; omega
            have hng : ((nb x.m : Int) + x.e > nb y.m + y.e) = False := by simp; omega
            simp only [Fp.pd] at hz
            by_cases hv : x.v < y.v
            · refine ⟨-1, run' _ ?_, ?_⟩
              · have hzt : z.s = true := by rw [hzs]; simp [hv]
                rw [hzt] at hz
                cases hsy : y.s <;> rw [hsy] at hs hz <;> rw [hs] at hz <;> simp only [sg_f, sg_t] at hz <;> simp only [b_mpf_cmp, Fp.pd, exs, ex, ev, evs, evB, get0, getS, List.set_cons_zero, List.set_cons_succ, setA0, setAS, Option.map_some, tr_int, tr_bool, neg_int, b_add, b_sub, b_and, b_xor, c_eq, c_ne, c_lt, c_le, c_gt, c_ge, Bool.not_true, Bool.not_false, if_true, if_false, Bool.false_eq_true, decide_true, decide_false, Int.natCast_one, Int.natCast_zero, Int.cast_ofNat_Int, beq_self_eq_true, List.length_cons, List.length_nil, Nat.reduceAdd, Nat.reduceLeDiff, Nat.zero_add, dat0, dat1, dat2, dat3, dat4, dat5, dat6, dat7, dat8, dat9, tab0, dsF, dsC, it0, it1, it2, it3, strne, strf, sg_f, sg_t, hs, hsy, m1, m2, n0, n1, n11, e12, hnl, hng, hz]
              · constructor <;> constructor <;> intro h <;> grind
            · refine ⟨1, run' _ ?_, ?_⟩
              · have hzt : z.s = false := by rw [hzs]; simp [hv]
                rw [hzt] at hz
                cases hsy : y.s <;> rw [hsy] at hs hz <;> rw [hs] at hz <;> simp only [sg_f, sg_t] at hz <;> simp only [b_mpf_cmp, Fp.pd, exs, ex, ev, evs, evB, get0, getS, List.set_cons_zero, List.set_cons_succ, setA0, setAS, Option.map_some, tr_int, tr_bool, neg_int, b_add, b_sub, b_and, b_xor, c_eq, c_ne, c_lt, c_le, c_gt, c_ge, Bool.not_true, Bool.not_false, if_true, if_false, Bool.false_eq_true, decide_true, decide_false, Int.natCast_one, Int.natCast_zero, Int.cast_ofNat_Int, beq_self_eq_true, List.length_cons, List.length_nil, Nat.reduceAdd, Nat.reduceLeDiff, Nat.zero_add, dat0, dat1, dat2, dat3, dat4, dat5, dat6, dat7, dat8, dat9, tab0, dsF, dsC, it0, it1, it2, it3, strne, strf, sg_f, sg_t, hs, hsy, m1, m2, n0, n1, n11, e12, hnl, hng, hz]
              · constructor <;> constructor <;> intro h <;> grind
      · cases hsx : x.s
        · have hsy : y.s = true := by cases hh : y.s; exact absurd (hsx.trans hh.symm) hs; rfl
          have a1 := Fp.v_pos.mpr ⟨hsx, h1⟩
          have a2 := Fp.v_neg'.mpr ⟨hsy, h2⟩
          refine ⟨1, run' _ ?_, ?_⟩
          · simp only [b_mpf_cmp, Fp.pd, exs, ex, ev, evs, evB, get0, getS, List.set_cons_zero, List.set_cons_succ, setA0, setAS, Option.map_some, tr_int, tr_bool, neg_int, b_add, b_sub, b_and, b_xor, c_eq, c_ne, c_lt, c_le, c_gt, c_ge, Bool.not_true, Bool.not_false, if_true, if_false, Bool.false_eq_true, decide_true, decide_false, Int.natCast_one, Int.natCast_zero, Int.cast_ofNat_Int, beq_self_eq_true, List.length_cons, List.length_nil, Nat.reduceAdd, Nat.reduceLeDiff, Nat.zero_add, dat0, dat1, dat2, dat3, dat4, dat5, dat6, dat7, dat8, dat9, tab0, dsF, dsC, it0, it1, it2, it3, strne, strf, sg_f, sg_t, hsx, hsy, m1, m2, n0, n1, n01, n10]
          · constructor <;> constructor <;> intro h <;> grind
        · have hsy : y.s = false := by cases hh : y.s; rfl; exact absurd (hsx.trans hh.symm) hs
          have a1 := Fp.v_neg'.mpr ⟨hsx, h1⟩
          have a2 := Fp.v_pos.mpr ⟨hsy, h2⟩
          refine ⟨-1, run' _ ?_, ?_⟩
          · simp only [b_mpf_cmp, Fp.pd, exs, ex, ev, evs, evB, get0, getS, List.set_cons_zero, List.set_cons_succ, setA0, setAS, Option.map_some, tr_int, tr_bool, neg_int, b_add, b_sub, b_and, b_xor, c_eq, c_ne, c_lt, c_le, c_gt, c_ge, Bool.not_true, Bool.not_false, if_true, if_false, Bool.false_eq_true, decide_true, decide_false, Int.natCast_one, Int.natCast_zero, Int.cast_ofNat_Int, beq_self_eq_true, List.length_cons, List.length_nil, Nat.reduceAdd, Nat.reduceLeDiff, Nat.zero_add, dat0, dat1, dat2, dat3, dat4, dat5, dat6, dat7, dat8, dat9, tab0, dsF, dsC, it0, it1, it2, it3, strne, strf, sg_f, sg_t, hsx, hsy, m1, m2, n0, n1, n01, n10]
          · constructor <;> constructor <;> intro h <;> grind

theorem nan_ne (x : Fp) : ((nb x.m : Int) == -1) = false := by simp <;> omega
theorem lt_spec {n : Nat} (hn : 7 ≤ n) {x y : Fp} (hx : x.ok) (hy : y.ok) (hb1 : nb x.m ≤ 1000) (hb2 : nb y.m ≤ 1000) : run GG T n 4 [x.pd, y.pd] = some (.bool (decide (x.v < y.v))) := by
  obtain ⟨n, rfl⟩ : ∃ k, n = k + 1 := ⟨n - 1, by omega⟩
  obtain ⟨c, hc, h1, h2⟩ := cmp_spec (n := n) (by omega) hx hy hb1 hb2
  refine run_ret rfl ⟨Nat.le_refl _, Nat.le_add_right _ _⟩ ?_
  show exs GG _ [some x.pd, some y.pd] b_mpf_lt = _
  simp only [Fp.pd] at hc
  simp only [b_mpf_lt, Fp.pd, exs, ex, ev, evs, evB, get0, getS, List.set_cons_zero, List.set_cons_succ, setA0, setAS, Option.map_some, tr_int, tr_bool, neg_int, b_add, b_sub, b_and, b_xor, c_eq, c_ne, c_lt, c_le, c_gt, c_ge, Bool.not_true, Bool.not_false, if_true, if_false, Bool.false_eq_true, decide_true, decide_false, Int.natCast_one, Int.natCast_zero, Int.cast_ofNat_Int, beq_self_eq_true, List.length_cons, List.length_nil, Nat.reduceAdd, Nat.reduceLeDiff, Nat.zero_add, dat0, dat1, dat2, dat3, dat4, dat5, dat6, dat7, dat8, dat9, tab0, dsF, dsC, it0, it1, it2, it3, strne, strf, eq4, nan_ne, Bool.and_false, hc, h1]
theorem gt_spec {n : Nat} (hn : 7 ≤ n) {x y : Fp} (hx : x.ok) (hy : y.ok) (hb1 : nb x.m ≤ 1000) (hb2 : nb y.m ≤ 1000) : run GG T n 6 [x.pd, y.pd] = some (.bool (decide (y.v < x.v))) := by
  obtain ⟨n, rfl⟩ : ∃ k, n = k + 1 := ⟨n - 1, by omega⟩
  obtain ⟨c, hc, h1, h2⟩ := cmp_spec (n := n) (by omega) hx hy hb1 hb2
  refine run_ret rfl ⟨Nat.le_refl _, Nat.le_add_right _ _⟩ ?_
  show exs GG _ [some x.pd, some y.pd] b_mpf_gt = _
  simp only [Fp.pd] at hc
  simp only [b_mpf_gt, Fp.pd, exs, ex, ev, evs, evB, get0, getS, List.set_cons_zero, List.set_cons_succ, setA0, setAS, Option.map_some, tr_int, tr_bool, neg_int, b_add, b_sub, b_and, b_xor, c_eq, c_ne, c_lt, c_le, c_gt, c_ge, Bool.not_true, Bool.not_false, if_true, if_false, Bool.false_eq_true, decide_true, decide_false, Int.natCast_one, Int.natCast_zero, Int.cast_ofNat_Int, beq_self_eq_true, List.length_cons, List.length_nil, Nat.reduceAdd, Nat.reduceLeDiff, Nat.zero_add, dat0, dat1, dat2, dat3, dat4, dat5, dat6, dat7, dat8, dat9, tab0, dsF, dsC, it0, it1, it2, it3, strne, strf, eq4, nan_ne, Bool.and_false, hc, h2]
theorem le_spec {n : Nat} (hn : 7 ≤ n) {x y : Fp} (hx : x.ok) (hy : y.ok) (hb1 : nb x.m ≤ 1000) (hb2 : nb y.m ≤ 1000) : run GG T n 5 [x.pd, y.pd] = some (.bool (decide (x.v ≤ y.v))) := by
  obtain ⟨n, rfl⟩ : ∃ k, n = k + 1 := ⟨n - 1, by omega⟩
  obtain ⟨c, hc, h1, h2⟩ := cmp_spec (n := n) (by omega) hx hy hb1 hb2
  have h3 : c ≤ 0 ↔ x.v ≤ y.v := by rw [← Rat.not_lt, ← h2]; omega
  refine run_ret rfl ⟨Nat.le_refl _, Nat.le_add_right _ _⟩ ?_
  show exs GG _ [some x.pd, some y.pd] b_mpf_le = _
  simp only [Fp.pd] at hc
  simp only [b_mpf_le, Fp.pd, exs, ex, ev, evs, evB, get0, getS, List.set_cons_zero, List.set_cons_succ, setA0, setAS, Option.map_some, tr_int, tr_bool, neg_int, b_add, b_sub, b_and, b_xor, c_eq, c_ne, c_lt, c_le, c_gt, c_ge, Bool.not_true, Bool.not_false, if_true, if_false, Bool.false_eq_true, decide_true, decide_false, Int.natCast_one, Int.natCast_zero, Int.cast_ofNat_Int, beq_self_eq_true, List.length_cons, List.length_nil, Nat.reduceAdd, Nat.reduceLeDiff, Nat.zero_add, dat0, dat1, dat2, dat3, dat4, dat5, dat6, dat7, dat8, dat9, tab0, dsF, dsC, it0, it1, it2, it3, strne, strf, eq4, nan_ne, Bool.and_false, hc, h3]
theorem ge_spec {n : Nat} (hn : 7 ≤ n) {x y : Fp} (hx : x.ok) (hy : y.ok) (hb1 : nb x.m ≤ 1000) (hb2 : nb y.m ≤ 1000) : run GG T n 7 [x.pd, y.pd] = some (.bool (decide (y.v ≤ x.v))) := by
  obtain ⟨n, rfl⟩ : ∃ k, n = k + 1 := ⟨n - 1, by omega⟩
  obtain ⟨c, hc, h1, h2⟩ := cmp_spec (n := n) (by omega) hx hy hb1 hb2
  have h3 : c ≥ 0 ↔ y.v ≤ x.v := by rw [← Rat.not_lt, ← h1]; omega
  refine run_ret rfl ⟨Nat.le_refl _, Nat.le_add_right _ _⟩ ?_
  show exs GG _ [some x.pd, some y.pd] b_mpf_ge = _
  simp only [Fp.pd] at hc
  simp only [b_mpf_ge, Fp.pd, exs, ex, ev, evs, evB, get0, getS, List.set_cons_zero, List.set_cons_succ, setA0, setAS, Option.map_some, tr_int, tr_bool, neg_int, b_add, b_sub, b_and, b_xor, c_eq, c_ne, c_lt, c_le, c_gt, c_ge, Bool.not_true, Bool.not_false, if_true, if_false, Bool.false_eq_true, decide_true, decide_false, Int.natCast_one, Int.natCast_zero, Int.cast_ofNat_Int, beq_self_eq_true, List.length_cons, List.length_nil, Nat.reduceAdd, Nat.reduceLeDiff, Nat.zero_add, dat0, dat1, dat2, dat3, dat4, dat5, dat6, dat7, dat8, dat9, tab0, dsF, dsC, it0, it1, it2, it3, strne, strf, eq4, nan_ne, Bool.and_false, hc, h3]
end Mine

end

-- part Sp5
section
open PySem
set_option maxRecDepth 100000
set_option linter.unusedVariables false
set_option linter.unusedSimpArgs false
namespace Mine

structure Sm (x : Fp) : Prop where
  ok : x.ok
  nb : nb x.m ≤ 1000

def mmBody : ISs := (.cons (.ite (.call 4 (.cons (.loc 3) (.cons (.loc 1) .nil))) (.cons (.set 1 (.loc 3)) .nil) .nil) (.cons (.ite (.call 6 (.cons (.loc 3) (.cons (.loc 2) .nil))) (.cons (.set 2 (.loc 3)) .nil) .nil) .nil))
theorem mm_for {n : Nat} (hn : 7 ≤ n) (L : Option PyData) : ∀ (xs : List Fp) (mn mx : Fp) (o : Option PyData), (∀ x ∈ xs, Sm x) → Sm mn → Sm mx →
    ∃ (mn' mx' : Fp) (o' : Option PyData), forD (fun d ρ => exs GG (run GG T n) (ρ.set 3 (some d)) mmBody) (xs.map Fp.pd) [L, some mn.pd, some mx.pd, o] = some (.next [L, some mn'.pd, some mx'.pd, o']) ∧
      Sm mn' ∧ Sm mx' ∧ (mn' = mn ∨ mn' ∈ xs) ∧ (mx' = mx ∨ mx' ∈ xs) ∧ mn'.v ≤ mn.v ∧ mx.v ≤ mx'.v ∧ ∀ x ∈ xs, mn'.v ≤ x.v ∧ x.v ≤ mx'.v
  | [], mn, mx, o, _, h1, h2 => ⟨mn, mx, o, rfl, h1, h2, .inl rfl, .inl rfl, Rat.le_refl, Rat.le_refl, fun x hx => by cases hx⟩
  | x :: xs, mn, mx, o, hx, h1, h2 => by
    have sx := hx x (List.mem_cons_self ..)
    have l := lt_spec hn sx.ok h1.ok sx.nb h1.nb
    have g := gt_spec hn sx.ok h2.ok sx.nb h2.nb
    obtain ⟨mn1, e1, s1, c1, b1, b2⟩ : ∃ mn1 : Fp, mn1 = (if x.v < mn.v then x else mn) ∧ Sm mn1 ∧ (mn1 = mn ∨ mn1 = x) ∧ mn1.v ≤ mn.v ∧ mn1.v ≤ x.v := by
      by_cases h : x.v < mn.v
      · exact ⟨x, (if_pos h).symm, sx, .inr rfl, Rat.le_of_lt h, Rat.le_refl⟩
      · exact ⟨mn, (if_neg h).symm, h1, .inl rfl, Rat.le_refl, Rat.not_lt.mp h⟩
    obtain ⟨mx1, e2, s2, c2, b3, b4⟩ : ∃ mx1 : Fp, mx1 = (if mx.v < x.v then x else mx) ∧ Sm mx1 ∧ (mx1 = mx ∨ mx1 = x) ∧ mx.v ≤ mx1.v ∧ x.v ≤ mx1.v := by
      by_cases h : mx.v < x.v
      · exact ⟨x, (if_pos h).symm, sx, .inr rfl, Rat.le_of_lt h, Rat.le_refl⟩
      · exact ⟨mx, (if_neg h).symm, h2, .inl rfl, Rat.le_refl, Rat.not_lt.mp h⟩
    have step : exs GG (run GG T n) ([L, some mn.pd, some mx.pd, o].set 3 (some x.pd)) mmBody = some (.next [L, some mn1.pd, some mx1.pd, some x.pd]) := by
      by_cases q1 : x.v < mn.v <;> by_cases q2 : mx.v < x.v <;> simp only [mmBody, exs, ex, ev, evs, evB, get0, getS, List.set_cons_zero, List.set_cons_succ, setA0, setAS, Option.map_some, tr_int, tr_bool, neg_int, b_add, b_sub, b_and, b_xor, c_eq, c_ne, c_lt, c_le, c_gt, c_ge, Bool.not_true, Bool.not_false, if_true, if_false, Bool.false_eq_true, decide_true, decide_false, Int.natCast_one, Int.natCast_zero, Int.cast_ofNat_Int, beq_self_eq_true, List.length_cons, List.length_nil, Nat.reduceAdd, Nat.reduceLeDiff, Nat.zero_add, dat0, dat1, dat2, dat3, dat4, dat5, dat6, dat7, dat8, dat9, tab0, dsF, dsC, it0, it1, it2, it3, strne, strf, l, g, q1, q2, e1, e2]
    obtain ⟨mn', mx', o', hf, t1, t2, t3, t4, t5, t6, t7⟩ := mm_for hn L xs mn1 mx1 (some x.pd) (fun y hy => hx y (List.mem_cons_of_mem _ hy)) s1 s2
    refine ⟨mn', mx', o', ?_, t1, t2, ?_, ?_, Rat.le_trans t5 b1, Rat.le_trans b3 t6, fun y hy => ?_⟩
    · rw [List.map_cons, forD, step]; exact hf
    · rcases t3 with t | t
      · rcases c1 with c | c
        · exact .inl (t.trans c)
        · exact .inr (by rw [t, c]; exact List.mem_cons_self ..)
      · exact .inr (List.mem_cons_of_mem _ t)
    · rcases t4 with t | t
      · rcases c2 with c | c
        · exact .inl (t.trans c)
        · exact .inr (by rw [t, c]; exact List.mem_cons_self ..)
      · exact .inr (List.mem_cons_of_mem _ t)
    · rcases List.mem_cons.mp hy with rfl | hy
      · exact ⟨Rat.le_trans t5 b2, Rat.le_trans b4 t6⟩
      · exact t7 y hy
theorem mm_spec {n : Nat} (hn : 8 ≤ n) (x : Fp) (xs : List Fp) (hl : xs.length < 10) (hx : ∀ y ∈ x :: xs, Sm y) :
    ∃ mn mx : Fp, run GG T n 8 [.list ((x :: xs).map Fp.pd)] = some (.tuple [mn.pd, mx.pd]) ∧ mn ∈ x :: xs ∧ mx ∈ x :: xs ∧ ∀ y ∈ x :: xs, mn.v ≤ y.v ∧ y.v ≤ mx.v := by
  obtain ⟨n, rfl⟩ : ∃ k, n = k + 1 := ⟨n - 1, by omega⟩
  have sx := hx x (List.mem_cons_self ..)
  obtain ⟨mn', mx', o', hf, t1, t2, t3, t4, t5, t6, t7⟩ := mm_for (n := n) (by omega) (some (.list ((x :: xs).map Fp.pd))) xs x x none (fun y hy => hx y (List.mem_cons_of_mem _ hy)) sx sx
  refine ⟨mn', mx', run_ret rfl ⟨Nat.le_refl _, Nat.le_add_right _ _⟩ ?_, ?_, ?_, fun y hy => ?_⟩
  · show exs GG _ [some (.list ((x :: xs).map Fp.pd)), none, none, none] b_mpf_min_max = _
    have ht : tailD (.list ((x :: xs).map Fp.pd)) = some (.list (xs.map Fp.pd)) := by
      show (if 1 ≤ ((x :: xs).map Fp.pd).length ∧ ((x :: xs).map Fp.pd).length ≤ 1000 then some (PyData.list (((x :: xs).map Fp.pd).drop 1)) else none) = _
      rw [if_pos (by simp; omega)]; rfl
    have hi : itemD (.list ((x :: xs).map Fp.pd)) (.int 0) = some x.pd := rfl
    have hlen : (xs.map Fp.pd).length ≤ 1000 := by simp; omega
    unfold b_mpf_min_max
    refine (exs_next (ρ' := [some (.list ((x :: xs).map Fp.pd)), some x.pd, some x.pd, none]) (by simp only [exs, ex, ev, evs, evB, get0, getS, List.set_cons_zero, List.set_cons_succ, setA0, setAS, Option.map_some, tr_int, tr_bool, neg_int, b_add, b_sub, b_and, b_xor, c_eq, c_ne, c_lt, c_le, c_gt, c_ge, Bool.not_true, Bool.not_false, if_true, if_false, Bool.false_eq_true, decide_true, decide_false, Int.natCast_one, Int.natCast_zero, Int.cast_ofNat_Int, beq_self_eq_true, List.length_cons, List.length_nil, Nat.reduceAdd, Nat.reduceLeDiff, Nat.zero_add, dat0, dat1, dat2, dat3, dat4, dat5, dat6, dat7, dat8, dat9, tab0, dsF, dsC, it0, it1, it2, it3, strne, strf, hi])).trans ?_
    refine (exs_next (ρ' := [some (.list ((x :: xs).map Fp.pd)), some mn'.pd, some mx'.pd, o']) ?_).trans ?_
    · simp only [ex, ev, get0, ht]
      rw [if_pos hlen]
      exact hf
    · simp only [exs, ex, ev, evs, evB, get0, getS, List.set_cons_zero, List.set_cons_succ, setA0, setAS, Option.map_some, tr_int, tr_bool, neg_int, b_add, b_sub, b_and, b_xor, c_eq, c_ne, c_lt, c_le, c_gt, c_ge, Bool.not_true, Bool.not_false, if_true, if_false, Bool.false_eq_true, decide_true, decide_false, Int.natCast_one, Int.natCast_zero, Int.cast_ofNat_Int, beq_self_eq_true, List.length_cons, List.length_nil, Nat.reduceAdd, Nat.reduceLeDiff, Nat.zero_add, dat0, dat1, dat2, dat3, dat4, dat5, dat6, dat7, dat8, dat9, tab0, dsF, dsC, it0, it1, it2, it3, strne, strf]
  · rcases t3 with t | t
    · rw [t]; exact List.mem_cons_self ..
    · exact List.mem_cons_of_mem _ t
  · rcases t4 with t | t
    · rw [t]; exact List.mem_cons_self ..
    · exact List.mem_cons_of_mem _ t
  · rcases List.mem_cons.mp hy with rfl | hy
    · exact ⟨t5, t6⟩
    · exact t7 y hy

theorem Rnd_ok (d : Bool) (p : Nat) (N e : Int) : (Rnd d p N e).ok := mkF_ok _ _
theorem Rnd_nb {p : Nat} (hp : 1 ≤ p) (d : Bool) (N e : Int) : nb (Rnd d p N e).m ≤ p := mkF_nb hp (Rnd_abs d p N)
theorem Rnd_e {p : Nat} (d : Bool) (N e : Int) {B : Nat} (h : e.natAbs + nb N.natAbs + p ≤ B) : (Rnd d p N e).e.natAbs ≤ B := by
  have := Fp.R_e (p := p) (x := ⟨decide (N < 0), N.natAbs, e⟩) d h
  have hN : (Fp.mk (decide (N < 0)) N.natAbs e).N = N := by
    unfold Fp.N
    by_cases h : N < 0 <;> simp [h] <;> omega
  unfold Fp.R at this
  rw [hN] at this
  exact this
theorem even_low {k q : Int} {n : Nat} (hn : 1 ≤ n) (h : k * 2 ^ n ≤ 2 * q + 1) : k * 2 ^ n ≤ 2 * q := by
  have e : k * 2 ^ n = 2 * (k * 2 ^ (n - 1)) := by
    rw [show n = n - 1 + 1 by omega, Int.pow_succ]; simp; rw [Int.mul_comm 2, Int.mul_assoc]
  omega
theorem even_high {k q : Int} {n : Nat} (hn : 1 ≤ n) (h : 2 * q + 1 ≤ k * 2 ^ n) : 2 * q + 2 ≤ k * 2 ^ n := by
  have e : k * 2 ^ n = 2 * (k * 2 ^ (n - 1)) := by
    rw [show n = n - 1 + 1 by omega, Int.pow_succ]; simp; rw [Int.mul_comm 2, Int.mul_assoc]
  omega
theorem sticky_low {p : Nat} {q E : Int} (h : p < nb (2 * q + 1).natAbs) : (Rnd true p (2 * q + 1) E).v ≤ mg (2 * q) E := by
  unfold Rnd
  rw [mkF_v, if_pos rfl, ← mg_shift, mg_le]
  exact even_low (by omega) (Int.ediv_mul_le _ (Int.ne_of_gt (pow2_pos _)))
theorem sticky_high {p : Nat} {q E : Int} (h : p < nb (2 * q + 1).natAbs) : mg (2 * q + 2) E ≤ (Rnd false p (2 * q + 1) E).v := by
  unfold Rnd
  rw [mkF_v, ← mg_shift, mg_le]
  simp only [Bool.false_eq_true, if_false]
  refine even_high (by omega) ?_
  have := Int.ediv_mul_le (-(2 * q + 1)) (Int.ne_of_gt (pow2_pos (nb (2 * q + 1).natAbs - p)))
  rw [Int.neg_mul]
  omega
def w1 (s : Bool) : Rat := if s then -1 else 1
/-- a quotient rounded the way asked encloses 1/y -/
theorem enc {p : Nat} (hp : 1 ≤ p) (s d : Bool) {Q E : Int} {y lo hi : Rat} (hy : 0 < y) (hlo : (Rnd true p Q E).v ≤ lo) (hhi : hi ≤ (Rnd false p Q E).v) (h1 : lo * y ≤ 1) (h2 : 1 ≤ hi * y) :
    (d = true → (Rnd d p (if s then -Q else Q) E).v * y ≤ w1 s) ∧ (d = false → w1 s ≤ (Rnd d p (if s then -Q else Q) E).v * y) := by
  have a1 := Rat.mul_le_mul_of_nonneg_right hlo (Rat.le_of_lt hy)
  have a2 := Rat.mul_le_mul_of_nonneg_right hhi (Rat.le_of_lt hy)
  cases s <;> cases d <;> simp only [Bool.false_eq_true, if_false, if_true, w1, Rnd_neg, Fp.neg_v, Bool.not_true, Bool.not_false, false_implies, true_implies, and_true, true_and, forall_const, reduceCtorEq] <;> grind
theorem divmodI {a : Int} {b : Int} (h : 0 < b) (h2 : bits b ≤ 1000) : biD .divmod [.int a, .int b] = some (.tuple [.int (a / b), .int (a % b)]) := by
  show (if b ≠ 0 ∧ bits b ≤ 1000 then some (PyData.tuple [.int (a.fdiv b), .int (a.fmod b)]) else none) = _
  rw [if_pos ⟨by omega, h2⟩, Int.fdiv_eq_ediv_of_nonneg _ (by omega), Int.fmod_eq_emod_of_nonneg _ (by omega)]
theorem shl1 (a : Int) (h : bits a + 1 ≤ 2 ^ 27) : binD .LShift (.int a) (.int 1) = some (.int (a * 2)) := by
  have := b_shl (a := a) (n := 1) h
  simpa using this
section
variable {C : Nat → List PyData → Option PyData} {ρ : Loc} {a b : IE} {x y z : PyData}
theorem evBin {op : Operator} (h1 : ev GG C ρ a = some x) (h2 : ev GG C ρ b = some y) (h3 : binD op x y = some z) : ev GG C ρ (.bin op a b) = some z := by
  rw [ev, h1, h2]; exact h3
theorem exSet {i : Nat} (h : ev GG C ρ a = some x) : ex GG C ρ (.set i a) = some (.next (ρ.set i (some x))) := by
  rw [ex, h]
theorem exIteF {t e : ISs} (h : ev GG C ρ a = some x) (ht : truth x = some false) : ex GG C ρ (.ite a t e) = exs GG C ρ e := by
  rw [ex, h]; simp only [ht]
theorem exIteT {t e : ISs} (h : ev GG C ρ a = some x) (ht : truth x = some true) : ex GG C ρ (.ite a t e) = exs GG C ρ t := by
  rw [ex, h]; simp only [ht]
end
theorem dv3 {C : Nat → List PyData → Option PyData} {q Q r x p : Nat} {s d : Bool} {y : Fp} (hre : ((r : Int) != 0) = true) (hcast : (q : Int) * 2 + 1 = (Q : Int)) (hsh1 : binD .LShift (.int (q : Int)) (.int 1) = some (.int ((q : Int) * 2))) : ex GG C [some (Fp.pd ⟨s, 1, 0⟩), some y.pd, some (.int p), some (rs d), some (.int (sg s)), some (.int 1), some (.int 0), some (.int 1), some (.int 0), some (.int y.m), some (.int y.e), some (.int (nb y.m)), none, none, some (.int (sg s)), some (.int (x : Int)), some (.int (q : Int)), some (.int (r : Int)), none] (.ite (.loc 17) (.cons (.set 16 (.bin .Add (.bin .LShift (.loc 16) (.int 1)) (.int 1))) (.cons (.aug 15 .Add (.int 1)) .nil)) .nil) = exs GG C [some (Fp.pd ⟨s, 1, 0⟩), some y.pd, some (.int p), some (rs d), some (.int (sg s)), some (.int 1), some (.int 0), some (.int 1), some (.int 0), some (.int y.m), some (.int y.e), some (.int (nb y.m)), none, none, some (.int (sg s)), some (.int (x : Int)), some (.int (q : Int)), some (.int (r : Int)), none] (.cons (.set 16 (.bin .Add (.bin .LShift (.loc 16) (.int 1)) (.int 1))) (.cons (.aug 15 .Add (.int 1)) .nil)) := exIteT (x := .int (r : Int)) (by simp only [exs, ex, ev, evs, evB, get0, getS, List.set_cons_zero, List.set_cons_succ, setA0, setAS, Option.map_some, tr_int, tr_bool, neg_int, b_add, b_sub, b_and, b_xor, c_eq, c_ne, c_lt, c_le, c_gt, c_ge, Bool.not_true, Bool.not_false, if_true, if_false, Bool.false_eq_true, decide_true, decide_false, Int.natCast_one, Int.natCast_zero, Int.cast_ofNat_Int, beq_self_eq_true, List.length_cons, List.length_nil, Nat.reduceAdd, Nat.reduceLeDiff, Nat.zero_add, dat0, dat1, dat2, dat3, dat4, dat5, dat6, dat7, dat8, dat9, tab0, dsF, dsC, it0, it1, it2, it3, strne, strf]) (by rw [tr_int, hre])
theorem dv4 {C : Nat → List PyData → Option PyData} {q Q r x p : Nat} {s d : Bool} {y : Fp} (hre : ((r : Int) != 0) = true) (hcast : (q : Int) * 2 + 1 = (Q : Int)) (hsh1 : binD .LShift (.int (q : Int)) (.int 1) = some (.int ((q : Int) * 2))) : exs GG C [some (Fp.pd ⟨s, 1, 0⟩), some y.pd, some (.int p), some (rs d), some (.int (sg s)), some (.int 1), some (.int 0), some (.int 1), some (.int 0), some (.int y.m), some (.int y.e), some (.int (nb y.m)), none, none, some (.int (sg s)), some (.int (x : Int)), some (.int (q : Int)), some (.int (r : Int)), none] (.cons (.set 16 (.bin .Add (.bin .LShift (.loc 16) (.int 1)) (.int 1))) (.cons (.aug 15 .Add (.int 1)) .nil)) = exs GG C [some (Fp.pd ⟨s, 1, 0⟩), some y.pd, some (.int p), some (rs d), some (.int (sg s)), some (.int 1), some (.int 0), some (.int 1), some (.int 0), some (.int y.m), some (.int y.e), some (.int (nb y.m)), none, none, some (.int (sg s)), some (.int (x : Int)), some (.int (Q : Int)), some (.int (r : Int)), none] (.cons (.aug 15 .Add (.int 1)) .nil) := exs_next (exSet (x := .int (Q : Int)) (evBin (x := .int ((q : Int) * 2)) (y := .int 1) (evBin (x := .int (q : Int)) (y := .int 1) rfl rfl hsh1) rfl (by rw [b_add, hcast])))
theorem dv5 {C : Nat → List PyData → Option PyData} {q Q r x p : Nat} {s d : Bool} {y : Fp} (hre : ((r : Int) != 0) = true) (hcast : (q : Int) * 2 + 1 = (Q : Int)) (hsh1 : binD .LShift (.int (q : Int)) (.int 1) = some (.int ((q : Int) * 2))) : exs GG C [some (Fp.pd ⟨s, 1, 0⟩), some y.pd, some (.int p), some (rs d), some (.int (sg s)), some (.int 1), some (.int 0), some (.int 1), some (.int 0), some (.int y.m), some (.int y.e), some (.int (nb y.m)), none, none, some (.int (sg s)), some (.int (x : Int)), some (.int (Q : Int)), some (.int (r : Int)), none] (.cons (.aug 15 .Add (.int 1)) .nil) = some (.next [some (Fp.pd ⟨s, 1, 0⟩), some y.pd, some (.int p), some (rs d), some (.int (sg s)), some (.int 1), some (.int 0), some (.int 1), some (.int 0), some (.int y.m), some (.int y.e), some (.int (nb y.m)), none, none, some (.int (sg s)), some (.int ((x : Int) + 1)), some (.int (Q : Int)), some (.int (r : Int)), none]) := by
  simp only [exs, ex, ev, evs, evB, get0, getS, List.set_cons_zero, List.set_cons_succ, setA0, setAS, Option.map_some, tr_int, tr_bool, neg_int, b_add, b_sub, b_and, b_xor, c_eq, c_ne, c_lt, c_le, c_gt, c_ge, Bool.not_true, Bool.not_false, if_true, if_false, Bool.false_eq_true, decide_true, decide_false, Int.natCast_one, Int.natCast_zero, Int.cast_ofNat_Int, beq_self_eq_true, List.length_cons, List.length_nil, Nat.reduceAdd, Nat.reduceLeDiff, Nat.zero_add, dat0, dat1, dat2, dat3, dat4, dat5, dat6, dat7, dat8, dat9, tab0, dsF, dsC, it0, it1, it2, it3, strne, strf, a_add]
theorem dv {C : Nat → List PyData → Option PyData} {q Q r x p : Nat} {s d : Bool} {y : Fp} (hre : ((r : Int) != 0) = true) (hcast : (q : Int) * 2 + 1 = (Q : Int)) (hsh1 : binD .LShift (.int (q : Int)) (.int 1) = some (.int ((q : Int) * 2))) : ex GG C [some (Fp.pd ⟨s, 1, 0⟩), some y.pd, some (.int p), some (rs d), some (.int (sg s)), some (.int 1), some (.int 0), some (.int 1), some (.int 0), some (.int y.m), some (.int y.e), some (.int (nb y.m)), none, none, some (.int (sg s)), some (.int (x : Int)), some (.int (q : Int)), some (.int (r : Int)), none] (.ite (.loc 17) (.cons (.set 16 (.bin .Add (.bin .LShift (.loc 16) (.int 1)) (.int 1))) (.cons (.aug 15 .Add (.int 1)) .nil)) .nil) = some (.next [some (Fp.pd ⟨s, 1, 0⟩), some y.pd, some (.int p), some (rs d), some (.int (sg s)), some (.int 1), some (.int 0), some (.int 1), some (.int 0), some (.int y.m), some (.int y.e), some (.int (nb y.m)), none, none, some (.int (sg s)), some (.int ((x : Int) + 1)), some (.int (Q : Int)), some (.int (r : Int)), none]) := (dv3 hre hcast hsh1).trans ((dv4 hre hcast hsh1).trans (dv5 hre hcast hsh1))
theorem div_spec {n : Nat} (hn : 4 ≤ n) (s d : Bool) {y : Fp} (hy : y.ok) (hpos : 0 < y.v) {p : Nat} (hp : 1 ≤ p) (hp2 : p ≤ 1000) (hb : nb y.m ≤ 1000) :
    ∃ z : Fp, run GG T n 15 [Fp.pd ⟨s, 1, 0⟩, y.pd, .int p, rs d] = some z.pd ∧ z.ok ∧ nb z.m ≤ p ∧ z.e.natAbs ≤ y.e.natAbs + 10000 ∧ (d = true → z.v * y.v ≤ w1 s) ∧ (d = false → w1 s ≤ z.v * y.v) := by
  obtain ⟨n, rfl⟩ : ∃ k, n = k + 1 := ⟨n - 1, by omega⟩
  obtain ⟨hys, hym⟩ := Fp.v_pos.mp hpos
  have hyv := Fp.v_f hys
  have run' : ∀ z : PyData, exs GG (run GG T n) (some (Fp.pd ⟨s, 1, 0⟩) :: some y.pd :: some (.int p) :: some (rs d) :: List.replicate 15 none) b_mpf_div = some (.ret z) → run GG T (n + 1) 15 [Fp.pd ⟨s, 1, 0⟩, y.pd, .int p, rs d] = some z := fun c h => run_ret rfl ⟨Nat.le_refl _, Nat.le_add_right _ _⟩ h
  have hrep : List.replicate 15 (none : Option PyData) = [none, none, none, none, none, none, none, none, none, none, none, none, none, none, none] := rfl
  rw [hrep] at run'
  have m1 : ((y.m : Int) != 0) = true := by simp [hym]
  have n1 : ((1 : Int) != 0) = true := rfl
  have hx := bxor_sg s false
  rw [sg_f] at hx
  simp only [Bool.xor_false] at hx
  by_cases hone : y.m = 1
  · have e1 : ((y.m : Int) == 1) = true := by simp [hone]
    have hnorm := norm_spec (n := n) (by omega) d s (m := 1) (by decide) (0 - y.e) hp
    simp only [nb_one, Int.natCast_one] at hnorm
    refine ⟨Rnd d p (if s then -(1 : Int) else 1) (0 - y.e), run' _ ?_, Rnd_ok _ _ _ _, Rnd_nb hp d _ _, Rnd_e d _ (0 - y.e) ?_, enc hp s d hpos (Rnd_le p _ _) (Rnd_ge p _ _) ?_ ?_⟩
    · simp only [b_mpf_div, Fp.pd, exs, ex, ev, evs, evB, get0, getS, List.set_cons_zero, List.set_cons_succ, setA0, setAS, Option.map_some, tr_int, tr_bool, neg_int, b_add, b_sub, b_and, b_xor, c_eq, c_ne, c_lt, c_le, c_gt, c_ge, Bool.not_true, Bool.not_false, if_true, if_false, Bool.false_eq_true, decide_true, decide_false, Int.natCast_one, Int.natCast_zero, Int.cast_ofNat_Int, beq_self_eq_true, List.length_cons, List.length_nil, Nat.reduceAdd, Nat.reduceLeDiff, Nat.zero_add, dat0, dat1, dat2, dat3, dat4, dat5, dat6, dat7, dat8, dat9, tab0, dsF, dsC, it0, it1, it2, it3, strne, strf, m1, n1, hys, sg_f, hx, e1, nb_one, Int.natCast_one, hnorm]
    · have : nb (if s then -(1 : Int) else 1).natAbs = 1 := by cases s <;> rfl
      rw [this]; omega
    · rw [hyv, hone, mg_mul]; show mg 1 _ ≤ 1; rw [show 0 - y.e + y.e = 0 by omega, mg_one]; exact Rat.le_refl
    · rw [hyv, hone, mg_mul]; show 1 ≤ mg 1 _; rw [show 0 - y.e + y.e = 0 by omega, mg_one]; exact Rat.le_refl
  · have e1 : ((y.m : Int) == 1) = false := by simp <;> omega
    have hp0 : ((p : Int) != 0) = true := by simp; omega
    obtain ⟨x, hxe⟩ : ∃ x : Nat, (p : Int) - 1 + nb y.m + 5 = x := ⟨p + nb y.m + 4, by omega⟩
    have hx5 : ((x : Int) < 5) = False := by simp; omega
    have hshl : binD .LShift (.int 1) (.int (x : Int)) = some (.int (1 * 2 ^ x)) := b_shl (by rw [show bits 1 = 1 from rfl]; omega)
    have hmi : (0 : Int) < y.m := by omega
    have hdm := divmodI (a := 1 * 2 ^ x) hmi (by rw [bits_nat]; exact hb)
    have hdiv := Int.mul_ediv_add_emod (1 * 2 ^ x) (y.m : Int)
    have hr0 := Int.emod_nonneg (1 * 2 ^ x) (Int.ne_of_gt hmi)
    have hr1 := Int.emod_lt_of_pos (1 * 2 ^ x) hmi
    have hq0 : (0 : Int) ≤ 1 * 2 ^ x / y.m := Int.ediv_nonneg (by have := pow2_pos x; omega) (by omega)
    obtain ⟨q, hq⟩ : ∃ q : Nat, (1 * 2 ^ x / (y.m : Int)) = q := ⟨(1 * 2 ^ x / (y.m : Int)).toNat, by omega⟩
    obtain ⟨r, hr⟩ : ∃ r : Nat, (1 * 2 ^ x % (y.m : Int)) = r := ⟨(1 * 2 ^ x % (y.m : Int)).toNat, by omega⟩
    rw [hq, hr] at hdiv hdm
    rw [hr] at hr1
    rw [hq] at hq0
    have hx2 : (2 : Int) ^ x = 2 ^ p * (2 ^ nb y.m * 16) := by
      rw [show x = p + (nb y.m + 4) by omega, Int.pow_add, Int.pow_add, show (2 : Int) ^ 4 = 16 by decide]
    have hyl : (y.m : Int) < 2 ^ nb y.m := by have := lt_nb y.m; rw [← pow2_cast]; exact_mod_cast this
    -- q is long
    have hqlong : (2 : Int) ^ p ≤ q := by
      rw [← hq]
      refine Int.le_ediv_of_mul_le hmi ?_
      rw [Int.one_mul, hx2]
      exact Int.mul_le_mul_of_nonneg_left (by omega) (Int.le_of_lt (pow2_pos p))
    have hqle : q < 2 ^ (x + 1) := by
      have h1 : (q : Int) ≤ 1 * 2 ^ x := by rw [← hq]; exact Int.ediv_le_self _ (by have := pow2_pos x; omega)
      have h2 : (q : Int) < ((2 ^ (x + 1) : Nat) : Int) := by
        have h3 := pow2_pos x
        rw [pow2_cast, Int.pow_succ]
        generalize (2 : Int) ^ x = X at h1 h3 ⊢
        omega
      exact_mod_cast h2
    have hnbq : nb q ≤ x + 1 := nb_le hqle
    by_cases hr00 : r = 0
    · have hQ0 : q ≠ 0 := fun c => by have := pow2_pos p; rw [c] at hqlong; simp at hqlong; omega
      have hre : ((r : Int) != 0) = false := by simp [hr00]
      have hnorm := norm_spec (n := n) (by omega) d s hQ0 (0 - y.e - x) hp
      have hprod : mg q (0 - y.e - x) * y.v = 1 := by
        rw [hyv, mg_mul, show 0 - y.e - (x : Int) + y.e = -(x : Int) by omega, show (q : Int) * y.m = 1 * 2 ^ x by rw [Int.mul_comm]; omega, mg_shift, show -(x : Int) + x = 0 by omega, mg_one]
      refine ⟨Rnd d p (if s then -(q : Int) else q) (0 - y.e - x), run' _ ?_, Rnd_ok _ _ _ _, Rnd_nb hp d _ _, Rnd_e d _ _ ?_, enc hp s d hpos (Rnd_le p _ _) (Rnd_ge p _ _) (by rw [hprod]; exact Rat.le_refl) (by rw [hprod]; exact Rat.le_refl)⟩
      · unfold b_mpf_div
        refine (exs_next (ρ' := [some (Fp.pd ⟨s, 1, 0⟩), some y.pd, some (.int p), some (rs d), some (.int (sg s)), some (.int 1), some (.int 0), some (.int 1), none, none, none, none, none, none, none, none, none, none, none]) (by simp only [Fp.pd, exs, ex, ev, evs, evB, get0, getS, List.set_cons_zero, List.set_cons_succ, setA0, setAS, Option.map_some, tr_int, tr_bool, neg_int, b_add, b_sub, b_and, b_xor, c_eq, c_ne, c_lt, c_le, c_gt, c_ge, Bool.not_true, Bool.not_false, if_true, if_false, Bool.false_eq_true, decide_true, decide_false, Int.natCast_one, Int.natCast_zero, Int.cast_ofNat_Int, beq_self_eq_true, List.length_cons, List.length_nil, Nat.reduceAdd, Nat.reduceLeDiff, Nat.zero_add, dat0, dat1, dat2, dat3, dat4, dat5, dat6, dat7, dat8, dat9, tab0, dsF, dsC, it0, it1, it2, it3, strne, strf, nb_one])).trans ?_
        refine (exs_next (ρ' := [some (Fp.pd ⟨s, 1, 0⟩), some y.pd, some (.int p), some (rs d), some (.int (sg s)), some (.int 1), some (.int 0), some (.int 1), some (.int 0), some (.int y.m), some (.int y.e), some (.int (nb y.m)), none, none, none, none, none, none, none]) (by simp only [Fp.pd, exs, ex, ev, evs, evB, get0, getS, List.set_cons_zero, List.set_cons_succ, setA0, setAS, Option.map_some, tr_int, tr_bool, neg_int, b_add, b_sub, b_and, b_xor, c_eq, c_ne, c_lt, c_le, c_gt, c_ge, Bool.not_true, Bool.not_false, if_true, if_false, Bool.false_eq_true, decide_true, decide_false, Int.natCast_one, Int.natCast_zero, Int.cast_ofNat_Int, beq_self_eq_true, List.length_cons, List.length_nil, Nat.reduceAdd, Nat.reduceLeDiff, Nat.zero_add, dat0, dat1, dat2, dat3, dat4, dat5, dat6, dat7, dat8, dat9, tab0, dsF, dsC, it0, it1, it2, it3, strne, strf, hys, sg_f])).trans ?_
        refine (exs_next (ρ' := [some (Fp.pd ⟨s, 1, 0⟩), some y.pd, some (.int p), some (rs d), some (.int (sg s)), some (.int 1), some (.int 0), some (.int 1), some (.int 0), some (.int y.m), some (.int y.e), some (.int (nb y.m)), none, none, none, none, none, none, none]) (by simp only [exs, ex, ev, evs, evB, get0, getS, List.set_cons_zero, List.set_cons_succ, setA0, setAS, Option.map_some, tr_int, tr_bool, neg_int, b_add, b_sub, b_and, b_xor, c_eq, c_ne, c_lt, c_le, c_gt, c_ge, Bool.not_true, Bool.not_false, if_true, if_false, Bool.false_eq_true, decide_true, decide_false, Int.natCast_one, Int.natCast_zero, Int.cast_ofNat_Int, beq_self_eq_true, List.length_cons, List.length_nil, Nat.reduceAdd, Nat.reduceLeDiff, Nat.zero_add, dat0, dat1, dat2, dat3, dat4, dat5, dat6, dat7, dat8, dat9, tab0, dsF, dsC, it0, it1, it2, it3, strne, strf, m1, n1])).trans ?_
        refine (exs_next (ρ' := [some (Fp.pd ⟨s, 1, 0⟩), some y.pd, some (.int p), some (rs d), some (.int (sg s)), some (.int 1), some (.int 0), some (.int 1), some (.int 0), some (.int y.m), some (.int y.e), some (.int (nb y.m)), none, none, some (.int (sg s)), none, none, none, none]) (by simp only [exs, ex, ev, evs, evB, get0, getS, List.set_cons_zero, List.set_cons_succ, setA0, setAS, Option.map_some, tr_int, tr_bool, neg_int, b_add, b_sub, b_and, b_xor, c_eq, c_ne, c_lt, c_le, c_gt, c_ge, Bool.not_true, Bool.not_false, if_true, if_false, Bool.false_eq_true, decide_true, decide_false, Int.natCast_one, Int.natCast_zero, Int.cast_ofNat_Int, beq_self_eq_true, List.length_cons, List.length_nil, Nat.reduceAdd, Nat.reduceLeDiff, Nat.zero_add, dat0, dat1, dat2, dat3, dat4, dat5, dat6, dat7, dat8, dat9, tab0, dsF, dsC, it0, it1, it2, it3, strne, strf, hx])).trans ?_
        refine (exs_next (ρ' := [some (Fp.pd ⟨s, 1, 0⟩), some y.pd, some (.int p), some (rs d), some (.int (sg s)), some (.int 1), some (.int 0), some (.int 1), some (.int 0), some (.int y.m), some (.int y.e), some (.int (nb y.m)), none, none, some (.int (sg s)), none, none, none, none]) (by simp only [exs, ex, ev, evs, evB, get0, getS, List.set_cons_zero, List.set_cons_succ, setA0, setAS, Option.map_some, tr_int, tr_bool, neg_int, b_add, b_sub, b_and, b_xor, c_eq, c_ne, c_lt, c_le, c_gt, c_ge, Bool.not_true, Bool.not_false, if_true, if_false, Bool.false_eq_true, decide_true, decide_false, Int.natCast_one, Int.natCast_zero, Int.cast_ofNat_Int, beq_self_eq_true, List.length_cons, List.length_nil, Nat.reduceAdd, Nat.reduceLeDiff, Nat.zero_add, dat0, dat1, dat2, dat3, dat4, dat5, dat6, dat7, dat8, dat9, tab0, dsF, dsC, it0, it1, it2, it3, strne, strf, e1])).trans ?_
        refine (exs_next (ρ' := [some (Fp.pd ⟨s, 1, 0⟩), some y.pd, some (.int p), some (rs d), some (.int (sg s)), some (.int 1), some (.int 0), some (.int 1), some (.int 0), some (.int y.m), some (.int y.e), some (.int (nb y.m)), none, none, some (.int (sg s)), some (.int (x : Int)), none, none, none]) (by simp only [exs, ex, ev, evs, evB, get0, getS, List.set_cons_zero, List.set_cons_succ, setA0, setAS, Option.map_some, tr_int, tr_bool, neg_int, b_add, b_sub, b_and, b_xor, c_eq, c_ne, c_lt, c_le, c_gt, c_ge, Bool.not_true, Bool.not_false, if_true, if_false, Bool.false_eq_true, decide_true, decide_false, Int.natCast_one, Int.natCast_zero, Int.cast_ofNat_Int, beq_self_eq_true, List.length_cons, List.length_nil, Nat.reduceAdd, Nat.reduceLeDiff, Nat.zero_add, dat0, dat1, dat2, dat3, dat4, dat5, dat6, dat7, dat8, dat9, tab0, dsF, dsC, it0, it1, it2, it3, strne, strf, hp0, hxe])).trans ?_
        refine (exs_next (ρ' := [some (Fp.pd ⟨s, 1, 0⟩), some y.pd, some (.int p), some (rs d), some (.int (sg s)), some (.int 1), some (.int 0), some (.int 1), some (.int 0), some (.int y.m), some (.int y.e), some (.int (nb y.m)), none, none, some (.int (sg s)), some (.int (x : Int)), none, none, none]) (by simp only [exs, ex, ev, evs, evB, get0, getS, List.set_cons_zero, List.set_cons_succ, setA0, setAS, Option.map_some, tr_int, tr_bool, neg_int, b_add, b_sub, b_and, b_xor, c_eq, c_ne, c_lt, c_le, c_gt, c_ge, Bool.not_true, Bool.not_false, if_true, if_false, Bool.false_eq_true, decide_true, decide_false, Int.natCast_one, Int.natCast_zero, Int.cast_ofNat_Int, beq_self_eq_true, List.length_cons, List.length_nil, Nat.reduceAdd, Nat.reduceLeDiff, Nat.zero_add, dat0, dat1, dat2, dat3, dat4, dat5, dat6, dat7, dat8, dat9, tab0, dsF, dsC, it0, it1, it2, it3, strne, strf, hx5])).trans ?_
        refine (exs_next (ρ' := [some (Fp.pd ⟨s, 1, 0⟩), some y.pd, some (.int p), some (rs d), some (.int (sg s)), some (.int 1), some (.int 0), some (.int 1), some (.int 0), some (.int y.m), some (.int y.e), some (.int (nb y.m)), none, none, some (.int (sg s)), some (.int (x : Int)), some (.int (q : Int)), some (.int (r : Int)), none]) (by simp only [exs, ex, ev, evs, evB, get0, getS, List.set_cons_zero, List.set_cons_succ, setA0, setAS, Option.map_some, tr_int, tr_bool, neg_int, b_add, b_sub, b_and, b_xor, c_eq, c_ne, c_lt, c_le, c_gt, c_ge, Bool.not_true, Bool.not_false, if_true, if_false, Bool.false_eq_true, decide_true, decide_false, Int.natCast_one, Int.natCast_zero, Int.cast_ofNat_Int, beq_self_eq_true, List.length_cons, List.length_nil, Nat.reduceAdd, Nat.reduceLeDiff, Nat.zero_add, dat0, dat1, dat2, dat3, dat4, dat5, dat6, dat7, dat8, dat9, tab0, dsF, dsC, it0, it1, it2, it3, strne, strf, hshl, hdm])).trans ?_
        refine (exs_next (ρ' := [some (Fp.pd ⟨s, 1, 0⟩), some y.pd, some (.int p), some (rs d), some (.int (sg s)), some (.int 1), some (.int 0), some (.int 1), some (.int 0), some (.int y.m), some (.int y.e), some (.int (nb y.m)), none, none, some (.int (sg s)), some (.int (x : Int)), some (.int (q : Int)), some (.int (r : Int)), none]) ((exIteF (x := .int (r : Int)) rfl (by rw [tr_int, hre])).trans (by rw [exs]))).trans ?_
        refine (exs_next (ρ' := [some (Fp.pd ⟨s, 1, 0⟩), some y.pd, some (.int p), some (rs d), some (.int (sg s)), some (.int 1), some (.int 0), some (.int 1), some (.int 0), some (.int y.m), some (.int y.e), some (.int (nb y.m)), none, none, some (.int (sg s)), some (.int (x : Int)), some (.int (q : Int)), some (.int (r : Int)), some (.int (nb q : Int))]) (by simp only [exs, ex, ev, evs, evB, get0, getS, List.set_cons_zero, List.set_cons_succ, setA0, setAS, Option.map_some, tr_int, tr_bool, neg_int, b_add, b_sub, b_and, b_xor, c_eq, c_ne, c_lt, c_le, c_gt, c_ge, Bool.not_true, Bool.not_false, if_true, if_false, Bool.false_eq_true, decide_true, decide_false, Int.natCast_one, Int.natCast_zero, Int.cast_ofNat_Int, beq_self_eq_true, List.length_cons, List.length_nil, Nat.reduceAdd, Nat.reduceLeDiff, Nat.zero_add, dat0, dat1, dat2, dat3, dat4, dat5, dat6, dat7, dat8, dat9, tab0, dsF, dsC, it0, it1, it2, it3, strne, strf, bits_nat])).trans ?_
        simp only [exs, ex, ev, evs, evB, get0, getS, List.set_cons_zero, List.set_cons_succ, setA0, setAS, Option.map_some, tr_int, tr_bool, neg_int, b_add, b_sub, b_and, b_xor, c_eq, c_ne, c_lt, c_le, c_gt, c_ge, Bool.not_true, Bool.not_false, if_true, if_false, Bool.false_eq_true, decide_true, decide_false, Int.natCast_one, Int.natCast_zero, Int.cast_ofNat_Int, beq_self_eq_true, List.length_cons, List.length_nil, Nat.reduceAdd, Nat.reduceLeDiff, Nat.zero_add, dat0, dat1, dat2, dat3, dat4, dat5, dat6, dat7, dat8, dat9, tab0, dsF, dsC, it0, it1, it2, it3, strne, strf, hp0, hnorm]
      · have : nb (if s then -(q : Int) else q).natAbs = nb q := by cases s <;> simp
        rw [this]; omega
    · have hre : ((r : Int) != 0) = true := by simp [hr00]
      obtain ⟨Q, hQ⟩ : ∃ Q : Nat, Q = 2 * q + 1 := ⟨_, rfl⟩
      have hQ0 : Q ≠ 0 := by omega
      have hnorm := norm_spec (n := n) (by omega) d s hQ0 (0 - y.e - (x + 1)) hp
      have hsh1 : binD .LShift (.int (q : Int)) (.int 1) = some (.int ((q : Int) * 2)) := shl1 _ (by rw [bits_nat]; omega)
      have hcast : (q : Int) * 2 + 1 = (Q : Int) := by omega
      have hnbQ : nb Q ≤ x + 2 := nb_le (by rw [hQ, show x + 2 = x + 1 + 1 by rfl, Nat.pow_succ]; omega)
      have hlow : (2 : Nat) ^ p ≤ q := by have := pow2_cast p; omega
      have hlong : p < nb (2 * (q : Int) + 1).natAbs := by
        rw [show (2 * (q : Int) + 1).natAbs = Q by omega]
        have h1 := lt_nb Q
        by_cases hc : p < nb Q
        · exact hc
        · have := Nat.pow_le_pow_right (n := 2) (by decide) (show nb Q ≤ p by omega); omega
      have hE : (Q : Int) = 2 * (q : Int) + 1 := by omega
      refine ⟨Rnd d p (if s then -(Q : Int) else (Q : Int)) (0 - y.e - (x + 1)), run' _ ?_, Rnd_ok _ _ _ _, Rnd_nb hp d _ _, Rnd_e d _ _ ?_, ?_⟩
      · unfold b_mpf_div
        refine (exs_next (ρ' := [some (Fp.pd ⟨s, 1, 0⟩), some y.pd, some (.int p), some (rs d), some (.int (sg s)), some (.int 1), some (.int 0), some (.int 1), none, none, none, none, none, none, none, none, none, none, none]) (by simp only [Fp.pd, exs, ex, ev, evs, evB, get0, getS, List.set_cons_zero, List.set_cons_succ, setA0, setAS, Option.map_some, tr_int, tr_bool, neg_int, b_add, b_sub, b_and, b_xor, c_eq, c_ne, c_lt, c_le, c_gt, c_ge, Bool.not_true, Bool.not_false, if_true, if_false, Bool.false_eq_true, decide_true, decide_false, Int.natCast_one, Int.natCast_zero, Int.cast_ofNat_Int, beq_self_eq_true, List.length_cons, List.length_nil, Nat.reduceAdd, Nat.reduceLeDiff, Nat.zero_add, dat0, dat1, dat2, dat3, dat4, dat5, dat6, dat7, dat8, dat9, tab0, dsF, dsC, it0, it1, it2, it3, strne, strf, nb_one])).trans ?_
        refine (exs_next (ρ' := [some (Fp.pd ⟨s, 1, 0⟩), some y.pd, some (.int p), some (rs d), some (.int (sg s)), some (.int 1), some (.int 0), some (.int 1), some (.int 0), some (.int y.m), some (.int y.e), some (.int (nb y.m)), none, none, none, none, none, none, none]) (by simp only [Fp.pd, exs, ex, ev, evs, evB, get0, getS, List.set_cons_zero, List.set_cons_succ, setA0, setAS, Option.map_some, tr_int, tr_bool, neg_int, b_add, b_sub, b_and, b_xor, c_eq, c_ne, c_lt, c_le, c_gt, c_ge, Bool.not_true, Bool.not_false, if_true, if_false, Bool.false_eq_true, decide_true, decide_false, Int.natCast_one, Int.natCast_zero, Int.cast_ofNat_Int, beq_self_eq_true, List.length_cons, List.length_nil, Nat.reduceAdd, Nat.reduceLeDiff, Nat.zero_add, dat0, dat1, dat2, dat3, dat4, dat5, dat6, dat7, dat8, dat9, tab0, dsF, dsC, it0, it1, it2, it3, strne, strf, hys, sg_f])).trans ?_
        refine (exs_next (ρ' := [some (Fp.pd ⟨s, 1, 0⟩), some y.pd, some (.int p), some (rs d), some (.int (sg s)), some (.int 1), some (.int 0), some (.int 1), some (.int 0), some (.int y.m), some (.int y.e), some (.int (nb y.m)), none, none, none, none, none, none, none]) (by simp only [exs, ex, ev, evs, evB, get0, getS, List.set_cons_zero, List.set_cons_succ, setA0, setAS, Option.map_some, tr_int, tr_bool, neg_int, b_add, b_sub, b_and, b_xor, c_eq, c_ne, c_lt, c_le, c_gt, c_ge, Bool.not_true, Bool.not_false, if_true, if_false, Bool.false_eq_true, decide_true, decide_false, Int.natCast_one, Int.natCast_zero, Int.cast_ofNat_Int, beq_self_eq_true, List.length_cons, List.length_nil, Nat.reduceAdd, Nat.reduceLeDiff, Nat.zero_add, dat0, dat1, dat2, dat3, dat4, dat5, dat6, dat7, dat8, dat9, tab0, dsF, dsC, it0, it1, it2, it3, strne, strf, m1, n1])).trans ?_
        refine (exs_next (ρ' := [some (Fp.pd ⟨s, 1, 0⟩), some y.pd, some (.int p), some (rs d), some (.int (sg s)), some (.int 1), some (.int 0), some (.int 1), some (.int 0), some (.int y.m), some (.int y.e), some (.int (nb y.m)), none, none, some (.int (sg s)), none, none, none, none]) (by simp only [exs, ex, ev, evs, evB, get0, getS, List.set_cons_zero, List.set_cons_succ, setA0, setAS, Option.map_some, tr_int, tr_bool, neg_int, b_add, b_sub, b_and, b_xor, c_eq, c_ne, c_lt, c_le, c_gt, c_ge, Bool.not_true, Bool.not_false, if_true, if_false, Bool.false_eq_true, decide_true, decide_false, Int.natCast_one, Int.natCast_zero, Int.cast_ofNat_Int, beq_self_eq_true, List.length_cons, List.length_nil, Nat.reduceAdd, Nat.reduceLeDiff, Nat.zero_add, dat0, dat1, dat2, dat3, dat4, dat5, dat6, dat7, dat8, dat9, tab0, dsF, dsC, it0, it1, it2, it3, strne, strf, hx])).trans ?_
        refine (exs_next (ρ' := [some (Fp.pd ⟨s, 1, 0⟩), some y.pd, some (.int p), some (rs d), some (.int (sg s)), some (.int 1), some (.int 0), some (.int 1), some (.int 0), some (.int y.m), some (.int y.e), some (.int (nb y.m)), none, none, some (.int (sg s)), none, none, none, none]) (by simp only [exs, ex, ev, evs, evB, get0, getS, List.set_cons_zero, List.set_cons_succ, setA0, setAS, Option.map_some, tr_int, tr_bool, neg_int, b_add, b_sub, b_and, b_xor, c_eq, c_ne, c_lt, c_le, c_gt, c_ge, Bool.not_true, Bool.not_false, if_true, if_false, Bool.false_eq_true, decide_true, decide_false, Int.natCast_one, Int.natCast_zero, Int.cast_ofNat_Int, beq_self_eq_true, List.length_cons, List.length_nil, Nat.reduceAdd, Nat.reduceLeDiff, Nat.zero_add, dat0, dat1, dat2, dat3, dat4, dat5, dat6, dat7, dat8, dat9, tab0, dsF, dsC, it0, it1, it2, it3, strne, strf, e1])).trans ?_
        refine (exs_next (ρ' := [some (Fp.pd ⟨s, 1, 0⟩), some y.pd, some (.int p), some (rs d), some (.int (sg s)), some (.int 1), some (.int 0), some (.int 1), some (.int 0), some (.int y.m), some (.int y.e), some (.int (nb y.m)), none, none, some (.int (sg s)), some (.int (x : Int)), none, none, none]) (by simp only [exs, ex, ev, evs, evB, get0, getS, List.set_cons_zero, List.set_cons_succ, setA0, setAS, Option.map_some, tr_int, tr_bool, neg_int, b_add, b_sub, b_and, b_xor, c_eq, c_ne, c_lt, c_le, c_gt, c_ge, Bool.not_true, Bool.not_false, if_true, if_false, Bool.false_eq_true, decide_true, decide_false, Int.natCast_one, Int.natCast_zero, Int.cast_ofNat_Int, beq_self_eq_true, List.length_cons, List.length_nil, Nat.reduceAdd, Nat.reduceLeDiff, Nat.zero_add, dat0, dat1, dat2, dat3, dat4, dat5, dat6, dat7, dat8, dat9, tab0, dsF, dsC, it0, it1, it2, it3, strne, strf, hp0, hxe])).trans ?_
        refine (exs_next (ρ' := [some (Fp.pd ⟨s, 1, 0⟩), some y.pd, some (.int p), some (rs d), some (.int (sg s)), some (.int 1), some (.int 0), some (.int 1), some (.int 0), some (.int y.m), some (.int y.e), some (.int (nb y.m)), none, none, some (.int (sg s)), some (.int (x : Int)), none, none, none]) (by simp only [exs, ex, ev, evs, evB, get0, getS, List.set_cons_zero, List.set_cons_succ, setA0, setAS, Option.map_some, tr_int, tr_bool, neg_int, b_add, b_sub, b_and, b_xor, c_eq, c_ne, c_lt, c_le, c_gt, c_ge, Bool.not_true, Bool.not_false, if_true, if_false, Bool.false_eq_true, decide_true, decide_false, Int.natCast_one, Int.natCast_zero, Int.cast_ofNat_Int, beq_self_eq_true, List.length_cons, List.length_nil, Nat.reduceAdd, Nat.reduceLeDiff, Nat.zero_add, dat0, dat1, dat2, dat3, dat4, dat5, dat6, dat7, dat8, dat9, tab0, dsF, dsC, it0, it1, it2, it3, strne, strf, hx5])).trans ?_
        refine (exs_next (ρ' := [some (Fp.pd ⟨s, 1, 0⟩), some y.pd, some (.int p), some (rs d), some (.int (sg s)), some (.int 1), some (.int 0), some (.int 1), some (.int 0), some (.int y.m), some (.int y.e), some (.int (nb y.m)), none, none, some (.int (sg s)), some (.int (x : Int)), some (.int (q : Int)), some (.int (r : Int)), none]) (by simp only [exs, ex, ev, evs, evB, get0, getS, List.set_cons_zero, List.set_cons_succ, setA0, setAS, Option.map_some, tr_int, tr_bool, neg_int, b_add, b_sub, b_and, b_xor, c_eq, c_ne, c_lt, c_le, c_gt, c_ge, Bool.not_true, Bool.not_false, if_true, if_false, Bool.false_eq_true, decide_true, decide_false, Int.natCast_one, Int.natCast_zero, Int.cast_ofNat_Int, beq_self_eq_true, List.length_cons, List.length_nil, Nat.reduceAdd, Nat.reduceLeDiff, Nat.zero_add, dat0, dat1, dat2, dat3, dat4, dat5, dat6, dat7, dat8, dat9, tab0, dsF, dsC, it0, it1, it2, it3, strne, strf, hshl, hdm])).trans ?_
        refine (exs_next (ρ' := [some (Fp.pd ⟨s, 1, 0⟩), some y.pd, some (.int p), some (rs d), some (.int (sg s)), some (.int 1), some (.int 0), some (.int 1), some (.int 0), some (.int y.m), some (.int y.e), some (.int (nb y.m)), none, none, some (.int (sg s)), some (.int ((x : Int) + 1)), some (.int (Q : Int)), some (.int (r : Int)), none]) (dv hre hcast hsh1)).trans ?_
        refine (exs_next (ρ' := [some (Fp.pd ⟨s, 1, 0⟩), some y.pd, some (.int p), some (rs d), some (.int (sg s)), some (.int 1), some (.int 0), some (.int 1), some (.int 0), some (.int y.m), some (.int y.e), some (.int (nb y.m)), none, none, some (.int (sg s)), some (.int ((x : Int) + 1)), some (.int (Q : Int)), some (.int (r : Int)), some (.int (nb Q : Int))]) (by simp only [exs, ex, ev, evs, evB, get0, getS, List.set_cons_zero, List.set_cons_succ, setA0, setAS, Option.map_some, tr_int, tr_bool, neg_int, b_add, b_sub, b_and, b_xor, c_eq, c_ne, c_lt, c_le, c_gt, c_ge, Bool.not_true, Bool.not_false, if_true, if_false, Bool.false_eq_true, decide_true, decide_false, Int.natCast_one, Int.natCast_zero, Int.cast_ofNat_Int, beq_self_eq_true, List.length_cons, List.length_nil, Nat.reduceAdd, Nat.reduceLeDiff, Nat.zero_add, dat0, dat1, dat2, dat3, dat4, dat5, dat6, dat7, dat8, dat9, tab0, dsF, dsC, it0, it1, it2, it3, strne, strf, bits_nat])).trans ?_
        simp only [exs, ex, ev, evs, evB, get0, getS, List.set_cons_zero, List.set_cons_succ, setA0, setAS, Option.map_some, tr_int, tr_bool, neg_int, b_add, b_sub, b_and, b_xor, c_eq, c_ne, c_lt, c_le, c_gt, c_ge, Bool.not_true, Bool.not_false, if_true, if_false, Bool.false_eq_true, decide_true, decide_false, Int.natCast_one, Int.natCast_zero, Int.cast_ofNat_Int, beq_self_eq_true, List.length_cons, List.length_nil, Nat.reduceAdd, Nat.reduceLeDiff, Nat.zero_add, dat0, dat1, dat2, dat3, dat4, dat5, dat6, dat7, dat8, dat9, tab0, dsF, dsC, it0, it1, it2, it3, strne, strf, hp0, hnorm]
      · have : nb (if s then -(Q : Int) else (Q : Int)).natAbs = nb Q := by cases s <;> simp
        rw [this]; omega
      · rw [hE]
        refine enc hp s d hpos (sticky_low hlong) (sticky_high hlong) ?_ ?_
        · rw [hyv, mg_mul, show 0 - y.e - ((x : Int) + 1) + y.e = -((x + 1 : Nat) : Int) by omega]
          have : mg (2 * (q : Int) * y.m) (-((x + 1 : Nat) : Int)) ≤ mg (1 * 2 ^ (x + 1)) (-((x + 1 : Nat) : Int)) := by
            rw [mg_le, Int.mul_assoc, Int.mul_comm (q : Int), Int.pow_succ]; omega
          rw [mg_shift, show -((x + 1 : Nat) : Int) + ((x + 1 : Nat) : Int) = 0 by omega, mg_one] at this
          exact this
        · rw [hyv, mg_mul, show 0 - y.e - ((x : Int) + 1) + y.e = -((x + 1 : Nat) : Int) by omega]
          have : mg (1 * 2 ^ (x + 1)) (-((x + 1 : Nat) : Int)) ≤ mg ((2 * (q : Int) + 2) * y.m) (-((x + 1 : Nat) : Int)) := by
            rw [mg_le, Int.add_mul, Int.mul_assoc, Int.mul_comm (q : Int), Int.pow_succ]; omega
          rw [mg_shift, show -((x + 1 : Nat) : Int) + ((x + 1 : Nat) : Int) = 0 by omega, mg_one] at this
          exact this
end Mine

end

-- part Sp6
section
open PySem
set_option maxRecDepth 100000
set_option linter.unusedVariables false
set_option linter.unusedSimpArgs false
namespace Mine

theorem zero_pd : Fp.zero.pd = .tuple [.int 0, .int 0, .int 0, .int 0] := rfl
theorem one_pd : Fp.one.pd = .tuple [.int 0, .int 1, .int 0, .int 1] := rfl
theorem ne_nan (x : Fp) : cmpD .Eq x.pd (.tuple [.int 0, .int 0, .int (-123), .int (-1)]) = some false := by
  rw [Fp.pd, eq4, nan_ne, Bool.and_false, Bool.and_false, Bool.and_false]
theorem ne_inf (x : Fp) : cmpD .Eq x.pd (.tuple [.int 0, .int 0, .int (-456), .int (-2)]) = some false := by
  have : ((nb x.m : Int) == -2) = false := by simp <;> omega
  rw [Fp.pd, eq4, this, Bool.and_false, Bool.and_false, Bool.and_false]
theorem ne_ninf (x : Fp) : cmpD .Eq x.pd (.tuple [.int 1, .int 0, .int (-789), .int (-3)]) = some false := by
  have : ((nb x.m : Int) == -3) = false := by simp <;> omega
  rw [Fp.pd, eq4, this, Bool.and_false, Bool.and_false, Bool.and_false]
theorem c_in (xs ys : List PyData) : cmpD .In (.tuple xs) (.list ys) = if SeqAt.shaped (.list ys) = true ∧ SeqAt.shaped (.tuple xs) = true then some (ys.any fun y => PyData.eqv y (.tuple xs)) else none := rfl
theorem in_nan (a b c d : Fp) : cmpD .In (.tuple [.int 0, .int 0, .int (-123), .int (-1)]) (.list [a.pd, b.pd, c.pd, d.pd]) = some false := by
  have h : ∀ x : Fp, PyData.eqv x.pd (.tuple [.int 0, .int 0, .int (-123), .int (-1)]) = false := fun x => by
    have := ne_nan x
    rw [Fp.pd, c_tup, if_pos ⟨rfl, rfl⟩] at this
    exact Option.some.inj this
  rw [c_in, if_pos ⟨rfl, rfl⟩]
  simp [h]

structure IvOk (b E : Nat) (x y : Fp) : Prop where
  o1 : x.ok
  o2 : y.ok
  n1 : nb x.m ≤ b
  n2 : nb y.m ≤ b
  e1 : x.e.natAbs ≤ E
  e2 : y.e.natAbs ≤ E
  le : x.v ≤ y.v
theorem IvOk.mono {b E b' E' : Nat} {x y : Fp} (h : IvOk b E x y) (hb : b ≤ b') (hE : E ≤ E') : IvOk b' E' x y :=
  ⟨h.o1, h.o2, Nat.le_trans h.n1 hb, Nat.le_trans h.n2 hb, Nat.le_trans h.e1 hE, Nat.le_trans h.e2 hE, h.le⟩
theorem IvOk.neg {b E : Nat} {x y : Fp} (h : IvOk b E x y) : IvOk b E y.neg x.neg :=
  ⟨Fp.neg_ok h.o2, Fp.neg_ok h.o1, by rw [Fp.neg_m]; exact h.n2, by rw [Fp.neg_m]; exact h.n1, by rw [Fp.neg_e]; exact h.e2, by rw [Fp.neg_e]; exact h.e1, by rw [Fp.neg_v, Fp.neg_v]; have := h.le; grind⟩

theorem mneg_spec {n : Nat} (hn : 2 ≤ n) {a b : Fp} (ha : a.ok) (hb : b.ok) : run GG T n 17 [.tuple [a.pd, b.pd]] = some (.tuple [b.neg.pd, a.neg.pd]) := by
  obtain ⟨n, rfl⟩ : ∃ k, n = k + 1 := ⟨n - 1, by omega⟩
  refine run_ret rfl ⟨by show 1 ≤ 2; omega, by show 2 ≤ 1 + 1; omega⟩ ?_
  show exs GG _ [some (.tuple [a.pd, b.pd]), some (.int 0), none, none, none, none] b_mpi_neg = _
  simp only [b_mpi_neg, exs, ex, ev, evs, evB, get0, getS, List.set_cons_zero, List.set_cons_succ, setA0, setAS, Option.map_some, tr_int, tr_bool, neg_int, b_add, b_sub, b_and, b_xor, c_eq, c_ne, c_lt, c_le, c_gt, c_ge, Bool.not_true, Bool.not_false, if_true, if_false, Bool.false_eq_true, decide_true, decide_false, Int.natCast_one, Int.natCast_zero, Int.cast_ofNat_Int, beq_self_eq_true, List.length_cons, List.length_nil, Nat.reduceAdd, Nat.reduceLeDiff, Nat.zero_add, dat0, dat1, dat2, dat3, dat4, dat5, dat6, dat7, dat8, dat9, tab0, dsF, dsC, it0, it1, it2, it3, strne, strf, neg_spec (show 1 ≤ n by omega) ha, neg_spec (show 1 ≤ n by omega) hb]

/-- the smallest of the four products -/
def Mn (l a b c d : Rat) : Prop := (l = a * c ∨ l = a * d ∨ l = b * c ∨ l = b * d) ∧ l ≤ a * c ∧ l ≤ a * d ∧ l ≤ b * c ∧ l ≤ b * d
def Mx (l a b c d : Rat) : Prop := (l = a * c ∨ l = a * d ∨ l = b * c ∨ l = b * d) ∧ a * c ≤ l ∧ a * d ≤ l ∧ b * c ≤ l ∧ b * d ≤ l
theorem mono_r {x y z : Rat} (h : x ≤ y) (hz : 0 ≤ z) : x * z ≤ y * z := Rat.mul_le_mul_of_nonneg_right h hz
theorem anti_r {x y z : Rat} (h : x ≤ y) (hz : z ≤ 0) : y * z ≤ x * z := by
  have := mono_r h (show 0 ≤ -z by grind); grind
theorem mono_l {x y z : Rat} (h : x ≤ y) (hz : 0 ≤ z) : z * x ≤ z * y := Rat.mul_le_mul_of_nonneg_left h hz
theorem anti_l {x y z : Rat} (h : x ≤ y) (hz : z ≤ 0) : z * y ≤ z * x := by
  have := mono_l h (show 0 ≤ -z by grind); grind

structure MulOk (p : Nat) (a b c d : Fp) (z : PyData) : Prop where
  ex : ∃ l h : Fp, z = .tuple [(l.R true p).pd, (h.R false p).pd] ∧ l.ok ∧ h.ok ∧ Mn l.v a.v b.v c.v d.v ∧ Mx h.v a.v b.v c.v d.v ∧
    nb l.m ≤ 2000 ∧ nb h.m ≤ 2000 ∧ l.e.natAbs ≤ max a.e.natAbs b.e.natAbs + max c.e.natAbs d.e.natAbs ∧ h.e.natAbs ≤ max a.e.natAbs b.e.natAbs + max c.e.natAbs d.e.natAbs

theorem mmul_spec {n : Nat} (hn : 9 ≤ n) {a b c d : Fp} {E1 E2 : Nat} (hX : IvOk 400 E1 a b) (hY : IvOk 400 E2 c d) {p : Nat} (hp : 1 ≤ p) :
    ∃ z, run GG T n 18 [.tuple [a.pd, b.pd], .tuple [c.pd, d.pd], .int p] = some z ∧ MulOk p a b c d z := by
  obtain ⟨n, rfl⟩ : ∃ k, n = k + 1 := ⟨n - 1, by omega⟩
  obtain ⟨oa, ob, na, nb', -, -, hab⟩ := hX
  obtain ⟨oc, od', nc, nd, -, -, hcd⟩ := hY
  have run' : ∀ z : PyData, exs GG (run GG T n) (some (.tuple [a.pd, b.pd]) :: some (.tuple [c.pd, d.pd]) :: some (.int p) :: List.replicate 11 none) b_mpi_mul = some (.ret z) → run GG T (n + 1) 18 [.tuple [a.pd, b.pd], .tuple [c.pd, d.pd], .int p] = some z := fun c h => run_ret rfl ⟨Nat.le_refl _, Nat.le_add_right _ _⟩ h
  have hrep : List.replicate 11 (none : Option PyData) = [none, none, none, none, none, none, none, none, none, none, none] := rfl
  rw [hrep] at run'
  have sa := sign_spec (n := n) (by omega) oa
  have sb := sign_spec (n := n) (by omega) ob
  have sc := sign_spec (n := n) (by omega) oc
  have sd := sign_spec (n := n) (by omega) od'
  have ga := sgn_neg oa
  have gb := sgn_neg ob
  have gc := sgn_neg oc
  have gd := sgn_neg od'
  have za := sgn_zero (x := a)
  have zb := sgn_zero (x := b)
  have zc := sgn_zero (x := c)
  have zd := sgn_zero (x := d)
  have m (x y : Fp) (ox : x.ok) (oy : y.ok) (nx : nb x.m ≤ 400) (ny : nb y.m ≤ 400) (dd : Bool) := mul_spec (n := n) (by omega) ox oy hp dd (by omega)
  have tup : ∀ (u v u' v' : Fp), u.ok → v.ok → u'.ok → v'.ok → nb u.m ≤ 400 → nb v.m ≤ 400 → nb u'.m ≤ 400 → nb v'.m ≤ 400 →
      (u = a ∨ u = b) → (v = c ∨ v = d) → (u' = a ∨ u' = b) → (v' = c ∨ v' = d) →
      (u.v * v.v ≤ a.v * c.v ∧ u.v * v.v ≤ a.v * d.v ∧ u.v * v.v ≤ b.v * c.v ∧ u.v * v.v ≤ b.v * d.v) → (a.v * c.v ≤ u'.v * v'.v ∧ a.v * d.v ≤ u'.v * v'.v ∧ b.v * c.v ≤ u'.v * v'.v ∧ b.v * d.v ≤ u'.v * v'.v) →
      MulOk p a b c d (.tuple [((mulF u v).R true p).pd, ((mulF u' v').R false p).pd]) := fun u v u' v' o1 o2 o3 o4 n1 n2 n3 n4 e1 e2 e3 e4 h1 h2 => by
    refine ⟨mulF u v, mulF u' v', rfl, mulF_ok o1 o2, mulF_ok o3 o4, ⟨?_, by rw [mulF_v]; exact h1⟩, ⟨?_, by rw [mulF_v]; exact h2⟩, ?_, ?_, ?_, ?_⟩
    · rw [mulF_v]; rcases e1 with rfl | rfl <;> rcases e2 with rfl | rfl <;> simp
    · rw [mulF_v]; rcases e3 with rfl | rfl <;> rcases e4 with rfl | rfl <;> simp
    · have := mulF_nb u v; omega
    · have := mulF_nb u' v'; omega
    · have := mulF_e u v; rcases e1 with rfl | rfl <;> rcases e2 with rfl | rfl <;> omega
    · have := mulF_e u' v'; rcases e3 with rfl | rfl <;> rcases e4 with rfl | rfl <;> omega
  have zz : ∀ (z : Rat), z * 0 = 0 := fun z => by grind
  have zz' : ∀ (z : Rat), 0 * z = 0 := fun z => by grind
  have zero : ((a.v = 0 ∧ b.v = 0) ∨ (c.v = 0 ∧ d.v = 0)) → MulOk p a b c d (.tuple [.tuple [.int 0, .int 0, .int 0, .int 0], .tuple [.int 0, .int 0, .int 0, .int 0]]) := fun h => by
    refine ⟨Fp.zero, Fp.zero, by rw [Fp.R_zero, Fp.R_zero, zero_pd], Fp.zero_ok, Fp.zero_ok, ?_, ?_, Nat.zero_le _, Nat.zero_le _, Nat.zero_le _, Nat.zero_le _⟩
    · rw [Fp.zero_v]; rcases h with ⟨h1, h2⟩ | ⟨h1, h2⟩ <;> simp [Mn, h1, h2, zz, zz'] <;> exact Rat.le_refl
    · rw [Fp.zero_v]; rcases h with ⟨h1, h2⟩ | ⟨h1, h2⟩ <;> simp [Mx, h1, h2, zz, zz'] <;> exact Rat.le_refl
  by_cases hs0 : a.v = 0 ∧ b.v = 0
  · refine ⟨_, run' _ ?_, zero (.inl hs0)⟩
    simp only [b_mpi_mul, exs, ex, ev, evs, evB, get0, getS, List.set_cons_zero, List.set_cons_succ, setA0, setAS, Option.map_some, tr_int, tr_bool, neg_int, b_add, b_sub, b_and, b_xor, c_eq, c_ne, c_lt, c_le, c_gt, c_ge, Bool.not_true, Bool.not_false, if_true, if_false, Bool.false_eq_true, decide_true, decide_false, Int.natCast_one, Int.natCast_zero, Int.cast_ofNat_Int, beq_self_eq_true, List.length_cons, List.length_nil, Nat.reduceAdd, Nat.reduceLeDiff, Nat.zero_add, dat0, dat1, dat2, dat3, dat4, dat5, dat6, dat7, dat8, dat9, tab0, dsF, dsC, it0, it1, it2, it3, strne, strf, sa, sb, sc, sd, za.mpr hs0.1, zb.mpr hs0.2, ne_inf, ne_ninf]
  have nchain1 : ∀ {α : Type} (A B : α), (match (some (sgn a == sgn b) : Option Bool) with | some true => A | _ => B) = (match (some (sgn a == sgn b) : Option Bool) with | some true => A | _ => B) := fun _ _ => rfl
  have h1 : (sgn a == sgn b) = false ∨ (sgn b == 0) = false := by
    by_cases hb0 : b.v = 0
    · left
      rw [zb.mpr hb0]
      have : sgn a ≠ 0 := fun c => hs0 ⟨za.mp c, hb0⟩
      simp [this]
    · right
      have : sgn b ≠ 0 := fun c => hb0 (zb.mp c)
      simp [this]
  have hb1 : ∀ (C : Nat → List PyData → Option PyData) (ρ : Loc), getD ρ 7 = some (.int (sgn a)) → getD ρ 8 = some (.int (sgn b)) → ev GG C ρ (.chain .Eq .Eq (.loc 7) (.loc 8) (.int 0)) = some (.bool false) := fun C ρ e1 e2 => by
    simp only [ev, e1, e2, c_eq]
    rcases h1 with h | h
    · simp only [h]
    · cases hh : (sgn a == sgn b) <;> simp only [h]
  by_cases ht0 : c.v = 0 ∧ d.v = 0
  · refine ⟨_, run' _ ?_, zero (.inr ht0)⟩
    unfold b_mpi_mul
    refine (exs_next (ρ' := _) (by simp only [exs, ex, ev, evs, evB, get0, getS, List.set_cons_zero, List.set_cons_succ, setA0, setAS, Option.map_some, tr_int, tr_bool, neg_int, b_add, b_sub, b_and, b_xor, c_eq, c_ne, c_lt, c_le, c_gt, c_ge, Bool.not_true, Bool.not_false, if_true, if_false, Bool.false_eq_true, decide_true, decide_false, Int.natCast_one, Int.natCast_zero, Int.cast_ofNat_Int, beq_self_eq_true, List.length_cons, List.length_nil, Nat.reduceAdd, Nat.reduceLeDiff, Nat.zero_add, dat0, dat1, dat2, dat3, dat4, dat5, dat6, dat7, dat8, dat9, tab0, dsF, dsC, it0, it1, it2, it3, strne, strf]; rfl)).trans ?_
    refine (exs_next (ρ' := _) (by simp only [exs, ex, ev, evs, evB, get0, getS, List.set_cons_zero, List.set_cons_succ, setA0, setAS, Option.map_some, tr_int, tr_bool, neg_int, b_add, b_sub, b_and, b_xor, c_eq, c_ne, c_lt, c_le, c_gt, c_ge, Bool.not_true, Bool.not_false, if_true, if_false, Bool.false_eq_true, decide_true, decide_false, Int.natCast_one, Int.natCast_zero, Int.cast_ofNat_Int, beq_self_eq_true, List.length_cons, List.length_nil, Nat.reduceAdd, Nat.reduceLeDiff, Nat.zero_add, dat0, dat1, dat2, dat3, dat4, dat5, dat6, dat7, dat8, dat9, tab0, dsF, dsC, it0, it1, it2, it3, strne, strf]; rfl)).trans ?_
    refine (exs_next (ρ' := _) (by simp only [exs, ex, ev, evs, evB, get0, getS, List.set_cons_zero, List.set_cons_succ, setA0, setAS, Option.map_some, tr_int, tr_bool, neg_int, b_add, b_sub, b_and, b_xor, c_eq, c_ne, c_lt, c_le, c_gt, c_ge, Bool.not_true, Bool.not_false, if_true, if_false, Bool.false_eq_true, decide_true, decide_false, Int.natCast_one, Int.natCast_zero, Int.cast_ofNat_Int, beq_self_eq_true, List.length_cons, List.length_nil, Nat.reduceAdd, Nat.reduceLeDiff, Nat.zero_add, dat0, dat1, dat2, dat3, dat4, dat5, dat6, dat7, dat8, dat9, tab0, dsF, dsC, it0, it1, it2, it3, strne, strf, sa]; rfl)).trans ?_
    refine (exs_next (ρ' := _) (by simp only [exs, ex, ev, evs, evB, get0, getS, List.set_cons_zero, List.set_cons_succ, setA0, setAS, Option.map_some, tr_int, tr_bool, neg_int, b_add, b_sub, b_and, b_xor, c_eq, c_ne, c_lt, c_le, c_gt, c_ge, Bool.not_true, Bool.not_false, if_true, if_false, Bool.false_eq_true, decide_true, decide_false, Int.natCast_one, Int.natCast_zero, Int.cast_ofNat_Int, beq_self_eq_true, List.length_cons, List.length_nil, Nat.reduceAdd, Nat.reduceLeDiff, Nat.zero_add, dat0, dat1, dat2, dat3, dat4, dat5, dat6, dat7, dat8, dat9, tab0, dsF, dsC, it0, it1, it2, it3, strne, strf, sb]; rfl)).trans ?_
    refine (exs_next (ρ' := _) (by simp only [exs, ex, ev, evs, evB, get0, getS, List.set_cons_zero, List.set_cons_succ, setA0, setAS, Option.map_some, tr_int, tr_bool, neg_int, b_add, b_sub, b_and, b_xor, c_eq, c_ne, c_lt, c_le, c_gt, c_ge, Bool.not_true, Bool.not_false, if_true, if_false, Bool.false_eq_true, decide_true, decide_false, Int.natCast_one, Int.natCast_zero, Int.cast_ofNat_Int, beq_self_eq_true, List.length_cons, List.length_nil, Nat.reduceAdd, Nat.reduceLeDiff, Nat.zero_add, dat0, dat1, dat2, dat3, dat4, dat5, dat6, dat7, dat8, dat9, tab0, dsF, dsC, it0, it1, it2, it3, strne, strf, sc]; rfl)).trans ?_
    refine (exs_next (ρ' := _) (by simp only [exs, ex, ev, evs, evB, get0, getS, List.set_cons_zero, List.set_cons_succ, setA0, setAS, Option.map_some, tr_int, tr_bool, neg_int, b_add, b_sub, b_and, b_xor, c_eq, c_ne, c_lt, c_le, c_gt, c_ge, Bool.not_true, Bool.not_false, if_true, if_false, Bool.false_eq_true, decide_true, decide_false, Int.natCast_one, Int.natCast_zero, Int.cast_ofNat_Int, beq_self_eq_true, List.length_cons, List.length_nil, Nat.reduceAdd, Nat.reduceLeDiff, Nat.zero_add, dat0, dat1, dat2, dat3, dat4, dat5, dat6, dat7, dat8, dat9, tab0, dsF, dsC, it0, it1, it2, it3, strne, strf, sd]; rfl)).trans ?_
    refine (exs_next ((exIteF (hb1 _ _ rfl rfl) rfl).trans (by rw [exs]))).trans ?_
    simp only [exs, ex, ev, evs, evB, get0, getS, List.set_cons_zero, List.set_cons_succ, setA0, setAS, Option.map_some, tr_int, tr_bool, neg_int, b_add, b_sub, b_and, b_xor, c_eq, c_ne, c_lt, c_le, c_gt, c_ge, Bool.not_true, Bool.not_false, if_true, if_false, Bool.false_eq_true, decide_true, decide_false, Int.natCast_one, Int.natCast_zero, Int.cast_ofNat_Int, beq_self_eq_true, List.length_cons, List.length_nil, Nat.reduceAdd, Nat.reduceLeDiff, Nat.zero_add, dat0, dat1, dat2, dat3, dat4, dat5, dat6, dat7, dat8, dat9, tab0, dsF, dsC, it0, it1, it2, it3, strne, strf, zc.mpr ht0.1, zd.mpr ht0.2, ne_inf, ne_ninf]
  have h2 : (sgn c == sgn d) = false ∨ (sgn d == 0) = false := by
    by_cases hb0 : d.v = 0
    · left
      rw [zd.mpr hb0]
      have : sgn c ≠ 0 := fun e => ht0 ⟨zc.mp e, hb0⟩
      simp [this]
    · right
      have : sgn d ≠ 0 := fun e => hb0 (zd.mp e)
      simp [this]
  have hb2 : ∀ (C : Nat → List PyData → Option PyData) (ρ : Loc), getD ρ 9 = some (.int (sgn c)) → getD ρ 10 = some (.int (sgn d)) → ev GG C ρ (.chain .Eq .Eq (.loc 9) (.loc 10) (.int 0)) = some (.bool false) := fun C ρ e1 e2 => by
    simp only [ev, e1, e2, c_eq]
    rcases h2 with h | h
    · simp only [h]
    · cases hh : (sgn c == sgn d) <;> simp only [h]
  -- the road up to the branches
  have road : ∀ z, exs GG (run GG T n) [some (.tuple [a.pd, b.pd]), some (.tuple [c.pd, d.pd]), some (.int p), some a.pd, some b.pd, some c.pd, some d.pd, some (.int (sgn a)), some (.int (sgn b)), some (.int (sgn c)), some (.int (sgn d)), none, none, none]
      (match b_mpi_mul with | .cons _ (.cons _ (.cons _ (.cons _ (.cons _ (.cons _ (.cons _ (.cons _ r))))))) => r | _ => .nil) = some (.ret z) → run GG T (n + 1) 18 [.tuple [a.pd, b.pd], .tuple [c.pd, d.pd], .int p] = some z := fun z hz => run' z (by
    unfold b_mpi_mul
    refine (exs_next (ρ' := _) (by simp only [exs, ex, ev, evs, evB, get0, getS, List.set_cons_zero, List.set_cons_succ, setA0, setAS, Option.map_some, tr_int, tr_bool, neg_int, b_add, b_sub, b_and, b_xor, c_eq, c_ne, c_lt, c_le, c_gt, c_ge, Bool.not_true, Bool.not_false, if_true, if_false, Bool.false_eq_true, decide_true, decide_false, Int.natCast_one, Int.natCast_zero, Int.cast_ofNat_Int, beq_self_eq_true, List.length_cons, List.length_nil, Nat.reduceAdd, Nat.reduceLeDiff, Nat.zero_add, dat0, dat1, dat2, dat3, dat4, dat5, dat6, dat7, dat8, dat9, tab0, dsF, dsC, it0, it1, it2, it3, strne, strf]; rfl)).trans ?_
    refine (exs_next (ρ' := _) (by simp only [exs, ex, ev, evs, evB, get0, getS, List.set_cons_zero, List.set_cons_succ, setA0, setAS, Option.map_some, tr_int, tr_bool, neg_int, b_add, b_sub, b_and, b_xor, c_eq, c_ne, c_lt, c_le, c_gt, c_ge, Bool.not_true, Bool.not_false, if_true, if_false, Bool.false_eq_true, decide_true, decide_false, Int.natCast_one, Int.natCast_zero, Int.cast_ofNat_Int, beq_self_eq_true, List.length_cons, List.length_nil, Nat.reduceAdd, Nat.reduceLeDiff, Nat.zero_add, dat0, dat1, dat2, dat3, dat4, dat5, dat6, dat7, dat8, dat9, tab0, dsF, dsC, it0, it1, it2, it3, strne, strf]; rfl)).trans ?_
    refine (exs_next (ρ' := _) (by simp only [exs, ex, ev, evs, evB, get0, getS, List.set_cons_zero, List.set_cons_succ, setA0, setAS, Option.map_some, tr_int, tr_bool, neg_int, b_add, b_sub, b_and, b_xor, c_eq, c_ne, c_lt, c_le, c_gt, c_ge, Bool.not_true, Bool.not_false, if_true, if_false, Bool.false_eq_true, decide_true, decide_false, Int.natCast_one, Int.natCast_zero, Int.cast_ofNat_Int, beq_self_eq_true, List.length_cons, List.length_nil, Nat.reduceAdd, Nat.reduceLeDiff, Nat.zero_add, dat0, dat1, dat2, dat3, dat4, dat5, dat6, dat7, dat8, dat9, tab0, dsF, dsC, it0, it1, it2, it3, strne, strf, sa]; rfl)).trans ?_
    refine (exs_next (ρ' := _) (by simp only [exs, ex, ev, evs, evB, get0, getS, List.set_cons_zero, List.set_cons_succ, setA0, setAS, Option.map_some, tr_int, tr_bool, neg_int, b_add, b_sub, b_and, b_xor, c_eq, c_ne, c_lt, c_le, c_gt, c_ge, Bool.not_true, Bool.not_false, if_true, if_false, Bool.false_eq_true, decide_true, decide_false, Int.natCast_one, Int.natCast_zero, Int.cast_ofNat_Int, beq_self_eq_true, List.length_cons, List.length_nil, Nat.reduceAdd, Nat.reduceLeDiff, Nat.zero_add, dat0, dat1, dat2, dat3, dat4, dat5, dat6, dat7, dat8, dat9, tab0, dsF, dsC, it0, it1, it2, it3, strne, strf, sb]; rfl)).trans ?_
    refine (exs_next (ρ' := _) (by simp only [exs, ex, ev, evs, evB, get0, getS, List.set_cons_zero, List.set_cons_succ, setA0, setAS, Option.map_some, tr_int, tr_bool, neg_int, b_add, b_sub, b_and, b_xor, c_eq, c_ne, c_lt, c_le, c_gt, c_ge, Bool.not_true, Bool.not_false, if_true, if_false, Bool.false_eq_true, decide_true, decide_false, Int.natCast_one, Int.natCast_zero, Int.cast_ofNat_Int, beq_self_eq_true, List.length_cons, List.length_nil, Nat.reduceAdd, Nat.reduceLeDiff, Nat.zero_add, dat0, dat1, dat2, dat3, dat4, dat5, dat6, dat7, dat8, dat9, tab0, dsF, dsC, it0, it1, it2, it3, strne, strf, sc]; rfl)).trans ?_
    refine (exs_next (ρ' := _) (by simp only [exs, ex, ev, evs, evB, get0, getS, List.set_cons_zero, List.set_cons_succ, setA0, setAS, Option.map_some, tr_int, tr_bool, neg_int, b_add, b_sub, b_and, b_xor, c_eq, c_ne, c_lt, c_le, c_gt, c_ge, Bool.not_true, Bool.not_false, if_true, if_false, Bool.false_eq_true, decide_true, decide_false, Int.natCast_one, Int.natCast_zero, Int.cast_ofNat_Int, beq_self_eq_true, List.length_cons, List.length_nil, Nat.reduceAdd, Nat.reduceLeDiff, Nat.zero_add, dat0, dat1, dat2, dat3, dat4, dat5, dat6, dat7, dat8, dat9, tab0, dsF, dsC, it0, it1, it2, it3, strne, strf, sd]; rfl)).trans ?_
    refine (exs_next ((exIteF (hb1 _ _ rfl rfl) rfl).trans (by rw [exs]))).trans ?_
    refine (exs_next ((exIteF (hb2 _ _ rfl rfl) rfl).trans (by rw [exs]))).trans ?_
    exact hz)
  have na1 : ∀ x : Fp, 0 ≤ x.v → (sgn x < 0 ↔ x.v < 0) → (sgn x ≥ 0) = True := fun x h q => by simp; rcases Int.lt_or_le (sgn x) 0 with h' | h'; exact absurd (q.mp h') (Rat.not_lt.mpr h); exact h'
  have na2 : ∀ x : Fp, x.v < 0 → (sgn x < 0 ↔ x.v < 0) → (sgn x ≥ 0) = False := fun x h q => by have := q.mpr h; simp; omega
  have na3 : ∀ x : Fp, x.v ≤ 0 → (sgn x > 0 ↔ 0 < x.v) → (sgn x ≤ 0) = True := fun x h q => by simp; rcases Int.lt_or_le 0 (sgn x) with h' | h'; exact absurd (q.mp h') (Rat.not_lt.mpr h); exact h'
  have na4 : ∀ x : Fp, 0 < x.v → (sgn x > 0 ↔ 0 < x.v) → (sgn x ≤ 0) = False := fun x h q => by have := q.mpr h; simp; omega
  by_cases pa : 0 ≤ a.v
  · have pb : 0 ≤ b.v := Rat.le_trans pa hab
    have qa := na1 a pa ga.1
    by_cases pc : 0 ≤ c.v
    · have pd : 0 ≤ d.v := Rat.le_trans pc hcd
      have qc := na1 c pc gc.1
      refine ⟨_, road _ ?_, tup a c b d oa oc ob od' na nc nb' nd (.inl rfl) (.inl rfl) (.inr rfl) (.inr rfl) ?_ ?_⟩
      · simp only [b_mpi_mul, exs, ex, ev, evs, evB, get0, getS, List.set_cons_zero, List.set_cons_succ, setA0, setAS, Option.map_some, tr_int, tr_bool, neg_int, b_add, b_sub, b_and, b_xor, c_eq, c_ne, c_lt, c_le, c_gt, c_ge, Bool.not_true, Bool.not_false, if_true, if_false, Bool.false_eq_true, decide_true, decide_false, Int.natCast_one, Int.natCast_zero, Int.cast_ofNat_Int, beq_self_eq_true, List.length_cons, List.length_nil, Nat.reduceAdd, Nat.reduceLeDiff, Nat.zero_add, dat0, dat1, dat2, dat3, dat4, dat5, dat6, dat7, dat8, dat9, tab0, dsF, dsC, it0, it1, it2, it3, strne, strf, qa, qc, m a c oa oc na nc, m b d ob od' nb' nd, ne_nan]
      · have := mono_r hab pc; have := mono_l hcd pa; have := mono_l hcd pb; grind
      · have := mono_r hab pc; have := mono_l hcd pa; have := mono_l hcd pb; have := mono_r hab pd; grind
    · have pc' := Rat.not_le.mp pc
      have qc := na2 c pc' gc.1
      by_cases pd : d.v ≤ 0
      · have qd := na3 d pd gd.2
        refine ⟨_, road _ ?_, tup b c a d ob oc oa od' nb' nc na nd (.inr rfl) (.inl rfl) (.inl rfl) (.inr rfl) ?_ ?_⟩
        · simp only [b_mpi_mul, exs, ex, ev, evs, evB, get0, getS, List.set_cons_zero, List.set_cons_succ, setA0, setAS, Option.map_some, tr_int, tr_bool, neg_int, b_add, b_sub, b_and, b_xor, c_eq, c_ne, c_lt, c_le, c_gt, c_ge, Bool.not_true, Bool.not_false, if_true, if_false, Bool.false_eq_true, decide_true, decide_false, Int.natCast_one, Int.natCast_zero, Int.cast_ofNat_Int, beq_self_eq_true, List.length_cons, List.length_nil, Nat.reduceAdd, Nat.reduceLeDiff, Nat.zero_add, dat0, dat1, dat2, dat3, dat4, dat5, dat6, dat7, dat8, dat9, tab0, dsF, dsC, it0, it1, it2, it3, strne, strf, qa, qc, qd, m b c ob oc nb' nc, m a d oa od' na nd, ne_nan]
        · have := anti_r hab (Rat.le_of_lt pc'); have := mono_l hcd pa; have := mono_l hcd pb; have := anti_r hab pd; grind
        · have := anti_r hab (Rat.le_of_lt pc'); have := mono_l hcd pa; have := mono_l hcd pb; have := anti_r hab pd; grind
      · have pd' := Rat.not_le.mp pd
        have qd := na4 d pd' gd.2
        refine ⟨_, road _ ?_, tup b c b d ob oc ob od' nb' nc nb' nd (.inr rfl) (.inl rfl) (.inr rfl) (.inr rfl) ?_ ?_⟩
        · simp only [b_mpi_mul, exs, ex, ev, evs, evB, get0, getS, List.set_cons_zero, List.set_cons_succ, setA0, setAS, Option.map_some, tr_int, tr_bool, neg_int, b_add, b_sub, b_and, b_xor, c_eq, c_ne, c_lt, c_le, c_gt, c_ge, Bool.not_true, Bool.not_false, if_true, if_false, Bool.false_eq_true, decide_true, decide_false, Int.natCast_one, Int.natCast_zero, Int.cast_ofNat_Int, beq_self_eq_true, List.length_cons, List.length_nil, Nat.reduceAdd, Nat.reduceLeDiff, Nat.zero_add, dat0, dat1, dat2, dat3, dat4, dat5, dat6, dat7, dat8, dat9, tab0, dsF, dsC, it0, it1, it2, it3, strne, strf, qa, qc, qd, m b c ob oc nb' nc, m b d ob od' nb' nd, ne_nan]
        · have := anti_r hab (Rat.le_of_lt pc'); have := mono_l hcd pa; have := mono_l hcd pb; have := mono_r hab (Rat.le_of_lt pd'); grind
        · have := anti_r hab (Rat.le_of_lt pc'); have := mono_l hcd pa; have := mono_l hcd pb; have := mono_r hab (Rat.le_of_lt pd'); grind
  · have pa' := Rat.not_le.mp pa
    have qa := na2 a pa' ga.1
    by_cases pb : b.v ≤ 0
    · have qb := na3 b pb gb.2
      by_cases pc : 0 ≤ c.v
      · have pd : 0 ≤ d.v := Rat.le_trans pc hcd
        have qc := na1 c pc gc.1
        refine ⟨_, road _ ?_, tup a d b c oa od' ob oc na nd nb' nc (.inl rfl) (.inr rfl) (.inr rfl) (.inl rfl) ?_ ?_⟩
        · simp only [b_mpi_mul, exs, ex, ev, evs, evB, get0, getS, List.set_cons_zero, List.set_cons_succ, setA0, setAS, Option.map_some, tr_int, tr_bool, neg_int, b_add, b_sub, b_and, b_xor, c_eq, c_ne, c_lt, c_le, c_gt, c_ge, Bool.not_true, Bool.not_false, if_true, if_false, Bool.false_eq_true, decide_true, decide_false, Int.natCast_one, Int.natCast_zero, Int.cast_ofNat_Int, beq_self_eq_true, List.length_cons, List.length_nil, Nat.reduceAdd, Nat.reduceLeDiff, Nat.zero_add, dat0, dat1, dat2, dat3, dat4, dat5, dat6, dat7, dat8, dat9, tab0, dsF, dsC, it0, it1, it2, it3, strne, strf, qa, qb, qc, m a d oa od' na nd, m b c ob oc nb' nc, ne_nan]
        · have := anti_l hcd (Rat.le_of_lt pa'); have := mono_r hab pc; have := mono_r hab pd; have := anti_l hcd pb; grind
        · have := anti_l hcd (Rat.le_of_lt pa'); have := mono_r hab pc; have := mono_r hab pd; have := anti_l hcd pb; grind
      · have pc' := Rat.not_le.mp pc
        have qc := na2 c pc' gc.1
        by_cases pd : d.v ≤ 0
        · have qd := na3 d pd gd.2
          refine ⟨_, road _ ?_, tup b d a c ob od' oa oc nb' nd na nc (.inr rfl) (.inr rfl) (.inl rfl) (.inl rfl) ?_ ?_⟩
          · simp only [b_mpi_mul, exs, ex, ev, evs, evB, get0, getS, List.set_cons_zero, List.set_cons_succ, setA0, setAS, Option.map_some, tr_int, tr_bool, neg_int, b_add, b_sub, b_and, b_xor, c_eq, c_ne, c_lt, c_le, c_gt, c_ge, Bool.not_true, Bool.not_false, if_true, if_false, Bool.false_eq_true, decide_true, decide_false, Int.natCast_one, Int.natCast_zero, Int.cast_ofNat_Int, beq_self_eq_true, List.length_cons, List.length_nil, Nat.reduceAdd, Nat.reduceLeDiff, Nat.zero_add, dat0, dat1, dat2, dat3, dat4, dat5, dat6, dat7, dat8, dat9, tab0, dsF, dsC, it0, it1, it2, it3, strne, strf, qa, qb, qc, qd, m b d ob od' nb' nd, m a c oa oc na nc, ne_nan]
          · have := anti_l hcd (Rat.le_of_lt pa'); have := anti_r hab (Rat.le_of_lt pc'); have := anti_r hab pd; have := anti_l hcd pb; grind
          · have := anti_l hcd (Rat.le_of_lt pa'); have := anti_r hab (Rat.le_of_lt pc'); have := anti_r hab pd; have := anti_l hcd pb; grind
        · have pd' := Rat.not_le.mp pd
          have qd := na4 d pd' gd.2
          refine ⟨_, road _ ?_, tup a d a c oa od' oa oc na nd na nc (.inl rfl) (.inr rfl) (.inl rfl) (.inl rfl) ?_ ?_⟩
          · simp only [b_mpi_mul, exs, ex, ev, evs, evB, get0, getS, List.set_cons_zero, List.set_cons_succ, setA0, setAS, Option.map_some, tr_int, tr_bool, neg_int, b_add, b_sub, b_and, b_xor, c_eq, c_ne, c_lt, c_le, c_gt, c_ge, Bool.not_true, Bool.not_false, if_true, if_false, Bool.false_eq_true, decide_true, decide_false, Int.natCast_one, Int.natCast_zero, Int.cast_ofNat_Int, beq_self_eq_true, List.length_cons, List.length_nil, Nat.reduceAdd, Nat.reduceLeDiff, Nat.zero_add, dat0, dat1, dat2, dat3, dat4, dat5, dat6, dat7, dat8, dat9, tab0, dsF, dsC, it0, it1, it2, it3, strne, strf, qa, qb, qc, qd, m a d oa od' na nd, m a c oa oc na nc, ne_nan]
          · have := anti_l hcd (Rat.le_of_lt pa'); have := anti_r hab (Rat.le_of_lt pc'); have := mono_r hab (Rat.le_of_lt pd'); have := anti_l hcd pb; grind
          · have := anti_l hcd (Rat.le_of_lt pa'); have := anti_r hab (Rat.le_of_lt pc'); have := mono_r hab (Rat.le_of_lt pd'); have := anti_l hcd pb; grind
    · have pb' := Rat.not_le.mp pb
      have qb := na4 b pb' gb.2
      have sm : ∀ (u v : Fp), u.ok → v.ok → nb u.m ≤ 400 → nb v.m ≤ 400 → Sm (mulF u v) := fun u v o1 o2 n1 n2 => ⟨mulF_ok o1 o2, by have := mulF_nb u v; omega⟩
      obtain ⟨mn, mx, hmm, i1, i2, hall⟩ := mm_spec (n := n) (by omega) (mulF a c) [mulF a d, mulF b c, mulF b d] (by show 3 < 10; decide) (fun y hy => by
        simp only [List.mem_cons, List.not_mem_nil, or_false] at hy
        rcases hy with rfl | rfl | rfl | rfl
        · exact sm _ _ oa oc na nc
        · exact sm _ _ oa od' na nd
        · exact sm _ _ ob oc nb' nc
        · exact sm _ _ ob od' nb' nd)
      simp only [List.map_cons, List.map_nil] at hmm
      have k1 := hall _ (List.mem_cons_self ..)
      have k2 := hall (mulF a d) (by simp)
      have k3 := hall (mulF b c) (by simp)
      have k4 := hall (mulF b d) (by simp)
      simp only [mulF_v] at k1 k2 k3 k4
      have prop : ∀ z : Fp, z ∈ mulF a c :: [mulF a d, mulF b c, mulF b d] → z.ok ∧ nb z.m ≤ 2000 ∧ z.e.natAbs ≤ max a.e.natAbs b.e.natAbs + max c.e.natAbs d.e.natAbs ∧ (z.v = a.v * c.v ∨ z.v = a.v * d.v ∨ z.v = b.v * c.v ∨ z.v = b.v * d.v) := fun z hz => by
        simp only [List.mem_cons, List.not_mem_nil, or_false] at hz
        rcases hz with rfl | rfl | rfl | rfl
        · exact ⟨mulF_ok oa oc, by have := mulF_nb a c; omega, by have := mulF_e a c; omega, .inl (mulF_v _ _)⟩
        · exact ⟨mulF_ok oa od', by have := mulF_nb a d; omega, by have := mulF_e a d; omega, .inr (.inl (mulF_v _ _))⟩
        · exact ⟨mulF_ok ob oc, by have := mulF_nb b c; omega, by have := mulF_e b c; omega, .inr (.inr (.inl (mulF_v _ _)))⟩
        · exact ⟨mulF_ok ob od', by have := mulF_nb b d; omega, by have := mulF_e b d; omega, .inr (.inr (.inr (mulF_v _ _)))⟩
      have P1 := prop mn i1
      have P2 := prop mx i2
      refine ⟨.tuple [(mn.R true p).pd, (mx.R false p).pd], road _ ?_, ⟨mn, mx, rfl, P1.1, P2.1, ⟨P1.2.2.2, k1.1, k2.1, k3.1, k4.1⟩, ⟨P2.2.2.2, k1.2, k2.2, k3.2, k4.2⟩, P1.2.1, P2.2.1, P1.2.2.1, P2.2.2.1⟩⟩
      have m0 (x y : Fp) (ox : x.ok) (oy : y.ok) (nx : nb x.m ≤ 400) (ny : nb y.m ≤ 400) := mul0_spec (n := n) (by omega) ox oy (by omega)
      simp only [b_mpi_mul, exs, ex, ev, evs, evB, get0, getS, List.set_cons_zero, List.set_cons_succ, setA0, setAS, Option.map_some, tr_int, tr_bool, neg_int, b_add, b_sub, b_and, b_xor, c_eq, c_ne, c_lt, c_le, c_gt, c_ge, Bool.not_true, Bool.not_false, if_true, if_false, Bool.false_eq_true, decide_true, decide_false, Int.natCast_one, Int.natCast_zero, Int.cast_ofNat_Int, beq_self_eq_true, List.length_cons, List.length_nil, Nat.reduceAdd, Nat.reduceLeDiff, Nat.zero_add, dat0, dat1, dat2, dat3, dat4, dat5, dat6, dat7, dat8, dat9, tab0, dsF, dsC, it0, it1, it2, it3, strne, strf, qa, qb, m0 a c oa oc na nc, m0 a d oa od' na nd, m0 b c ob oc nb' nc, m0 b d ob od' nb' nd, in_nan, hmm, pos_spec (show 4 ≤ n by omega) P1.1 hp, pos_spec (show 4 ≤ n by omega) P2.1 hp]
end Mine

end

-- part Sp7
section
open PySem
set_option maxRecDepth 100000
set_option linter.unusedVariables false
set_option linter.unusedSimpArgs false
namespace Mine

theorem pow_le {x y : Rat} (hx : 0 ≤ x) (h : x ≤ y) : ∀ k : Nat, x ^ k ≤ y ^ k
  | 0 => by rw [Rat.pow_zero, Rat.pow_zero]; exact Rat.le_refl
  | k + 1 => by
    rw [Rat.pow_succ, Rat.pow_succ]
    exact Rat.le_trans (mono_r (pow_le hx h k) hx) (mono_l h (Rat.pow_nonneg (Rat.le_trans hx h)))
theorem neg_pow_rat (x : Rat) (k : Nat) : (-x) ^ k = if k % 2 = 1 then -(x ^ k) else x ^ k := by
  induction k with
  | zero => simp
  | succ k ih =>
    rw [Rat.pow_succ, ih, Rat.pow_succ]
    by_cases h : k % 2 = 1
    · rw [if_pos h, if_neg (by omega)]; grind
    · rw [if_neg h, if_pos (by omega)]; grind
theorem even_neg (x : Rat) {k : Nat} (h : k % 2 = 0) : (-x) ^ k = x ^ k := by rw [neg_pow_rat, if_neg (by omega)]
theorem odd_neg (x : Rat) {k : Nat} (h : k % 2 = 1) : (-x) ^ k = -(x ^ k) := by rw [neg_pow_rat, if_pos h]
theorem odd_mono {x y : Rat} {k : Nat} (hk : k % 2 = 1) (h : x ≤ y) : x ^ k ≤ y ^ k := by
  by_cases hx : 0 ≤ x
  · exact pow_le hx h k
  · have hx' := Rat.not_le.mp hx
    by_cases hy : y ≤ 0
    · have := pow_le (show 0 ≤ -y by grind) (show -y ≤ -x by grind) k
      rw [odd_neg _ hk, odd_neg _ hk] at this
      grind
    · have h1 : 0 ≤ (-x) ^ k := Rat.pow_nonneg (by grind)
      have h2 : 0 ≤ y ^ k := Rat.pow_nonneg (by grind)
      rw [odd_neg _ hk] at h1
      grind
theorem even_nonneg (x : Rat) {k : Nat} (h : k % 2 = 0) : 0 ≤ x ^ k := by
  by_cases hx : 0 ≤ x
  · exact Rat.pow_nonneg hx
  · rw [← even_neg x h]; exact Rat.pow_nonneg (by grind)
theorem even_le {x M : Rat} {k : Nat} (h : k % 2 = 0) (h1 : x ≤ M) (h2 : -x ≤ M) : x ^ k ≤ M ^ k := by
  by_cases hx : 0 ≤ x
  · exact pow_le hx h1 k
  · rw [← even_neg x h]; exact pow_le (by grind) h2 k

structure PowOk (p k : Nat) (a b : Fp) (z : PyData) : Prop where
  ex : ∃ l h : Fp, z = .tuple [(l.R true p).pd, (h.R false p).pd] ∧ l.ok ∧ h.ok ∧ (∃ x, a.v ≤ x ∧ x ≤ b.v ∧ l.v = x ^ k) ∧ (∃ x, a.v ≤ x ∧ x ≤ b.v ∧ h.v = x ^ k) ∧
    (∀ x, a.v ≤ x → x ≤ b.v → l.v ≤ x ^ k ∧ x ^ k ≤ h.v) ∧ nb l.m ≤ 1000 ∧ nb h.m ≤ 1000 ∧ l.e.natAbs ≤ max a.e.natAbs b.e.natAbs * k ∧ h.e.natAbs ≤ max a.e.natAbs b.e.natAbs * k

theorem powF_nb (x : Fp) (k : Nat) : nb (powF x k).m ≤ nb x.m * k + 1 := by
  unfold powF
  split
  · exact Nat.zero_le _
  · exact nb_pow_le_mul _ _
theorem powF_e (x : Fp) (k : Nat) : (powF x k).e.natAbs ≤ x.e.natAbs * k := by
  unfold powF
  split
  · exact Nat.zero_le _
  · show (x.e * (k : Int)).natAbs ≤ _
    rw [Int.natAbs_mul]; simp
/-- the powers of an interval, one case each -/
theorem pow_ok_of {p k : Nat} {a b u v : Fp} (hk : 1 ≤ k) (hu : u = a ∨ u = b) (hv : v = a ∨ v = b) (oa : a.ok) (ob : b.ok) (hab : a.v ≤ b.v) (na : nb a.m * k < 1000) (nb' : nb b.m * k < 1000)
    (h : ∀ x, a.v ≤ x → x ≤ b.v → u.v ^ k ≤ x ^ k ∧ x ^ k ≤ v.v ^ k) : PowOk p k a b (.tuple [((powF u k).R true p).pd, ((powF v k).R false p).pd]) := by
  have e1 : ∀ w : Fp, w = a ∨ w = b → w.ok ∧ nb w.m * k < 1000 ∧ a.v ≤ w.v ∧ w.v ≤ b.v ∧ w.e.natAbs ≤ max a.e.natAbs b.e.natAbs := fun w hw => by
    rcases hw with rfl | rfl
    · exact ⟨oa, na, Rat.le_refl, hab, Nat.le_max_left _ _⟩
    · exact ⟨ob, nb', hab, Rat.le_refl, Nat.le_max_right _ _⟩
  obtain ⟨u1, u2, u3, u4, u5⟩ := e1 u hu
  obtain ⟨v1, v2, v3, v4, v5⟩ := e1 v hv
  refine ⟨powF u k, powF v k, rfl, powF_ok u1 k, powF_ok v1 k, ⟨_, u3, u4, powF_v u hk⟩, ⟨_, v3, v4, powF_v v hk⟩, fun x h1 h2 => ?_, ?_, ?_, ?_, ?_⟩
  · rw [powF_v u hk, powF_v v hk]; exact h x h1 h2
  · have := powF_nb u k; omega
  · have := powF_nb v k; omega
  · exact Nat.le_trans (powF_e u k) (Nat.mul_le_mul_right _ u5)
  · exact Nat.le_trans (powF_e v k) (Nat.mul_le_mul_right _ v5)
/-- an even power of an interval about zero -/
theorem pow_ok_mix {p k : Nat} {a b v : Fp} (hk : 1 ≤ k) (hke : k % 2 = 0) (hv : v = a.neg ∨ v = b) (oa : a.ok) (ob : b.ok) (ha : a.v ≤ 0) (hb : 0 ≤ b.v) (na : nb a.m * k < 1000) (nb' : nb b.m * k < 1000)
    (h1 : a.neg.v ≤ v.v) (h2 : b.v ≤ v.v) : PowOk p k a b (.tuple [.tuple [.int 0, .int 0, .int 0, .int 0], ((powF v k).R false p).pd]) := by
  have hab := Rat.le_trans ha hb
  have v' : v.ok ∧ nb v.m * k < 1000 ∧ v.e.natAbs ≤ max a.e.natAbs b.e.natAbs ∧ (∃ x, a.v ≤ x ∧ x ≤ b.v ∧ v.v ^ k = x ^ k) := by
    rcases hv with rfl | rfl
    · exact ⟨Fp.neg_ok oa, by rw [Fp.neg_m]; exact na, by rw [Fp.neg_e]; exact Nat.le_max_left _ _, a.v, Rat.le_refl, hab, by rw [Fp.neg_v, even_neg _ hke]⟩
    · exact ⟨ob, nb', Nat.le_max_right _ _, v.v, hab, Rat.le_refl, rfl⟩
  obtain ⟨v1, v2, v5, x, x1, x2, x3⟩ := v'
  have z0 : (0 : Rat) ^ k = 0 := by
    obtain ⟨j, rfl⟩ : ∃ j, k = j + 1 := ⟨k - 1, by omega⟩
    rw [Rat.pow_succ, Rat.mul_zero]
  refine ⟨Fp.zero, powF v k, by rw [Fp.R_zero, zero_pd], Fp.zero_ok, powF_ok v1 k, ⟨0, ha, hb, by rw [Fp.zero_v, z0]⟩, ⟨x, x1, x2, by rw [powF_v v hk, x3]⟩, fun y y1 y2 => ⟨?_, ?_⟩, Nat.zero_le _, ?_, Nat.zero_le _, Nat.le_trans (powF_e v k) (Nat.mul_le_mul_right _ v5)⟩
  · rw [Fp.zero_v]; exact even_nonneg y hke
  · rw [powF_v v hk]
    rw [Fp.neg_v] at h1
    exact even_le hke (Rat.le_trans y2 h2) (by grind)
  · have := powF_nb v k; omega
theorem mulF_powF {u : Fp} (hu : u.ok) : mulF u u = powF u 2 := by
  refine Fp.inj (mulF_ok hu hu) (powF_ok hu 2) ?_
  rw [mulF_v, powF_v u (by decide)]
  rw [Rat.pow_succ, Rat.pow_succ, Rat.pow_zero]; grind

theorem msq_spec {n : Nat} (hn : 9 ≤ n) {a b : Fp} {B E : Nat} (hB : B ≤ 400) (hX : IvOk B E a b) {p : Nat} (hp : 1 ≤ p) :
    ∃ z, run GG T n 19 [.tuple [a.pd, b.pd], .int p] = some z ∧ PowOk p 2 a b z := by
  obtain ⟨n, rfl⟩ : ∃ k, n = k + 1 := ⟨n - 1, by omega⟩
  obtain ⟨oa, ob, na, nb', -, -, hab⟩ := hX
  have run' : ∀ z : PyData, exs GG (run GG T n) [some (.tuple [a.pd, b.pd]), some (.int p), none, none, none, none] b_mpi_square = some (.ret z) → run GG T (n + 1) 19 [.tuple [a.pd, b.pd], .int p] = some z := fun c h => run_ret rfl ⟨Nat.le_refl _, Nat.le_add_right _ _⟩ h
  have g := ge_spec (n := n) (by omega) oa Fp.zero_ok (by omega) (Nat.zero_le _)
  have l := le_spec (n := n) (by omega) ob Fp.zero_ok (by omega) (Nat.zero_le _)
  rw [zero_pd, Fp.zero_v] at g l
  have m (x : Fp) (ox : x.ok) (nx : nb x.m ≤ 400) (dd : Bool) := mul_spec (n := n) (by omega) ox ox hp dd (by omega)
  by_cases ha : 0 ≤ a.v
  · refine ⟨_, run' _ ?_, pow_ok_of (p := p) (by decide) (.inl rfl) (.inr rfl) oa ob hab (by omega) (by omega) fun x h1 h2 => ⟨pow_le ha h1 2, pow_le (Rat.le_trans ha h1) h2 2⟩⟩
    simp only [b_mpi_square, exs, ex, ev, evs, evB, get0, getS, List.set_cons_zero, List.set_cons_succ, setA0, setAS, Option.map_some, tr_int, tr_bool, neg_int, b_add, b_sub, b_and, b_xor, c_eq, c_ne, c_lt, c_le, c_gt, c_ge, Bool.not_true, Bool.not_false, if_true, if_false, Bool.false_eq_true, decide_true, decide_false, Int.natCast_one, Int.natCast_zero, Int.cast_ofNat_Int, beq_self_eq_true, List.length_cons, List.length_nil, Nat.reduceAdd, Nat.reduceLeDiff, Nat.zero_add, dat0, dat1, dat2, dat3, dat4, dat5, dat6, dat7, dat8, dat9, tab0, dsF, dsC, it0, it1, it2, it3, strne, strf, g, ha, m a oa (by omega), m b ob (by omega), mulF_powF oa, mulF_powF ob]
  · by_cases hb : b.v ≤ 0
    · refine ⟨_, run' _ ?_, pow_ok_of (p := p) (by decide) (.inr rfl) (.inl rfl) oa ob hab (by omega) (by omega) fun x h1 h2 => ?_⟩
      · simp only [b_mpi_square, exs, ex, ev, evs, evB, get0, getS, List.set_cons_zero, List.set_cons_succ, setA0, setAS, Option.map_some, tr_int, tr_bool, neg_int, b_add, b_sub, b_and, b_xor, c_eq, c_ne, c_lt, c_le, c_gt, c_ge, Bool.not_true, Bool.not_false, if_true, if_false, Bool.false_eq_true, decide_true, decide_false, Int.natCast_one, Int.natCast_zero, Int.cast_ofNat_Int, beq_self_eq_true, List.length_cons, List.length_nil, Nat.reduceAdd, Nat.reduceLeDiff, Nat.zero_add, dat0, dat1, dat2, dat3, dat4, dat5, dat6, dat7, dat8, dat9, tab0, dsF, dsC, it0, it1, it2, it3, strne, strf, g, ha, l, hb, m a oa (by omega), m b ob (by omega), mulF_powF oa, mulF_powF ob]
      · rw [← even_neg x (by decide), ← even_neg a.v (by decide), ← even_neg b.v (by decide)]
        exact ⟨pow_le (by grind) (by grind) 2, pow_le (by grind) (by grind) 2⟩
    · have hb' := Rat.not_le.mp hb
      have ha' := Rat.not_le.mp ha
      obtain ⟨mn, mx, hmm, i1, i2, hall⟩ := mm_spec (n := n) (by omega) a.neg [b] (by show 1 < 10; decide) (fun y hy => by
        simp only [List.mem_cons, List.not_mem_nil, or_false] at hy
        rcases hy with rfl | rfl
        · exact ⟨Fp.neg_ok oa, by rw [Fp.neg_m]; omega⟩
        · exact ⟨ob, by omega⟩)
      simp only [List.map_cons, List.map_nil] at hmm
      have k1 := hall _ (List.mem_cons_self ..)
      have k2 := hall b (by simp)
      have omx : mx.ok ∧ nb mx.m ≤ 400 := by
        simp only [List.mem_cons, List.not_mem_nil, or_false] at i2
        rcases i2 with rfl | rfl
        · exact ⟨Fp.neg_ok oa, by rw [Fp.neg_m]; omega⟩
        · exact ⟨ob, by omega⟩
      refine ⟨_, run' _ ?_, pow_ok_mix (p := p) (v := mx) (by decide) (by decide) (by simpa using i2) oa ob (Rat.le_of_lt ha') (Rat.le_of_lt hb') (by omega) (by omega) k1.2 k2.2⟩
      simp only [b_mpi_square, exs, ex, ev, evs, evB, get0, getS, List.set_cons_zero, List.set_cons_succ, setA0, setAS, Option.map_some, tr_int, tr_bool, neg_int, b_add, b_sub, b_and, b_xor, c_eq, c_ne, c_lt, c_le, c_gt, c_ge, Bool.not_true, Bool.not_false, if_true, if_false, Bool.false_eq_true, decide_true, decide_false, Int.natCast_one, Int.natCast_zero, Int.cast_ofNat_Int, beq_self_eq_true, List.length_cons, List.length_nil, Nat.reduceAdd, Nat.reduceLeDiff, Nat.zero_add, dat0, dat1, dat2, dat3, dat4, dat5, dat6, dat7, dat8, dat9, tab0, dsF, dsC, it0, it1, it2, it3, strne, strf, g, ha, l, hb, neg1_spec (show 1 ≤ n by omega) oa, hmm, m mx omx.1 omx.2, mulF_powF omx.1]

theorem mpow_spec {n : Nat} (hn : 10 ≤ n) {a b : Fp} {E : Nat} (hE : E < 2 ^ 40) (hX : IvOk 60 E a b) {p : Nat} (hp : 1 ≤ p) {k : Nat} (hk : k ≤ 16) (hk1 : k ≠ 1) :
    ∃ z, run GG T n 21 [.tuple [a.pd, b.pd], .int k, .int p] = some z ∧ PowOk p k a b z := by
  obtain ⟨n, rfl⟩ : ∃ k, n = k + 1 := ⟨n - 1, by omega⟩
  have hX' := hX
  obtain ⟨oa, ob, na, nb', ea, eb, hab⟩ := hX
  have run' : ∀ z : PyData, exs GG (run GG T n) [some (.tuple [a.pd, b.pd]), some (.int k), some (.int p), none, none, none, none, none, none] b_mpi_pow_int = some (.ret z) → run GG T (n + 1) 21 [.tuple [a.pd, b.pd], .int k, .int p] = some z := fun c h => run_ret rfl ⟨Nat.le_refl _, Nat.le_add_right _ _⟩ h
  have k0 : ((k : Int) < 0) = False := by simp
  have c1 : ((k : Int) == 1) = false := by simp; omega
  by_cases hk0 : k = 0
  · subst hk0
    refine ⟨.tuple [Fp.one.pd, Fp.one.pd], run' _ ?_, ?_⟩
    · simp only [b_mpi_pow_int, exs, ex, ev, evs, evB, get0, getS, List.set_cons_zero, List.set_cons_succ, setA0, setAS, Option.map_some, tr_int, tr_bool, neg_int, b_add, b_sub, b_and, b_xor, c_eq, c_ne, c_lt, c_le, c_gt, c_ge, Bool.not_true, Bool.not_false, if_true, if_false, Bool.false_eq_true, decide_true, decide_false, Int.natCast_one, Int.natCast_zero, Int.cast_ofNat_Int, beq_self_eq_true, List.length_cons, List.length_nil, Nat.reduceAdd, Nat.reduceLeDiff, Nat.zero_add, dat0, dat1, dat2, dat3, dat4, dat5, dat6, dat7, dat8, dat9, tab0, dsF, dsC, it0, it1, it2, it3, strne, strf, k0, one_pd]
      rfl
    · refine ⟨Fp.one, Fp.one, by rw [Fp.R_one _ hp, Fp.R_one _ hp], Fp.one_ok, Fp.one_ok, ⟨a.v, Rat.le_refl, hab, by rw [Fp.one_v, Rat.pow_zero]⟩, ⟨a.v, Rat.le_refl, hab, by rw [Fp.one_v, Rat.pow_zero]⟩, fun x _ _ => ?_, ?_, ?_, ?_, ?_⟩
      · rw [Fp.one_v, Rat.pow_zero]; exact ⟨Rat.le_refl, Rat.le_refl⟩
      · show nb 1 ≤ 1000; rw [nb_one]; omega
      · show nb 1 ≤ 1000; rw [nb_one]; omega
      · exact Nat.zero_le _
      · exact Nat.zero_le _
  · have c0 : ((k : Int) == 0) = false := by simp; omega
    by_cases hk2 : k = 2
    · have c2 : ((k : Int) == 2) = true := by simp [hk2]
      obtain ⟨z, hz, hok⟩ := msq_spec (n := n) (by omega) (by decide) hX' hp
      refine ⟨z, run' _ ?_, by rw [hk2]; exact hok⟩
      simp only [b_mpi_pow_int, exs, ex, ev, evs, evB, get0, getS, List.set_cons_zero, List.set_cons_succ, setA0, setAS, Option.map_some, tr_int, tr_bool, neg_int, b_add, b_sub, b_and, b_xor, c_eq, c_ne, c_lt, c_le, c_gt, c_ge, Bool.not_true, Bool.not_false, if_true, if_false, Bool.false_eq_true, decide_true, decide_false, Int.natCast_one, Int.natCast_zero, Int.cast_ofNat_Int, beq_self_eq_true, List.length_cons, List.length_nil, Nat.reduceAdd, Nat.reduceLeDiff, Nat.zero_add, dat0, dat1, dat2, dat3, dat4, dat5, dat6, dat7, dat8, dat9, tab0, dsF, dsC, it0, it1, it2, it3, strne, strf, k0, c0, c1, c2, hz]
    · have c2 : ((k : Int) == 2) = false := by simp; omega
      have hak : nb a.m * k < 1000 := by
        have := Nat.mul_le_mul na hk; omega
      have hbk : nb b.m * k < 1000 := by
        have := Nat.mul_le_mul nb' hk; omega
      have pw (x : Fp) (ox : x.ok) (nx : nb x.m * k < 1000) (ex : x.e.natAbs ≤ E) (dd : Bool) := pow_spec (n := n) (by omega) ox hp dd (k := k) (by omega) (by omega) nx (by omega)
      by_cases hodd : k % 2 = 1
      · have hb : (((k % 2 : Nat) : Int) != 0) = true := by rw [hodd]; rfl
        refine ⟨_, run' _ ?_, pow_ok_of (p := p) (by omega) (.inl rfl) (.inr rfl) oa ob hab hak hbk fun x h1 h2 => ⟨odd_mono hodd h1, odd_mono hodd h2⟩⟩
        simp only [b_mpi_pow_int, exs, ex, ev, evs, evB, get0, getS, List.set_cons_zero, List.set_cons_succ, setA0, setAS, Option.map_some, tr_int, tr_bool, neg_int, b_add, b_sub, b_and, b_xor, c_eq, c_ne, c_lt, c_le, c_gt, c_ge, Bool.not_true, Bool.not_false, if_true, if_false, Bool.false_eq_true, decide_true, decide_false, Int.natCast_one, Int.natCast_zero, Int.cast_ofNat_Int, beq_self_eq_true, List.length_cons, List.length_nil, Nat.reduceAdd, Nat.reduceLeDiff, Nat.zero_add, dat0, dat1, dat2, dat3, dat4, dat5, dat6, dat7, dat8, dat9, tab0, dsF, dsC, it0, it1, it2, it3, strne, strf, k0, c0, c1, c2, band_one, hb, pw a oa hak ea, pw b ob hbk eb]
      · have hev : k % 2 = 0 := by omega
        have hb : (((k % 2 : Nat) : Int) != 0) = false := by rw [hev]; rfl
        have sa := sign_spec (n := n) (by omega) oa
        have sb := sign_spec (n := n) (by omega) ob
        have ga := sgn_neg oa
        have gb := sgn_neg ob
        by_cases ha : 0 ≤ a.v
        · have qa : (sgn a ≥ 0) = True := by simp; rcases Int.lt_or_le (sgn a) 0 with h' | h'; exact absurd (ga.1.mp h') (Rat.not_lt.mpr ha); exact h'
          refine ⟨_, run' _ ?_, pow_ok_of (p := p) (by omega) (.inl rfl) (.inr rfl) oa ob hab hak hbk fun x h1 h2 => ⟨pow_le ha h1 k, pow_le (Rat.le_trans ha h1) h2 k⟩⟩
          simp only [b_mpi_pow_int, exs, ex, ev, evs, evB, get0, getS, List.set_cons_zero, List.set_cons_succ, setA0, setAS, Option.map_some, tr_int, tr_bool, neg_int, b_add, b_sub, b_and, b_xor, c_eq, c_ne, c_lt, c_le, c_gt, c_ge, Bool.not_true, Bool.not_false, if_true, if_false, Bool.false_eq_true, decide_true, decide_false, Int.natCast_one, Int.natCast_zero, Int.cast_ofNat_Int, beq_self_eq_true, List.length_cons, List.length_nil, Nat.reduceAdd, Nat.reduceLeDiff, Nat.zero_add, dat0, dat1, dat2, dat3, dat4, dat5, dat6, dat7, dat8, dat9, tab0, dsF, dsC, it0, it1, it2, it3, strne, strf, k0, c0, c1, c2, band_one, hb, sa, sb, qa, pw a oa hak ea, pw b ob hbk eb]
        · have ha' := Rat.not_le.mp ha
          have qa : (sgn a ≥ 0) = False := by have := ga.1.mpr ha'; simp; omega
          by_cases hb0 : b.v ≤ 0
          · have qb : (sgn b ≤ 0) = True := by simp; rcases Int.lt_or_le 0 (sgn b) with h' | h'; exact absurd (gb.2.mp h') (Rat.not_lt.mpr hb0); exact h'
            refine ⟨_, run' _ ?_, pow_ok_of (p := p) (by omega) (.inr rfl) (.inl rfl) oa ob hab hak hbk fun x h1 h2 => ?_⟩
            · simp only [b_mpi_pow_int, exs, ex, ev, evs, evB, get0, getS, List.set_cons_zero, List.set_cons_succ, setA0, setAS, Option.map_some, tr_int, tr_bool, neg_int, b_add, b_sub, b_and, b_xor, c_eq, c_ne, c_lt, c_le, c_gt, c_ge, Bool.not_true, Bool.not_false, if_true, if_false, Bool.false_eq_true, decide_true, decide_false, Int.natCast_one, Int.natCast_zero, Int.cast_ofNat_Int, beq_self_eq_true, List.length_cons, List.length_nil, Nat.reduceAdd, Nat.reduceLeDiff, Nat.zero_add, dat0, dat1, dat2, dat3, dat4, dat5, dat6, dat7, dat8, dat9, tab0, dsF, dsC, it0, it1, it2, it3, strne, strf, k0, c0, c1, c2, band_one, hb, sa, sb, qa, qb, pw a oa hak ea, pw b ob hbk eb]
            · rw [← even_neg x hev, ← even_neg a.v hev, ← even_neg b.v hev]
              exact ⟨pow_le (by grind) (by grind) k, pow_le (by grind) (by grind) k⟩
          · have hb0' := Rat.not_le.mp hb0
            have qb : (sgn b ≤ 0) = False := by have := gb.2.mpr hb0'; simp; omega
            have on := Fp.neg_ok oa
            have g := ge_spec (n := n) (by omega) on ob (by rw [Fp.neg_m]; omega) (by omega)
            have pn := pw a.neg on (by rw [Fp.neg_m]; exact hak) (by rw [Fp.neg_e]; exact ea)
            by_cases hge : b.v ≤ a.neg.v
            · refine ⟨_, run' _ ?_, pow_ok_mix (p := p) (v := a.neg) (by omega) hev (.inl rfl) oa ob (Rat.le_of_lt ha') (Rat.le_of_lt hb0') hak hbk Rat.le_refl hge⟩
              simp only [b_mpi_pow_int, exs, ex, ev, evs, evB, get0, getS, List.set_cons_zero, List.set_cons_succ, setA0, setAS, Option.map_some, tr_int, tr_bool, neg_int, b_add, b_sub, b_and, b_xor, c_eq, c_ne, c_lt, c_le, c_gt, c_ge, Bool.not_true, Bool.not_false, if_true, if_false, Bool.false_eq_true, decide_true, decide_false, Int.natCast_one, Int.natCast_zero, Int.cast_ofNat_Int, beq_self_eq_true, List.length_cons, List.length_nil, Nat.reduceAdd, Nat.reduceLeDiff, Nat.zero_add, dat0, dat1, dat2, dat3, dat4, dat5, dat6, dat7, dat8, dat9, tab0, dsF, dsC, it0, it1, it2, it3, strne, strf, k0, c0, c1, c2, band_one, hb, sa, sb, qa, qb, neg1_spec (show 1 ≤ n by omega) oa, g, hge, pn]
            · refine ⟨_, run' _ ?_, pow_ok_mix (p := p) (v := b) (by omega) hev (.inr rfl) oa ob (Rat.le_of_lt ha') (Rat.le_of_lt hb0') hak hbk (Rat.le_of_lt (Rat.not_le.mp hge)) Rat.le_refl⟩
              simp only [b_mpi_pow_int, exs, ex, ev, evs, evB, get0, getS, List.set_cons_zero, List.set_cons_succ, setA0, setAS, Option.map_some, tr_int, tr_bool, neg_int, b_add, b_sub, b_and, b_xor, c_eq, c_ne, c_lt, c_le, c_gt, c_ge, Bool.not_true, Bool.not_false, if_true, if_false, Bool.false_eq_true, decide_true, decide_false, Int.natCast_one, Int.natCast_zero, Int.cast_ofNat_Int, beq_self_eq_true, List.length_cons, List.length_nil, Nat.reduceAdd, Nat.reduceLeDiff, Nat.zero_add, dat0, dat1, dat2, dat3, dat4, dat5, dat6, dat7, dat8, dat9, tab0, dsF, dsC, it0, it1, it2, it3, strne, strf, k0, c0, c1, c2, band_one, hb, sa, sb, qa, qb, neg1_spec (show 1 ≤ n by omega) oa, g, hge, pw b ob hbk eb]
theorem mpow1_spec {n : Nat} (hn : 1 ≤ n) {a b p : PyData} : run GG T n 21 [.tuple [a, b], .int 1, p] = some (.tuple [a, b]) := by
  obtain ⟨n, rfl⟩ : ∃ k, n = k + 1 := ⟨n - 1, by omega⟩
  exact run_ret rfl ⟨Nat.le_refl _, Nat.le_add_right _ _⟩ rfl
end Mine

end

-- part Sp8
section
open PySem
set_option maxRecDepth 100000
set_option linter.unusedVariables false
set_option linter.unusedSimpArgs false
namespace Mine

def wF (s : Bool) : Fp := ⟨s, 1, 0⟩
theorem wF_ok (s : Bool) : (wF s).ok := ⟨fun h => (by cases h), fun _ => rfl⟩
structure InvOk (p E : Nat) (c d : Fp) (z : PyData) : Prop where
  ex : ∃ u v : Fp, z = .tuple [u.pd, v.pd] ∧ u.ok ∧ v.ok ∧ nb u.m ≤ p ∧ nb v.m ≤ p ∧ u.e.natAbs ≤ E + 10000 ∧ v.e.natAbs ≤ E + 10000 ∧ ∀ t r, c.v ≤ t → t ≤ d.v → r * t = 1 → u.v ≤ r ∧ r ≤ v.v

theorem mdiv_pos {n : Nat} (hn : 5 ≤ n) (s : Bool) {c d : Fp} {E : Nat} (hY : IvOk 1000 E c d) (hc : 0 < c.v) {p : Nat} (hp : 1 ≤ p) (hp2 : p ≤ 1000) :
    ∃ u v : Fp, run GG T n 20 [.tuple [(wF s).pd, (wF s).pd], .tuple [c.pd, d.pd], .int p] = some (.tuple [u.pd, v.pd]) ∧ u.ok ∧ v.ok ∧ nb u.m ≤ p ∧ nb v.m ≤ p ∧ u.e.natAbs ≤ E + 10000 ∧ v.e.natAbs ≤ E + 10000 ∧
      (if s then u.v * c.v ≤ -1 ∧ -1 ≤ v.v * d.v else u.v * d.v ≤ 1 ∧ 1 ≤ v.v * c.v) := by
  obtain ⟨n, rfl⟩ : ∃ k, n = k + 1 := ⟨n - 1, by omega⟩
  obtain ⟨oc, od', nc, nd, ec, ed, hcd⟩ := hY
  have hd : 0 < d.v := by grind
  have run' : ∀ z : PyData, exs GG (run GG T n) (some (.tuple [(wF s).pd, (wF s).pd]) :: some (.tuple [c.pd, d.pd]) :: some (.int p) :: List.replicate 10 none) b_mpi_div = some (.ret z) → run GG T (n + 1) 20 [.tuple [(wF s).pd, (wF s).pd], .tuple [c.pd, d.pd], .int p] = some z := fun c h => run_ret rfl ⟨Nat.le_refl _, Nat.le_add_right _ _⟩ h
  have hrep : List.replicate 10 (none : Option PyData) = [none, none, none, none, none, none, none, none, none, none] := rfl
  rw [hrep] at run'
  have sw := sign_spec (n := n) (by omega) (wF_ok s)
  have sc := sign_spec (n := n) (by omega) oc
  have sd := sign_spec (n := n) (by omega) od'
  have g1 : sgn c = 1 := by
    obtain ⟨h1, h2⟩ := Fp.v_pos.mp hc
    unfold sgn; rw [if_neg h2, h1]; rfl
  have g2 : sgn d = 1 := by
    obtain ⟨h1, h2⟩ := Fp.v_pos.mp hd
    unfold sgn; rw [if_neg h2, h1]; rfl
  rw [g1] at sc
  rw [g2] at sd
  have q1 : ((1 : Int) == 0) = false := rfl
  have q2 : ((-1 : Int) == 0) = false := rfl
  have q3 : ((1 : Int) < 0) = False := by simp
  have q4 : ((1 : Int) ≥ 0) = True := by simp
  have q5 : ((-1 : Int) ≥ 0) = False := by simp
  have q6 : ((-1 : Int) ≤ 0) = True := by simp
  cases s
  · have gw : sgn (wF false) = 1 := rfl
    rw [gw] at sw
    obtain ⟨u, hu, u1, u2, u3, u4, u5⟩ := div_spec (n := n) (by omega) false true od' hd hp hp2 nd
    obtain ⟨v, hv, v1, v2, v3, v4, v5⟩ := div_spec (n := n) (by omega) false false oc hc hp hp2 nc
    refine ⟨u, v, run' _ ?_, u1, v1, u2, v2, by omega, by omega, ?_⟩
    · change run GG T n 15 [(wF false).pd, d.pd, .int p, rs true] = _ at hu
      change run GG T n 15 [(wF false).pd, c.pd, .int p, rs false] = _ at hv
      simp only [b_mpi_div, exs, ex, ev, evs, evB, get0, getS, List.set_cons_zero, List.set_cons_succ, setA0, setAS, Option.map_some, tr_int, tr_bool, neg_int, b_add, b_sub, b_and, b_xor, c_eq, c_ne, c_lt, c_le, c_gt, c_ge, Bool.not_true, Bool.not_false, if_true, if_false, Bool.false_eq_true, decide_true, decide_false, Int.natCast_one, Int.natCast_zero, Int.cast_ofNat_Int, beq_self_eq_true, List.length_cons, List.length_nil, Nat.reduceAdd, Nat.reduceLeDiff, Nat.zero_add, dat0, dat1, dat2, dat3, dat4, dat5, dat6, dat7, dat8, dat9, tab0, dsF, dsC, it0, it1, it2, it3, strne, strf, sw, sc, sd, q1, q2, q3, q4, hu, hv, ne_nan]
    · simp only [Bool.false_eq_true, if_false]
      exact ⟨u4 rfl, v5 rfl⟩
  · have gw : sgn (wF true) = -1 := rfl
    rw [gw] at sw
    obtain ⟨u, hu, u1, u2, u3, u4, u5⟩ := div_spec (n := n) (by omega) true true oc hc hp hp2 nc
    obtain ⟨v, hv, v1, v2, v3, v4, v5⟩ := div_spec (n := n) (by omega) true false od' hd hp hp2 nd
    refine ⟨u, v, run' _ ?_, u1, v1, u2, v2, by omega, by omega, ?_⟩
    · change run GG T n 15 [(wF true).pd, c.pd, .int p, rs true] = _ at hu
      change run GG T n 15 [(wF true).pd, d.pd, .int p, rs false] = _ at hv
      simp only [b_mpi_div, exs, ex, ev, evs, evB, get0, getS, List.set_cons_zero, List.set_cons_succ, setA0, setAS, Option.map_some, tr_int, tr_bool, neg_int, b_add, b_sub, b_and, b_xor, c_eq, c_ne, c_lt, c_le, c_gt, c_ge, Bool.not_true, Bool.not_false, if_true, if_false, Bool.false_eq_true, decide_true, decide_false, Int.natCast_one, Int.natCast_zero, Int.cast_ofNat_Int, beq_self_eq_true, List.length_cons, List.length_nil, Nat.reduceAdd, Nat.reduceLeDiff, Nat.zero_add, dat0, dat1, dat2, dat3, dat4, dat5, dat6, dat7, dat8, dat9, tab0, dsF, dsC, it0, it1, it2, it3, strne, strf, sw, sc, sd, q1, q2, q3, q4, q5, q6, hu, hv, ne_nan]
    · simp only [if_true]
      exact ⟨u4 rfl, v5 rfl⟩
theorem le_of_mul {u r t t' : Rat} (ht : 0 < t) (htt : t ≤ t') (h : u * t' ≤ 1) (hr : r * t = 1) : u ≤ r := by
  refine Rat.le_of_mul_le_mul_right (c := t) ?_ ht
  rw [hr]
  by_cases hu : 0 ≤ u
  · exact Rat.le_trans (mono_l htt hu) h
  · have hu' := Rat.not_le.mp hu
    have := mono_r (Rat.le_of_lt hu') (Rat.le_of_lt ht)
    grind
theorem ge_of_mul {v r t t' : Rat} (ht : 0 < t') (htt : t' ≤ t) (h : 1 ≤ v * t') (hr : r * t = 1) : r ≤ v := by
  have ht2 : 0 < t := by grind
  refine Rat.le_of_mul_le_mul_right (c := t) ?_ ht2
  rw [hr]
  have hv : 0 ≤ v := by
    by_cases hv : 0 ≤ v
    · exact hv
    · have := mono_r (Rat.le_of_lt (Rat.not_le.mp hv)) (Rat.le_of_lt ht)
      grind
  exact Rat.le_trans h (mono_l htt hv)
theorem mdiv_spec {n : Nat} (hn : 6 ≤ n) {c d : Fp} {E : Nat} (hY : IvOk 1000 E c d) (hc : 0 < c.v ∨ d.v < 0) {p : Nat} (hp : 1 ≤ p) (hp2 : p ≤ 1000) :
    ∃ z, run GG T n 20 [.tuple [Fp.one.pd, Fp.one.pd], .tuple [c.pd, d.pd], .int p] = some z ∧ InvOk p E c d z := by
  rcases hc with hc | hd
  · obtain ⟨u, v, hr, u1, v1, u2, v2, u3, v3, h⟩ := mdiv_pos (n := n) (by omega) false hY hc hp hp2
    simp only [Bool.false_eq_true, if_false] at h
    refine ⟨_, hr, ⟨u, v, rfl, u1, v1, u2, v2, u3, v3, fun t r h1 h2 h3 => ?_⟩⟩
    have ht : 0 < t := by grind
    exact ⟨le_of_mul ht h2 h.1 h3, ge_of_mul hc h1 h.2 h3⟩
  · have hcd := hY.le
    have hc : c.v < 0 := by grind
    obtain ⟨n, rfl⟩ : ∃ k, n = k + 1 := ⟨n - 1, by omega⟩
    have oc := hY.o1
    have od' := hY.o2
    obtain ⟨u, v, hr, u1, v1, u2, v2, u3, v3, h⟩ := mdiv_pos (n := n) (by omega) true hY.neg (by rw [Fp.neg_v]; grind) hp hp2
    simp only [if_true] at h
    rw [Fp.neg_v, Fp.neg_v] at h
    refine ⟨.tuple [u.pd, v.pd], run_ret rfl ⟨Nat.le_refl _, Nat.le_add_right _ _⟩ ?_, ⟨u, v, rfl, u1, v1, u2, v2, u3, v3, fun t r h1 h2 h3 => ?_⟩⟩
    · show exs GG _ (some (.tuple [Fp.one.pd, Fp.one.pd]) :: some (.tuple [c.pd, d.pd]) :: some (.int p) :: List.replicate 10 none) b_mpi_div = _
      have hrep : List.replicate 10 (none : Option PyData) = [none, none, none, none, none, none, none, none, none, none] := rfl
      rw [hrep]
      have sw := sign_spec (n := n) (by omega) Fp.one_ok
      have gw : sgn Fp.one = 1 := rfl
      rw [gw] at sw
      have sc := sign_spec (n := n) (by omega) oc
      have sd := sign_spec (n := n) (by omega) od'
      have g1 : sgn c = -1 := by
        obtain ⟨h1, h2⟩ := Fp.v_neg'.mp hc
        unfold sgn; rw [if_neg h2, h1]; rfl
      have g2 : sgn d = -1 := by
        obtain ⟨h1, h2⟩ := Fp.v_neg'.mp hd
        unfold sgn; rw [if_neg h2, h1]; rfl
      rw [g1] at sc
      rw [g2] at sd
      have q1 : ((1 : Int) == 0) = false := rfl
      have q3 : ((-1 : Int) < 0) = True := by simp
      have q4 : ((-1 : Int) > 0) = False := by simp
      have m1 := mneg_spec (n := n) (by omega) Fp.one_ok Fp.one_ok
      change _ = some (PyData.tuple [(wF true).pd, (wF true).pd]) at m1
      simp only [b_mpi_div, exs, ex, ev, evs, evB, get0, getS, List.set_cons_zero, List.set_cons_succ, setA0, setAS, Option.map_some, tr_int, tr_bool, neg_int, b_add, b_sub, b_and, b_xor, c_eq, c_ne, c_lt, c_le, c_gt, c_ge, Bool.not_true, Bool.not_false, if_true, if_false, Bool.false_eq_true, decide_true, decide_false, Int.natCast_one, Int.natCast_zero, Int.cast_ofNat_Int, beq_self_eq_true, List.length_cons, List.length_nil, Nat.reduceAdd, Nat.reduceLeDiff, Nat.zero_add, dat0, dat1, dat2, dat3, dat4, dat5, dat6, dat7, dat8, dat9, tab0, dsF, dsC, it0, it1, it2, it3, strne, strf, sw, sc, sd, q1, q3, q4, m1, mneg_spec (show 2 ≤ n by omega) oc od', hr]
    · have ht : 0 < -t := by grind
      have e3 : -r * -t = 1 := by grind
      have a1 := ge_of_mul (v := -u.v) (r := -r) (t := -t) (t' := -d.v) (by grind) (by grind) (by have := h.1; grind) e3
      have a2 := le_of_mul (u := -v.v) (r := -r) (t := -t) (t' := -c.v) ht (by grind) (by have := h.2; grind) e3
      constructor <;> grind

/-- the inverse of a power -/
theorem minv_spec {n : Nat} (hn : 11 ≤ n) {a b : Fp} {E : Nat} (hE : E < 2 ^ 20) (hX : IvOk 60 E a b) (h0 : 0 < a.v ∨ b.v < 0) {p : Nat} (hp : 1 ≤ p) (hp2 : p ≤ 60) {k : Nat} (hk1 : 1 ≤ k) (hk : k ≤ 16) :
    ∃ u v : Fp, run GG T n 21 [.tuple [a.pd, b.pd], .int (-(k : Int)), .int p] = some (.tuple [u.pd, v.pd]) ∧ u.ok ∧ v.ok ∧ nb u.m ≤ p ∧ nb v.m ≤ p ∧ u.e.natAbs ≤ E * 16 + 12000 ∧ v.e.natAbs ≤ E * 16 + 12000 ∧
      ∀ x r, a.v ≤ x → x ≤ b.v → r * x ^ k = 1 → u.v ≤ r ∧ r ≤ v.v := by
  obtain ⟨n, rfl⟩ : ∃ k, n = k + 1 := ⟨n - 1, by omega⟩
  have pne : ∀ x : Rat, a.v ≤ x → x ≤ b.v → x ≠ 0 := fun x h1 h2 c => by subst c; rcases h0 with h | h <;> grind
  have inner : ∃ c d : Fp, run GG T n 21 [.tuple [a.pd, b.pd], .int k, .int ((p + 20 : Nat) : Int)] = some (.tuple [c.pd, d.pd]) ∧ IvOk 1000 (E * 16 + 2000) c d ∧ (0 < c.v ∨ d.v < 0) ∧ ∀ x, a.v ≤ x → x ≤ b.v → c.v ≤ x ^ k ∧ x ^ k ≤ d.v := by
    by_cases h1 : k = 1
    · subst h1
      refine ⟨a, b, mpow1_spec (by omega), hX.mono (by omega) (by omega), h0, fun x h1 h2 => ?_⟩
      have : x ^ 1 = x := by rw [Rat.pow_succ, Rat.pow_zero, Rat.one_mul]
      rw [this]; exact ⟨h1, h2⟩
    · obtain ⟨z, hz, ⟨l, h, rfl, ol, oh, ⟨x1, x11, x12, x13⟩, ⟨x2, x21, x22, x23⟩, hb, nl, nh, el, eh⟩⟩ := mpow_spec (n := n) (by omega) (E := E) (by omega) hX (p := p + 20) (by omega) hk h1
      have hm : max a.e.natAbs b.e.natAbs * k ≤ E * 16 := Nat.mul_le_mul (Nat.max_le.mpr ⟨hX.e1, hX.e2⟩) hk
      have e1 := Fp.R_e (p := p + 20) l true (B := E * 16 + 2000) (by omega)
      have e2 := Fp.R_e (p := p + 20) h false (B := E * 16 + 2000) (by omega)
      have hlh : l.v ≤ h.v := by have := hb x1 x11 x12; grind
      have r1 := Fp.R_le (p + 20) l
      have r2 := Fp.R_ge (p + 20) h
      refine ⟨l.R true (p + 20), h.R false (p + 20), hz, ⟨Fp.R_ok _ _ _, Fp.R_ok _ _ _, ?_, ?_, e1, e2, by grind⟩, ?_, fun x h1 h2 => ?_⟩
      · have := Fp.R_nb (p := p + 20) (by omega) l true; omega
      · have := Fp.R_nb (p := p + 20) (by omega) h false; omega
      · -- the power keeps away from zero
        have key : (∀ x, a.v ≤ x → x ≤ b.v → 0 < x ^ k) ∨ (∀ x, a.v ≤ x → x ≤ b.v → x ^ k < 0) := by
          rcases h0 with h | h
          · exact .inl fun x h1 h2 => Rat.pow_pos (by grind)
          · by_cases hev : k % 2 = 0
            · exact .inl fun x h1 h2 => by rw [← even_neg x hev]; exact Rat.pow_pos (by grind)
            · refine .inr fun x h1 h2 => ?_
              have : 0 < (-x) ^ k := Rat.pow_pos (by grind)
              rw [odd_neg _ (by omega)] at this
              grind
        rcases key with h | h'
        · left
          have hl0 := h x1 x11 x12
          rw [← x13] at hl0
          obtain ⟨l1, l2⟩ := Fp.v_pos.mp hl0
          refine Rnd_pos (by omega) ?_ _ _
          unfold Fp.N; rw [l1]; simp; omega
        · right
          have hl0 := h' x2 x21 x22
          rw [← x23] at hl0
          obtain ⟨l1, l2⟩ := Fp.v_neg'.mp hl0
          refine Rnd_negv (by omega) ?_ _ _
          unfold Fp.N; rw [l1]; simp; omega
      · have := hb x h1 h2
        constructor <;> grind
  obtain ⟨c, d, hcd, hI, hI0, henc⟩ := inner
  obtain ⟨z, hz, ⟨u, v, rfl, u1, v1, u2, v2, u3, v3, h⟩⟩ := mdiv_spec (n := n) (by omega) hI hI0 hp (by omega)
  refine ⟨u, v, run_ret rfl ⟨Nat.le_refl _, Nat.le_add_right _ _⟩ ?_, u1, v1, u2, v2, by omega, by omega, fun x r h1 h2 h3 => h _ r (henc x h1 h2).1 (henc x h1 h2).2 h3⟩
  show exs GG _ [some (.tuple [a.pd, b.pd]), some (.int (-(k : Int))), some (.int p), none, none, none, none, none, none] b_mpi_pow_int = _
  have k0 : (-(k : Int) < 0) = True := by simp; omega
  have p20 : (p : Int) + 20 = ((p + 20 : Nat) : Int) := by omega
  rw [one_pd] at hz
  simp only [b_mpi_pow_int, exs, ex, ev, evs, evB, get0, getS, List.set_cons_zero, List.set_cons_succ, setA0, setAS, Option.map_some, tr_int, tr_bool, neg_int, b_add, b_sub, b_and, b_xor, c_eq, c_ne, c_lt, c_le, c_gt, c_ge, Bool.not_true, Bool.not_false, if_true, if_false, Bool.false_eq_true, decide_true, decide_false, Int.natCast_one, Int.natCast_zero, Int.cast_ofNat_Int, beq_self_eq_true, List.length_cons, List.length_nil, Nat.reduceAdd, Nat.reduceLeDiff, Nat.zero_add, dat0, dat1, dat2, dat3, dat4, dat5, dat6, dat7, dat8, dat9, tab0, dsF, dsC, it0, it1, it2, it3, strne, strf, k0, Int.neg_neg, p20, hcd, hz]
end Mine

end

-- part Sp9
section
open PySem
set_option maxRecDepth 100000
set_option linter.unusedVariables false
set_option linter.unusedSimpArgs false
namespace Mine

def dy (N e : Int) : PyData := .tuple [.int N, .int e]
theorem value_spec {n : Nat} (hn : 1 ≤ n) (x : Fp) : run GG T n 24 [x.pd] = some (dy x.N x.e) := by
  obtain ⟨n, rfl⟩ : ∃ k, n = k + 1 := ⟨n - 1, by omega⟩
  refine run_ret rfl ⟨Nat.le_refl _, Nat.le_add_right _ _⟩ ?_
  show exs GG _ [some x.pd] b_law_value = _
  have q1 : ((0 : Int) == 1) = false := rfl
  cases hs : x.s <;> simp only [b_law_value, Fp.pd, exs, ex, ev, evs, evB, get0, getS, List.set_cons_zero, List.set_cons_succ, setA0, setAS, Option.map_some, tr_int, tr_bool, neg_int, b_add, b_sub, b_and, b_xor, c_eq, c_ne, c_lt, c_le, c_gt, c_ge, Bool.not_true, Bool.not_false, if_true, if_false, Bool.false_eq_true, decide_true, decide_false, Int.natCast_one, Int.natCast_zero, Int.cast_ofNat_Int, beq_self_eq_true, List.length_cons, List.length_nil, Nat.reduceAdd, Nat.reduceLeDiff, Nat.zero_add, dat0, dat1, dat2, dat3, dat4, dat5, dat6, dat7, dat8, dat9, tab0, dsF, dsC, it0, it1, it2, it3, strne, strf, hs, sg_f, sg_t, q1, dy, Fp.N]
theorem p2k {k : Nat} (h : k ≤ 10000000) : binD .Pow (.int 2) (.int k) = some (.int (2 ^ k)) := b_pow (by rw [show bits 2 = 2 from rfl]; omega)
theorem bits_two_pow (k : Nat) : bits (2 ^ k) = k + 1 := by rw [← pow2_cast, bits_nat, nb_two_pow]
theorem bd2k (a : Int) {k : Nat} (h : k < 1000) : binD .FloorDiv (.int a) (.int (2 ^ k)) = some (.int (a / 2 ^ k)) := b_div (pow2_pos k) (by rw [bits_two_pow]; omega)
theorem bm2k (a : Int) (k : Nat) : binD .Mod (.int a) (.int (2 ^ k)) = some (.int (a % 2 ^ k)) := b_mod (pow2_pos k)
theorem made_pos {n : Nat} {m : Nat} (hm : m ≠ 0) (hb : nb m ≤ 900) (s : Bool) (e : Int) :
    exs GG (run GG T n) [some (.int (if s then -(m : Int) else m)), some (.int e), some (.int (sg s)), some (.int m), none]
      (.cons (.ite (.cmp .Eq (.loc 3) (.int 0)) (.cons (.ret (.tup (.cons (.int 0) (.cons (.int 0) (.cons (.int 0) (.cons (.int 0) .nil)))))) .nil) .nil) (.cons (.set 4 (.bin .Sub (.bitlen (.bin .BitAnd (.loc 3) (.neg (.loc 3)))) (.int 1))) (.cons (.set 3 (.bin .FloorDiv (.loc 3) (.bin .Pow (.int 2) (.loc 4)))) (.cons (.ret (.tup (.cons (.loc 2) (.cons (.loc 3) (.cons (.bin .Add (.loc 1) (.loc 4)) (.cons (.bitlen (.loc 3)) .nil)))))) .nil)))) =
      some (.ret (mkF (if s then -(m : Int) else m) e).pd) := by
  have h0 : ((m : Int) == 0) = false := by simp [hm]
  have ht : tz m ≤ 900 := by have := nb_od hm; omega
  have hs1 : ((tz m + 1 : Nat) : Int) - 1 = (tz m : Int) := by omega
  have hd : (m : Int) / 2 ^ tz m = (od m : Int) := by rw [od]; simp
  rw [mkF_sm hm]
  simp only [exs, ex, ev, evs, evB, get0, getS, List.set_cons_zero, List.set_cons_succ, setA0, setAS, Option.map_some, tr_int, tr_bool, neg_int, b_add, b_sub, b_and, b_xor, c_eq, c_ne, c_lt, c_le, c_gt, c_ge, Bool.not_true, Bool.not_false, if_true, if_false, Bool.false_eq_true, decide_true, decide_false, Int.natCast_one, Int.natCast_zero, Int.cast_ofNat_Int, beq_self_eq_true, List.length_cons, List.length_nil, Nat.reduceAdd, Nat.reduceLeDiff, Nat.zero_add, dat0, dat1, dat2, dat3, dat4, dat5, dat6, dat7, dat8, dat9, tab0, dsF, dsC, it0, it1, it2, it3, strne, strf, h0, band_neg hm, bits_nat, nb_two_pow, hs1, p2k (show tz m ≤ 10000000 by omega), bd2k (m : Int) (show tz m < 1000 by omega), hd, Fp.pd]
theorem made_spec {n : Nat} (hn : 1 ≤ n) {N : Int} (hb : nb N.natAbs ≤ 900) (e : Int) : run GG T n 23 [.int N, .int e] = some (mkF N e).pd := by
  obtain ⟨n, rfl⟩ : ∃ k, n = k + 1 := ⟨n - 1, by omega⟩
  refine run_ret rfl ⟨Nat.le_refl _, Nat.le_add_right _ _⟩ ?_
  show exs GG _ [some (.int N), some (.int e), none, none, none] b_law_made = _
  by_cases h : N < 0
  · obtain ⟨m, hm⟩ : ∃ m : Nat, N = -(m : Int) := ⟨N.natAbs, by omega⟩
    have hm0 : m ≠ 0 := by omega
    have hbm : nb m ≤ 900 := by rw [hm] at hb; simpa using hb
    unfold b_law_made
    refine (exs_next (ρ' := [some (.int (if true then -(m : Int) else m)), some (.int e), some (.int (sg true)), some (.int m), none]) ?_).trans ?_
    · have hN : (-(m : Int) < 0) = True := by simp; omega
      rw [hm]
      simp only [exs, ex, ev, evs, evB, get0, getS, List.set_cons_zero, List.set_cons_succ, setA0, setAS, Option.map_some, tr_int, tr_bool, neg_int, b_add, b_sub, b_and, b_xor, c_eq, c_ne, c_lt, c_le, c_gt, c_ge, Bool.not_true, Bool.not_false, if_true, if_false, Bool.false_eq_true, decide_true, decide_false, Int.natCast_one, Int.natCast_zero, Int.cast_ofNat_Int, beq_self_eq_true, List.length_cons, List.length_nil, Nat.reduceAdd, Nat.reduceLeDiff, Nat.zero_add, dat0, dat1, dat2, dat3, dat4, dat5, dat6, dat7, dat8, dat9, tab0, dsF, dsC, it0, it1, it2, it3, strne, strf, hN, Int.neg_neg, sg_t]
    · refine (made_pos hm0 hbm true e).trans ?_
      simp only [if_true, hm]
  · obtain ⟨m, hm⟩ : ∃ m : Nat, N = (m : Int) := ⟨N.natAbs, by omega⟩
    by_cases hm0 : m = 0
    · rw [hm, hm0]
      have : mkF ((0 : Nat) : Int) e = Fp.zero := rfl
      rw [this]
      have hN : ((0 : Int) < 0) = False := by simp
      simp only [b_law_made, exs, ex, ev, evs, evB, get0, getS, List.set_cons_zero, List.set_cons_succ, setA0, setAS, Option.map_some, tr_int, tr_bool, neg_int, b_add, b_sub, b_and, b_xor, c_eq, c_ne, c_lt, c_le, c_gt, c_ge, Bool.not_true, Bool.not_false, if_true, if_false, Bool.false_eq_true, decide_true, decide_false, Int.natCast_one, Int.natCast_zero, Int.cast_ofNat_Int, beq_self_eq_true, List.length_cons, List.length_nil, Nat.reduceAdd, Nat.reduceLeDiff, Nat.zero_add, dat0, dat1, dat2, dat3, dat4, dat5, dat6, dat7, dat8, dat9, tab0, dsF, dsC, it0, it1, it2, it3, strne, strf, hN, zero_pd]
    · have hbm : nb m ≤ 900 := by rw [hm] at hb; simpa using hb
      unfold b_law_made
      refine (exs_next (ρ' := [some (.int (if false then -(m : Int) else m)), some (.int e), some (.int (sg false)), some (.int m), none]) ?_).trans ?_
      · have hN : ((m : Int) < 0) = False := by simp
        rw [hm]
        simp only [exs, ex, ev, evs, evB, get0, getS, List.set_cons_zero, List.set_cons_succ, setA0, setAS, Option.map_some, tr_int, tr_bool, neg_int, b_add, b_sub, b_and, b_xor, c_eq, c_ne, c_lt, c_le, c_gt, c_ge, Bool.not_true, Bool.not_false, if_true, if_false, Bool.false_eq_true, decide_true, decide_false, Int.natCast_one, Int.natCast_zero, Int.cast_ofNat_Int, beq_self_eq_true, List.length_cons, List.length_nil, Nat.reduceAdd, Nat.reduceLeDiff, Nat.zero_add, dat0, dat1, dat2, dat3, dat4, dat5, dat6, dat7, dat8, dat9, tab0, dsF, dsC, it0, it1, it2, it3, strne, strf, hN, sg_f]
      · refine (made_pos hm0 hbm false e).trans ?_
        simp only [Bool.false_eq_true, if_false, hm]
theorem times_spec {n : Nat} (hn : 1 ≤ n) {a b : Int} (e f : Int) (hb : bits a + bits b ≤ 134217728) : run GG T n 25 [dy a e, dy b f] = some (dy (a * b) (e + f)) := by
  obtain ⟨n, rfl⟩ : ∃ k, n = k + 1 := ⟨n - 1, by omega⟩
  refine run_ret rfl ⟨Nat.le_refl _, Nat.le_add_right _ _⟩ ?_
  show exs GG _ [some (dy a e), some (dy b f)] b_law_times = _
  simp only [b_law_times, dy, exs, ex, ev, evs, evB, get0, getS, List.set_cons_zero, List.set_cons_succ, setA0, setAS, Option.map_some, tr_int, tr_bool, neg_int, b_add, b_sub, b_and, b_xor, c_eq, c_ne, c_lt, c_le, c_gt, c_ge, Bool.not_true, Bool.not_false, if_true, if_false, Bool.false_eq_true, decide_true, decide_false, Int.natCast_one, Int.natCast_zero, Int.cast_ofNat_Int, beq_self_eq_true, List.length_cons, List.length_nil, Nat.reduceAdd, Nat.reduceLeDiff, Nat.zero_add, dat0, dat1, dat2, dat3, dat4, dat5, dat6, dat7, dat8, dat9, tab0, dsF, dsC, it0, it1, it2, it3, strne, strf, b_mul hb]
theorem minI (a b : Int) : biD .min [.int a, .int b] = some (.int (if b < a then b else a)) := rfl
theorem less_spec {n : Nat} (hn : 1 ≤ n) {a b : Int} {e f : Int} (ha : bits a ≤ 1000000) (hb : bits b ≤ 1000000) (he : e.natAbs ≤ 1000000) (hf : f.natAbs ≤ 1000000) :
    run GG T n 26 [dy a e, dy b f] = some (.bool (decide (mg a e < mg b f))) := by
  obtain ⟨n, rfl⟩ : ∃ k, n = k + 1 := ⟨n - 1, by omega⟩
  refine run_ret rfl ⟨Nat.le_refl _, Nat.le_add_right _ _⟩ ?_
  show exs GG _ [some (dy a e), some (dy b f), none] b_law_less = _
  have hm := minI e f
  generalize hl : (if f < e then f else e) = low at hm
  obtain ⟨u, hu⟩ : ∃ u : Nat, e - low = u := ⟨(e - low).toNat, by split at hl <;> omega⟩
  obtain ⟨v, hv⟩ : ∃ v : Nat, f - low = v := ⟨(f - low).toNat, by split at hl <;> omega⟩
  have hu2 : u ≤ 2000000 := by split at hl <;> omega
  have hv2 : v ≤ 2000000 := by split at hl <;> omega
  have e1 : mg a e < mg b f ↔ a * 2 ^ u < b * 2 ^ v := by
    rw [show e = low + u by omega, show f = low + v by omega, ← mg_shift, ← mg_shift, mg_lt]
  simp only [b_law_less, dy, exs, ex, ev, evs, evB, get0, getS, List.set_cons_zero, List.set_cons_succ, setA0, setAS, Option.map_some, tr_int, tr_bool, neg_int, b_add, b_sub, b_and, b_xor, c_eq, c_ne, c_lt, c_le, c_gt, c_ge, Bool.not_true, Bool.not_false, if_true, if_false, Bool.false_eq_true, decide_true, decide_false, Int.natCast_one, Int.natCast_zero, Int.cast_ofNat_Int, beq_self_eq_true, List.length_cons, List.length_nil, Nat.reduceAdd, Nat.reduceLeDiff, Nat.zero_add, dat0, dat1, dat2, dat3, dat4, dat5, dat6, dat7, dat8, dat9, tab0, dsF, dsC, it0, it1, it2, it3, strne, strf, hm, hu, hv, p2k (show u ≤ 10000000 by omega), p2k (show v ≤ 10000000 by omega), b_mul (show bits a + bits (2 ^ u) ≤ 134217728 by rw [bits_two_pow]; omega), b_mul (show bits b + bits (2 ^ v) ≤ 134217728 by rw [bits_two_pow]; omega), e1]
theorem not_less {n : Nat} (hn : 1 ≤ n) {a b : Int} {e f : Int} (ha : bits a ≤ 1000000) (hb : bits b ≤ 1000000) (he : e.natAbs ≤ 1000000) (hf : f.natAbs ≤ 1000000) (h : mg b f ≤ mg a e) :
    run GG T n 26 [dy a e, dy b f] = some (.bool false) := by
  rw [less_spec hn ha hb he hf, decide_eq_false (Rat.not_lt.mpr h)]

structure Nice (x : Fp) : Prop where
  ok : x.ok
  nb : nb x.m ≤ 1000
  e : x.e.natAbs ≤ 900000
theorem bits_N (x : Fp) : bits x.N = nb x.m := by rw [bits_abs, Fp.N_abs]
theorem Nice.b {x : Fp} (h : Nice x) : bits x.N ≤ 1000000 := by rw [bits_N]; have := h.nb; omega
theorem span_spec {n : Nat} (hn : 2 ≤ n) {l h : Int} (hl : nb l.natAbs ≤ 900) (hh : nb h.natAbs ≤ 900) (e : Int) : run GG T n 29 [.tuple [.int l, .int h, .int e]] = some (.tuple [(mkF l e).pd, (mkF h e).pd]) := by
  obtain ⟨n, rfl⟩ : ∃ k, n = k + 1 := ⟨n - 1, by omega⟩
  refine run_ret rfl ⟨Nat.le_refl _, Nat.le_add_right _ _⟩ ?_
  show exs GG _ [some (.tuple [.int l, .int h, .int e])] b_law_span = _
  simp only [b_law_span, exs, ex, ev, evs, evB, get0, getS, List.set_cons_zero, List.set_cons_succ, setA0, setAS, Option.map_some, tr_int, tr_bool, neg_int, b_add, b_sub, b_and, b_xor, c_eq, c_ne, c_lt, c_le, c_gt, c_ge, Bool.not_true, Bool.not_false, if_true, if_false, Bool.false_eq_true, decide_true, decide_false, Int.natCast_one, Int.natCast_zero, Int.cast_ofNat_Int, beq_self_eq_true, List.length_cons, List.length_nil, Nat.reduceAdd, Nat.reduceLeDiff, Nat.zero_add, dat0, dat1, dat2, dat3, dat4, dat5, dat6, dat7, dat8, dat9, tab0, dsF, dsC, it0, it1, it2, it3, strne, strf, made_spec (show 1 ≤ n by omega) hl, made_spec (show 1 ≤ n by omega) hh]
theorem cat4 (a b c d : PyData) : binD .Add (.tuple [a, b]) (.tuple [c, d]) = some (.tuple [a, b, c, d]) := by
  show (if [a, b].length + [c, d].length ≤ 1000 ∧ [a, b] ≠ [] ∧ [c, d] ≠ [] then some (PyData.tuple ([a, b] ++ [c, d])) else none) = _
  rw [if_pos ⟨by show 4 ≤ 1000; omega, by simp, by simp⟩]; rfl
theorem within_true {n : Nat} (hn : 2 ≤ n) {a b c d : Fp} (ha : Nice a) (hb : Nice b) (hc : Nice c) (hd : Nice d) (h1 : c.v ≤ a.v) (h2 : b.v ≤ d.v) (h3 : a.v ≤ b.v) :
    run GG T n 30 [.tuple [a.pd, b.pd], .tuple [c.pd, d.pd]] = some (.bool true) := by
  obtain ⟨n, rfl⟩ : ∃ k, n = k + 1 := ⟨n - 1, by omega⟩
  refine run_ret rfl ⟨Nat.le_refl _, Nat.le_add_right _ _⟩ ?_
  show exs GG _ [some (.tuple [a.pd, b.pd]), some (.tuple [c.pd, d.pd]), none, none, none, none] b_law_within = _
  unfold b_law_within
  refine (exs_next (ρ' := [some (.tuple [a.pd, b.pd]), some (.tuple [c.pd, d.pd]), some (dy a.N a.e), some (dy b.N b.e), some (dy c.N c.e), some (dy d.N d.e)]) ?_).trans ?_
  · have hnl : noLists [dy a.N a.e, dy b.N b.e, dy c.N c.e, dy d.N d.e] = true := rfl
    simp only [exs, ex, ev, evs, evB, get0, getS, List.set_cons_zero, List.set_cons_succ, setA0, setAS, Option.map_some, tr_int, tr_bool, neg_int, b_add, b_sub, b_and, b_xor, c_eq, c_ne, c_lt, c_le, c_gt, c_ge, Bool.not_true, Bool.not_false, if_true, if_false, Bool.false_eq_true, decide_true, decide_false, Int.natCast_one, Int.natCast_zero, Int.cast_ofNat_Int, beq_self_eq_true, List.length_cons, List.length_nil, Nat.reduceAdd, Nat.reduceLeDiff, Nat.zero_add, dat0, dat1, dat2, dat3, dat4, dat5, dat6, dat7, dat8, dat9, tab0, dsF, dsC, it0, it1, it2, it3, strne, strf, cat4, mapO, value_spec (show 1 ≤ n by omega), hnl]
  · have g1 := not_less (n := n) (by omega) ha.b hc.b (by have := ha.e; omega) (by have := hc.e; omega) h1
    have g2 := not_less (n := n) (by omega) hd.b hb.b (by have := hd.e; omega) (by have := hb.e; omega) h2
    have g3 := not_less (n := n) (by omega) hb.b ha.b (by have := hb.e; omega) (by have := ha.e; omega) h3
    simp only [exs, ex, ev, evs, evB, get0, getS, List.set_cons_zero, List.set_cons_succ, setA0, setAS, Option.map_some, tr_int, tr_bool, neg_int, b_add, b_sub, b_and, b_xor, c_eq, c_ne, c_lt, c_le, c_gt, c_ge, Bool.not_true, Bool.not_false, if_true, if_false, Bool.false_eq_true, decide_true, decide_false, Int.natCast_one, Int.natCast_zero, Int.cast_ofNat_Int, beq_self_eq_true, List.length_cons, List.length_nil, Nat.reduceAdd, Nat.reduceLeDiff, Nat.zero_add, dat0, dat1, dat2, dat3, dat4, dat5, dat6, dat7, dat8, dat9, tab0, dsF, dsC, it0, it1, it2, it3, strne, strf, g1, g2, g3]
theorem holds_true {n : Nat} (hn : 2 ≤ n) {c d : Fp} {N e : Int} (hc : Nice c) (hd : Nice d) (hb : bits N ≤ 1000000) (he : e.natAbs ≤ 900000) (h1 : c.v ≤ mg N e) (h2 : mg N e ≤ d.v) :
    run GG T n 31 [.tuple [c.pd, d.pd], dy N e] = some (.bool true) := by
  obtain ⟨n, rfl⟩ : ∃ k, n = k + 1 := ⟨n - 1, by omega⟩
  refine run_ret rfl ⟨Nat.le_refl _, Nat.le_add_right _ _⟩ ?_
  show exs GG _ [some (.tuple [c.pd, d.pd]), some (dy N e)] b_law_holds = _
  have g1 := not_less (n := n) (by omega) hb hc.b (by omega) (by have := hc.e; omega) h1
  have g2 := not_less (n := n) (by omega) hd.b hb (by have := hd.e; omega) (by omega) h2
  simp only [b_law_holds, exs, ex, ev, evs, evB, get0, getS, List.set_cons_zero, List.set_cons_succ, setA0, setAS, Option.map_some, tr_int, tr_bool, neg_int, b_add, b_sub, b_and, b_xor, c_eq, c_ne, c_lt, c_le, c_gt, c_ge, Bool.not_true, Bool.not_false, if_true, if_false, Bool.false_eq_true, decide_true, decide_false, Int.natCast_one, Int.natCast_zero, Int.cast_ofNat_Int, beq_self_eq_true, List.length_cons, List.length_nil, Nat.reduceAdd, Nat.reduceLeDiff, Nat.zero_add, dat0, dat1, dat2, dat3, dat4, dat5, dat6, dat7, dat8, dat9, tab0, dsF, dsC, it0, it1, it2, it3, strne, strf, value_spec (show 1 ≤ n by omega), g1, g2]
theorem itl0 (x y : PyData) : itemD (.list [x, y]) (.int 0) = some x := rfl
theorem itl1 (x y : PyData) : itemD (.list [x, y]) (.int 1) = some y := rfl
theorem one_over_true {n : Nat} (hn : 2 ≤ n) {u v : Fp} {N e : Int} (hu : Nice u) (hv : Nice v) (hb : bits N ≤ 100000) (he : e.natAbs ≤ 90000)
    (h : (0 ≤ N ∧ u.v * mg N e ≤ 1 ∧ 1 ≤ v.v * mg N e) ∨ (N < 0 ∧ v.v * mg N e ≤ 1 ∧ 1 ≤ u.v * mg N e)) :
    run GG T n 32 [.tuple [u.pd, v.pd], dy N e] = some (.bool true) := by
  obtain ⟨n, rfl⟩ : ∃ k, n = k + 1 := ⟨n - 1, by omega⟩
  refine run_ret rfl ⟨Nat.le_refl _, Nat.le_add_right _ _⟩ ?_
  show exs GG _ [some (.tuple [u.pd, v.pd]), some (dy N e), none] b_law_one_over = _
  have t (x : Fp) (hx : Nice x) := times_spec (n := n) (by omega) (a := x.N) (b := N) x.e e (by rw [bits_N]; have := hx.nb; omega)
  have tb : ∀ x : Fp, Nice x → bits (x.N * N) ≤ 1000000 := fun x hx => by
    rw [bits_abs, Int.natAbs_mul]
    have h1 := nb_mul_le x.N.natAbs N.natAbs
    rw [← bits_abs, ← bits_abs, bits_N] at h1
    have := hx.nb
    omega
  have te : ∀ x : Fp, Nice x → (x.e + e).natAbs ≤ 1000000 := fun x hx => by have := hx.e; omega
  have tv : ∀ x : Fp, mg (x.N * N) (x.e + e) = x.v * mg N e := fun x => (mg_mul _ _ _ _).symm
  have b1 : bits 1 ≤ 1000000 := by decide
  have z1 : (0 : Int).natAbs ≤ 1000000 := by decide
  unfold b_law_one_over
  refine (exs_next (ρ' := [some (.tuple [u.pd, v.pd]), some (dy N e), some (.list [dy (u.N * N) (u.e + e), dy (v.N * N) (v.e + e)])]) ?_).trans ?_
  · have hnl : noLists [dy (u.N * N) (u.e + e), dy (v.N * N) (v.e + e)] = true := rfl
    simp only [exs, ex, ev, evs, evB, get0, getS, List.set_cons_zero, List.set_cons_succ, setA0, setAS, Option.map_some, tr_int, tr_bool, neg_int, b_add, b_sub, b_and, b_xor, c_eq, c_ne, c_lt, c_le, c_gt, c_ge, Bool.not_true, Bool.not_false, if_true, if_false, Bool.false_eq_true, decide_true, decide_false, Int.natCast_one, Int.natCast_zero, Int.cast_ofNat_Int, beq_self_eq_true, List.length_cons, List.length_nil, Nat.reduceAdd, Nat.reduceLeDiff, Nat.zero_add, dat0, dat1, dat2, dat3, dat4, dat5, dat6, dat7, dat8, dat9, tab0, dsF, dsC, it0, it1, it2, it3, strne, strf, mapO, value_spec (show 1 ≤ n by omega), t u hu, t v hv, hnl]
  · rcases h with ⟨hN, a1, a2⟩ | ⟨hN, a1, a2⟩
    · have hlt : (N < 0) = False := by simp; omega
      have g1 := not_less (n := n) (by omega) b1 (tb u hu) z1 (te u hu) (by rw [mg_one, tv]; exact a1)
      have g2 := not_less (n := n) (by omega) (tb v hv) b1 (te v hv) z1 (by rw [mg_one, tv]; exact a2)
      simp only [dy] at g1 g2
      simp only [exs, ex, ev, evs, evB, get0, getS, List.set_cons_zero, List.set_cons_succ, setA0, setAS, Option.map_some, tr_int, tr_bool, neg_int, b_add, b_sub, b_and, b_xor, c_eq, c_ne, c_lt, c_le, c_gt, c_ge, Bool.not_true, Bool.not_false, if_true, if_false, Bool.false_eq_true, decide_true, decide_false, Int.natCast_one, Int.natCast_zero, Int.cast_ofNat_Int, beq_self_eq_true, List.length_cons, List.length_nil, Nat.reduceAdd, Nat.reduceLeDiff, Nat.zero_add, dat0, dat1, dat2, dat3, dat4, dat5, dat6, dat7, dat8, dat9, tab0, dsF, dsC, it0, it1, it2, it3, strne, strf, dy, hlt, itl0, itl1, g1, g2]
    · have hlt : (N < 0) = True := by simp; omega
      have g1 := not_less (n := n) (by omega) b1 (tb v hv) z1 (te v hv) (by rw [mg_one, tv]; exact a1)
      have g2 := not_less (n := n) (by omega) (tb u hu) b1 (te u hu) z1 (by rw [mg_one, tv]; exact a2)
      simp only [dy] at g1 g2
      simp only [exs, ex, ev, evs, evB, get0, getS, List.set_cons_zero, List.set_cons_succ, setA0, setAS, Option.map_some, tr_int, tr_bool, neg_int, b_add, b_sub, b_and, b_xor, c_eq, c_ne, c_lt, c_le, c_gt, c_ge, Bool.not_true, Bool.not_false, if_true, if_false, Bool.false_eq_true, decide_true, decide_false, Int.natCast_one, Int.natCast_zero, Int.cast_ofNat_Int, beq_self_eq_true, List.length_cons, List.length_nil, Nat.reduceAdd, Nat.reduceLeDiff, Nat.zero_add, dat0, dat1, dat2, dat3, dat4, dat5, dat6, dat7, dat8, dat9, tab0, dsF, dsC, it0, it1, it2, it3, strne, strf, dy, hlt, itl0, itl1, g1, g2]
end Mine

end

-- part Sp10
section
open PySem
set_option maxRecDepth 100000
set_option linter.unusedVariables false
set_option linter.unusedSimpArgs false
namespace Mine

theorem bits_add {a b : Int} {A : Nat} (ha : bits a ≤ A) (hb : bits b ≤ A) : bits (a + b) ≤ A + 1 := by
  rw [bits_abs] at *
  have h1 := lt_of_nb_le ha
  have h2 := lt_of_nb_le hb
  refine nb_le ?_
  rw [Nat.pow_succ]
  have := Int.natAbs_add_le a b
  omega
theorem bits_mul (a b : Int) : bits (a * b) ≤ bits a + bits b := by
  rw [bits_abs, bits_abs a, bits_abs b, Int.natAbs_mul]
  exact nb_mul_le _ _
theorem pow3 {a : Int} (h : bits a ≤ 40000000) : binD .Pow (.int a) (.int 3) = some (.int (a ^ 3)) := b_pow (n := 3) (by omega)
theorem p40 : binD .Pow (.int 2) (.int 40) = some (.int (2 ^ 40)) := p2k (k := 40) (by decide)
theorem p64 : binD .Pow (.int 2) (.int 64) = some (.int (2 ^ 64)) := p2k (k := 64) (by decide)
theorem p190 : binD .Pow (.int 2) (.int 190) = some (.int (2 ^ 190)) := p2k (k := 190) (by decide)
theorem p13 : binD .Pow (.int 2) (.int 13) = some (.int (2 ^ 13)) := p2k (k := 13) (by decide)
theorem p66 : binD .Pow (.int 2) (.int 66) = some (.int (2 ^ 66)) := p2k (k := 66) (by decide)
theorem p110 : binD .Pow (.int 2) (.int 110) = some (.int (2 ^ 110)) := p2k (k := 110) (by decide)
theorem p50 : binD .Pow (.int 2) (.int 50) = some (.int (2 ^ 50)) := p2k (k := 50) (by decide)
theorem lenI {xs : List PyData} (h : xs.length < 1000) : biD .len [.list xs] = some (.int xs.length) := if_pos h
theorem itemI {xs : List PyData} {k : Nat} (h : k < 100) : itemD (.list xs) (.int (k : Int)) = xs[k]? := by
  have h1 : (0 : Int) ≤ (k : Int) ∧ (k : Int) < 2 ^ 63 := ⟨by omega, by omega⟩
  simp only [itemD]
  rw [if_pos h1, Int.toNat_natCast]

theorem mixed_spec {n : Nat} (hn : 1 ≤ n) {ns : List Int} (hl : ns.length < 1000) (hb : ∀ x ∈ ns, bits x ≤ 2000000) {k : Nat} (hk : k ≤ 10) :
    ∃ r : Int, run GG T n 22 [.list (ns.map .int), .int k] = some (.int r) ∧ 0 ≤ r := by
  obtain ⟨n, rfl⟩ : ∃ k, n = k + 1 := ⟨n - 1, by omega⟩
  have hlen := lenI (xs := ns.map .int) (by simpa using hl)
  have hitem := itemI (xs := ns.map .int) (k := k) (by omega)
  obtain ⟨x, hx, hbx⟩ : ∃ x : Int, ev GG (run GG T n) [some (.list (ns.map .int)), some (.int k), none] (.ite (.cmp .Lt (.loc 1) (.bi .len (.cons (.loc 0) .nil))) (.item (.loc 0) (.loc 1)) (.int 0)) = some (.int x) ∧ bits x ≤ 2000000 := by
    by_cases hlt : k < ns.length
    · have h1 : ((k : Int) < ((ns.map PyData.int).length : Int)) = True := by simp; exact hlt
      have h2 : (ns.map PyData.int)[k]? = some (.int ns[k]) := by simp [hlt]
      refine ⟨ns[k], ?_, hb _ (List.getElem_mem hlt)⟩
      rw [h2] at hitem
      simp only [exs, ex, ev, evs, evB, get0, getS, List.set_cons_zero, List.set_cons_succ, setA0, setAS, Option.map_some, tr_int, tr_bool, neg_int, b_add, b_sub, b_and, b_xor, c_eq, c_ne, c_lt, c_le, c_gt, c_ge, Bool.not_true, Bool.not_false, if_true, if_false, Bool.false_eq_true, decide_true, decide_false, Int.natCast_one, Int.natCast_zero, Int.cast_ofNat_Int, beq_self_eq_true, List.length_cons, List.length_nil, Nat.reduceAdd, Nat.reduceLeDiff, Nat.zero_add, dat0, dat1, dat2, dat3, dat4, dat5, dat6, dat7, dat8, dat9, tab0, dsF, dsC, it0, it1, it2, it3, strne, strf, hlen, h1, hitem]
    · have h1 : ((k : Int) < ((ns.map PyData.int).length : Int)) = False := by simp; omega
      refine ⟨0, ?_, by decide⟩
      simp only [exs, ex, ev, evs, evB, get0, getS, List.set_cons_zero, List.set_cons_succ, setA0, setAS, Option.map_some, tr_int, tr_bool, neg_int, b_add, b_sub, b_and, b_xor, c_eq, c_ne, c_lt, c_le, c_gt, c_ge, Bool.not_true, Bool.not_false, if_true, if_false, Bool.false_eq_true, decide_true, decide_false, Int.natCast_one, Int.natCast_zero, Int.cast_ofNat_Int, beq_self_eq_true, List.length_cons, List.length_nil, Nat.reduceAdd, Nat.reduceLeDiff, Nat.zero_add, dat0, dat1, dat2, dat3, dat4, dat5, dat6, dat7, dat8, dat9, tab0, dsF, dsC, it0, it1, it2, it3, strne, strf, hlen, h1]
  have hset : ex GG (run GG T n) [some (.list (ns.map .int)), some (.int k), none] (.set 2 (.ite (.cmp .Lt (.loc 1) (.bi .len (.cons (.loc 0) .nil))) (.item (.loc 0) (.loc 1)) (.int 0))) = some (.next [some (.list (ns.map .int)), some (.int k), some (.int x)]) := exSet hx
  by_cases h64 : x ≥ 2 ^ 64
  · refine ⟨x, run_ret rfl ⟨Nat.le_refl _, Nat.le_add_right _ _⟩ ?_, by omega⟩
    show exs GG _ [some (.list (ns.map .int)), some (.int k), none] b_law_mixed = _
    unfold b_law_mixed
    refine (exs_next hset).trans ?_
    simp only [exs, ex, ev, evs, evB, get0, getS, List.set_cons_zero, List.set_cons_succ, setA0, setAS, Option.map_some, tr_int, tr_bool, neg_int, b_add, b_sub, b_and, b_xor, c_eq, c_ne, c_lt, c_le, c_gt, c_ge, Bool.not_true, Bool.not_false, if_true, if_false, Bool.false_eq_true, decide_true, decide_false, Int.natCast_one, Int.natCast_zero, Int.cast_ofNat_Int, beq_self_eq_true, List.length_cons, List.length_nil, Nat.reduceAdd, Nat.reduceLeDiff, Nat.zero_add, dat0, dat1, dat2, dat3, dat4, dat5, dat6, dat7, dat8, dat9, tab0, dsF, dsC, it0, it1, it2, it3, strne, strf, p64, h64]
  · have c1 : bits 6364136223846793005 = 63 := by decide
    have c2 : bits 1442695040888963407 = 61 := by decide
    have b1 := bits_mul x 6364136223846793005
    have b2 := bits_mul ((k : Int) + 1) 1442695040888963407
    have b3 : bits ((k : Int) + 1) ≤ 40 := bits_small (by omega)
    have b4 : bits (x * 6364136223846793005 + ((k : Int) + 1) * 1442695040888963407) ≤ 3000001 := bits_add (A := 3000000) (by omega) (by omega)
    refine ⟨(x * 6364136223846793005 + ((k : Int) + 1) * 1442695040888963407) ^ 3 / 2 ^ 40 % 2 ^ 190, run_ret rfl ⟨Nat.le_refl _, Nat.le_add_right _ _⟩ ?_, Int.emod_nonneg _ (Int.ne_of_gt (pow2_pos 190))⟩
    show exs GG _ [some (.list (ns.map .int)), some (.int k), none] b_law_mixed = _
    unfold b_law_mixed
    refine (exs_next hset).trans ?_
    have m1 : binD .Mult (.int x) (.int 6364136223846793005) = some (.int (x * 6364136223846793005)) := b_mul (by omega)
    have m2 : binD .Mult (.int ((k : Int) + 1)) (.int 1442695040888963407) = some (.int (((k : Int) + 1) * 1442695040888963407)) := b_mul (by omega)
    have m3 := pow3 (a := x * 6364136223846793005 + ((k : Int) + 1) * 1442695040888963407) (by omega)
    have m4 := fun a => bd2k a (k := 40) (by decide)
    have m5 := fun a => bm2k a 190
    simp only [exs, ex, ev, evs, evB, get0, getS, List.set_cons_zero, List.set_cons_succ, setA0, setAS, Option.map_some, tr_int, tr_bool, neg_int, b_add, b_sub, b_and, b_xor, c_eq, c_ne, c_lt, c_le, c_gt, c_ge, Bool.not_true, Bool.not_false, if_true, if_false, Bool.false_eq_true, decide_true, decide_false, Int.natCast_one, Int.natCast_zero, Int.cast_ofNat_Int, beq_self_eq_true, List.length_cons, List.length_nil, Nat.reduceAdd, Nat.reduceLeDiff, Nat.zero_add, dat0, dat1, dat2, dat3, dat4, dat5, dat6, dat7, dat8, dat9, tab0, dsF, dsC, it0, it1, it2, it3, strne, strf, p64, h64, m1, m2, m3, p40, p190, m4, m5]

theorem gm (a : Int) {b : Int} (hb : 0 < b) : 0 ≤ a % b ∧ a % b < b := ⟨Int.emod_nonneg _ (by omega), Int.emod_lt_of_pos _ hb⟩
theorem bmod (a : Int) {b : Int} (h : 0 < b) : binD .Mod (.int a) (.int b) = some (.int (a % b)) := b_mod h
theorem bd6 (a : Int) : binD .FloorDiv (.int a) (.int 6) = some (.int (a / 6)) := b_div (by decide) (by decide)
theorem bd150 (a : Int) : binD .FloorDiv (.int a) (.int 150) = some (.int (a / 150)) := b_div (by decide) (by decide)
theorem bd60 (a : Int) : binD .FloorDiv (.int a) (.int 60) = some (.int (a / 60)) := b_div (by decide) (by decide)
theorem bd300 (a : Int) : binD .FloorDiv (.int a) (.int 300) = some (.int (a / 300)) := b_div (by decide) (by decide)
theorem bd1500 (a : Int) : binD .FloorDiv (.int a) (.int 1500) = some (.int (a / 1500)) := b_div (by decide) (by decide)
theorem bd8 (a : Int) : binD .FloorDiv (.int a) (.int 8) = some (.int (a / 8)) := b_div (by decide) (by decide)

theorem grid_spec {n : Nat} (hn : 1 ≤ n) (r : Int) : ∃ l h e : Int, run GG T n 27 [.int r] = some (.tuple [.int l, .int h, .int e]) ∧ l ≤ h ∧ -16777216 ≤ l ∧ l ≤ 16777216 ∧ h - l ≤ 16777216 ∧ -12 ≤ e ∧ e ≤ 12 := by
  obtain ⟨n, rfl⟩ : ∃ k, n = k + 1 := ⟨n - 1, by omega⟩
  have run' : ∀ z : PyData, exs GG (run GG T n) [some (.int r), none, none, none, none, none] b_law_grid = some (.ret z) → run GG T (n + 1) 27 [.int r] = some z := fun c h => run_ret rfl ⟨Nat.le_refl _, Nat.le_add_right _ _⟩ h
  have g1 := gm (r / 6) (b := 25) (by decide)
  have g2 := gm (r / 150) (b := 24) (by decide)
  have g3 := gm (r / 2 ^ 66) (b := 24) (by decide)
  obtain ⟨kb, hkb⟩ : ∃ kb : Nat, 1 + r / 150 % 24 = (kb : Int) := ⟨(1 + r / 150 % 24).toNat, by omega⟩
  obtain ⟨kw, hkw⟩ : ∃ kw : Nat, 1 + r / 2 ^ 66 % 24 = (kw : Int) := ⟨(1 + r / 2 ^ 66 % 24).toNat, by omega⟩
  have hkb1 : (kb : Int) - 1 = ((kb - 1 : Nat) : Int) := by omega
  have g4 := gm (r / 2 ^ 13) (pow2_pos kb)
  have g5 := gm (r / 2 ^ 40) (pow2_pos kw)
  have u1 : (2 : Int) ^ kb ≤ 2 ^ 24 := by
    have := Nat.pow_le_pow_right (n := 2) (by decide) (show kb ≤ 24 by omega)
    rw [← pow2_cast, ← pow2_cast]; exact_mod_cast this
  have u2 : (2 : Int) ^ kw ≤ 2 ^ 24 := by
    have := Nat.pow_le_pow_right (n := 2) (by decide) (show kw ≤ 24 by omega)
    rw [← pow2_cast, ← pow2_cast]; exact_mod_cast this
  have u3 : (2 : Int) ^ kb = 2 ^ (kb - 1) * 2 := by rw [← Int.pow_succ]; congr 1; omega
  have u4 := pow2_pos (kb - 1)
  have u5 : (2 : Int) ^ 24 = 16777216 := by decide
  have d13 := fun a => bd2k a (k := 13) (by decide)
  have d40 := fun a => bd2k a (k := 40) (by decide)
  have d66 := fun a => bd2k a (k := 66) (by decide)
  have q6 := bmod r (b := 6) (by decide)
  have q25 := fun a => bmod a (b := 25) (by decide)
  have q24 := fun a => bmod a (b := 24) (by decide)
  have pk := p2k (k := kb) (by omega)
  have pk1 := p2k (k := kb - 1) (by omega)
  have pw := p2k (k := kw) (by omega)
  generalize hL : r / 2 ^ 13 % 2 ^ kb - 2 ^ (kb - 1) = L at *
  generalize hW : r / 2 ^ 40 % 2 ^ kw = W at *
  have s1 : ex GG (run GG T n) [some (.int r), none, none, none, none, none] (.unp [1, 2, 3] (.tup (.cons (.bin .Mod (.loc 0) (.int 6)) (.cons (.bin .Sub (.bin .Mod (.bin .FloorDiv (.loc 0) (.int 6)) (.int 25)) (.int 12)) (.cons (.bin .Add (.int 1) (.bin .Mod (.bin .FloorDiv (.loc 0) (.int 150)) (.int 24))) .nil))))) =
      some (.next [some (.int r), some (.int (r % 6)), some (.int (r / 6 % 25 - 12)), some (.int kb), none, none]) := by
    simp only [exs, ex, ev, evs, evB, get0, getS, List.set_cons_zero, List.set_cons_succ, setA0, setAS, Option.map_some, tr_int, tr_bool, neg_int, b_add, b_sub, b_and, b_xor, c_eq, c_ne, c_lt, c_le, c_gt, c_ge, Bool.not_true, Bool.not_false, if_true, if_false, Bool.false_eq_true, decide_true, decide_false, Int.natCast_one, Int.natCast_zero, Int.cast_ofNat_Int, beq_self_eq_true, List.length_cons, List.length_nil, Nat.reduceAdd, Nat.reduceLeDiff, Nat.zero_add, dat0, dat1, dat2, dat3, dat4, dat5, dat6, dat7, dat8, dat9, tab0, dsF, dsC, it0, it1, it2, it3, strne, strf, q6, bd6, q25, bd150, q24, hkb]
  have s2 : ex GG (run GG T n) [some (.int r), some (.int (r % 6)), some (.int (r / 6 % 25 - 12)), some (.int kb), none, none] (.unp [4, 5] (.tup (.cons (.bin .Sub (.bin .Mod (.bin .FloorDiv (.loc 0) (.bin .Pow (.int 2) (.int 13))) (.bin .Pow (.int 2) (.loc 3))) (.bin .Pow (.int 2) (.bin .Sub (.loc 3) (.int 1)))) (.cons (.bin .Mod (.bin .FloorDiv (.loc 0) (.bin .Pow (.int 2) (.int 40))) (.bin .Pow (.int 2) (.bin .Add (.int 1) (.bin .Mod (.bin .FloorDiv (.loc 0) (.bin .Pow (.int 2) (.int 66))) (.int 24))))) .nil)))) =
      some (.next [some (.int r), some (.int (r % 6)), some (.int (r / 6 % 25 - 12)), some (.int kb), some (.int L), some (.int W)]) := by
    simp only [exs, ex, ev, evs, evB, get0, getS, List.set_cons_zero, List.set_cons_succ, setA0, setAS, Option.map_some, tr_int, tr_bool, neg_int, b_add, b_sub, b_and, b_xor, c_eq, c_ne, c_lt, c_le, c_gt, c_ge, Bool.not_true, Bool.not_false, if_true, if_false, Bool.false_eq_true, decide_true, decide_false, Int.natCast_one, Int.natCast_zero, Int.cast_ofNat_Int, beq_self_eq_true, List.length_cons, List.length_nil, Nat.reduceAdd, Nat.reduceLeDiff, Nat.zero_add, dat0, dat1, dat2, dat3, dat4, dat5, dat6, dat7, dat8, dat9, tab0, dsF, dsC, it0, it1, it2, it3, strne, strf, p13, p40, p66, d13, d40, d66, q24, hkw, hkb1, pk, pk1, pw, bm2k, hL, hW]
  by_cases k0 : r % 6 = 0
  · have e0 : (r % 6 == 0) = true := by simp [k0]
    refine ⟨L, L + 0, r / 6 % 25 - 12, run' _ ?_, by omega, by omega, by omega, by omega, by omega, by omega⟩
    unfold b_law_grid
    refine (exs_next s1).trans ((exs_next s2).trans ?_)
    simp only [exs, ex, ev, evs, evB, get0, getS, List.set_cons_zero, List.set_cons_succ, setA0, setAS, Option.map_some, tr_int, tr_bool, neg_int, b_add, b_sub, b_and, b_xor, c_eq, c_ne, c_lt, c_le, c_gt, c_ge, Bool.not_true, Bool.not_false, if_true, if_false, Bool.false_eq_true, decide_true, decide_false, Int.natCast_one, Int.natCast_zero, Int.cast_ofNat_Int, beq_self_eq_true, List.length_cons, List.length_nil, Nat.reduceAdd, Nat.reduceLeDiff, Nat.zero_add, dat0, dat1, dat2, dat3, dat4, dat5, dat6, dat7, dat8, dat9, tab0, dsF, dsC, it0, it1, it2, it3, strne, strf, e0]
  · have e0 : (r % 6 == 0) = false := by simp [k0]
    by_cases k1 : r % 6 = 1
    · have e1 : (r % 6 == 1) = true := by simp [k1]
      refine ⟨0, 0 + W, r / 6 % 25 - 12, run' _ ?_, by omega, by omega, by omega, by omega, by omega, by omega⟩
      unfold b_law_grid
      refine (exs_next s1).trans ((exs_next s2).trans ?_)
      simp only [exs, ex, ev, evs, evB, get0, getS, List.set_cons_zero, List.set_cons_succ, setA0, setAS, Option.map_some, tr_int, tr_bool, neg_int, b_add, b_sub, b_and, b_xor, c_eq, c_ne, c_lt, c_le, c_gt, c_ge, Bool.not_true, Bool.not_false, if_true, if_false, Bool.false_eq_true, decide_true, decide_false, Int.natCast_one, Int.natCast_zero, Int.cast_ofNat_Int, beq_self_eq_true, List.length_cons, List.length_nil, Nat.reduceAdd, Nat.reduceLeDiff, Nat.zero_add, dat0, dat1, dat2, dat3, dat4, dat5, dat6, dat7, dat8, dat9, tab0, dsF, dsC, it0, it1, it2, it3, strne, strf, e0, e1]
    · have e1 : (r % 6 == 1) = false := by simp [k1]
      by_cases k2 : r % 6 = 2
      · have e2 : (r % 6 == 2) = true := by simp [k2]
        refine ⟨-W, -W + W, r / 6 % 25 - 12, run' _ ?_, by omega, by omega, by omega, by omega, by omega, by omega⟩
        unfold b_law_grid
        refine (exs_next s1).trans ((exs_next s2).trans ?_)
        simp only [exs, ex, ev, evs, evB, get0, getS, List.set_cons_zero, List.set_cons_succ, setA0, setAS, Option.map_some, tr_int, tr_bool, neg_int, b_add, b_sub, b_and, b_xor, c_eq, c_ne, c_lt, c_le, c_gt, c_ge, Bool.not_true, Bool.not_false, if_true, if_false, Bool.false_eq_true, decide_true, decide_false, Int.natCast_one, Int.natCast_zero, Int.cast_ofNat_Int, beq_self_eq_true, List.length_cons, List.length_nil, Nat.reduceAdd, Nat.reduceLeDiff, Nat.zero_add, dat0, dat1, dat2, dat3, dat4, dat5, dat6, dat7, dat8, dat9, tab0, dsF, dsC, it0, it1, it2, it3, strne, strf, e0, e1, e2]
      · have e2 : (r % 6 == 2) = false := by simp [k2]
        refine ⟨L, L + W, r / 6 % 25 - 12, run' _ ?_, by omega, by omega, by omega, by omega, by omega, by omega⟩
        unfold b_law_grid
        refine (exs_next s1).trans ((exs_next s2).trans ?_)
        simp only [exs, ex, ev, evs, evB, get0, getS, List.set_cons_zero, List.set_cons_succ, setA0, setAS, Option.map_some, tr_int, tr_bool, neg_int, b_add, b_sub, b_and, b_xor, c_eq, c_ne, c_lt, c_le, c_gt, c_ge, Bool.not_true, Bool.not_false, if_true, if_false, Bool.false_eq_true, decide_true, decide_false, Int.natCast_one, Int.natCast_zero, Int.cast_ofNat_Int, beq_self_eq_true, List.length_cons, List.length_nil, Nat.reduceAdd, Nat.reduceLeDiff, Nat.zero_add, dat0, dat1, dat2, dat3, dat4, dat5, dat6, dat7, dat8, dat9, tab0, dsF, dsC, it0, it1, it2, it3, strne, strf, e0, e1, e2]
theorem absI (a : Int) : biD .abs [.int a] = some (.int (if a < 0 then -a else a)) := rfl
theorem apart_spec {n : Nat} (hn : 2 ≤ n) (r : Int) : ∃ l h e : Int, run GG T n 28 [.int r] = some (.tuple [.int l, .int h, .int e]) ∧ l ≤ h ∧ (0 < l ∨ h < 0) ∧ -40000000 ≤ l ∧ h ≤ 40000000 ∧ -12 ≤ e ∧ e ≤ 12 := by
  obtain ⟨n, rfl⟩ : ∃ k, n = k + 1 := ⟨n - 1, by omega⟩
  obtain ⟨l, h, e, hg, a1, a2, a3, a4, a5, a6⟩ := grid_spec (n := n) (by omega) r
  have run' : ∀ z : PyData, exs GG (run GG T n) [some (.int r), none, none, none, none, none] b_law_apart = some (.ret z) → run GG T (n + 1) 28 [.int r] = some z := fun c h => run_ret rfl ⟨Nat.le_refl _, Nat.le_add_right _ _⟩ h
  have ha := absI l
  generalize hA : (if l < 0 then -l else l) = A at ha
  have hA2 : 0 ≤ A ∧ A ≤ 16777216 := by split at hA <;> omega
  have d110 := fun a => bd2k a (k := 110) (by decide)
  have q2 := fun a => bmod a (b := 2) (by decide)
  by_cases h0 : r / 2 ^ 110 % 2 = 0
  · have e0 : (r / 2 ^ 110 % 2 == 0) = true := beq_iff_eq.mpr h0
    refine ⟨1 + A, 1 + A + (h - l), e, run' _ ?_, by omega, by omega, by omega, by omega, a5, a6⟩
    simp only [b_law_apart, exs, ex, ev, evs, evB, get0, getS, List.set_cons_zero, List.set_cons_succ, setA0, setAS, Option.map_some, tr_int, tr_bool, neg_int, b_add, b_sub, b_and, b_xor, c_eq, c_ne, c_lt, c_le, c_gt, c_ge, Bool.not_true, Bool.not_false, if_true, if_false, Bool.false_eq_true, decide_true, decide_false, Int.natCast_one, Int.natCast_zero, Int.cast_ofNat_Int, beq_self_eq_true, List.length_cons, List.length_nil, Nat.reduceAdd, Nat.reduceLeDiff, Nat.zero_add, dat0, dat1, dat2, dat3, dat4, dat5, dat6, dat7, dat8, dat9, tab0, dsF, dsC, it0, it1, it2, it3, strne, strf, hg, ha, p110, d110, q2, e0]
  · have e0 : (r / 2 ^ 110 % 2 == 0) = false := beq_eq_false_iff_ne.mpr h0
    refine ⟨-(1 + A) - (h - l), -(1 + A), e, run' _ ?_, by omega, by omega, by omega, by omega, a5, a6⟩
    simp only [b_law_apart, exs, ex, ev, evs, evB, get0, getS, List.set_cons_zero, List.set_cons_succ, setA0, setAS, Option.map_some, tr_int, tr_bool, neg_int, b_add, b_sub, b_and, b_xor, c_eq, c_ne, c_lt, c_le, c_gt, c_ge, Bool.not_true, Bool.not_false, if_true, if_false, Bool.false_eq_true, decide_true, decide_false, Int.natCast_one, Int.natCast_zero, Int.cast_ofNat_Int, beq_self_eq_true, List.length_cons, List.length_nil, Nat.reduceAdd, Nat.reduceLeDiff, Nat.zero_add, dat0, dat1, dat2, dat3, dat4, dat5, dat6, dat7, dat8, dat9, tab0, dsF, dsC, it0, it1, it2, it3, strne, strf, hg, ha, p110, d110, q2, e0]
end Mine

end

-- part Law1
section
open PySem
set_option maxRecDepth 100000
set_option linter.unusedVariables false
set_option linter.unusedSimpArgs false
namespace Mine

/-- what a power of an interval is -/
def Pw (p k : Nat) (a b c d : Fp) : Prop :=
  (k = 1 ∧ c = a ∧ d = b) ∨ (k ≠ 1 ∧ ∃ l h : Fp, c = l.R true p ∧ d = h.R false p ∧ l.ok ∧ h.ok ∧ (∃ x, a.v ≤ x ∧ x ≤ b.v ∧ l.v = x ^ k) ∧ (∃ x, a.v ≤ x ∧ x ≤ b.v ∧ h.v = x ^ k) ∧
    (∀ x, a.v ≤ x → x ≤ b.v → l.v ≤ x ^ k ∧ x ^ k ≤ h.v))
theorem pow1 (x : Rat) : x ^ 1 = x := by rw [Rat.pow_succ, Rat.pow_zero, Rat.one_mul]
theorem pw_run {n : Nat} (hn : 10 ≤ n) {a b : Fp} {E : Nat} (hE : E ≤ 100000) (hX : IvOk 60 E a b) {p : Nat} (hp : 1 ≤ p) (hp2 : p ≤ 60) {k : Nat} (hk : k ≤ 16) :
    ∃ c d : Fp, run GG T n 21 [.tuple [a.pd, b.pd], .int k, .int p] = some (.tuple [c.pd, d.pd]) ∧ Pw p k a b c d ∧ IvOk 60 (E * 16 + 2000) c d := by
  by_cases h1 : k = 1
  · subst h1
    exact ⟨a, b, mpow1_spec (by omega), .inl ⟨rfl, rfl, rfl⟩, hX.mono (by omega) (by omega)⟩
  · obtain ⟨z, hz, ⟨l, h, rfl, ol, oh, ⟨x1, x11, x12, x13⟩, hx2, hb, nl, nh, el, eh⟩⟩ := mpow_spec (n := n) (by omega) (E := E) (by omega) hX hp hk h1
    have hm : max a.e.natAbs b.e.natAbs * k ≤ E * 16 := Nat.mul_le_mul (Nat.max_le.mpr ⟨hX.e1, hX.e2⟩) hk
    have e1 := Fp.R_e (p := p) l true (B := E * 16 + 2000) (by omega)
    have e2 := Fp.R_e (p := p) h false (B := E * 16 + 2000) (by omega)
    have hlh : l.v ≤ h.v := by have := hb x1 x11 x12; grind
    have r1 := Fp.R_le p l
    have r2 := Fp.R_ge p h
    refine ⟨l.R true p, h.R false p, hz, .inr ⟨h1, l, h, rfl, rfl, ol, oh, ⟨x1, x11, x12, x13⟩, hx2, hb⟩, ⟨Fp.R_ok _ _ _, Fp.R_ok _ _ _, ?_, ?_, e1, e2, by grind⟩⟩
    · have := Fp.R_nb (p := p) hp l true; omega
    · have := Fp.R_nb (p := p) hp h false; omega
theorem Pw.enc {p k : Nat} {a b c d : Fp} (h : Pw p k a b c d) {x : Rat} (h1 : a.v ≤ x) (h2 : x ≤ b.v) : c.v ≤ x ^ k ∧ x ^ k ≤ d.v := by
  rcases h with ⟨rfl, rfl, rfl⟩ | ⟨_, l, h, rfl, rfl, _, _, _, _, hb⟩
  · rw [pow1]; exact ⟨h1, h2⟩
  · have := hb x h1 h2
    exact ⟨Rat.le_trans (Fp.R_le _ _) this.1, Rat.le_trans this.2 (Fp.R_ge _ _)⟩
theorem Pw.low {p k : Nat} (hp : 1 ≤ p) {a b c d l' : Fp} (h : Pw p k a b c d) (hab : a.v ≤ b.v) (hl : ∀ x, a.v ≤ x → x ≤ b.v → l'.v ≤ x ^ k) : (l'.R true p).v ≤ c.v := by
  rcases h with ⟨rfl, rfl, rfl⟩ | ⟨_, l, h, rfl, rfl, _, _, ⟨x, x1, x2, x3⟩, _, hb⟩
  · have := hl c.v Rat.le_refl hab
    rw [pow1] at this
    exact Rat.le_trans (Fp.R_le _ _) this
  · exact Fp.R_mono hp (by rw [x3]; exact hl x x1 x2) true
theorem Pw.high {p k : Nat} (hp : 1 ≤ p) {a b c d h' : Fp} (h : Pw p k a b c d) (hab : a.v ≤ b.v) (hl : ∀ x, a.v ≤ x → x ≤ b.v → x ^ k ≤ h'.v) : d.v ≤ (h'.R false p).v := by
  rcases h with ⟨rfl, rfl, rfl⟩ | ⟨_, l, h, rfl, rfl, _, _, _, ⟨x, x1, x2, x3⟩, hb⟩
  · have := hl d.v hab Rat.le_refl
    rw [pow1] at this
    exact Rat.le_trans this (Fp.R_ge _ _)
  · exact Fp.R_mono hp (by rw [x3]; exact hl x x1 x2) false
theorem Pw.uniq {p k : Nat} {a b c d c' d' : Fp} (h : Pw p k a b c d) (h' : Pw p k a b c' d') : c = c' ∧ d = d' := by
  rcases h with ⟨rfl, rfl, rfl⟩ | ⟨hk, l, h, rfl, rfl, ol, oh, ⟨x, x1, x2, x3⟩, ⟨y, y1, y2, y3⟩, hb⟩
  · rcases h' with ⟨_, rfl, rfl⟩ | ⟨hk, _⟩
    · exact ⟨rfl, rfl⟩
    · exact absurd rfl hk
  · rcases h' with ⟨hk', _⟩ | ⟨_, l', h', rfl, rfl, ol', oh', ⟨x', x1', x2', x3'⟩, ⟨y', y1', y2', y3'⟩, hb'⟩
    · exact absurd hk' hk
    · have e1 : l.v = l'.v := Rat.le_antisymm (by rw [x3']; exact (hb _ x1' x2').1) (by rw [x3]; exact (hb' _ x1 x2).1)
      have e2 : h.v = h'.v := Rat.le_antisymm (by rw [y3]; exact (hb' _ y1 y2).2) (by rw [y3']; exact (hb _ y1' y2').2)
      rw [Fp.inj ol ol' e1, Fp.inj oh oh' e2]
      exact ⟨rfl, rfl⟩
theorem R_neg' (d : Bool) (p : Nat) (x : Fp) : (x.R d p).neg = x.neg.R (!d) p := by rw [Fp.R_neg, Bool.not_not]
theorem Pw.negOdd {p k : Nat} (hk : k % 2 = 1) {a b c d : Fp} (h : Pw p k a b c d) : Pw p k b.neg a.neg d.neg c.neg := by
  rcases h with ⟨rfl, rfl, rfl⟩ | ⟨h1, l, h, rfl, rfl, ol, oh, ⟨x, x1, x2, x3⟩, ⟨y, y1, y2, y3⟩, hb⟩
  · exact .inl ⟨rfl, rfl, rfl⟩
  · refine .inr ⟨h1, h.neg, l.neg, R_neg' false p h, R_neg' true p l, Fp.neg_ok oh, Fp.neg_ok ol, ⟨-y, ?_, ?_, ?_⟩, ⟨-x, ?_, ?_, ?_⟩, fun z z1 z2 => ?_⟩
    · rw [Fp.neg_v]; grind
    · rw [Fp.neg_v]; grind
    · rw [Fp.neg_v, odd_neg _ hk, y3]
    · rw [Fp.neg_v]; grind
    · rw [Fp.neg_v]; grind
    · rw [Fp.neg_v, odd_neg _ hk, x3]
    · rw [Fp.neg_v] at z1 z2
      have := hb (-z) (by grind) (by grind)
      rw [odd_neg _ hk] at this
      rw [Fp.neg_v, Fp.neg_v]
      constructor <;> grind
theorem Pw.negEven {p k : Nat} (hk : k % 2 = 0) {a b c d : Fp} (h : Pw p k a b c d) : Pw p k b.neg a.neg c d := by
  rcases h with ⟨rfl, rfl, rfl⟩ | ⟨h1, l, h, rfl, rfl, ol, oh, ⟨x, x1, x2, x3⟩, ⟨y, y1, y2, y3⟩, hb⟩
  · omega
  · refine .inr ⟨h1, l, h, rfl, rfl, ol, oh, ⟨-x, ?_, ?_, ?_⟩, ⟨-y, ?_, ?_, ?_⟩, fun z z1 z2 => ?_⟩
    · rw [Fp.neg_v]; grind
    · rw [Fp.neg_v]; grind
    · rw [even_neg _ hk, x3]
    · rw [Fp.neg_v]; grind
    · rw [Fp.neg_v]; grind
    · rw [even_neg _ hk, y3]
    · rw [Fp.neg_v] at z1 z2
      have := hb (-z) (by grind) (by grind)
      rw [even_neg _ hk] at this
      exact this
theorem Pw.nonneg {p k : Nat} (hp : 1 ≤ p) (hk : k % 2 = 0) {a b c d : Fp} (h : Pw p k a b c d) : 0 ≤ c.v := by
  rcases h with ⟨rfl, rfl, rfl⟩ | ⟨h1, l, h, rfl, rfl, ol, oh, ⟨x, x1, x2, x3⟩, _, hb⟩
  · omega
  · exact Fp.R_nonneg hp (by rw [x3]; exact even_nonneg x hk) true
theorem Pw.zero {p : Nat} (hp : 1 ≤ p) {a b : Fp} (hab : a.v ≤ b.v) : Pw p 0 a b Fp.one Fp.one :=
  .inr ⟨by decide, Fp.one, Fp.one, (Fp.R_one _ hp).symm, (Fp.R_one _ hp).symm, Fp.one_ok, Fp.one_ok, ⟨a.v, Rat.le_refl, hab, by rw [Fp.one_v, Rat.pow_zero]⟩, ⟨a.v, Rat.le_refl, hab, by rw [Fp.one_v, Rat.pow_zero]⟩, fun x _ _ => by rw [Fp.one_v, Rat.pow_zero]; exact ⟨Rat.le_refl, Rat.le_refl⟩⟩

theorem Mn.le {l a b c d x y : Rat} (h : Mn l a b c d) (h1 : a ≤ x) (h2 : x ≤ b) (h3 : c ≤ y) (h4 : y ≤ d) : l ≤ x * y := by
  obtain ⟨_, l1, l2, l3, l4⟩ := h
  have e1 : a * y ≤ x * y ∨ b * y ≤ x * y := by
    by_cases hy : 0 ≤ y
    · exact .inl (mono_r h1 hy)
    · exact .inr (anti_r h2 (Rat.le_of_lt (Rat.not_le.mp hy)))
  have e2 : ∀ z : Rat, z * c ≤ z * y ∨ z * d ≤ z * y := fun z => by
    by_cases hz : 0 ≤ z
    · exact .inl (mono_l h3 hz)
    · exact .inr (anti_l h4 (Rat.le_of_lt (Rat.not_le.mp hz)))
  have f1 := e2 a
  have f2 := e2 b
  grind
theorem Mx.ge {l a b c d x y : Rat} (h : Mx l a b c d) (h1 : a ≤ x) (h2 : x ≤ b) (h3 : c ≤ y) (h4 : y ≤ d) : x * y ≤ l := by
  obtain ⟨_, l1, l2, l3, l4⟩ := h
  have e1 : x * y ≤ a * y ∨ x * y ≤ b * y := by
    by_cases hy : 0 ≤ y
    · exact .inr (mono_r h2 hy)
    · exact .inl (anti_r h1 (Rat.le_of_lt (Rat.not_le.mp hy)))
  have e2 : ∀ z : Rat, z * y ≤ z * c ∨ z * y ≤ z * d := fun z => by
    by_cases hz : 0 ≤ z
    · exact .inr (mono_l h4 hz)
    · exact .inl (anti_l h3 (Rat.le_of_lt (Rat.not_le.mp hz)))
  have f1 := e2 a
  have f2 := e2 b
  grind
/-- what a product of intervals is -/
def Ml (p : Nat) (a b c d u v : Fp) : Prop := ∃ l h : Fp, u = l.R true p ∧ v = h.R false p ∧ l.ok ∧ h.ok ∧ Mn l.v a.v b.v c.v d.v ∧ Mx h.v a.v b.v c.v d.v
theorem ml_run {n : Nat} (hn : 9 ≤ n) {a b c d : Fp} {E1 E2 : Nat} (hX : IvOk 60 E1 a b) (hY : IvOk 60 E2 c d) {p : Nat} (hp : 1 ≤ p) (hp2 : p ≤ 60) :
    ∃ u v : Fp, run GG T n 18 [.tuple [a.pd, b.pd], .tuple [c.pd, d.pd], .int p] = some (.tuple [u.pd, v.pd]) ∧ Ml p a b c d u v ∧ IvOk 60 (E1 + E2 + 3000) u v := by
  obtain ⟨z, hz, ⟨l, h, rfl, ol, oh, hmn, hmx, nl, nh, el, eh⟩⟩ := mmul_spec (n := n) (by omega) (hX.mono (by omega) (Nat.le_refl _)) (hY.mono (by omega) (Nat.le_refl _)) hp
  have m1 : max a.e.natAbs b.e.natAbs ≤ E1 := Nat.max_le.mpr ⟨hX.e1, hX.e2⟩
  have m2 : max c.e.natAbs d.e.natAbs ≤ E2 := Nat.max_le.mpr ⟨hY.e1, hY.e2⟩
  have e1 := Fp.R_e (p := p) l true (B := E1 + E2 + 3000) (by omega)
  have e2 := Fp.R_e (p := p) h false (B := E1 + E2 + 3000) (by omega)
  have hlh : l.v ≤ h.v := Rat.le_trans hmn.2.1 hmx.2.1
  have r1 := Fp.R_le p l
  have r2 := Fp.R_ge p h
  refine ⟨l.R true p, h.R false p, hz, ⟨l, h, rfl, rfl, ol, oh, hmn, hmx⟩, ⟨Fp.R_ok _ _ _, Fp.R_ok _ _ _, ?_, ?_, e1, e2, by grind⟩⟩
  · have := Fp.R_nb (p := p) hp l true; omega
  · have := Fp.R_nb (p := p) hp h false; omega
theorem Ml.enc {p : Nat} {a b c d u v : Fp} (h : Ml p a b c d u v) {x y : Rat} (h1 : a.v ≤ x) (h2 : x ≤ b.v) (h3 : c.v ≤ y) (h4 : y ≤ d.v) : u.v ≤ x * y ∧ x * y ≤ v.v := by
  obtain ⟨l, h, rfl, rfl, _, _, hmn, hmx⟩ := h
  exact ⟨Rat.le_trans (Fp.R_le _ _) (hmn.le h1 h2 h3 h4), Rat.le_trans (hmx.ge h1 h2 h3 h4) (Fp.R_ge _ _)⟩
theorem sq_eq (x : Rat) : x ^ 2 = x * x := by rw [Rat.pow_succ, pow1]
theorem pow_add (x : Rat) (m n : Nat) : x ^ (m + n) = x ^ m * x ^ n := by
  induction n with
  | zero => rw [Nat.add_zero, Rat.pow_zero, Rat.mul_one]
  | succ n ih => rw [Nat.add_succ, Rat.pow_succ, ih, Rat.pow_succ, Rat.mul_assoc]
theorem pow_mul (x : Rat) (m n : Nat) : x ^ (m * n) = (x ^ m) ^ n := by
  induction n with
  | zero => rw [Nat.mul_zero, Rat.pow_zero, Rat.pow_zero]
  | succ n ih => rw [Nat.mul_succ, pow_add, ih, Rat.pow_succ]
/-- a square lies in the product with itself -/
theorem sq_within {p : Nat} (hp : 1 ≤ p) {a b c d u v : Fp} (hab : a.v ≤ b.v) (h2 : Pw p 2 a b c d) (hm : Ml p a b a b u v) : u.v ≤ c.v ∧ d.v ≤ v.v := by
  obtain ⟨l, h, rfl, rfl, _, _, hmn, hmx⟩ := hm
  exact ⟨h2.low hp hab fun x x1 x2 => by rw [sq_eq]; exact hmn.le x1 x2 x1 x2, h2.high hp hab fun x x1 x2 => by rw [sq_eq]; exact hmx.ge x1 x2 x1 x2⟩
theorem sq_same {p : Nat} {a b c d u v : Fp} (hab : a.v ≤ b.v) (hs : 0 ≤ a.v ∨ b.v ≤ 0) (h2 : Pw p 2 a b c d) (hm : Ml p a b a b u v) : c = u ∧ d = v := by
  obtain ⟨l, h, rfl, rfl, ol, oh, hmn, hmx⟩ := hm
  rcases h2 with ⟨c, _⟩ | ⟨_, l', h', rfl, rfl, ol', oh', ⟨x, x1, x2, x3⟩, ⟨y, y1, y2, y3⟩, hb⟩
  · cases c
  · have ba := hb a.v Rat.le_refl hab
    have bb := hb b.v hab Rat.le_refl
    rw [sq_eq] at ba bb x3 y3
    have i1 := hmn.le x1 x2 x1 x2
    have i2 := hmx.ge y1 y2 y1 y2
    have c1 := Rat.mul_comm a.v b.v
    have e1 : l'.v = l.v := by
      refine Rat.le_antisymm ?_ (by rw [x3]; exact i1)
      rcases hs with hs | hs
      · have := mono_l hab hs; rcases hmn.1 with h | h | h | h <;> grind
      · have := anti_r hab hs; rcases hmn.1 with h | h | h | h <;> grind
    have e2 : h'.v = h.v := by
      refine Rat.le_antisymm (by rw [y3]; exact i2) ?_
      rcases hs with hs | hs
      · have := mono_r hab (Rat.le_trans hs hab); rcases hmx.1 with h | h | h | h <;> grind
      · have := anti_l hab (Rat.le_trans hab hs); rcases hmx.1 with h | h | h | h <;> grind
    rw [Fp.inj ol' ol e1, Fp.inj oh' oh e2]
    exact ⟨rfl, rfl⟩
theorem add_within {p m n : Nat} (hp : 1 ≤ p) {a b c d c1 d1 c2 d2 u v : Fp} (hab : a.v ≤ b.v) (h : Pw p (m + n) a b c d) (h1 : Pw p m a b c1 d1) (h2 : Pw p n a b c2 d2) (hm : Ml p c1 d1 c2 d2 u v) : u.v ≤ c.v ∧ d.v ≤ v.v := by
  obtain ⟨l, h', rfl, rfl, _, _, hmn, hmx⟩ := hm
  exact ⟨h.low hp hab fun x x1 x2 => by rw [pow_add]; exact hmn.le (h1.enc x1 x2).1 (h1.enc x1 x2).2 (h2.enc x1 x2).1 (h2.enc x1 x2).2,
    h.high hp hab fun x x1 x2 => by rw [pow_add]; exact hmx.ge (h1.enc x1 x2).1 (h1.enc x1 x2).2 (h2.enc x1 x2).1 (h2.enc x1 x2).2⟩
theorem mul_within {p m n : Nat} (hp : 1 ≤ p) {a b c d c1 d1 u v : Fp} (hab : a.v ≤ b.v) (h : Pw p (m * n) a b c d) (h1 : Pw p m a b c1 d1) (h2 : Pw p n c1 d1 u v) : u.v ≤ c.v ∧ d.v ≤ v.v := by
  rcases h2 with ⟨rfl, rfl, rfl⟩ | ⟨_, l, h', rfl, rfl, _, _, _, _, hb⟩
  · rw [Nat.mul_one] at h
    obtain ⟨rfl, rfl⟩ := h.uniq h1
    exact ⟨Rat.le_refl, Rat.le_refl⟩
  · exact ⟨h.low hp hab fun x x1 x2 => by rw [pow_mul]; exact (hb _ (h1.enc x1 x2).1 (h1.enc x1 x2).2).1, h.high hp hab fun x x1 x2 => by rw [pow_mul]; exact (hb _ (h1.enc x1 x2).1 (h1.enc x1 x2).2).2⟩
theorem IvOk.nice {E : Nat} {a b : Fp} (h : IvOk 60 E a b) (hE : E ≤ 900000) : Nice a ∧ Nice b :=
  ⟨⟨h.o1, by have := h.n1; omega, by have := h.e1; omega⟩, ⟨h.o2, by have := h.n2; omega, by have := h.e2; omega⟩⟩
theorem mkF_iv {l h e : Int} (hlh : l ≤ h) (hl : l.natAbs ≤ 2 ^ 26) (hh : h.natAbs ≤ 2 ^ 26) (he : e.natAbs ≤ 20) : IvOk 60 100 (mkF l e) (mkF h e) := by
  have nbk : ∀ N : Int, N.natAbs ≤ 2 ^ 26 → nb (mkF N e).m ≤ 60 ∧ (mkF N e).e.natAbs ≤ 100 := fun N hN => by
    refine ⟨Nat.le_trans (mkF_nb (p := 26) (by decide) hN) (by decide), ?_⟩
    unfold mkF
    by_cases h0 : N = 0
    · rw [if_pos h0]; exact Nat.zero_le _
    · rw [if_neg h0]
      have := tz_le (by omega) hN
      simp only
      omega
  exact ⟨mkF_ok _ _, mkF_ok _ _, (nbk l hl).1, (nbk h hh).1, (nbk l hl).2, (nbk h hh).2, by rw [mkF_v, mkF_v, mg_le]; exact hlh⟩
/-- equal tuples -/
theorem ne_self (a b : Fp) : cmpD .NotEq (.tuple [a.pd, b.pd]) (.tuple [a.pd, b.pd]) = some false := by
  have c (xs ys : List PyData) : cmpD .NotEq (.tuple xs) (.tuple ys) = if SeqAt.shaped (.tuple xs) = true ∧ SeqAt.shaped (.tuple ys) = true then some (!PyData.eqv (.tuple xs) (.tuple ys)) else none := rfl
  rw [c, if_pos ⟨rfl, rfl⟩]
  simp [PyData.eqv, PyData.eqvAll, Fp.pd]
end Mine

end

-- part Law2
section
open PySem
set_option maxRecDepth 100000
set_option linter.unusedVariables false
set_option linter.unusedSimpArgs false
namespace Mine

theorem sq_run {n : Nat} (hn : 10 ≤ n) {a b c d : Fp} {E : Nat} (hX : IvOk 60 E a b) {p : Nat} (hp : 1 ≤ p) (h : Pw p 2 a b c d) : run GG T n 19 [.tuple [a.pd, b.pd], .int p] = some (.tuple [c.pd, d.pd]) := by
  obtain ⟨z, hz, ⟨l, h', rfl, ol, oh, hx1, hx2, hb, _, _, _, _⟩⟩ := msq_spec (n := n) (by omega) (B := 60) (by decide) hX hp
  have := h.uniq (.inr ⟨by decide, l, h', rfl, rfl, ol, oh, hx1, hx2, hb⟩)
  rw [hz, this.1, this.2]
theorem mkF_one : mkF 1 0 = Fp.one := mkF_self Fp.one_ok

theorem law_body {N : Nat} (hN : 15 ≤ N) {ns : List Int} (hl : ns.length < 1000) (hb : ∀ x ∈ ns, bits x ≤ 2000000) : run GG T (N + 1) 33 [.list (ns.map .int)] = some (.bool true) := by
  obtain ⟨f, hf, hf0⟩ := mixed_spec (n := N) (by omega) hl hb (k := 0) (by decide)
  obtain ⟨r1, hr1, hr10⟩ := mixed_spec (n := N) (by omega) hl hb (k := 1) (by decide)
  obtain ⟨r2, hr2, hr20⟩ := mixed_spec (n := N) (by omega) hl hb (k := 2) (by decide)
  have q1 := gm f (b := 60) (by decide)
  have q2 := gm (f / 60) (b := 5) (by decide)
  have q3 := gm (f / 300) (b := 5) (by decide)
  have q4 := gm (f / 1500) (b := 4) (by decide)
  obtain ⟨p, hpE⟩ : ∃ p : Nat, 1 + f % 60 = (p : Int) := ⟨(1 + f % 60).toNat, by omega⟩
  obtain ⟨m, hmE⟩ : ∃ m : Nat, f / 60 % 5 = (m : Int) := ⟨(f / 60 % 5).toNat, by omega⟩
  obtain ⟨n, hnE⟩ : ∃ n : Nat, f / 300 % 5 = (n : Int) := ⟨(f / 300 % 5).toNat, by omega⟩
  obtain ⟨k, hkE⟩ : ∃ k : Nat, 1 + f / 1500 % 4 = (k : Int) := ⟨(1 + f / 1500 % 4).toNat, by omega⟩
  have hp : 1 ≤ p := by omega
  have hp2 : p ≤ 60 := by omega
  have hm4 : m ≤ 4 := by omega
  have hn4 : n ≤ 4 := by omega
  have hk1 : 1 ≤ k := by omega
  have hk4 : k ≤ 4 := by omega
  -- the first interval
  obtain ⟨lo, hi, e, hg, g1, g2, g3, g4, g5, g6⟩ := grid_spec (n := N) (by omega) r1
  have hlo : lo.natAbs ≤ 2 ^ 26 := by omega
  have hhi : hi.natAbs ≤ 2 ^ 26 := by omega
  have nlo : nb lo.natAbs ≤ 900 := nb_le (Nat.lt_of_le_of_lt hlo (Nat.pow_lt_pow_right (by decide) (by decide)))
  have nhi : nb hi.natAbs ≤ 900 := nb_le (Nat.lt_of_le_of_lt hhi (Nat.pow_lt_pow_right (by decide) (by decide)))
  have hspan := span_spec (n := N) (by omega) nlo nhi e
  have hI := mkF_iv g1 hlo hhi (show e.natAbs ≤ 20 by omega)
  have va : (mkF lo e).v = mg lo e := mkF_v _ _
  have vb : (mkF hi e).v = mg hi e := mkF_v _ _
  generalize hA : mkF lo e = a at *
  generalize hB : mkF hi e = b at *
  have hone := made_spec (n := N) (by omega) (N := 1) (by decide) 0
  rw [mkF_one] at hone
  have hab := hI.le
  -- squares
  obtain ⟨c2, d2, hsq', P2, I2⟩ := pw_run (n := N) (by omega) (by omega) hI hp hp2 (k := 2) (by decide)
  have hsq : run GG T N 21 [.tuple [a.pd, b.pd], .int 2, .int p] = some (.tuple [c2.pd, d2.pd]) := hsq'
  have hsq19 := sq_run (n := N) (by omega) hI hp P2
  obtain ⟨ut, vt, htw, Mt, It⟩ := ml_run (n := N) (by omega) hI hI hp hp2
  have w1 := sq_within hp hab P2 Mt
  have n2 := I2.nice (by omega)
  have nt := It.nice (by omega)
  have hw1 := within_true (n := N) (by omega) n2.1 n2.2 nt.1 nt.2 w1.1 w1.2 I2.le
  -- powers
  obtain ⟨cm, dm, hpm, Pm, Im⟩ := pw_run (n := N) (by omega) (by omega) hI hp hp2 (k := m) (by omega)
  obtain ⟨cn, dn, hpn, Pn, In⟩ := pw_run (n := N) (by omega) (by omega) hI hp hp2 (k := n) (by omega)
  obtain ⟨cs, ds, hps, Ps, Is⟩ := pw_run (n := N) (by omega) (by omega) hI hp hp2 (k := m + n) (by omega)
  have hmn : m * n ≤ 16 := Nat.mul_le_mul hm4 hn4
  obtain ⟨cp, dp, hpp, Pp, Ip⟩ := pw_run (n := N) (by omega) (by omega) hI hp hp2 (k := m * n) hmn
  obtain ⟨cq, dq, hpq, Pq, Iq⟩ := pw_run (n := N) (by omega) (by omega) Im hp hp2 (k := n) (by omega)
  obtain ⟨um, vm, hmm, Mm, Imm⟩ := ml_run (n := N) (by omega) Im In hp hp2
  have w2 := add_within hp hab Ps Pm Pn Mm
  have w3 := mul_within hp hab Pp Pm Pq
  have hw2 := within_true (n := N) (by omega) (Is.nice (by omega)).1 (Is.nice (by omega)).2 (Imm.nice (by omega)).1 (Imm.nice (by omega)).2 w2.1 w2.2 Is.le
  have hw3 := within_true (n := N) (by omega) (Ip.nice (by omega)).1 (Ip.nice (by omega)).2 (Iq.nice (by omega)).1 (Iq.nice (by omega)).2 w3.1 w3.2 Ip.le
  have hmnI : binD .Mult (.int (m : Int)) (.int (n : Int)) = some (.int ((m * n : Nat) : Int)) := by
    rw [b_mul (by have := bits_small (a := (m : Int)) (by omega); have := bits_small (a := (n : Int)) (by omega); omega), Int.natCast_mul]
  have hmsI : (m : Int) + (n : Int) = ((m + n : Nat) : Int) := by omega
  -- the mirror
  have hneg := mneg_spec (n := N) (by omega) hI.o1 hI.o2
  obtain ⟨cg, dg, hpg, Pg, Ig⟩ := pw_run (n := N) (by omega) (by omega) hI.neg hp hp2 (k := m) (by omega)
  have hnegm := mneg_spec (n := N) (by omega) Im.o1 Im.o2
  -- the zeroth power
  obtain ⟨c0, d0, hp0', P0, I0⟩ := pw_run (n := N) (by omega) (by omega) hI hp hp2 (k := 0) (by decide)
  have hp0 : run GG T N 21 [.tuple [a.pd, b.pd], .int 0, .int p] = some (.tuple [Fp.one.pd, Fp.one.pd]) := by
    have := P0.uniq (Pw.zero hp hab)
    rw [this.1, this.2] at hp0'
    exact hp0'
  -- the second interval
  obtain ⟨tl, th, te, hga, t1, t2, t3, t4, t5, t6⟩ := apart_spec (n := N) (by omega) r2
  have htl : tl.natAbs ≤ 2 ^ 26 := by omega
  have hth : th.natAbs ≤ 2 ^ 26 := by omega
  have ntl : nb tl.natAbs ≤ 900 := nb_le (Nat.lt_of_le_of_lt htl (Nat.pow_lt_pow_right (by decide) (by decide)))
  have nth : nb th.natAbs ≤ 900 := nb_le (Nat.lt_of_le_of_lt hth (Nat.pow_lt_pow_right (by decide) (by decide)))
  have hspt := span_spec (n := N) (by omega) ntl nth te
  have hJ := mkF_iv t1 htl hth (show te.natAbs ≤ 20 by omega)
  have vta : (mkF tl te).v = mg tl te := mkF_v _ _
  have vtb : (mkF th te).v = mg th te := mkF_v _ _
  generalize hTA : mkF tl te = ta at *
  generalize hTB : mkF th te = tb at *
  have hJ0 : 0 < ta.v ∨ tb.v < 0 := by
    rw [vta, vtb, mg_pos, mg_neg']; exact t2
  obtain ⟨cw, dw, hpw, Pwr, Iw⟩ := pw_run (n := N) (by omega) (by omega) hJ hp hp2 (k := k) (by omega)
  obtain ⟨u, v, hinv, ou, ov, nu, nv, eu, ev', henc⟩ := minv_spec (n := N) (by omega) (E := 100) (by omega) hJ hJ0 hp hp2 hk1 (by omega)
  -- the point
  have q5 := gm (f / 2 ^ 50) (b := 9) (by decide)
  generalize hj : f / 2 ^ 50 % 9 = j at *
  have hx1 : 0 ≤ (th - tl) * j / 8 := Int.ediv_nonneg (Int.mul_nonneg (by omega) q5.1) (by decide)
  have hx2 : (th - tl) * j / 8 ≤ th - tl := by
    have : (th - tl) * j ≤ (th - tl) * 8 := Int.mul_le_mul_of_nonneg_left (by omega) (by omega)
    omega
  have hbD : bits (th - tl) ≤ 40 := bits_small (by omega)
  have hbj : bits j ≤ 40 := bits_small (by omega)
  have hmulj : binD .Mult (.int (th - tl)) (.int j) = some (.int ((th - tl) * j)) := b_mul (by omega)
  generalize hx : tl + (th - tl) * j / 8 = x at *
  have hxb : bits x ≤ 40 := bits_small (by omega)
  have hxk : binD .Pow (.int x) (.int (k : Int)) = some (.int (x ^ k)) := b_pow (by
    have : bits x * k ≤ 40 * 4 := Nat.mul_le_mul hxb hk4
    omega)
  have hek : binD .Mult (.int te) (.int (k : Int)) = some (.int (te * k)) := b_mul (by have := bits_small (a := te) (by omega); have := bits_small (a := (k : Int)) (by omega); omega)
  have hX1 : ta.v ≤ mg x te := by rw [vta, mg_le]; omega
  have hX2 : mg x te ≤ tb.v := by rw [vtb, mg_le]; omega
  have hXk := mg_pow x te k
  have hx0 : x ≠ 0 := by omega
  have hXk0 : mg (x ^ k) (te * k) ≠ 0 := by
    rw [Ne, mg_eq0]
    intro c
    have c2 : (x ^ k).natAbs = 0 := by rw [c]; rfl
    rw [Int.natAbs_pow] at c2
    have := (Nat.pow_eq_zero.mp c2).1
    omega
  have hinvk : (mg (x ^ k) (te * k))⁻¹ * mg (x ^ k) (te * k) = 1 := Rat.inv_mul_cancel _ hXk0
  have hencx := henc (mg x te) _ hX1 hX2 (by rw [hXk]; exact hinvk)
  generalize hr : (mg (x ^ k) (te * k))⁻¹ = r at *
  have hpowx := Pwr.enc hX1 hX2
  rw [hXk] at hpowx
  have Iu : IvOk 60 14000 u v := ⟨ou, ov, by omega, by omega, by omega, by omega, Rat.le_trans hencx.1 hencx.2⟩
  have nuv := Iu.nice (by omega)
  have hbxk : bits (x ^ k) ≤ 100000 := by
    rw [bits_abs, Int.natAbs_pow]
    have h1 := nb_pow_le_mul x.natAbs k
    rw [← bits_abs] at h1
    have : bits x * k ≤ 40 * 4 := Nat.mul_le_mul hxb hk4
    omega
  have hekb : (te * (k : Int)).natAbs ≤ 90000 := by
    rw [Int.natAbs_mul]
    have : te.natAbs * (k : Int).natAbs ≤ 20 * 4 := Nat.mul_le_mul (by omega) (by omega)
    omega
  have hover := one_over_true (n := N) (by omega) nuv.1 nuv.2 (N := x ^ k) (e := te * k) hbxk hekb (by
    by_cases hpos : 0 ≤ x ^ k
    · left
      have h0 : 0 ≤ mg (x ^ k) (te * k) := mg_nonneg.mpr hpos
      have e1 := mono_r hencx.1 h0
      have e2 := mono_r hencx.2 h0
      rw [hinvk] at e1 e2
      exact ⟨hpos, e1, e2⟩
    · right
      have h0 : mg (x ^ k) (te * k) ≤ 0 := mg_nonpos.mpr (by omega)
      have e1 := anti_r hencx.1 h0
      have e2 := anti_r hencx.2 h0
      rw [hinvk] at e1 e2
      exact ⟨by omega, e2, e1⟩)
  obtain ⟨x1, y1, hm1, M1, I1⟩ := ml_run (n := N) (by omega) Iw Iu hp hp2
  obtain ⟨x2, y2, hm2, M2, I2'⟩ := ml_run (n := N) (by omega) Iu Iw hp hp2
  have en1 := M1.enc hpowx.1 hpowx.2 hencx.1 hencx.2
  have en2 := M2.enc hencx.1 hencx.2 hpowx.1 hpowx.2
  rw [Rat.mul_comm, hinvk] at en1
  rw [hinvk] at en2
  rw [← mg_one] at en1 en2
  have ho1 := holds_true (n := N) (by omega) (I1.nice (by omega)).1 (I1.nice (by omega)).2 (N := 1) (e := 0) (by decide) (by decide) en1.1 en1.2
  have ho2 := holds_true (n := N) (by omega) (I2'.nice (by omega)).1 (I2'.nice (by omega)).2 (N := 1) (e := 0) (by decide) (by decide) en2.1 en2.2
  -- the body
  refine run_ret rfl ⟨Nat.le_refl _, Nat.le_add_right _ _⟩ ?_
  show exs GG _ (some (.list (ns.map .int)) :: List.replicate 19 none) b_law = _
  have hrep : List.replicate 19 (none : Option PyData) = [none, none, none, none, none, none, none, none, none, none, none, none, none, none, none, none, none, none, none] := rfl
  rw [hrep]
  have hf' : run GG T N 22 [.list (ns.map .int), .int 0] = some (.int f) := hf
  have hr1' : run GG T N 22 [.list (ns.map .int), .int 1] = some (.int r1) := hr1
  have hr2' : run GG T N 22 [.list (ns.map .int), .int 2] = some (.int r2) := hr2
  generalize hS : PyData.list (ns.map .int) = S at *
  have z60 := bmod f (b := 60) (by decide)
  have z5 := fun a => bmod a (b := 5) (by decide)
  have z4 := fun a => bmod a (b := 4) (by decide)
  have z9 := fun a => bmod a (b := 9) (by decide)
  have z2 := fun a => bmod a (b := 2) (by decide)
  have d50 := bd2k f (k := 50) (by decide)
  generalize hX : PyData.tuple [a.pd, b.pd] = X at *
  unfold b_law
  refine (exs_next (ρ' := [some S, some (.int f), none, none, none, none, none, none, none, none, none, none, none, none, none, none, none, none, none, none]) (by simp only [exs, ex, ev, evs, evB, get0, getS, List.set_cons_zero, List.set_cons_succ, setA0, setAS, Option.map_some, tr_int, tr_bool, neg_int, b_add, b_sub, b_and, b_xor, c_eq, c_ne, c_lt, c_le, c_gt, c_ge, Bool.not_true, Bool.not_false, if_true, if_false, Bool.false_eq_true, decide_true, decide_false, Int.natCast_one, Int.natCast_zero, Int.cast_ofNat_Int, beq_self_eq_true, List.length_cons, List.length_nil, Nat.reduceAdd, Nat.reduceLeDiff, Nat.zero_add, dat0, dat1, dat2, dat3, dat4, dat5, dat6, dat7, dat8, dat9, tab0, dsF, dsC, it0, it1, it2, it3, strne, strf, hf'])).trans ?_
  refine (exs_next (ρ' := [some S, some (.int f), some (.int p), some (.int m), some (.int n), some (.int k), none, none, none, none, none, none, none, none, none, none, none, none, none, none]) (by simp only [exs, ex, ev, evs, evB, get0, getS, List.set_cons_zero, List.set_cons_succ, setA0, setAS, Option.map_some, tr_int, tr_bool, neg_int, b_add, b_sub, b_and, b_xor, c_eq, c_ne, c_lt, c_le, c_gt, c_ge, Bool.not_true, Bool.not_false, if_true, if_false, Bool.false_eq_true, decide_true, decide_false, Int.natCast_one, Int.natCast_zero, Int.cast_ofNat_Int, beq_self_eq_true, List.length_cons, List.length_nil, Nat.reduceAdd, Nat.reduceLeDiff, Nat.zero_add, dat0, dat1, dat2, dat3, dat4, dat5, dat6, dat7, dat8, dat9, tab0, dsF, dsC, it0, it1, it2, it3, strne, strf, z60, z5, z4, bd60, bd300, bd1500, hpE, hmE, hnE, hkE])).trans ?_
  refine (exs_next (ρ' := [some S, some (.int f), some (.int p), some (.int m), some (.int n), some (.int k), some (.int lo), some (.int hi), some (.int e), none, none, none, none, none, none, none, none, none, none, none]) (by simp only [exs, ex, ev, evs, evB, get0, getS, List.set_cons_zero, List.set_cons_succ, setA0, setAS, Option.map_some, tr_int, tr_bool, neg_int, b_add, b_sub, b_and, b_xor, c_eq, c_ne, c_lt, c_le, c_gt, c_ge, Bool.not_true, Bool.not_false, if_true, if_false, Bool.false_eq_true, decide_true, decide_false, Int.natCast_one, Int.natCast_zero, Int.cast_ofNat_Int, beq_self_eq_true, List.length_cons, List.length_nil, Nat.reduceAdd, Nat.reduceLeDiff, Nat.zero_add, dat0, dat1, dat2, dat3, dat4, dat5, dat6, dat7, dat8, dat9, tab0, dsF, dsC, it0, it1, it2, it3, strne, strf, hr1', hg])).trans ?_
  refine (exs_next (ρ' := [some S, some (.int f), some (.int p), some (.int m), some (.int n), some (.int k), some (.int lo), some (.int hi), some (.int e), some X, some Fp.one.pd, none, none, none, none, none, none, none, none, none]) (by simp only [exs, ex, ev, evs, evB, get0, getS, List.set_cons_zero, List.set_cons_succ, setA0, setAS, Option.map_some, tr_int, tr_bool, neg_int, b_add, b_sub, b_and, b_xor, c_eq, c_ne, c_lt, c_le, c_gt, c_ge, Bool.not_true, Bool.not_false, if_true, if_false, Bool.false_eq_true, decide_true, decide_false, Int.natCast_one, Int.natCast_zero, Int.cast_ofNat_Int, beq_self_eq_true, List.length_cons, List.length_nil, Nat.reduceAdd, Nat.reduceLeDiff, Nat.zero_add, dat0, dat1, dat2, dat3, dat4, dat5, dat6, dat7, dat8, dat9, tab0, dsF, dsC, it0, it1, it2, it3, strne, strf, hspan, hone])).trans ?_
  refine (exs_next (ρ' := [some S, some (.int f), some (.int p), some (.int m), some (.int n), some (.int k), some (.int lo), some (.int hi), some (.int e), some X, some Fp.one.pd, some (.tuple [ut.pd, vt.pd]), some (.tuple [c2.pd, d2.pd]), none, none, none, none, none, none, none]) (by simp only [exs, ex, ev, evs, evB, get0, getS, List.set_cons_zero, List.set_cons_succ, setA0, setAS, Option.map_some, tr_int, tr_bool, neg_int, b_add, b_sub, b_and, b_xor, c_eq, c_ne, c_lt, c_le, c_gt, c_ge, Bool.not_true, Bool.not_false, if_true, if_false, Bool.false_eq_true, decide_true, decide_false, Int.natCast_one, Int.natCast_zero, Int.cast_ofNat_Int, beq_self_eq_true, List.length_cons, List.length_nil, Nat.reduceAdd, Nat.reduceLeDiff, Nat.zero_add, dat0, dat1, dat2, dat3, dat4, dat5, dat6, dat7, dat8, dat9, tab0, dsF, dsC, it0, it1, it2, it3, strne, strf, htw, hsq19])).trans ?_
  refine (exs_next (ρ' := [some S, some (.int f), some (.int p), some (.int m), some (.int n), some (.int k), some (.int lo), some (.int hi), some (.int e), some X, some Fp.one.pd, some (.tuple [ut.pd, vt.pd]), some (.tuple [c2.pd, d2.pd]), none, none, none, none, none, none, none]) ?_).trans ?_
  · by_cases s1 : lo ≥ 0
    · have hsame := sq_same hab (.inl (by rw [va]; exact mg_nonneg.mpr s1)) P2 Mt
      rw [← hsame.1, ← hsame.2] at hw1 ⊢
      simp only [exs, ex, ev, evs, evB, get0, getS, List.set_cons_zero, List.set_cons_succ, setA0, setAS, Option.map_some, tr_int, tr_bool, neg_int, b_add, b_sub, b_and, b_xor, c_eq, c_ne, c_lt, c_le, c_gt, c_ge, Bool.not_true, Bool.not_false, if_true, if_false, Bool.false_eq_true, decide_true, decide_false, Int.natCast_one, Int.natCast_zero, Int.cast_ofNat_Int, beq_self_eq_true, List.length_cons, List.length_nil, Nat.reduceAdd, Nat.reduceLeDiff, Nat.zero_add, dat0, dat1, dat2, dat3, dat4, dat5, dat6, dat7, dat8, dat9, tab0, dsF, dsC, it0, it1, it2, it3, strne, strf, hsq, ne_self, hw1, s1]
    · by_cases s2 : hi ≤ 0
      · have hsame := sq_same hab (.inr (by rw [vb]; exact mg_nonpos.mpr s2)) P2 Mt
        rw [← hsame.1, ← hsame.2] at hw1 ⊢
        simp only [exs, ex, ev, evs, evB, get0, getS, List.set_cons_zero, List.set_cons_succ, setA0, setAS, Option.map_some, tr_int, tr_bool, neg_int, b_add, b_sub, b_and, b_xor, c_eq, c_ne, c_lt, c_le, c_gt, c_ge, Bool.not_true, Bool.not_false, if_true, if_false, Bool.false_eq_true, decide_true, decide_false, Int.natCast_one, Int.natCast_zero, Int.cast_ofNat_Int, beq_self_eq_true, List.length_cons, List.length_nil, Nat.reduceAdd, Nat.reduceLeDiff, Nat.zero_add, dat0, dat1, dat2, dat3, dat4, dat5, dat6, dat7, dat8, dat9, tab0, dsF, dsC, it0, it1, it2, it3, strne, strf, hsq, ne_self, hw1, s1, s2]
      · simp only [exs, ex, ev, evs, evB, get0, getS, List.set_cons_zero, List.set_cons_succ, setA0, setAS, Option.map_some, tr_int, tr_bool, neg_int, b_add, b_sub, b_and, b_xor, c_eq, c_ne, c_lt, c_le, c_gt, c_ge, Bool.not_true, Bool.not_false, if_true, if_false, Bool.false_eq_true, decide_true, decide_false, Int.natCast_one, Int.natCast_zero, Int.cast_ofNat_Int, beq_self_eq_true, List.length_cons, List.length_nil, Nat.reduceAdd, Nat.reduceLeDiff, Nat.zero_add, dat0, dat1, dat2, dat3, dat4, dat5, dat6, dat7, dat8, dat9, tab0, dsF, dsC, it0, it1, it2, it3, strne, strf, hsq, ne_self, hw1, s1, s2]
  refine (exs_next (ρ' := [some S, some (.int f), some (.int p), some (.int m), some (.int n), some (.int k), some (.int lo), some (.int hi), some (.int e), some X, some Fp.one.pd, some (.tuple [ut.pd, vt.pd]), some (.tuple [c2.pd, d2.pd]), some (.tuple [cm.pd, dm.pd]), some (.tuple [cn.pd, dn.pd]), none, none, none, none, none]) (by simp only [exs, ex, ev, evs, evB, get0, getS, List.set_cons_zero, List.set_cons_succ, setA0, setAS, Option.map_some, tr_int, tr_bool, neg_int, b_add, b_sub, b_and, b_xor, c_eq, c_ne, c_lt, c_le, c_gt, c_ge, Bool.not_true, Bool.not_false, if_true, if_false, Bool.false_eq_true, decide_true, decide_false, Int.natCast_one, Int.natCast_zero, Int.cast_ofNat_Int, beq_self_eq_true, List.length_cons, List.length_nil, Nat.reduceAdd, Nat.reduceLeDiff, Nat.zero_add, dat0, dat1, dat2, dat3, dat4, dat5, dat6, dat7, dat8, dat9, tab0, dsF, dsC, it0, it1, it2, it3, strne, strf, hpm, hpn])).trans ?_
  refine (exs_next (ρ' := [some S, some (.int f), some (.int p), some (.int m), some (.int n), some (.int k), some (.int lo), some (.int hi), some (.int e), some X, some Fp.one.pd, some (.tuple [ut.pd, vt.pd]), some (.tuple [c2.pd, d2.pd]), some (.tuple [cm.pd, dm.pd]), some (.tuple [cn.pd, dn.pd]), none, none, none, none, none]) (by simp only [exs, ex, ev, evs, evB, get0, getS, List.set_cons_zero, List.set_cons_succ, setA0, setAS, Option.map_some, tr_int, tr_bool, neg_int, b_add, b_sub, b_and, b_xor, c_eq, c_ne, c_lt, c_le, c_gt, c_ge, Bool.not_true, Bool.not_false, if_true, if_false, Bool.false_eq_true, decide_true, decide_false, Int.natCast_one, Int.natCast_zero, Int.cast_ofNat_Int, beq_self_eq_true, List.length_cons, List.length_nil, Nat.reduceAdd, Nat.reduceLeDiff, Nat.zero_add, dat0, dat1, dat2, dat3, dat4, dat5, dat6, dat7, dat8, dat9, tab0, dsF, dsC, it0, it1, it2, it3, strne, strf, hmsI, hmnI, hps, hmm, hw2, hpp, hpq, hw3])).trans ?_
  refine (exs_next (ρ' := [some S, some (.int f), some (.int p), some (.int m), some (.int n), some (.int k), some (.int lo), some (.int hi), some (.int e), some X, some Fp.one.pd, some (.tuple [ut.pd, vt.pd]), some (.tuple [c2.pd, d2.pd]), some (.tuple [cm.pd, dm.pd]), some (.tuple [cn.pd, dn.pd]), none, none, none, none, none]) ?_).trans ?_
  · by_cases hodd : m % 2 = 1
    · have e1 : ((m : Int) % 2 == 1) = true := by rw [beq_iff_eq]; omega
      have e2 : ((m : Int) % 2 == 0) = false := by rw [beq_eq_false_iff_ne]; omega
      have hu := Pg.uniq (Pm.negOdd hodd)
      rw [hu.1, hu.2] at hpg
      simp only [exs, ex, ev, evs, evB, get0, getS, List.set_cons_zero, List.set_cons_succ, setA0, setAS, Option.map_some, tr_int, tr_bool, neg_int, b_add, b_sub, b_and, b_xor, c_eq, c_ne, c_lt, c_le, c_gt, c_ge, Bool.not_true, Bool.not_false, if_true, if_false, Bool.false_eq_true, decide_true, decide_false, Int.natCast_one, Int.natCast_zero, Int.cast_ofNat_Int, beq_self_eq_true, List.length_cons, List.length_nil, Nat.reduceAdd, Nat.reduceLeDiff, Nat.zero_add, dat0, dat1, dat2, dat3, dat4, dat5, dat6, dat7, dat8, dat9, tab0, dsF, dsC, it0, it1, it2, it3, strne, strf, z2, hneg, hpg, e1, e2, hnegm, ne_self]
    · have hev : m % 2 = 0 := by omega
      have e1 : ((m : Int) % 2 == 1) = false := by rw [beq_eq_false_iff_ne]; omega
      have e2 : ((m : Int) % 2 == 0) = true := by rw [beq_iff_eq]; omega
      have hu := Pg.uniq (Pm.negEven hev)
      rw [hu.1, hu.2] at hpg
      have hcn : (cm.N < 0) = False := by
        have h1 := Pm.nonneg hp hev
        have h2 : 0 ≤ cm.N := mg_nonneg.mp h1
        simp; omega
      simp only [exs, ex, ev, evs, evB, get0, getS, List.set_cons_zero, List.set_cons_succ, setA0, setAS, Option.map_some, tr_int, tr_bool, neg_int, b_add, b_sub, b_and, b_xor, c_eq, c_ne, c_lt, c_le, c_gt, c_ge, Bool.not_true, Bool.not_false, if_true, if_false, Bool.false_eq_true, decide_true, decide_false, Int.natCast_one, Int.natCast_zero, Int.cast_ofNat_Int, beq_self_eq_true, List.length_cons, List.length_nil, Nat.reduceAdd, Nat.reduceLeDiff, Nat.zero_add, dat0, dat1, dat2, dat3, dat4, dat5, dat6, dat7, dat8, dat9, tab0, dsF, dsC, it0, it1, it2, it3, strne, strf, z2, hneg, hpg, e1, e2, ne_self, value_spec (show 1 ≤ N by omega), dy, hcn]
  refine (exs_next (ρ' := [some S, some (.int f), some (.int p), some (.int m), some (.int n), some (.int k), some (.int lo), some (.int hi), some (.int e), some X, some Fp.one.pd, some (.tuple [ut.pd, vt.pd]), some (.tuple [c2.pd, d2.pd]), some (.tuple [cm.pd, dm.pd]), some (.tuple [cn.pd, dn.pd]), none, none, none, none, none]) (by simp only [exs, ex, ev, evs, evB, get0, getS, List.set_cons_zero, List.set_cons_succ, setA0, setAS, Option.map_some, tr_int, tr_bool, neg_int, b_add, b_sub, b_and, b_xor, c_eq, c_ne, c_lt, c_le, c_gt, c_ge, Bool.not_true, Bool.not_false, if_true, if_false, Bool.false_eq_true, decide_true, decide_false, Int.natCast_one, Int.natCast_zero, Int.cast_ofNat_Int, beq_self_eq_true, List.length_cons, List.length_nil, Nat.reduceAdd, Nat.reduceLeDiff, Nat.zero_add, dat0, dat1, dat2, dat3, dat4, dat5, dat6, dat7, dat8, dat9, tab0, dsF, dsC, it0, it1, it2, it3, strne, strf, hp0, ne_self])).trans ?_
  refine (exs_next (ρ' := [some S, some (.int f), some (.int p), some (.int m), some (.int n), some (.int k), some (.int lo), some (.int hi), some (.int e), some X, some Fp.one.pd, some (.tuple [ut.pd, vt.pd]), some (.tuple [c2.pd, d2.pd]), some (.tuple [cm.pd, dm.pd]), some (.tuple [cn.pd, dn.pd]), some (.tuple [.int tl, .int th, .int te]), none, none, none, none]) (by simp only [exs, ex, ev, evs, evB, get0, getS, List.set_cons_zero, List.set_cons_succ, setA0, setAS, Option.map_some, tr_int, tr_bool, neg_int, b_add, b_sub, b_and, b_xor, c_eq, c_ne, c_lt, c_le, c_gt, c_ge, Bool.not_true, Bool.not_false, if_true, if_false, Bool.false_eq_true, decide_true, decide_false, Int.natCast_one, Int.natCast_zero, Int.cast_ofNat_Int, beq_self_eq_true, List.length_cons, List.length_nil, Nat.reduceAdd, Nat.reduceLeDiff, Nat.zero_add, dat0, dat1, dat2, dat3, dat4, dat5, dat6, dat7, dat8, dat9, tab0, dsF, dsC, it0, it1, it2, it3, strne, strf, hr2', hga])).trans ?_
  refine (exs_next (ρ' := [some S, some (.int f), some (.int p), some (.int m), some (.int n), some (.int k), some (.int lo), some (.int hi), some (.int e), some X, some Fp.one.pd, some (.tuple [ut.pd, vt.pd]), some (.tuple [c2.pd, d2.pd]), some (.tuple [cm.pd, dm.pd]), some (.tuple [cn.pd, dn.pd]), some (.tuple [.int tl, .int th, .int te]), some (.tuple [ta.pd, tb.pd]), some (.int (x ^ k)), none, none]) (by simp only [exs, ex, ev, evs, evB, get0, getS, List.set_cons_zero, List.set_cons_succ, setA0, setAS, Option.map_some, tr_int, tr_bool, neg_int, b_add, b_sub, b_and, b_xor, c_eq, c_ne, c_lt, c_le, c_gt, c_ge, Bool.not_true, Bool.not_false, if_true, if_false, Bool.false_eq_true, decide_true, decide_false, Int.natCast_one, Int.natCast_zero, Int.cast_ofNat_Int, beq_self_eq_true, List.length_cons, List.length_nil, Nat.reduceAdd, Nat.reduceLeDiff, Nat.zero_add, dat0, dat1, dat2, dat3, dat4, dat5, dat6, dat7, dat8, dat9, tab0, dsF, dsC, it0, it1, it2, it3, strne, strf, hspt, p50, d50, z9, hj, hmulj, bd8, hx, hxk])).trans ?_
  refine (exs_next (ρ' := [some S, some (.int f), some (.int p), some (.int m), some (.int n), some (.int k), some (.int lo), some (.int hi), some (.int e), some X, some Fp.one.pd, some (.tuple [ut.pd, vt.pd]), some (.tuple [c2.pd, d2.pd]), some (.tuple [cm.pd, dm.pd]), some (.tuple [cn.pd, dn.pd]), some (.tuple [.int tl, .int th, .int te]), some (.tuple [ta.pd, tb.pd]), some (.int (x ^ k)), some (.tuple [cw.pd, dw.pd]), some (.tuple [u.pd, v.pd])]) (by simp only [exs, ex, ev, evs, evB, get0, getS, List.set_cons_zero, List.set_cons_succ, setA0, setAS, Option.map_some, tr_int, tr_bool, neg_int, b_add, b_sub, b_and, b_xor, c_eq, c_ne, c_lt, c_le, c_gt, c_ge, Bool.not_true, Bool.not_false, if_true, if_false, Bool.false_eq_true, decide_true, decide_false, Int.natCast_one, Int.natCast_zero, Int.cast_ofNat_Int, beq_self_eq_true, List.length_cons, List.length_nil, Nat.reduceAdd, Nat.reduceLeDiff, Nat.zero_add, dat0, dat1, dat2, dat3, dat4, dat5, dat6, dat7, dat8, dat9, tab0, dsF, dsC, it0, it1, it2, it3, strne, strf, hpw, hinv])).trans ?_
  simp only [dy] at hover ho1 ho2
  simp only [exs, ex, ev, evs, evB, get0, getS, List.set_cons_zero, List.set_cons_succ, setA0, setAS, Option.map_some, tr_int, tr_bool, neg_int, b_add, b_sub, b_and, b_xor, c_eq, c_ne, c_lt, c_le, c_gt, c_ge, Bool.not_true, Bool.not_false, if_true, if_false, Bool.false_eq_true, decide_true, decide_false, Int.natCast_one, Int.natCast_zero, Int.cast_ofNat_Int, beq_self_eq_true, List.length_cons, List.length_nil, Nat.reduceAdd, Nat.reduceLeDiff, Nat.zero_add, dat0, dat1, dat2, dat3, dat4, dat5, dat6, dat7, dat8, dat9, tab0, dsF, dsC, it0, it1, it2, it3, strne, strf, hek, hover, hm1, ho1, hm2, ho2]
end Mine

end

-- part Head
section
open PySem PySem.W PyProof.Rows
set_option maxRecDepth 100000
set_option maxHeartbeats 8000000
namespace Mine
open_top hd for PySem.Challenge.rw_aj5016_01
end Mine

end

-- part FnOks
section
open PySem PySem.W PyProof.Rows PySem.Calls PySem.Spec
set_option maxRecDepth 100000
set_option linter.unusedVariables false
namespace Mine

theorem binds0 {K : Frag} {r : FR} {fd : FuncData} {ks : List Str} (hd : r.dfl = []) (hb : ∀ vs : List Value, vs.length = r.k → bindArgs fd ⟨vs, []⟩ = pure ((ks.take r.k).zip vs)) : Binds K r fd ks := fun s vs X h1 h2 => by
  rw [hd] at h2
  have h2' : r.k ≤ vs.length := by simpa using h2
  refine ⟨[], ?_, by rw [hd, List.drop_nil]; exact .nil⟩
  rw [List.append_nil]
  exact BindsTo.of_eq (hb vs (Nat.le_antisymm h1 h2'))
theorem oneo {l : List (Str × NameKind)} {x y : Str} (h : l.lookup x = some .cell) (hl : (l.all fun q => q.2 != .cell || q.1 == y) = true) : x = y := by
  have hm := List.all_eq_true.mp hl _ (mem_of_lookup h)
  have : (x == y) = true := by
    rcases Bool.or_eq_true _ _ |>.mp hm with h | h
    · simp at h
    · exact h
  exact eq_of_beq this

theorem ok_trailing (P : Params) : FnOk (hd.heap_39 P) GG ⟨1, [], 1, b_trailing⟩ 21 :=
  ⟨_, _, [("n" : Str)], ⟨⟨_, rfl, rfl⟩, rfl, rfl, rfl, rfl, rfl, rfl, rfl, rfl, by decide +kernel, by decide +kernel, by decide +kernel⟩, .inl ⟨binds0 rfl fun vs h => by
    match vs, h with
    | [v0], _ => rfl, by decide +kernel, by decide +kernel⟩⟩
theorem ok__normalize (P : Params) : FnOk (hd.heap_39 P) GG ⟨6, [], 8, b_unorm⟩ 38 :=
  ⟨_, _, [("sign" : Str), ("man" : Str), ("exp" : Str), ("bc" : Str), ("prec" : Str), ("rnd" : Str), ("n" : Str), ("t" : Str)], ⟨⟨_, rfl, rfl⟩, rfl, rfl, rfl, rfl, rfl, rfl, rfl, rfl, by decide +kernel, by decide +kernel, by decide +kernel⟩, .inl ⟨binds0 rfl fun vs h => by
    match vs, h with
    | [v0, v1, v2, v3, v4, v5], _ => rfl, by decide +kernel, by decide +kernel⟩⟩
theorem ok_normalize (P : Params) : FnOk (hd.heap_39 P) GG ⟨6, [], 6, b_normalize⟩ 45 :=
  ⟨_, _, [("sign" : Str), ("man" : Str), ("exp" : Str), ("bc" : Str), ("prec" : Str), ("rnd" : Str)], ⟨⟨_, rfl, rfl⟩, rfl, rfl, rfl, rfl, rfl, rfl, rfl, rfl, by decide +kernel, by decide +kernel, by decide +kernel⟩, .inl ⟨binds0 rfl fun vs h => by
    match vs, h with
    | [v0, v1, v2, v3, v4, v5], _ => rfl, by decide +kernel, by decide +kernel⟩⟩
theorem ok_mpf_cmp (P : Params) : FnOk (hd.heap_39 P) GG ⟨2, [], 13, b_mpf_cmp⟩ 52 :=
  ⟨_, _, [("s" : Str), ("t" : Str), ("ssign" : Str), ("sman" : Str), ("sexp" : Str), ("sbc" : Str), ("tsign" : Str), ("tman" : Str), ("texp" : Str), ("tbc" : Str), ("a" : Str), ("b" : Str), ("delta" : Str)], ⟨⟨_, rfl, rfl⟩, rfl, rfl, rfl, rfl, rfl, rfl, rfl, rfl, by decide +kernel, by decide +kernel, by decide +kernel⟩, .inl ⟨binds0 rfl fun vs h => by
    match vs, h with
    | [v0, v1], _ => rfl, by decide +kernel, by decide +kernel⟩⟩
theorem ok_mpf_lt (P : Params) : FnOk (hd.heap_39 P) GG ⟨2, [], 2, b_mpf_lt⟩ 59 :=
  ⟨_, _, [("s" : Str), ("t" : Str)], ⟨⟨_, rfl, rfl⟩, rfl, rfl, rfl, rfl, rfl, rfl, rfl, rfl, by decide +kernel, by decide +kernel, by decide +kernel⟩, .inl ⟨binds0 rfl fun vs h => by
    match vs, h with
    | [v0, v1], _ => rfl, by decide +kernel, by decide +kernel⟩⟩
theorem ok_mpf_le (P : Params) : FnOk (hd.heap_39 P) GG ⟨2, [], 2, b_mpf_le⟩ 66 :=
  ⟨_, _, [("s" : Str), ("t" : Str)], ⟨⟨_, rfl, rfl⟩, rfl, rfl, rfl, rfl, rfl, rfl, rfl, rfl, by decide +kernel, by decide +kernel, by decide +kernel⟩, .inl ⟨binds0 rfl fun vs h => by
    match vs, h with
    | [v0, v1], _ => rfl, by decide +kernel, by decide +kernel⟩⟩
theorem ok_mpf_gt (P : Params) : FnOk (hd.heap_39 P) GG ⟨2, [], 2, b_mpf_gt⟩ 73 :=
  ⟨_, _, [("s" : Str), ("t" : Str)], ⟨⟨_, rfl, rfl⟩, rfl, rfl, rfl, rfl, rfl, rfl, rfl, rfl, by decide +kernel, by decide +kernel, by decide +kernel⟩, .inl ⟨binds0 rfl fun vs h => by
    match vs, h with
    | [v0, v1], _ => rfl, by decide +kernel, by decide +kernel⟩⟩
theorem ok_mpf_ge (P : Params) : FnOk (hd.heap_39 P) GG ⟨2, [], 2, b_mpf_ge⟩ 80 :=
  ⟨_, _, [("s" : Str), ("t" : Str)], ⟨⟨_, rfl, rfl⟩, rfl, rfl, rfl, rfl, rfl, rfl, rfl, rfl, by decide +kernel, by decide +kernel, by decide +kernel⟩, .inl ⟨binds0 rfl fun vs h => by
    match vs, h with
    | [v0, v1], _ => rfl, by decide +kernel, by decide +kernel⟩⟩
theorem ok_mpf_min_max (P : Params) : FnOk (hd.heap_39 P) GG ⟨1, [], 4, b_mpf_min_max⟩ 87 :=
  ⟨_, _, [("seq" : Str), ("min" : Str), ("max" : Str), ("x" : Str)], ⟨⟨_, rfl, rfl⟩, rfl, rfl, rfl, rfl, rfl, rfl, rfl, rfl, by decide +kernel, by decide +kernel, by decide +kernel⟩, .inl ⟨binds0 rfl fun vs h => by
    match vs, h with
    | [v0], _ => rfl, by decide +kernel, by decide +kernel⟩⟩
theorem ok_mpf_pos (P : Params) : FnOk (hd.heap_39 P) GG ⟨3, [.int 0, .str "d"], 7, b_mpf_pos⟩ 95 :=
  ⟨_, _, [("s" : Str), ("prec" : Str), ("rnd" : Str), ("sign" : Str), ("man" : Str), ("exp" : Str), ("bc" : Str)], ⟨⟨_, rfl, rfl⟩, rfl, rfl, rfl, rfl, rfl, rfl, rfl, rfl, by decide +kernel, by decide +kernel, by decide +kernel⟩, .inl ⟨fun s vs X h1 h2 => by
    match vs, h1, h2 with
    | [v0], _, _ => exact ⟨[.int 0 339, .str "d" 210], binds_K X rfl rfl rfl rfl rfl, .cons (.int _ _) (.cons (.str _ _) (.nil))⟩
    | [v0, v1], _, _ => exact ⟨[.str "d" 210], binds_K X rfl rfl rfl rfl rfl, .cons (.str _ _) (.nil)⟩
    | [v0, v1, v2], _, _ => exact ⟨[], binds_K X rfl rfl rfl rfl rfl, .nil⟩
    | [], _, h => exact absurd h (by change ¬ (3 ≤ 0 + 2); omega)
    | v0 :: v1 :: v2 :: v3 :: vs, h, _ => exact absurd h (by simp only [List.length_cons]; omega), by decide +kernel, by decide +kernel⟩⟩
theorem ok_mpf_neg (P : Params) : FnOk (hd.heap_39 P) GG ⟨3, [.int 0, .str "d"], 7, b_mpf_neg⟩ 103 :=
  ⟨_, _, [("s" : Str), ("prec" : Str), ("rnd" : Str), ("sign" : Str), ("man" : Str), ("exp" : Str), ("bc" : Str)], ⟨⟨_, rfl, rfl⟩, rfl, rfl, rfl, rfl, rfl, rfl, rfl, rfl, by decide +kernel, by decide +kernel, by decide +kernel⟩, .inl ⟨fun s vs X h1 h2 => by
    match vs, h1, h2 with
    | [v0], _, _ => exact ⟨[.int 0 353, .str "d" 210], binds_K X rfl rfl rfl rfl rfl, .cons (.int _ _) (.cons (.str _ _) (.nil))⟩
    | [v0, v1], _, _ => exact ⟨[.str "d" 210], binds_K X rfl rfl rfl rfl rfl, .cons (.str _ _) (.nil)⟩
    | [v0, v1, v2], _, _ => exact ⟨[], binds_K X rfl rfl rfl rfl rfl, .nil⟩
    | [], _, h => exact absurd h (by change ¬ (3 ≤ 0 + 2); omega)
    | v0 :: v1 :: v2 :: v3 :: vs, h, _ => exact absurd h (by simp only [List.length_cons]; omega), by decide +kernel, by decide +kernel⟩⟩
theorem ok_mpf_sign (P : Params) : FnOk (hd.heap_39 P) GG ⟨1, [], 5, b_mpf_sign⟩ 110 :=
  ⟨_, _, [("s" : Str), ("sign" : Str), ("man" : Str), ("exp" : Str), ("bc" : Str)], ⟨⟨_, rfl, rfl⟩, rfl, rfl, rfl, rfl, rfl, rfl, rfl, rfl, by decide +kernel, by decide +kernel, by decide +kernel⟩, .inl ⟨binds0 rfl fun vs h => by
    match vs, h with
    | [v0], _ => rfl, by decide +kernel, by decide +kernel⟩⟩
theorem ok_mpf_add (P : Params) : FnOk (hd.heap_39 P) GG ⟨5, [.int 0, .str "d", .int 0], 17, b_mpf_add⟩ 118 :=
  ⟨_, _, [("s" : Str), ("t" : Str), ("prec" : Str), ("rnd" : Str), ("_sub" : Str), ("ssign" : Str), ("sman" : Str), ("sexp" : Str), ("sbc" : Str), ("tsign" : Str), ("tman" : Str), ("texp" : Str), ("tbc" : Str), ("offset" : Str), ("delta" : Str), ("man" : Str), ("bc" : Str)], ⟨⟨_, rfl, rfl⟩, rfl, rfl, rfl, rfl, rfl, rfl, rfl, rfl, by decide +kernel, by decide +kernel, by decide +kernel⟩, .inl ⟨fun s vs X h1 h2 => by
    match vs, h1, h2 with
    | [v0, v1], _, _ => exact ⟨[.int 0 378, .str "d" 210, .int 0 379], binds_K X rfl rfl rfl rfl rfl, .cons (.int _ _) (.cons (.str _ _) (.cons (.int _ _) (.nil)))⟩
    | [v0, v1, v2], _, _ => exact ⟨[.str "d" 210, .int 0 379], binds_K X rfl rfl rfl rfl rfl, .cons (.str _ _) (.cons (.int _ _) (.nil))⟩
    | [v0, v1, v2, v3], _, _ => exact ⟨[.int 0 379], binds_K X rfl rfl rfl rfl rfl, .cons (.int _ _) (.nil)⟩
    | [v0, v1, v2, v3, v4], _, _ => exact ⟨[], binds_K X rfl rfl rfl rfl rfl, .nil⟩
    | [], _, h => exact absurd h (by change ¬ (5 ≤ 0 + 3); omega)
    | [v0], _, h => exact absurd h (by change ¬ (5 ≤ 1 + 3); omega)
    | v0 :: v1 :: v2 :: v3 :: v4 :: v5 :: vs, h, _ => exact absurd h (by simp only [List.length_cons]; omega), by decide +kernel, by decide +kernel⟩⟩
theorem ok_mpf_sub (P : Params) : FnOk (hd.heap_39 P) GG ⟨4, [.int 0, .str "d"], 4, b_mpf_sub⟩ 126 :=
  ⟨_, _, [("s" : Str), ("t" : Str), ("prec" : Str), ("rnd" : Str)], ⟨⟨_, rfl, rfl⟩, rfl, rfl, rfl, rfl, rfl, rfl, rfl, rfl, by decide +kernel, by decide +kernel, by decide +kernel⟩, .inl ⟨fun s vs X h1 h2 => by
    match vs, h1, h2 with
    | [v0, v1], _, _ => exact ⟨[.int 0 403, .str "d" 210], binds_K X rfl rfl rfl rfl rfl, .cons (.int _ _) (.cons (.str _ _) (.nil))⟩
    | [v0, v1, v2], _, _ => exact ⟨[.str "d" 210], binds_K X rfl rfl rfl rfl rfl, .cons (.str _ _) (.nil)⟩
    | [v0, v1, v2, v3], _, _ => exact ⟨[], binds_K X rfl rfl rfl rfl rfl, .nil⟩
    | [], _, h => exact absurd h (by change ¬ (4 ≤ 0 + 2); omega)
    | [v0], _, h => exact absurd h (by change ¬ (4 ≤ 1 + 2); omega)
    | v0 :: v1 :: v2 :: v3 :: v4 :: vs, h, _ => exact absurd h (by simp only [List.length_cons]; omega), by decide +kernel, by decide +kernel⟩⟩
theorem ok_mpf_mul (P : Params) : FnOk (hd.heap_39 P) GG ⟨4, [.int 0, .str "d"], 17, b_mpf_mul⟩ 134 :=
  ⟨_, _, [("s" : Str), ("t" : Str), ("prec" : Str), ("rnd" : Str), ("ssign" : Str), ("sman" : Str), ("sexp" : Str), ("sbc" : Str), ("tsign" : Str), ("tman" : Str), ("texp" : Str), ("tbc" : Str), ("sign" : Str), ("man" : Str), ("bc" : Str), ("s_special" : Str), ("t_special" : Str)], ⟨⟨_, rfl, rfl⟩, rfl, rfl, rfl, rfl, rfl, rfl, rfl, rfl, by decide +kernel, by decide +kernel, by decide +kernel⟩, .inl ⟨fun s vs X h1 h2 => by
    match vs, h1, h2 with
    | [v0, v1], _, _ => exact ⟨[.int 0 414, .str "d" 210], binds_K X rfl rfl rfl rfl rfl, .cons (.int _ _) (.cons (.str _ _) (.nil))⟩
    | [v0, v1, v2], _, _ => exact ⟨[.str "d" 210], binds_K X rfl rfl rfl rfl rfl, .cons (.str _ _) (.nil)⟩
    | [v0, v1, v2, v3], _, _ => exact ⟨[], binds_K X rfl rfl rfl rfl rfl, .nil⟩
    | [], _, h => exact absurd h (by change ¬ (4 ≤ 0 + 2); omega)
    | [v0], _, h => exact absurd h (by change ¬ (4 ≤ 1 + 2); omega)
    | v0 :: v1 :: v2 :: v3 :: v4 :: vs, h, _ => exact absurd h (by simp only [List.length_cons]; omega), by decide +kernel, by decide +kernel⟩⟩
theorem ok_mpf_div (P : Params) : FnOk (hd.heap_39 P) GG ⟨4, [.str "d"], 19, b_mpf_div⟩ 142 :=
  ⟨_, _, [("s" : Str), ("t" : Str), ("prec" : Str), ("rnd" : Str), ("ssign" : Str), ("sman" : Str), ("sexp" : Str), ("sbc" : Str), ("tsign" : Str), ("tman" : Str), ("texp" : Str), ("tbc" : Str), ("s_special" : Str), ("t_special" : Str), ("sign" : Str), ("extra" : Str), ("quot" : Str), ("rem" : Str), ("bc" : Str)], ⟨⟨_, rfl, rfl⟩, rfl, rfl, rfl, rfl, rfl, rfl, rfl, rfl, by decide +kernel, by decide +kernel, by decide +kernel⟩, .inl ⟨fun s vs X h1 h2 => by
    match vs, h1, h2 with
    | [v0, v1, v2], _, _ => exact ⟨[.str "d" 210], binds_K X rfl rfl rfl rfl rfl, .cons (.str _ _) (.nil)⟩
    | [v0, v1, v2, v3], _, _ => exact ⟨[], binds_K X rfl rfl rfl rfl rfl, .nil⟩
    | [], _, h => exact absurd h (by change ¬ (4 ≤ 0 + 1); omega)
    | [v0], _, h => exact absurd h (by change ¬ (4 ≤ 1 + 1); omega)
    | [v0, v1], _, h => exact absurd h (by change ¬ (4 ≤ 2 + 1); omega)
    | v0 :: v1 :: v2 :: v3 :: v4 :: vs, h, _ => exact absurd h (by simp only [List.length_cons]; omega), by decide +kernel, by decide +kernel⟩⟩
theorem ok_mpf_pow_int (P : Params) : FnOk (hd.heap_39 P) GG ⟨4, [.str "d"], 16, b_mpf_pow_int⟩ 151 :=
  ⟨_, _, [("s" : Str), ("n" : Str), ("prec" : Str), ("rnd" : Str), ("sign" : Str), ("man" : Str), ("exp" : Str), ("bc" : Str), ("_" : Str), ("inverse" : Str), ("result_sign" : Str), ("rounds_down" : Str), ("workprec" : Str), ("pm" : Str), ("pe" : Str), ("pbc" : Str)], ⟨⟨_, rfl, rfl⟩, rfl, rfl, rfl, rfl, rfl, rfl, rfl, rfl, by decide +kernel, by decide +kernel, by decide +kernel⟩, .inl ⟨fun s vs X h1 h2 => by
    match vs, h1, h2 with
    | [v0, v1, v2], _, _ => exact ⟨[.str "d" 210], binds_K X rfl rfl rfl rfl rfl, .cons (.str _ _) (.nil)⟩
    | [v0, v1, v2, v3], _, _ => exact ⟨[], binds_K X rfl rfl rfl rfl rfl, .nil⟩
    | [], _, h => exact absurd h (by change ¬ (4 ≤ 0 + 1); omega)
    | [v0], _, h => exact absurd h (by change ¬ (4 ≤ 1 + 1); omega)
    | [v0, v1], _, h => exact absurd h (by change ¬ (4 ≤ 2 + 1); omega)
    | v0 :: v1 :: v2 :: v3 :: v4 :: vs, h, _ => exact absurd h (by simp only [List.length_cons]; omega), by decide +kernel, by decide +kernel⟩⟩
theorem ok_mpi_neg (P : Params) : FnOk (hd.heap_39 P) GG ⟨2, [.int 0], 6, b_mpi_neg⟩ 159 :=
  ⟨_, _, [("s" : Str), ("prec" : Str), ("sa" : Str), ("sb" : Str), ("a" : Str), ("b" : Str)], ⟨⟨_, rfl, rfl⟩, rfl, rfl, rfl, rfl, rfl, rfl, rfl, rfl, by decide +kernel, by decide +kernel, by decide +kernel⟩, .inl ⟨fun s vs X h1 h2 => by
    match vs, h1, h2 with
    | [v0], _, _ => exact ⟨[.int 0 493], binds_K X rfl rfl rfl rfl rfl, .cons (.int _ _) (.nil)⟩
    | [v0, v1], _, _ => exact ⟨[], binds_K X rfl rfl rfl rfl rfl, .nil⟩
    | [], _, h => exact absurd h (by change ¬ (2 ≤ 0 + 1); omega)
    | v0 :: v1 :: v2 :: vs, h, _ => exact absurd h (by simp only [List.length_cons]; omega), by decide +kernel, by decide +kernel⟩⟩
theorem ok_mpi_mul (P : Params) : FnOk (hd.heap_39 P) GG ⟨3, [.int 0], 14, b_mpi_mul⟩ 167 :=
  ⟨_, _, [("s" : Str), ("t" : Str), ("prec" : Str), ("sa" : Str), ("sb" : Str), ("ta" : Str), ("tb" : Str), ("sas" : Str), ("sbs" : Str), ("tas" : Str), ("tbs" : Str), ("a" : Str), ("b" : Str), ("cases" : Str)], ⟨⟨_, rfl, rfl⟩, rfl, rfl, rfl, rfl, rfl, rfl, rfl, rfl, by decide +kernel, by decide +kernel, by decide +kernel⟩, .inl ⟨fun s vs X h1 h2 => by
    match vs, h1, h2 with
    | [v0, v1], _, _ => exact ⟨[.int 0 506], binds_K X rfl rfl rfl rfl rfl, .cons (.int _ _) (.nil)⟩
    | [v0, v1, v2], _, _ => exact ⟨[], binds_K X rfl rfl rfl rfl rfl, .nil⟩
    | [], _, h => exact absurd h (by change ¬ (3 ≤ 0 + 1); omega)
    | [v0], _, h => exact absurd h (by change ¬ (3 ≤ 1 + 1); omega)
    | v0 :: v1 :: v2 :: v3 :: vs, h, _ => exact absurd h (by simp only [List.length_cons]; omega), by decide +kernel, by decide +kernel⟩⟩
theorem ok_mpi_square (P : Params) : FnOk (hd.heap_39 P) GG ⟨2, [.int 0], 6, b_mpi_square⟩ 175 :=
  ⟨_, _, [("s" : Str), ("prec" : Str), ("sa" : Str), ("sb" : Str), ("a" : Str), ("b" : Str)], ⟨⟨_, rfl, rfl⟩, rfl, rfl, rfl, rfl, rfl, rfl, rfl, rfl, by decide +kernel, by decide +kernel, by decide +kernel⟩, .inl ⟨fun s vs X h1 h2 => by
    match vs, h1, h2 with
    | [v0], _, _ => exact ⟨[.int 0 527], binds_K X rfl rfl rfl rfl rfl, .cons (.int _ _) (.nil)⟩
    | [v0, v1], _, _ => exact ⟨[], binds_K X rfl rfl rfl rfl rfl, .nil⟩
    | [], _, h => exact absurd h (by change ¬ (2 ≤ 0 + 1); omega)
    | v0 :: v1 :: v2 :: vs, h, _ => exact absurd h (by simp only [List.length_cons]; omega), by decide +kernel, by decide +kernel⟩⟩
theorem ok_mpi_div (P : Params) : FnOk (hd.heap_39 P) GG ⟨3, [], 13, b_mpi_div⟩ 182 :=
  ⟨_, _, [("s" : Str), ("t" : Str), ("prec" : Str), ("sa" : Str), ("sb" : Str), ("ta" : Str), ("tb" : Str), ("sas" : Str), ("sbs" : Str), ("tas" : Str), ("tbs" : Str), ("a" : Str), ("b" : Str)], ⟨⟨_, rfl, rfl⟩, rfl, rfl, rfl, rfl, rfl, rfl, rfl, rfl, by decide +kernel, by decide +kernel, by decide +kernel⟩, .inl ⟨binds0 rfl fun vs h => by
    match vs, h with
    | [v0, v1, v2], _ => rfl, by decide +kernel, by decide +kernel⟩⟩
theorem ok_mpi_pow_int (P : Params) : FnOk (hd.heap_39 P) GG ⟨3, [], 9, b_mpi_pow_int⟩ 189 :=
  ⟨_, _, [("s" : Str), ("n" : Str), ("prec" : Str), ("sa" : Str), ("sb" : Str), ("a" : Str), ("b" : Str), ("sas" : Str), ("sbs" : Str)], ⟨⟨_, rfl, rfl⟩, rfl, rfl, rfl, rfl, rfl, rfl, rfl, rfl, by decide +kernel, by decide +kernel, by decide +kernel⟩, .inl ⟨binds0 rfl fun vs h => by
    match vs, h with
    | [v0, v1, v2], _ => rfl, by decide +kernel, by decide +kernel⟩⟩
theorem ok__law_mixed (P : Params) : FnOk (hd.heap_39 P) GG ⟨2, [], 3, b_law_mixed⟩ 196 :=
  ⟨_, _, [("script" : Str), ("k" : Str), ("n" : Str)], ⟨⟨_, rfl, rfl⟩, rfl, rfl, rfl, rfl, rfl, rfl, rfl, rfl, by decide +kernel, by decide +kernel, by decide +kernel⟩, .inl ⟨binds0 rfl fun vs h => by
    match vs, h with
    | [v0, v1], _ => rfl, by decide +kernel, by decide +kernel⟩⟩
theorem ok__law_made (P : Params) : FnOk (hd.heap_39 P) GG ⟨2, [], 5, b_law_made⟩ 203 :=
  ⟨_, _, [("n" : Str), ("e" : Str), ("sign" : Str), ("size" : Str), ("low" : Str)], ⟨⟨_, rfl, rfl⟩, rfl, rfl, rfl, rfl, rfl, rfl, rfl, rfl, by decide +kernel, by decide +kernel, by decide +kernel⟩, .inl ⟨binds0 rfl fun vs h => by
    match vs, h with
    | [v0, v1], _ => rfl, by decide +kernel, by decide +kernel⟩⟩
theorem ok__law_value (P : Params) : FnOk (hd.heap_39 P) GG ⟨1, [], 1, b_law_value⟩ 210 :=
  ⟨_, _, [("s" : Str)], ⟨⟨_, rfl, rfl⟩, rfl, rfl, rfl, rfl, rfl, rfl, rfl, rfl, by decide +kernel, by decide +kernel, by decide +kernel⟩, .inl ⟨binds0 rfl fun vs h => by
    match vs, h with
    | [v0], _ => rfl, by decide +kernel, by decide +kernel⟩⟩
theorem ok__law_times (P : Params) : FnOk (hd.heap_39 P) GG ⟨2, [], 2, b_law_times⟩ 217 :=
  ⟨_, _, [("x" : Str), ("y" : Str)], ⟨⟨_, rfl, rfl⟩, rfl, rfl, rfl, rfl, rfl, rfl, rfl, rfl, by decide +kernel, by decide +kernel, by decide +kernel⟩, .inl ⟨binds0 rfl fun vs h => by
    match vs, h with
    | [v0, v1], _ => rfl, by decide +kernel, by decide +kernel⟩⟩
theorem ok__law_less (P : Params) : FnOk (hd.heap_39 P) GG ⟨2, [], 3, b_law_less⟩ 224 :=
  ⟨_, _, [("x" : Str), ("y" : Str), ("low" : Str)], ⟨⟨_, rfl, rfl⟩, rfl, rfl, rfl, rfl, rfl, rfl, rfl, rfl, by decide +kernel, by decide +kernel, by decide +kernel⟩, .inl ⟨binds0 rfl fun vs h => by
    match vs, h with
    | [v0, v1], _ => rfl, by decide +kernel, by decide +kernel⟩⟩
theorem ok__law_grid (P : Params) : FnOk (hd.heap_39 P) GG ⟨1, [], 6, b_law_grid⟩ 231 :=
  ⟨_, _, [("rich" : Str), ("kind" : Str), ("e" : Str), ("bits" : Str), ("low" : Str), ("wide" : Str)], ⟨⟨_, rfl, rfl⟩, rfl, rfl, rfl, rfl, rfl, rfl, rfl, rfl, by decide +kernel, by decide +kernel, by decide +kernel⟩, .inl ⟨binds0 rfl fun vs h => by
    match vs, h with
    | [v0], _ => rfl, by decide +kernel, by decide +kernel⟩⟩
theorem ok__law_apart (P : Params) : FnOk (hd.heap_39 P) GG ⟨1, [], 6, b_law_apart⟩ 238 :=
  ⟨_, _, [("rich" : Str), ("low" : Str), ("high" : Str), ("e" : Str), ("wide" : Str), ("least" : Str)], ⟨⟨_, rfl, rfl⟩, rfl, rfl, rfl, rfl, rfl, rfl, rfl, rfl, by decide +kernel, by decide +kernel, by decide +kernel⟩, .inl ⟨binds0 rfl fun vs h => by
    match vs, h with
    | [v0], _ => rfl, by decide +kernel, by decide +kernel⟩⟩
theorem ok__law_span (P : Params) : FnOk (hd.heap_39 P) GG ⟨1, [], 1, b_law_span⟩ 245 :=
  ⟨_, _, [("grid" : Str)], ⟨⟨_, rfl, rfl⟩, rfl, rfl, rfl, rfl, rfl, rfl, rfl, rfl, by decide +kernel, by decide +kernel, by decide +kernel⟩, .inl ⟨binds0 rfl fun vs h => by
    match vs, h with
    | [v0], _ => rfl, by decide +kernel, by decide +kernel⟩⟩
theorem ok__law_within (P : Params) : FnOk (hd.heap_39 P) GG ⟨2, [], 6, b_law_within⟩ 250 :=
  ⟨_, _, [("part" : Str), ("whole" : Str), ("a" : Str), ("b" : Str), ("c" : Str), ("d" : Str)], ⟨⟨_, rfl, rfl⟩, rfl, rfl, rfl, rfl, rfl, rfl, rfl, rfl, by decide +kernel, by decide +kernel, by decide +kernel⟩, .inl ⟨binds0 rfl fun vs h => by
    match vs, h with
    | [v0, v1], _ => rfl, by decide +kernel, by decide +kernel⟩⟩
theorem ok__law_holds (P : Params) : FnOk (hd.heap_39 P) GG ⟨2, [], 2, b_law_holds⟩ 257 :=
  ⟨_, _, [("whole" : Str), ("x" : Str)], ⟨⟨_, rfl, rfl⟩, rfl, rfl, rfl, rfl, rfl, rfl, rfl, rfl, by decide +kernel, by decide +kernel, by decide +kernel⟩, .inl ⟨binds0 rfl fun vs h => by
    match vs, h with
    | [v0, v1], _ => rfl, by decide +kernel, by decide +kernel⟩⟩
theorem ok__law_one_over (P : Params) : FnOk (hd.heap_39 P) GG ⟨2, [], 3, b_law_one_over⟩ 262 :=
  ⟨_, _, [("whole" : Str), ("power" : Str), ("rows" : Str)], ⟨⟨_, rfl, rfl⟩, rfl, rfl, rfl, rfl, rfl, rfl, rfl, rfl, by decide +kernel, by decide +kernel, by decide +kernel⟩, .inr ⟨"whole", "power", rfl, rfl, rfl, fun _ _ => rfl, rfl, rfl, fun _ => rfl, fun x h => oneo h (by decide +kernel)⟩⟩
theorem ok_law (P : Params) : FnOk (hd.heap_39 P) GG ⟨1, [], 20, b_law⟩ 269 :=
  ⟨_, _, [("script" : Str), ("first" : Str), ("prec" : Str), ("m" : Str), ("n" : Str), ("k" : Str), ("low" : Str), ("high" : Str), ("e" : Str), ("s" : Str), ("one" : Str), ("twice" : Str), ("square" : Str), ("some" : Str), ("more" : Str), ("grid" : Str), ("t" : Str), ("point" : Str), ("power" : Str), ("under" : Str)], ⟨⟨_, rfl, rfl⟩, rfl, rfl, rfl, rfl, rfl, rfl, rfl, rfl, by decide +kernel, by decide +kernel, by decide +kernel⟩, .inl ⟨binds0 rfl fun vs h => by
    match vs, h with
    | [v0], _ => rfl, by decide +kernel, by decide +kernel⟩⟩
theorem fnok (P : Params) : ∀ (f : Nat) (r : FR) (x : Str) (a : Addr), T[f]? = some r → GG.fns[f]? = some (x, a) → FnOk (hd.heap_39 P) GG r a := fun f r x a h1 h2 => by
  match f, h1, h2 with
  | 0, h1, h2 => cases h1; cases h2; exact ok_trailing P
  | 1, h1, h2 => cases h1; cases h2; exact ok__normalize P
  | 2, h1, h2 => cases h1; cases h2; exact ok_normalize P
  | 3, h1, h2 => cases h1; cases h2; exact ok_mpf_cmp P
  | 4, h1, h2 => cases h1; cases h2; exact ok_mpf_lt P
  | 5, h1, h2 => cases h1; cases h2; exact ok_mpf_le P
  | 6, h1, h2 => cases h1; cases h2; exact ok_mpf_gt P
  | 7, h1, h2 => cases h1; cases h2; exact ok_mpf_ge P
  | 8, h1, h2 => cases h1; cases h2; exact ok_mpf_min_max P
  | 9, h1, h2 => cases h1; cases h2; exact ok_mpf_pos P
  | 10, h1, h2 => cases h1; cases h2; exact ok_mpf_neg P
  | 11, h1, h2 => cases h1; cases h2; exact ok_mpf_sign P
  | 12, h1, h2 => cases h1; cases h2; exact ok_mpf_add P
  | 13, h1, h2 => cases h1; cases h2; exact ok_mpf_sub P
  | 14, h1, h2 => cases h1; cases h2; exact ok_mpf_mul P
  | 15, h1, h2 => cases h1; cases h2; exact ok_mpf_div P
  | 16, h1, h2 => cases h1; cases h2; exact ok_mpf_pow_int P
  | 17, h1, h2 => cases h1; cases h2; exact ok_mpi_neg P
  | 18, h1, h2 => cases h1; cases h2; exact ok_mpi_mul P
  | 19, h1, h2 => cases h1; cases h2; exact ok_mpi_square P
  | 20, h1, h2 => cases h1; cases h2; exact ok_mpi_div P
  | 21, h1, h2 => cases h1; cases h2; exact ok_mpi_pow_int P
  | 22, h1, h2 => cases h1; cases h2; exact ok__law_mixed P
  | 23, h1, h2 => cases h1; cases h2; exact ok__law_made P
  | 24, h1, h2 => cases h1; cases h2; exact ok__law_value P
  | 25, h1, h2 => cases h1; cases h2; exact ok__law_times P
  | 26, h1, h2 => cases h1; cases h2; exact ok__law_less P
  | 27, h1, h2 => cases h1; cases h2; exact ok__law_grid P
  | 28, h1, h2 => cases h1; cases h2; exact ok__law_apart P
  | 29, h1, h2 => cases h1; cases h2; exact ok__law_span P
  | 30, h1, h2 => cases h1; cases h2; exact ok__law_within P
  | 31, h1, h2 => cases h1; cases h2; exact ok__law_holds P
  | 32, h1, h2 => cases h1; cases h2; exact ok__law_one_over P
  | 33, h1, h2 => cases h1; cases h2; exact ok_law P
  | n + 34, h1, h2 => cases h1
end Mine

end

-- part GOks
section
open PySem PySem.W PyProof.Rows PySem.Calls PySem.Spec
set_option maxRecDepth 100000
set_option linter.unusedVariables false
namespace Mine
theorem rp4 {K : Frag} {a : Addr} {o : Obj} {n : Nat} {v0 v1 v2 v3 : Value} {d0 d1 d2 d3 : PyData} (ho : K.lookup a = some o) (hc : o.cls = .type "tuple") (hs : o.data = .seq #[v0, v1, v2, v3] n) (r : ∀ h : Heap, RpL h [v0, v1, v2, v3] [d0, d1, d2, d3]) :
    ∀ h : Heap, K.In h → Rp h (.ref a) (.tuple [d0, d1, d2, d3]) := fun h X => .tuple (X _ _ ho) hc hs (r h)
theorem rp2 {K : Frag} {a : Addr} {o : Obj} {n : Nat} {v0 v1 : Value} {d0 d1 : PyData} (ho : K.lookup a = some o) (hc : o.cls = .type "tuple") (hs : o.data = .seq #[v0, v1] n) (r : ∀ h : Heap, RpL h [v0, v1] [d0, d1]) :
    ∀ h : Heap, K.In h → Rp h (.ref a) (.tuple [d0, d1]) := fun h X => .tuple (X _ _ ho) hc hs (r h)
theorem gok (P : Params) : GOk (hd.heap_39 P) P GG where
  dat := fun i x d h => by
    match i, h with
    | 0, h => cases h; exact ⟨_, rfl, fun h _ => .int _ _⟩
    | 1, h => cases h; exact ⟨_, rfl, fun h _ => .int _ _⟩
    | 2, h => cases h; exact ⟨_, rfl, rp4 rfl rfl rfl fun h => .cons (.int _ _) (.cons (.int _ _) (.cons (.int _ _) (.cons (.int _ _) .nil)))⟩
    | 3, h => cases h; exact ⟨_, rfl, rp4 rfl rfl rfl fun h => .cons (.int _ _) (.cons (.int _ _) (.cons (.int _ _) (.cons (.int _ _) .nil)))⟩
    | 4, h => cases h; exact ⟨_, rfl, rp4 rfl rfl rfl fun h => .cons (.int _ _) (.cons (.int _ _) (.cons (.int _ _) (.cons (.int _ _) .nil)))⟩
    | 5, h => cases h; exact ⟨_, rfl, rp4 rfl rfl rfl fun h => .cons (.int _ _) (.cons (.int _ _) (.cons (.int _ _) (.cons (.int _ _) .nil)))⟩
    | 6, h => cases h; exact ⟨_, rfl, rp4 rfl rfl rfl fun h => .cons (.int _ _) (.cons (.int _ _) (.cons (.int _ _) (.cons (.int _ _) .nil)))⟩
    | 7, h => cases h; exact ⟨_, rfl, fun h _ => .str _ _⟩
    | 8, h => cases h; exact ⟨_, rfl, fun h _ => .str _ _⟩
    | 9, h => cases h; exact ⟨_, rfl, fun h _ => .str _ _⟩
    | 10, h => cases h; exact ⟨_, rfl, fun h _ => .str _ _⟩
    | 11, h => cases h; exact ⟨_, rfl, fun h _ => .str _ _⟩
    | 12, h => cases h; exact ⟨_, rfl, fun h _ => .str _ _⟩
    | n + 13, h => cases h
  fns := fun i x a h => by
    match i, h with
    | 0, h => cases h; exact ⟨rfl, _, _, rfl, rfl⟩
    | 1, h => cases h; exact ⟨rfl, _, _, rfl, rfl⟩
    | 2, h => cases h; exact ⟨rfl, _, _, rfl, rfl⟩
    | 3, h => cases h; exact ⟨rfl, _, _, rfl, rfl⟩
    | 4, h => cases h; exact ⟨rfl, _, _, rfl, rfl⟩
    | 5, h => cases h; exact ⟨rfl, _, _, rfl, rfl⟩
    | 6, h => cases h; exact ⟨rfl, _, _, rfl, rfl⟩
    | 7, h => cases h; exact ⟨rfl, _, _, rfl, rfl⟩
    | 8, h => cases h; exact ⟨rfl, _, _, rfl, rfl⟩
    | 9, h => cases h; exact ⟨rfl, _, _, rfl, rfl⟩
    | 10, h => cases h; exact ⟨rfl, _, _, rfl, rfl⟩
    | 11, h => cases h; exact ⟨rfl, _, _, rfl, rfl⟩
    | 12, h => cases h; exact ⟨rfl, _, _, rfl, rfl⟩
    | 13, h => cases h; exact ⟨rfl, _, _, rfl, rfl⟩
    | 14, h => cases h; exact ⟨rfl, _, _, rfl, rfl⟩
    | 15, h => cases h; exact ⟨rfl, _, _, rfl, rfl⟩
    | 16, h => cases h; exact ⟨rfl, _, _, rfl, rfl⟩
    | 17, h => cases h; exact ⟨rfl, _, _, rfl, rfl⟩
    | 18, h => cases h; exact ⟨rfl, _, _, rfl, rfl⟩
    | 19, h => cases h; exact ⟨rfl, _, _, rfl, rfl⟩
    | 20, h => cases h; exact ⟨rfl, _, _, rfl, rfl⟩
    | 21, h => cases h; exact ⟨rfl, _, _, rfl, rfl⟩
    | 22, h => cases h; exact ⟨rfl, _, _, rfl, rfl⟩
    | 23, h => cases h; exact ⟨rfl, _, _, rfl, rfl⟩
    | 24, h => cases h; exact ⟨rfl, _, _, rfl, rfl⟩
    | 25, h => cases h; exact ⟨rfl, _, _, rfl, rfl⟩
    | 26, h => cases h; exact ⟨rfl, _, _, rfl, rfl⟩
    | 27, h => cases h; exact ⟨rfl, _, _, rfl, rfl⟩
    | 28, h => cases h; exact ⟨rfl, _, _, rfl, rfl⟩
    | 29, h => cases h; exact ⟨rfl, _, _, rfl, rfl⟩
    | 30, h => cases h; exact ⟨rfl, _, _, rfl, rfl⟩
    | 31, h => cases h; exact ⟨rfl, _, _, rfl, rfl⟩
    | 32, h => cases h; exact ⟨rfl, _, _, rfl, rfl⟩
    | 33, h => cases h; exact ⟨rfl, _, _, rfl, rfl⟩
    | n + 34, h => cases h
  tab := fun i x l h => by
    match i, h with
    | 0, h =>
      cases h
      refine ⟨_, _, _, rfl, rfl, ?_, fun k d h => ?_⟩
      · exact ⟨⟨_, _, rfl, rfl⟩, ⟨_, _, rfl, rfl⟩, ⟨_, _, rfl, rfl⟩, ⟨_, _, rfl, rfl⟩, trivial⟩
      · have hm := PySem.mem_of_lookup h
        simp only [List.mem_cons, List.not_mem_nil, or_false] at hm
        rcases hm with hm | hm | hm | hm <;> cases hm
        · exact ⟨_, rfl, rp2 rfl rfl rfl fun h => .cons (.int _ _) (.cons (.int _ _) .nil)⟩
        · exact ⟨_, rfl, rp2 rfl rfl rfl fun h => .cons (.int _ _) (.cons (.int _ _) .nil)⟩
        · exact ⟨_, rfl, rp2 rfl rfl rfl fun h => .cons (.int _ _) (.cons (.int _ _) .nil)⟩
        · exact ⟨_, rfl, rp2 rfl rfl rfl fun h => .cons (.int _ _) (.cons (.int _ _) .nil)⟩
    | n + 1, h => cases h
  bi := fun b => by cases b <;> rfl
end Mine

end

-- part Join
section
open PySem PySem.W PyProof.Rows PySem.Calls PySem.Spec
set_option maxRecDepth 100000
set_option maxHeartbeats 8000000
set_option linter.unusedVariables false
namespace Mine
theorem rpl_ints {h : Heap} : ∀ {vs : List Value} {ns : List Int}, IntsAre vs ns → RpL h vs (ns.map .int)
  | _, _, .nil => .nil
  | _, _, .cons _ _ r => .cons (.int _ _) (rpl_ints r)

theorem run_exs {n : Nat} {ns : List Int} {d : PyData} (h : run GG T (n + 1) 33 [.list (ns.map .int)] = some d) :
    exs GG (run GG T n) (some (.list (ns.map .int)) :: List.replicate 19 none) b_law = some (.ret d) := by
  have e : run GG T (n + 1) 33 [.list (ns.map .int)] = (match exs GG (run GG T n) (some (.list (ns.map .int)) :: List.replicate 19 none) b_law with
      | some (.ret d) => some d
      | _ => none) := rfl
  rw [e] at h
  split at h
  · rename_i q; cases h; exact q
  · cases h

theorem fin_step {p : Program} {loose : List Str} {mean : ExcName → Option Value} {mg mb : Str → Option Value} {prog : Program} {w : World} {s₁ : Shared} {h₁ : Heap} {l : Addr} {vs : List Value} {ns : List Int} {A : Around} {L : Addr} {x0 : Str} {n : Nat} {env : Env} {kd : List (Str × NameKind)} {ks : List Str} {stmts : List Stmt}
    {Q : Flow → Shared → Prop} {E : Value → Shared → Prop} {s : Shared}
    (X : (hd.heap_39 w.params).In s₁.heap) (Tp : Top p loose mean mg mb s₁.heap) (hL : s₁.heap.IsList l vs.toArray) (hI : IntsAre vs ns) (F : Fr s₁.heap L h₁ (fun x => List.lookup x [(x0, Value.ref l)].reverse))
    (hrun : run GG T (n + 1) 33 [.list (ns.map .int)] = some (.bool true)) (hs : s.heap = h₁) (hA : AOk n A) (hsta : Sta env kd ks) (hl : env.locals = L) (hx0 : ks[0]? = some x0) (hx0l : kd.lookup x0 = some .local)
    (hchk : chkSs GG kd ks b_law stmts = true)
    (hQ : ∀ h' tk, (∀ b o, s₁.heap.get? b = some o → h'.get? b = some o) → Q (.ret (.bool true)) { s with heap := h', toks := tk }) :
    wpAny (model prog w) A (execs stmts env) Q E s := by
  have S := soundSs (prog := prog) (w := w) (n := n) (p := p) (loose := loose) (mean := mean) (mg := mg) (mb := mb) (gok w.params) (run_sound (gok w.params) (fnok w.params) n) b_law env kd ks _ stmts _ hchk (run_exs hrun)
  refine S A s s₁.heap Q E hA ⟨hsta, ⟨Tp, X⟩, by rw [hs]; exact F.keep, by rw [hl]; exact F.above, ⟨_, by rw [hs, hl]; exact F.ns, fun i x d hi hx hd => ?_⟩, fun i x d hi hx hd => ?_⟩ fun v s' k r => ?_
  · have hd' := rho_get (xs := [.list (ns.map .int)]) (m := 19) hd
    match i, hi, hd' with
    | 0, hi, hd' =>
      rw [hx0] at hi; cases hi
      simp at hd'; subst hd'
      obtain ⟨o, e1, e2, ⟨nn, e3⟩⟩ := hL
      refine ⟨.ref l, by simp, ?_⟩
      rw [hs]
      exact .list (F.keep _ _ e1) e2 e3 (RpL.mono (SeqKeep.of F.keep) (rpl_ints hI))
    | i + 1, hi, hd' => simp at hd'
  · have hd' := rho_get (xs := [.list (ns.map .int)]) (m := 19) hd
    match i, hi, hd' with
    | 0, hi, hd' =>
      rw [hx0] at hi; cases hi
      rw [hx0l] at hx; cases hx
    | i + 1, hi, hd' => simp at hd'
  · obtain ⟨h', tk, rfl, kk⟩ := k
    cases r
    exact hQ h' tk fun b o e => kk b o (Nat.ne_of_lt (Nat.lt_of_lt_of_le (Heap.lt_size e) (by rw [hl]; exact F.above))) (by rw [hs]; exact F.keep b o e)
end Mine

end

-- the end
open PySem PySem.W PyProof.Rows PySem.Calls PySem.Spec
set_option maxRecDepth 100000
set_option maxHeartbeats 8000000
set_option linter.unusedVariables false
namespace Mine
theorem law_true (ns : List Int) (h1 : ¬ ((63 : Int) < ns.length)) (h2 : (PyData.list (ns.map .int)).layable0 = true) : run GG T 21 33 [.list (ns.map .int)] = some (.bool true) :=
  law_body (N := 20) (by decide) (by omega) fun x hx => Nat.le_trans (PyData.bits_item_of_ints h2 hx) (by decide)
def ksLaw : List Str := [("script" : Str), ("first" : Str), ("prec" : Str), ("m" : Str), ("n" : Str), ("k" : Str), ("low" : Str), ("high" : Str), ("e" : Str), ("s" : Str), ("one" : Str), ("twice" : Str), ("square" : Str), ("some" : Str), ("more" : Str), ("grid" : Str), ("t" : Str), ("point" : Str), ("power" : Str), ("under" : Str)]
theorem no_cell {l : List (Str × NameKind)} {x : Str} {C : Prop} (h : l.lookup x = some .cell) (hl : (l.all fun q => q.2 != .cell) = true) : C := by
  have := List.all_eq_true.mp hl _ (PySem.mem_of_lookup h)
  simp at this
theorem aok_law (env : Env) : AOk 20 (callerA.deeper env) := ⟨rfl, (by decide +kernel : 1 + claimMargin + 1 + 20 < recursionLimit), (by decide +kernel : 4 + 3 + 8 * 20 + 200 < cLine)⟩
end Mine
theorem PySem.Challenge.cw_aj5016_01_holds : PySem.Challenge.rw_aj5016_01.Holds := by
  refine Mine.hd ?_
  k_go0
  refine Mine.fin_step (ks := Mine.ksLaw) (x0 := ("script" : PySem.Str)) (by assumption) (by assumption) (by assumption) (by assumption) (by assumption) (Mine.law_true _ (by assumption) (by assumption)) rfl (Mine.aok_law _)
    ⟨rfl, rfl, rfl, rfl, fun x h => ?_, by decide +kernel⟩ rfl rfl rfl rfl fun h' tk hk => ?_
  · exact Mine.no_cell h rfl
  · refine ⟨.inl ⟨.bool true, .bool true, [], rfl, fun _ => rfl, .bool true, ?_, fun _ => ⟨List.nodup_nil, fun a ha => by cases ha⟩⟩, hk, rfl, by assumption⟩
    wrow_post
