import PyProof.Rows.All
import Wide.All
import OpenK.AllK
import Wide.FinOn
import PySem.Challenge.RW_br0001_01
set_option Elab.async false

section
open PySem PySem.W PyProof.Rows
set_option maxRecDepth 100000
namespace Mine

/-! ## 1. Plain data, what bears it in a heap -/

inductive D where
  | non
  | bool (b : Bool)
  | int (i : Int)
  | str (s : PySem.Str)
  | list (xs : List D)
  | tup (xs : List D)

/-- off P every object stays as it is -/
def Exact (P : Addr → Prop) (h h' : Heap) : Prop := ∀ b o, ¬ P b → h.get? b = some o → h'.get? b = some o

/-- the longest list that we speak of -/
def LB : Nat := 1000

/-- one heap goes on from another: every object stays, up to its slots -/
def Ext (h h' : Heap) : Prop := ∀ b o, h.get? b = some o → ∃ sl, h'.get? b = some { o with slots := sl }
theorem Ext.refl (h : Heap) : Ext h h := fun _ o e => ⟨o.slots, e⟩
theorem Ext.trans {a b c : Heap} (x : Ext a b) (y : Ext b c) : Ext a c := fun k o e => by
  obtain ⟨sl, e1⟩ := x k o e
  obtain ⟨sl', e2⟩ := y k _ e1
  exact ⟨sl', e2⟩
theorem Ext.of {h h' : Heap} (k : ∀ b o, h.get? b = some o → h'.get? b = some o) : Ext h h' := fun b o e => ⟨o.slots, k b o e⟩
theorem Ext.none {h h' : Heap} (x : Ext h h') {a : Addr} (e : h'.get? a = none) : h.get? a = none := by
  cases q : h.get? a with
  | none => rfl
  | some o => obtain ⟨sl, e1⟩ := x a o q; rw [e] at e1; cases e1
theorem Ext.ns {h h' : Heap} (x : Ext h h') {a : Addr} {m : PySem.Str → Option Value} (n : h.Ns a m) : h'.Ns a m := by
  obtain ⟨o, es, ep, ho, hd, hk, hf⟩ := n
  obtain ⟨sl, e⟩ := x a o ho
  exact ⟨_, es, ep, e, hd, hk, hf⟩
theorem Ext.isList {h h' : Heap} (x : Ext h h') {a : Addr} {vs : Array Value} (n : h.IsList a vs) : h'.IsList a vs := by
  obtain ⟨o, ho, hc, k, hd⟩ := n
  obtain ⟨sl, e⟩ := x a o ho
  exact ⟨_, e, hc, k, hd⟩
theorem Ext.isTup {h h' : Heap} (x : Ext h h') {a : Addr} {vs : Array Value} (n : IsTup h a vs) : IsTup h' a vs := by
  obtain ⟨o, ho, hc, k, hd⟩ := n
  obtain ⟨sl, e⟩ := x a o ho
  exact ⟨_, e, hc, k, hd⟩
theorem Ext.isCell {h h' : Heap} (x : Ext h h') {a : Addr} {v : Option Value} (n : h.IsCell a v) : h'.IsCell a v := by
  obtain ⟨o, ho, hd⟩ := n
  obtain ⟨sl, e⟩ := x a o ho
  exact ⟨_, e, hd⟩
theorem Ext.noLimit {h h' : Heap} (x : Ext h h') (n : h.NoLimit) : h'.NoLimit := by
  obtain ⟨mc, a, b⟩ := n
  exact ⟨mc, x.ns a, b⟩
theorem Ext.codeRec {h h' : Heap} (x : Ext h h') {cd : Value} {q : PySem.Str} (n : h.CodeRec cd q) : h'.CodeRec cd q := by
  obtain ⟨c, o, vs, t, e, g, r⟩ := n
  obtain ⟨sl, e'⟩ := x c o g
  exact ⟨c, _, vs, t, e, e', r⟩

mutual
/-- value v bears datum d in heap h; every address on the way lies in S -/
inductive Rep (h : Heap) (S : Addr → Prop) : Value → D → Prop where
  | non : Rep h S .none .non
  | bool (b : Bool) : Rep h S (.bool b) (.bool b)
  | int (i : Int) (t : Tok) : Rep h S (.int i t) (.int i)
  | str (s : PySem.Str) (t : Tok) : Rep h S (.str s t) (.str s)
  | list {a : Addr} {vs : List Value} {ds : List D} : S a → h.IsList a vs.toArray → ds.length ≤ LB → RepL h S vs ds → Rep h S (.ref a) (.list ds)
  | tup {a : Addr} {vs : List Value} {ds : List D} : S a → IsTup h a vs.toArray → ds.length ≤ LB → RepL h S vs ds → Rep h S (.ref a) (.tup ds)
inductive RepL (h : Heap) (S : Addr → Prop) : List Value → List D → Prop where
  | nil : RepL h S [] []
  | cons {v : Value} {d : D} {vs : List Value} {ds : List D} : Rep h S v d → RepL h S vs ds → RepL h S (v :: vs) (d :: ds)
end

/-- S' holds wherever S does and the object stays -/
def On (h h' : Heap) (S S' : Addr → Prop) : Prop := ∀ a, S a → ∀ o, h.get? a = some o → (∃ xs n, o.data = .seq xs n) → S' a ∧ ∃ sl, h'.get? a = some { o with slots := sl }

mutual
theorem Rep.on {h h' : Heap} {S S' : Addr → Prop} (k : On h h' S S') : ∀ {v : Value} {d : D}, Rep h S v d → Rep h' S' v d
  | _, _, .non => .non
  | _, _, .bool b => .bool b
  | _, _, .int i t => .int i t
  | _, _, .str s t => .str s t
  | _, _, .list (a := a) hs hl hb hr => by
    obtain ⟨o, ho, hc, n, hd⟩ := hl
    obtain ⟨h1, sl, h2⟩ := k a hs o ho ⟨_, _, hd⟩
    exact .list h1 ⟨_, h2, hc, n, hd⟩ hb (RepL.on k hr)
  | _, _, .tup (a := a) hs hl hb hr => by
    obtain ⟨o, ho, hc, n, hd⟩ := hl
    obtain ⟨h1, sl, h2⟩ := k a hs o ho ⟨_, _, hd⟩
    exact .tup h1 ⟨_, h2, hc, n, hd⟩ hb (RepL.on k hr)
theorem RepL.on {h h' : Heap} {S S' : Addr → Prop} (k : On h h' S S') : ∀ {vs : List Value} {ds : List D}, RepL h S vs ds → RepL h' S' vs ds
  | _, _, .nil => .nil
  | _, _, .cons hv hr => .cons (Rep.on k hv) (RepL.on k hr)
end

theorem On.of {h h' : Heap} {S S' : Addr → Prop} (x : Ext h h') (m : ∀ a, S a → S' a) : On h h' S S' := fun a hs o ho _ => ⟨m a hs, x a o ho⟩
theorem Rep.ext {h h' : Heap} {S : Addr → Prop} {v : Value} {d : D} (r : Rep h S v d) (x : Ext h h') : Rep h' S v d := r.on (.of x fun _ y => y)
theorem RepL.ext {h h' : Heap} {S : Addr → Prop} {vs : List Value} {ds : List D} (r : RepL h S vs ds) (x : Ext h h') : RepL h' S vs ds := r.on (.of x fun _ y => y)
theorem Rep.mono {h : Heap} {S S' : Addr → Prop} {v : Value} {d : D} (r : Rep h S v d) (m : ∀ a, S a → S' a) : Rep h S' v d := r.on (.of (.refl h) m)
theorem RepL.mono {h : Heap} {S S' : Addr → Prop} {vs : List Value} {ds : List D} (r : RepL h S vs ds) (m : ∀ a, S a → S' a) : RepL h S' vs ds := r.on (.of (.refl h) m)
theorem Rep.any {h : Heap} {S : Addr → Prop} {v : Value} {d : D} (r : Rep h S v d) : Rep h (fun _ => True) v d := r.mono fun _ _ => trivial
theorem RepL.any {h : Heap} {S : Addr → Prop} {vs : List Value} {ds : List D} (r : RepL h S vs ds) : RepL h (fun _ => True) vs ds := r.mono fun _ _ => trivial

theorem RepL.length {h : Heap} {S : Addr → Prop} : ∀ {vs : List Value} {ds : List D}, RepL h S vs ds → vs.length = ds.length
  | _, _, .nil => rfl
  | _, _, .cons _ r => by simp [r.length]
theorem RepL.get {h : Heap} {S : Addr → Prop} : ∀ {vs : List Value} {ds : List D}, RepL h S vs ds → ∀ {i : Nat} {d : D}, ds[i]? = some d → ∃ v, vs[i]? = some v ∧ Rep h S v d
  | _, _, .nil, i, d, e => by simp at e
  | _, _, .cons hv r, 0, d, e => by simp at e; subst e; exact ⟨_, by simp, hv⟩
  | _, _, .cons hv r, i + 1, d, e => by simpa using r.get (by simpa using e)
theorem RepL.get' {h : Heap} {S : Addr → Prop} : ∀ {vs : List Value} {ds : List D}, RepL h S vs ds → ∀ {i : Nat} {v : Value}, vs[i]? = some v → ∃ d, ds[i]? = some d ∧ Rep h S v d
  | _, _, .nil, i, d, e => by simp at e
  | _, _, .cons hv r, 0, d, e => by simp at e; subst e; exact ⟨_, by simp, hv⟩
  | _, _, .cons hv r, i + 1, d, e => by simpa using r.get' (by simpa using e)
theorem RepL.append {h : Heap} {S : Addr → Prop} : ∀ {vs : List Value} {ds : List D}, RepL h S vs ds → ∀ {ws : List Value} {es : List D}, RepL h S ws es → RepL h S (vs ++ ws) (ds ++ es)
  | _, _, .nil, _, _, r => r
  | _, _, .cons hv r, _, _, r' => .cons hv (r.append r')
theorem RepL.drop {h : Heap} {S : Addr → Prop} : ∀ (n : Nat) {vs : List Value} {ds : List D}, RepL h S vs ds → RepL h S (vs.drop n) (ds.drop n)
  | 0, _, _, r => r
  | _ + 1, _, _, .nil => .nil
  | n + 1, _, _, .cons _ r => r.drop n
theorem RepL.take {h : Heap} {S : Addr → Prop} : ∀ (n : Nat) {vs : List Value} {ds : List D}, RepL h S vs ds → RepL h S (vs.take n) (ds.take n)
  | 0, _, _, _ => .nil
  | _ + 1, _, _, .nil => .nil
  | n + 1, _, _, .cons hv r => .cons hv (r.take n)
theorem RepL.reverse {h : Heap} {S : Addr → Prop} : ∀ {vs : List Value} {ds : List D}, RepL h S vs ds → RepL h S vs.reverse ds.reverse
  | _, _, .nil => .nil
  | _, _, .cons hv r => by simpa using r.reverse.append (.cons hv .nil)
theorem RepL.replicate {h : Heap} {S : Addr → Prop} {v : Value} {d : D} (r : Rep h S v d) : ∀ n : Nat, RepL h S (List.replicate n v) (List.replicate n d)
  | 0 => .nil
  | n + 1 => .cons r (RepL.replicate r n)
theorem RepL.set {h : Heap} {S : Addr → Prop} {v : Value} {d : D} (rv : Rep h S v d) : ∀ {vs : List Value} {ds : List D}, RepL h S vs ds → ∀ i : Nat, RepL h S (vs.set i v) (ds.set i d)
  | _, _, .nil, _ => .nil
  | _, _, .cons _ r, 0 => .cons rv r
  | _, _, .cons hv r, i + 1 => .cons hv (r.set rv i)

theorem Rep.list_inv {h : Heap} {S : Addr → Prop} {v : Value} {ds : List D} (r : Rep h S v (.list ds)) : ∃ a vs, v = .ref a ∧ S a ∧ h.IsList a vs.toArray ∧ ds.length ≤ LB ∧ RepL h S vs ds := by
  cases r with | list a b c d => exact ⟨_, _, rfl, a, b, c, d⟩
theorem Rep.tup_inv {h : Heap} {S : Addr → Prop} {v : Value} {ds : List D} (r : Rep h S v (.tup ds)) : ∃ a vs, v = .ref a ∧ S a ∧ IsTup h a vs.toArray ∧ ds.length ≤ LB ∧ RepL h S vs ds := by
  cases r with | tup a b c d => exact ⟨_, _, rfl, a, b, c, d⟩
theorem Rep.int_inv {h : Heap} {S : Addr → Prop} {v : Value} {i : Int} (r : Rep h S v (.int i)) : ∃ t, v = .int i t := by
  cases r; exact ⟨_, rfl⟩
theorem Rep.bool_inv {h : Heap} {S : Addr → Prop} {v : Value} {b : Bool} (r : Rep h S v (.bool b)) : v = .bool b := by
  cases r; rfl
theorem Rep.str_inv {h : Heap} {S : Addr → Prop} {v : Value} {x : PySem.Str} (r : Rep h S v (.str x)) : ∃ t, v = .str x t := by
  cases r; exact ⟨_, rfl⟩
theorem Rep.non_inv {h : Heap} {S : Addr → Prop} {v : Value} (r : Rep h S v .non) : v = .none := by
  cases r; rfl
theorem RepL.nil_inv {h : Heap} {S : Addr → Prop} {vs : List Value} (r : RepL h S vs []) : vs = [] := by
  cases r; rfl
theorem RepL.cons_inv {h : Heap} {S : Addr → Prop} {vs : List Value} {d : D} {ds : List D} (r : RepL h S vs (d :: ds)) : ∃ v ws, vs = v :: ws ∧ Rep h S v d ∧ RepL h S ws ds := by
  cases r with | cons a b => exact ⟨_, _, rfl, a, b⟩

mutual
theorem Rep.uniq {h : Heap} {S S' : Addr → Prop} : ∀ {v : Value} {d d' : D}, Rep h S v d → Rep h S' v d' → d = d'
  | _, _, _, .non, r => by cases r; rfl
  | _, _, _, .bool _, r => by cases r; rfl
  | _, _, _, .int _ _, r => by cases r; rfl
  | _, _, _, .str _ _, r => by cases r; rfl
  | _, _, _, .list _ hl _ hr, r => by
    obtain ⟨o, ho, hc, n, hd⟩ := hl
    cases r with
    | list _ hl' _ hr' =>
      obtain ⟨o', ho', _, n', hd'⟩ := hl'
      rw [ho] at ho'; cases ho'
      rw [hd] at hd'
      injection hd' with q _
      have q' := congrArg Array.toList q
      simp only at q'
      subst q'
      rw [RepL.uniq hr hr']
    | tup _ hl' _ hr' =>
      obtain ⟨o', ho', hc', _⟩ := hl'
      rw [ho] at ho'; cases ho'
      rw [hc] at hc'; exact absurd hc' (by simp)
  | _, _, _, .tup _ hl _ hr, r => by
    obtain ⟨o, ho, hc, n, hd⟩ := hl
    cases r with
    | tup _ hl' _ hr' =>
      obtain ⟨o', ho', _, n', hd'⟩ := hl'
      rw [ho] at ho'; cases ho'
      rw [hd] at hd'
      injection hd' with q _
      have q' := congrArg Array.toList q
      simp only at q'
      subst q'
      rw [RepL.uniq hr hr']
    | list _ hl' _ hr' =>
      obtain ⟨o', ho', hc', _⟩ := hl'
      rw [ho] at ho'; cases ho'
      rw [hc] at hc'; exact absurd hc' (by simp)
theorem RepL.uniq {h : Heap} {S S' : Addr → Prop} : ∀ {vs : List Value} {ds ds' : List D}, RepL h S vs ds → RepL h S' vs ds' → ds = ds'
  | _, _, _, .nil, r => by cases r; rfl
  | _, _, _, .cons hv hr, r => by
    cases r with | cons hv' hr' => rw [Rep.uniq hv hv', RepL.uniq hr hr']
end

/-- the ints of a list of data -/
def intsOf : List D → Option (List Int)
  | [] => some []
  | .int i :: r => (intsOf r).map (i :: ·)
  | _ :: _ => none
theorem intsOf_map (l : List Int) : intsOf (l.map D.int) = some l := by
  induction l with
  | nil => rfl
  | cons i r ih => simp [intsOf, ih]
theorem intsOf_eq : ∀ {ds : List D} {l : List Int}, intsOf ds = some l → ds = l.map D.int
  | [], l, e => by simp [intsOf] at e; subst e; rfl
  | .int i :: r, l, e => by
    simp only [intsOf, Option.map_eq_some_iff] at e
    obtain ⟨k, e1, rfl⟩ := e
    rw [intsOf_eq e1]; rfl
  | .non :: _, _, e => by simp [intsOf] at e
  | .bool _ :: _, _, e => by simp [intsOf] at e
  | .str _ :: _, _, e => by simp [intsOf] at e
  | .list _ :: _, _, e => by simp [intsOf] at e
  | .tup _ :: _, _, e => by simp [intsOf] at e
theorem RepL.ints {h : Heap} {S : Addr → Prop} : ∀ {vs : List Value} {l : List Int}, RepL h S vs (l.map D.int) → IntsAre vs l
  | [], [], _ => .nil
  | _, _ :: _, .cons (.int _ t) r => .cons _ t (RepL.ints r)
theorem RepL.of_ints {h : Heap} {S : Addr → Prop} : ∀ {vs : List Value} {l : List Int}, IntsAre vs l → RepL h S vs (l.map D.int)
  | [], [], _ => .nil
  | _, _ :: _, .cons _ t r => .cons (.int _ t) (RepL.of_ints r)

end Mine
end

section
open PySem PySem.W PyProof.Rows
set_option maxRecDepth 100000
namespace Mine

/-! ## 2. The term language and what it means -/

abbrev Sg := Nat → Option D
def upd (σ : Sg) (i : Nat) (d : D) : Sg := fun j => if j = i then some d else σ j
theorem upd_eq (σ : Sg) (i : Nat) (d : D) (j : Nat) : upd σ i d j = if j = i then some d else σ j := rfl
theorem upd_same (σ : Sg) (i : Nat) (d : D) : upd σ i d i = some d := by simp [upd]
theorem upd_ne (σ : Sg) {i j : Nat} (d : D) (h : j ≠ i) : upd σ i d j = σ j := by simp [upd, h]

mutual
inductive Pat where
  | v (i : Nat)
  | tup (ps : PatL)
inductive PatL where
  | nil
  | cons (p : Pat) (ps : PatL)
end

inductive Op2 where | add | sub | mul | fdiv | mod | pow
inductive Cm where | eq | ne | lt | le | gt | ge | inn | nin
inductive K where | non | tru | fls | int (i : Int) | str (s : PySem.Str)
inductive Bi where | len | sum | sorted | int | max2 | min2 | maxL | minL

mutual
inductive T where
  | k (c : K)
  | v (i : Nat)
  | op (o : Op2) (a b : T)
  | neg (a : T)
  | cmp (o : Cm) (a b : T)
  | isn (yes : Bool) (a : T)
  | bop (isAnd : Bool) (l : TL)
  | not (a : T)
  | ite (c a b : T)
  | list (l : TL)
  | rep (a n : T)
  | tup (l : TL)
  | idx (a i : T)
  | sl (a : T) (lo hi : TO)
  | rev (a : T)
  | call (f : Nat) (l : TL)
  | bi (b : Bi) (l : TL)
  | comp (elt : T) (g : GL)
inductive TL where
  | nil
  | cons (a : T) (l : TL)
inductive TO where
  | none
  | some (a : T)
inductive Sr where
  | t (a : T)
  | range1 (a : T)
  | range2 (a b : T)
  | zip (a b : T)
  | enum (a : T)
inductive GL where
  | nil
  | cons (p : Pat) (s : Sr) (c : TL) (g : GL)
end

mutual
inductive TS where
  | asg (p : Pat) (e : T)
  | own1 (x : Nat) (e : T)
  | ownN (xs : List Nat) (es : TL)
  | aug (x : Nat) (o : Op2) (e : T)
  | setI (x : Nat) (i e : T)
  | augI (x : Nat) (i e : T)
  | app (x : Nat) (e : T)
  | ite (c : T) (a b : SL)
  | loop (p : Pat) (s : Sr) (b : SL)
  | loopB (p : Pat) (x : Nat) (b : SL)
  | whil (n : Nat) (c : T) (b : SL)
  | ret (e : T)
  | retO (x : Nat)
  | retC (f : Nat) (l : TL)
  | raise
  | try (b h : SL)
  | cont
  | dead
inductive SL where
  | nil
  | cons (s : TS) (l : SL)
end

/-! ### operations on data -/

def K.d : K → D
  | .non => .non
  | .tru => .bool true
  | .fls => .bool false
  | .int i => .int i
  | .str s => .str s

def small (a : Int) : Bool := decide (a.natAbs < 2 ^ 63)
def op2D : Op2 → D → D → Option D
  | .add, .int a, .int b => some (.int (a + b))
  | .sub, .int a, .int b => some (.int (a - b))
  | .mul, .int a, .int b => if small a || small b then some (.int (a * b)) else none
  | .fdiv, .int a, .int b => if 0 < b ∧ small b then some (.int (a / b)) else none
  | .mod, .int a, .int b => if 0 < b then some (.int (a % b)) else none
  | .pow, .int a, .int b => if 0 ≤ b ∧ b ≤ 64 ∧ a.natAbs ≤ 64 then some (.int (a ^ b.toNat)) else none
  | .add, .list a, .list b => if a.length + b.length ≤ LB then some (.list (a ++ b)) else none
  | _, _, _ => none
def negD : D → Option D
  | .int a => some (.int (-a))
  | _ => none
def eqD : D → D → Option Bool
  | .int a, .int b => some (a == b)
  | .str a, .str b => some (a == b)
  | .non, .non => some true
  | .non, .list _ => some false
  | .list _, .non => some false
  | .list a, .list b => (intsOf a).bind fun x => (intsOf b).bind fun y => some (x == y)
  | _, _ => none
def anyEq (d : D) : List D → Option Bool
  | [] => some false
  | x :: r => (eqD x d).bind fun b => (anyEq d r).map fun c => b || c
def inD : D → D → Option Bool
  | d, .list xs => anyEq d xs
  | d, .tup xs => anyEq d xs
  | _, _ => none
def cmD : Cm → D → D → Option Bool
  | .eq, a, b => eqD a b
  | .ne, .int a, .int b => some (!(a == b))
  | .ne, .list a, .list b => (eqD (.list a) (.list b)).map (!·)
  | .lt, .int a, .int b => some (decide (a < b))
  | .le, .int a, .int b => some (decide (a ≤ b))
  | .gt, .int a, .int b => some (decide (b < a))
  | .ge, .int a, .int b => some (decide (b ≤ a))
  | .inn, a, b => inD a b
  | .nin, a, b => (inD a b).map (!·)
  | _, _, _ => none
def isNon : D → Bool
  | .non => true
  | _ => false
def seqD : D → Option (List D)
  | .list xs => some xs
  | .tup xs => some xs
  | _ => none
def listD : D → Option (List D)
  | .list xs => some xs
  | _ => none
def intD : D → Option Int
  | .int i => some i
  | _ => none
def boolD : D → Option Bool
  | .bool b => some b
  | _ => none
/-- the place that an index means -/
def placeN (n : Nat) (i : Int) : Option Nat := if 0 ≤ i ∧ i.toNat < n then some i.toNat else none
def place (n : Nat) (i : Int) : Option Nat :=
  if 0 ≤ i then (if i.toNat < n then some i.toNat else none) else if (-i).toNat ≤ n then some (n - (-i).toNat) else none
def idxD (a i : D) : Option D := (seqD a).bind fun xs => (intD i).bind fun k => (place xs.length k).bind fun j => xs[j]?
def slD (xs : List D) (lo hi : Option Int) : Option (List D) :=
  match lo, hi with
  | none, none => none
  | some l, none => if 0 ≤ l ∧ small l then some (xs.drop l.toNat) else none
  | none, some u => if 0 ≤ u ∧ small u then some (xs.take u.toNat) else none
  | some l, some u => if 0 ≤ l ∧ 0 ≤ u ∧ small l ∧ small u then some ((xs.take u.toNat).drop l.toNat) else none

def ins (i : Int) : List Int → List Int
  | [] => [i]
  | j :: r => if i ≤ j then i :: j :: r else j :: ins i r
def isort : List Int → List Int
  | [] => []
  | i :: r => ins i (isort r)
def maxI : Int → List Int → Int
  | m, [] => m
  | m, i :: r => maxI (if i > m then i else m) r
def minI : Int → List Int → Int
  | m, [] => m
  | m, i :: r => minI (if i < m then i else m) r

def biD : Bi → List D → Option D
  | .len, [a] => (seqD a).map fun xs => .int xs.length
  | .sum, [a] => (listD a).bind fun xs => (intsOf xs).map fun l => .int l.sum
  | .sorted, [a] => (listD a).bind fun xs => (intsOf xs).bind fun l => if l.length < 64 then some (.list ((isort l).map .int)) else none
  | .int, [.int i] => some (.int i)
  | .max2, [.int a, .int b] => some (.int (if b > a then b else a))
  | .min2, [.int a, .int b] => some (.int (if b < a then b else a))
  | .maxL, [a] => (listD a).bind fun xs => (intsOf xs).bind fun l => match l with | [] => none | i :: r => some (.int (maxI i r))
  | .minL, [a] => (listD a).bind fun xs => (intsOf xs).bind fun l => match l with | [] => none | i :: r => some (.int (minI i r))
  | _, _ => none

def tiny (a : Int) : Bool := decide (a.natAbs < 2 ^ 62)
def rangeD (a b : Int) : Option (List D) := if tiny a ∧ tiny b ∧ b - a ≤ LB then some ((List.range (b - a).toNat).map fun (j : Nat) => D.int (a + j)) else none
def zipD : List D → List D → List D
  | x :: r, y :: q => .tup [x, y] :: zipD r q
  | _, _ => []
def enumD : Nat → List D → List D
  | _, [] => []
  | n, x :: r => .tup [.int n, x] :: enumD (n + 1) r

def flatM {α : Type} (f : α → Option (List D)) : List α → Option (List D)
  | [] => some []
  | d :: r => (f d).bind fun a => (flatM f r).bind fun b => some (a ++ b)

def tupD : D → Option (List D)
  | .tup xs => some xs
  | _ => none
mutual
def bindP (own : Nat → Bool) : Pat → D → Sg → Option Sg
  | .v i, d, σ => if own i then none else some (upd σ i d)
  | .tup ps, d, σ => (tupD d).bind fun ds => bindPL own ps ds σ
def bindPL (own : Nat → Bool) : PatL → List D → Sg → Option Sg
  | .nil, [], σ => some σ
  | .cons p ps, d :: ds, σ => (bindP own p d σ).bind fun σ' => bindPL own ps ds σ'
  | _, _, _ => none
end

mutual
def Pat.vars : Pat → List Nat
  | .v i => [i]
  | .tup ps => ps.vars
def PatL.vars : PatL → List Nat
  | .nil => []
  | .cons p ps => p.vars ++ ps.vars
end
def GL.vars : GL → List Nat
  | .nil => []
  | .cons p _ _ g => p.vars ++ g.vars
def unb (l : List Nat) (σ : Sg) : Sg := fun i => if l.contains i then none else σ i

abbrev Fn := Nat → List D → Option (Except Unit D)
def okD : Option (Except Unit D) → Option D
  | some (.ok d) => some d
  | _ => none

section
variable (own : Nat → Bool) (F : Fn)

mutual
def ev : Bool → T → Sg → Option D
  | _, .k c, _ => some c.d
  | bw, .v i, σ => if own i && !bw then none else σ i
  | _, .op o a b, σ => (ev false a σ).bind fun x => (ev false b σ).bind fun y => op2D o x y
  | _, .neg a, σ => (ev false a σ).bind negD
  | _, .cmp o a b, σ => (ev true a σ).bind fun x => (ev true b σ).bind fun y => (cmD o x y).map .bool
  | _, .isn yes a, σ => (ev true a σ).map fun x => .bool (isNon x == yes)
  | _, .bop isAnd l, σ => (evBop isAnd l σ).map .bool
  | _, .not a, σ => (ev false a σ).bind fun x => (boolD x).map fun b => .bool !b
  | _, .ite c a b, σ => (ev false c σ).bind fun x => (boolD x).bind fun q => if q then ev false a σ else ev false b σ
  | _, .list l, σ => (evL false l σ).bind fun ds => if ds.length ≤ LB then some (.list ds) else none
  | _, .rep a n, σ => (ev false a σ).bind fun d => (ev false n σ).bind fun y => (intD y).bind fun b => if 0 ≤ b ∧ b ≤ LB then some (.list (List.replicate b.toNat d)) else none
  | _, .tup l, σ => (evL false l σ).bind fun ds => if ds.length ≤ LB then some (.tup ds) else none
  | _, .idx a i, σ => (ev true a σ).bind fun x => (ev false i σ).bind fun y => idxD x y
  | _, .sl a lo hi, σ => (ev false a σ).bind fun x => (listD x).bind fun xs => (evO lo σ).bind fun l => (evO hi σ).bind fun u => (slD xs l u).map .list
  | _, .rev a, σ => (ev false a σ).bind fun x => (listD x).map fun xs => .list xs.reverse
  | _, .call f l, σ => (evL false l σ).bind fun ds => okD (F f ds)
  | _, .bi b l, σ => (evL true l σ).bind fun ds => biD b ds
  | _, .comp elt g, σ => match g with
    | .nil => none
    | .cons p s c g' => if (p.vars ++ g'.vars).any own then none else (evSr s σ).bind fun ds => (flatM (fun d => (bindP own p d (unb (p.vars ++ g'.vars) σ)).bind fun σ' => (evC c σ').bind fun b => if b then evG (fun σ => ev false elt σ) g' σ' else some []) ds).bind fun ds => if ds.length ≤ LB then some (.list ds) else none
def evL : Bool → TL → Sg → Option (List D)
  | _, .nil, _ => some []
  | bw, .cons a l, σ => (ev bw a σ).bind fun x => (evL bw l σ).bind fun xs => some (x :: xs)
def evO : TO → Sg → Option (Option Int)
  | .none, _ => some none
  | .some a, σ => (ev false a σ).bind fun x => (intD x).map some
def evBop : Bool → TL → Sg → Option Bool
  | _, .nil, _ => none
  | isAnd, .cons a l, σ => (ev false a σ).bind fun x => (boolD x).bind fun b => match l with
    | .nil => some b
    | .cons _ _ => if b == isAnd then evBop isAnd l σ else some b
def evC : TL → Sg → Option Bool
  | .nil, _ => some true
  | .cons a l, σ => (ev false a σ).bind fun x => (boolD x).bind fun b => if b then evC l σ else some false
def evSr : Sr → Sg → Option (List D)
  | .t a, σ => (ev false a σ).bind listD
  | .range1 a, σ => (ev false a σ).bind fun x => (intD x).bind fun n => rangeD 0 n
  | .range2 a b, σ => (ev false a σ).bind fun x => (ev false b σ).bind fun y => (intD x).bind fun m => (intD y).bind fun n => rangeD m n
  | .zip a b, σ => (ev false a σ).bind fun x => (ev false b σ).bind fun y => (listD x).bind fun xs => (listD y).bind fun ys => some (zipD xs ys)
  | .enum a, σ => (ev false a σ).bind fun x => (listD x).bind fun xs => some (enumD 0 xs)
def evG : (Sg → Option D) → GL → Sg → Option (List D)
  | f, .nil, σ => (f σ).bind fun d => some [d]
  | f, .cons p s c g, σ => (evSr s σ).bind fun ds => flatM (fun d => (bindP own p d σ).bind fun σ' => (evC c σ').bind fun b => if b then evG f g σ' else some []) ds
end
end

inductive R where
  | nxt (σ : Sg)
  | cnt (σ : Sg)
  | ret (d : D)
  | ties

def loopF (f : D → Sg → Option R) : List D → Sg → Option R
  | [], σ => some (.nxt σ)
  | d :: r, σ => (f d σ).bind fun x => match x with
    | .nxt σ' => loopF f r σ'
    | .cnt σ' => loopF f r σ'
    | x => some x
def whileF (c : Sg → Option Bool) (f : Sg → Option R) : Nat → Sg → Option R
  | 0, _ => none
  | n + 1, σ => (c σ).bind fun b => if b then (f σ).bind fun x => match x with
      | .nxt σ' => whileF c f n σ'
      | .cnt σ' => whileF c f n σ'
      | x => some x
    else some (.nxt σ)

def T.fresh : T → Bool
  | .op .. | .rep .. | .list _ | .comp .. | .sl .. | .rev _ => true
  | .bi .sorted _ => true
  | _ => false
def updN : List Nat → List D → Sg → Sg
  | x :: xs, d :: ds, σ => updN xs ds (upd σ x d)
  | _, _, σ => σ
def okN (own : Nat → Bool) : List Nat → TL → Bool
  | [], .nil => true
  | x :: xs, .cons e es => (!own x || e.fresh) && okN own xs es
  | _, _ => false
def okND (own : Nat → Bool) : List Nat → List D → Bool
  | [], [] => true
  | x :: xs, d :: ds => (!own x || (listD d).isSome) && okND own xs ds
  | _, _ => false

section
variable (own : Nat → Bool) (F : Fn)

mutual
/-- mu: which owned names may be changed here; ra: a raise may happen here -/
def evS : (Nat → Bool) → TS → Sg → Option R
  | _, .asg p e, σ => (ev own F false e σ).bind fun d => (bindP own p d σ).map .nxt
  | mu, .own1 x e, σ => if own x && mu x && e.fresh then (ev own F false e σ).bind fun d => (listD d).map fun ds => .nxt (upd σ x (.list ds)) else none
  | mu, .ownN xs es, σ => if okN own xs es && xs.all (fun x => !own x || mu x) then (evL own F false es σ).bind fun ds => if okND own xs ds then some (.nxt (updN xs ds σ)) else none else none
  | _, .aug x o e, σ => if own x then none else (σ x).bind fun a => (intD a).bind fun a => (ev own F false e σ).bind fun b => (intD b).bind fun b => (op2D o (.int a) (.int b)).map fun d => .nxt (upd σ x d)
  | mu, .setI x i e, σ => if own x && mu x then (ev own F false e σ).bind fun d => (σ x).bind fun a => (listD a).bind fun xs => (ev own F false i σ).bind fun k => (intD k).bind fun k => (placeN xs.length k).map fun j => .nxt (upd σ x (.list (xs.set j d))) else none
  | mu, .augI x i e, σ => if own x && mu x then (σ x).bind fun a => (listD a).bind fun xs => (ev own F false i σ).bind fun k => (intD k).bind fun k => (placeN xs.length k).bind fun j => (xs[j]?).bind fun y => (intD y).bind fun y =>
      (ev own F false e σ).bind fun b => (intD b).map fun b => .nxt (upd σ x (.list (xs.set j (.int (y + b))))) else none
  | mu, .app x e, σ => if own x && mu x then (σ x).bind fun a => (listD a).bind fun xs => (ev own F false e σ).bind fun d => if xs.length + 1 ≤ LB then some (.nxt (upd σ x (.list (xs ++ [d])))) else none else none
  | mu, .ite c a b, σ => (ev own F false c σ).bind fun x => (boolD x).bind fun q => if q then evSL mu a σ else evSL mu b σ
  | mu, .loop p s b, σ => (evSr own F s σ).bind fun ds => loopF (fun d σ => (bindP own p d σ).bind fun σ' => evSL mu b σ') ds σ
  | _, .loopB p x b, σ => if own x then (σ x).bind fun a => (listD a).bind fun ds => loopF (fun d σ => (bindP own p d σ).bind fun σ' => evSL (fun _ => false) b σ') ds σ else none
  | mu, .whil n c b, σ => whileF (fun σ => (ev own F false c σ).bind boolD) (fun σ => evSL mu b σ) n σ
  | _, .ret e, σ => (ev own F false e σ).map .ret
  | _, .retO x, σ => if own x then (σ x).bind fun a => (listD a).map fun xs => .ret (.list xs) else none
  | _, .retC f l, σ => (evL own F false l σ).bind fun ds => (F f ds).map fun r => match r with | .ok d => .ret d | .error _ => .ties
  | _, .raise, _ => some .ties
  | mu, .try b h, σ => (evSL mu b σ).bind fun r => match r with
    | .ties => evSL mu h σ
    | r => some r
  | _, .cont, σ => some (.cnt σ)
  | _, .dead, _ => none
def evSL : (Nat → Bool) → SL → Sg → Option R
  | _, .nil, σ => some (.nxt σ)
  | mu, .cons s l, σ => (evS mu s σ).bind fun r => match r with
    | .nxt σ' => evSL mu l σ'
    | r => some r
end
end

end Mine
end

section
open PySem PySem.W PyProof.Rows
set_option maxRecDepth 100000
namespace Mine

/-! ## 3. Frames and the state -/

/-- the name x holds v -/
def ValAt (env : Env) (h : Heap) (x : PySem.Str) (v : Value) : Prop :=
  (env.kindOf x = some .local ∧ ∃ m, h.Ns env.locals m ∧ m x = some v) ∨
  ((env.kindOf x = some .cell ∨ env.kindOf x = some .free) ∧ ∃ c, env.cells.lookup x = some c ∧ h.IsCell c (some v))

structure FrOk (sc : Scope) (h₀ : Heap) (env : Env) (h : Heap) : Prop where
  kind : env.scope.kind = .function
  glob : env.globals = mainGlobals
  bi : env.builtins = builtinsNs
  ns : ∃ m, h.Ns env.locals m
  newL : h₀.get? env.locals = none
  kL : ∀ x, sc.names.lookup x = some .local → env.kindOf x = some .local
  kC : ∀ x, sc.names.lookup x = some .cell → env.kindOf x = some .cell ∧ ∃ c, env.cells.lookup x = some c ∧ h₀.get? c = none
  kF : ∀ x, sc.names.lookup x = some .free → (env.kindOf x = some .cell ∨ env.kindOf x = some .free) ∧ ∃ c, env.cells.lookup x = some c
  kG : ∀ x, sc.names.lookup x = some .globalImplicit → env.kindOf x = some .globalImplicit
  cell : ∀ x c, env.cells.lookup x = some c → ∃ v, h.IsCell c v
  inj : ∀ x y c, env.cells.lookup x = some c → env.cells.lookup y = some c → x = y

def updv (vals : Nat → Value) (i : Nat) (v : Value) : Nat → Value := fun j => if j = i then v else vals j
theorem updv_same (vals : Nat → Value) (i : Nat) (v : Value) : updv vals i v i = v := by simp [updv]
theorem updv_ne (vals : Nat → Value) {i j : Nat} (v : Value) (h : j ≠ i) : updv vals i v j = vals j := by simp [updv, h]

/-- a is no owned list's address -/
def NotO (own : Nat → Bool) (σ : Sg) (vals : Nat → Value) (a : Addr) : Prop := ∀ j, own j = true → (σ j).isSome = true → vals j ≠ .ref a

def isV (sc : Scope) (x : PySem.Str) : Bool := match sc.names.lookup x with
  | some .local => true
  | some .cell => true
  | some .free => true
  | _ => false
def isW (sc : Scope) (x : PySem.Str) : Bool := match sc.names.lookup x with
  | some .local => true
  | some .cell => true
  | _ => false

/-- what does not turn while a frame runs: the bottom heap, the frames of the stack, the names' table, what is owned, the addresses that values may have, the heap at the def's start -/
structure Cx where
  base : Heap
  P : Addr → Prop
  tab : List PySem.Str
  own : Nat → Bool
  S : Addr → Prop
  g₀ : Heap

structure StV (C : Cx) (sc : Scope) (h₀ : Heap) (env : Env) (σ : Sg) (vals : Nat → Value) (h : Heap) : Prop where
  fr : FrOk sc h₀ env h
  g : Ext C.g₀ h₀
  ext : Ext h₀ h
  stay : ∀ b o, C.base.get? b = some o → h.get? b = some o
  newS : ∀ a, h.get? a = none → C.S a
  bg : ∀ b o, C.base.get? b = some o → C.g₀.get? b ≠ none
  pf : ∀ a, C.P a → ∃ o es n, h.get? a = some o ∧ o.data = .dict es n
  bP : ∀ a, C.P a → C.base.get? a = none
  nodup : C.tab.Nodup
  val : ∀ i d x, σ i = some d → C.tab[i]? = some x → isV sc x = true → ValAt env h x (vals i)
  rep : ∀ i d, σ i = some d → C.own i = false → Rep h (fun a => C.S a ∧ NotO C.own σ vals a) (vals i) d
  owned : ∀ i d, σ i = some d → C.own i = true → ∃ a ds vs, d = .list ds ∧ vals i = .ref a ∧ h.IsList a vs.toArray ∧ RepL h (fun a => C.S a ∧ NotO C.own σ vals a) vs ds ∧ ds.length ≤ LB ∧ C.g₀.get? a = none
  dist : ∀ i j a, C.own i = true → C.own j = true → (σ i).isSome = true → (σ j).isSome = true → vals i = .ref a → vals j = .ref a → i = j

/-- one state goes on from another: nothing old is changed -/
def Le (base : Heap) (P : Addr → Prop) (s s' : Shared) : Prop :=
  ∃ h' tk, s' = { s with heap := h', toks := tk } ∧ Ext s.heap h' ∧ Exact P s.heap h' ∧ ∀ b o, base.get? b = some o → s.heap.get? b = some o → h'.get? b = some o
theorem Le.refl (base : Heap) (P : Addr → Prop) (s : Shared) : Le base P s s := ⟨s.heap, s.toks, rfl, .refl _, fun _ _ _ e => e, fun _ _ _ e => e⟩
theorem Le.trans {base : Heap} {P : Addr → Prop} {a b c : Shared} (x : Le base P a b) (y : Le base P b c) : Le base P a c := by
  obtain ⟨h1, t1, rfl, e1, k1, b1⟩ := x
  obtain ⟨h2, t2, rfl, e2, k2, b2⟩ := y
  exact ⟨h2, t2, rfl, e1.trans e2, fun b o n e => k2 b o n (k1 b o n e), fun b o q e => b2 b o q (b1 b o q e)⟩
theorem Le.keep {base : Heap} {P : Addr → Prop} {s : Shared} {h' : Heap} {tk : Nat} (k : ∀ b o, s.heap.get? b = some o → h'.get? b = some o) : Le base P s { s with heap := h', toks := tk } :=
  ⟨h', tk, rfl, .of k, fun b o _ e => k b o e, fun b o _ e => k b o e⟩
theorem Le.ext {base : Heap} {P : Addr → Prop} {s s' : Shared} (x : Le base P s s') : Ext s.heap s'.heap := by
  obtain ⟨h1, t1, rfl, e1, _⟩ := x; exact e1
theorem Le.exact {base : Heap} {P : Addr → Prop} {s s' : Shared} (x : Le base P s s') : Exact P s.heap s'.heap := by
  obtain ⟨h1, t1, rfl, _, e1, _⟩ := x; exact e1
theorem Le.stay {base : Heap} {P : Addr → Prop} {s s' : Shared} (x : Le base P s s') (b : Addr) (o : Obj) (q : base.get? b = some o) (e : s.heap.get? b = some o) : s'.heap.get? b = some o := by
  obtain ⟨h1, t1, rfl, _, _, e1⟩ := x; exact e1 b o q e
theorem Le.tok (base : Heap) (P : Addr → Prop) (s : Shared) (tk : Nat) : Le base P s { s with toks := tk } := ⟨s.heap, tk, rfl, .refl _, fun _ _ _ e => e, fun _ _ _ e => e⟩
theorem Le.push (base : Heap) (P : Addr → Prop) (s : Shared) (o : Obj) : Le base P s { s with heap := s.heap.push o } := Le.keep (tk := s.toks) fun _ _ e => Heap.get?_push_of_some _ e
/-- a change at an address that was not there -/
theorem Le.new {base : Heap} {P : Addr → Prop} {s : Shared} {h₁ h' : Heap} {tk : Nat} {a : Addr} (x : Le base P s { s with heap := h₁, toks := tk }) (n : s.heap.get? a = none) (k : Heap.SameBut a h₁ h') (tk' : Nat) :
    Le base P s { s with heap := h', toks := tk' } := by
  obtain ⟨h1, t1, e, e1, k1, b1⟩ := x
  obtain rfl : h₁ = h1 := congrArg Shared.heap e
  have ne : ∀ b o, s.heap.get? b = some o → b ≠ a := fun b o q z => by rw [z, n] at q; cases q
  exact ⟨h', tk', rfl, fun b o q => let ⟨sl, w⟩ := e1 b o q; ⟨sl, (k.2 b (ne b o q)).trans w⟩, fun b o p q => (k.2 b (ne b o q)).trans (k1 b o p q), fun b o p q => (k.2 b (ne b o q)).trans (b1 b o p q)⟩

section
variable {C : Cx} {sc : Scope} {h₀ h h' : Heap} {env : Env} {σ : Sg} {vals : Nat → Value}

theorem ValAt.ext {x : PySem.Str} {v : Value} (a : ValAt env h x v) (e : Ext h h') : ValAt env h' x v := by
  rcases a with ⟨k, m, n, q⟩ | ⟨k, c, q, n⟩
  · exact .inl ⟨k, m, e.ns n, q⟩
  · exact .inr ⟨k, c, q, e.isCell n⟩
theorem FrOk.ext (F : FrOk sc h₀ env h) (e : Ext h h') : FrOk sc h₀ env h' :=
  ⟨F.kind, F.glob, F.bi, let ⟨m, n⟩ := F.ns; ⟨m, e.ns n⟩, F.newL, F.kL, F.kC, F.kF, F.kG, fun x c q => let ⟨v, n⟩ := F.cell x c q; ⟨v, e.isCell n⟩, F.inj⟩
theorem StV.le (V : StV C sc h₀ env σ vals h) (e : Ext h h') (k : ∀ b o, C.base.get? b = some o → h.get? b = some o → h'.get? b = some o) : StV C sc h₀ env σ vals h' where
  fr := V.fr.ext e
  g := V.g
  ext := V.ext.trans e
  stay := fun b o q => k b o q (V.stay b o q)
  newS := fun a n => V.newS a (e.none n)
  bg := V.bg
  pf := fun a p => let ⟨o, es, n, q, d⟩ := V.pf a p; let ⟨sl, w⟩ := e a o q; ⟨_, es, n, w, d⟩
  bP := V.bP
  nodup := V.nodup
  val := fun i d x a b c => (V.val i d x a b c).ext e
  rep := fun i d a b => (V.rep i d a b).ext e
  owned := fun i d a b => let ⟨ad, ds, vs, q1, q2, q3, q4, q5⟩ := V.owned i d a b; ⟨ad, ds, vs, q1, q2, e.isList q3, q4.ext e, q5⟩
  dist := V.dist
theorem StV.Le {s s' : Shared} (V : StV C sc h₀ env σ vals s.heap) (x : Le C.base C.P s s') : StV C sc h₀ env σ vals s'.heap := V.le x.ext x.stay

/-- the set that values may lie in -/
def Sx (C : Cx) (σ : Sg) (vals : Nat → Value) (a : Addr) : Prop := C.S a ∧ NotO C.own σ vals a

theorem NotO.new {own : Nat → Bool} {a : Addr} (V : StV C sc h₀ env σ vals h) (n : h.get? a = none) : NotO C.own σ vals a := fun j o s e => by
  obtain ⟨d, hd⟩ := Option.isSome_iff_exists.mp s
  obtain ⟨b, ds, vs, _, q, ⟨ob, g, _⟩, _⟩ := V.owned j d hd o
  rw [q] at e
  obtain rfl : b = a := by injection e
  rw [n] at g; cases g
theorem StV.new (V : StV C sc h₀ env σ vals h) {a : Addr} (n : h.get? a = none) : Sx C σ vals a :=
  ⟨V.newS a n, NotO.new (own := C.own) V n⟩
theorem StV.offP (V : StV C sc h₀ env σ vals h) {a : Addr} {o : Obj} (e : h.get? a = some o) (n : ∀ es k, o.data ≠ .dict es k) : ¬ C.P a := fun p => by
  obtain ⟨o', es, k, g, d⟩ := V.pf a p
  rw [e] at g; cases g
  exact n es k d
theorem StV.offP_new (V : StV C sc h₀ env σ vals h) {a : Addr} (e : h.get? a = none) : ¬ C.P a := fun p => by
  obtain ⟨o', es, k, g, d⟩ := V.pf a p
  rw [e] at g; cases g
end

theorem isW_isV {sc : Scope} {x : PySem.Str} (h : isW sc x = true) : isV sc x = true := by
  unfold isW at h; unfold isV
  split at h <;> simp_all

section
variable {M : Model} {A : Around} {E : Value → Shared → Prop} {s : Shared} {C : Cx} {sc : Scope} {h₀ : Heap} {env : Env} {σ : Sg} {vals : Nat → Value}

theorem load_ok {x : PySem.Str} {v : Value} {Q : Value → Shared → Prop} (F : FrOk sc h₀ env s.heap) (a : ValAt env s.heap x v) (hx : (x == ("__classdict__" : PySem.Str)) = false) (h : Q v s) : wpAny M A (loadName env x) Q E s := by
  rcases a with ⟨k, m, n, q⟩ | ⟨k, c, q, n⟩
  · exact wpAny_loadName_local F.kind k n q h
  · rcases k with k | k
    · exact wpAny_loadName_cell F.kind k q n h
    · exact wpAny_loadName_free F.kind k q n h hx

/-- what may be stored under the name i: plain data, or, for an owned name, a list that nothing else bears -/
def ItemOk (C : Cx) (σ : Sg) (vals : Nat → Value) (h : Heap) (i : Nat) (v : Value) (d : D) : Prop :=
  (C.own i = false ∧ Rep h (Sx C σ vals) v d) ∨
  (C.own i = true ∧ ∃ a ds vs, v = .ref a ∧ d = .list ds ∧ ¬ C.S a ∧ NotO C.own σ vals a ∧ h.IsList a vs.toArray ∧ RepL h (Sx C σ vals) vs ds ∧ ds.length ≤ LB ∧ C.g₀.get? a = none)

/-- storing a value under a name of the scope's own -/
theorem store_any {i : Nat} {x : PySem.Str} {v : Value} {d : D} {Q : Unit → Shared → Prop} (V : StV C sc h₀ env σ vals s.heap) (hx : C.tab[i]? = some x) (hw : isW sc x = true)
    (hr : ItemOk C σ vals s.heap i v d)
    (h : ∀ h' tk, StV C sc h₀ env (upd σ i d) (updv vals i v) h' → (∀ b o, s.heap.get? b = some o → b ≠ env.locals → (∀ u, o.data ≠ .cell u) → h'.get? b = some o) →
      (∀ b, h₀.get? b ≠ none → h'.get? b = s.heap.get? b) → Q () { s with heap := h', toks := tk }) :
    wpAny M A (storeName env x v) Q E s := by
  have notO : ∀ a, C.S a → NotO C.own σ vals a → NotO C.own (upd σ i d) (updv vals i v) a := fun a sa n j oj sj e => by
    by_cases hj : j = i
    · subst hj
      rcases hr with ⟨ho, _⟩ | ⟨_, a', ds, vs, rfl, _, nS, _⟩
      · rw [ho] at oj; cases oj
      · rw [updv_same] at e; cases e; exact nS sa
    · rw [upd_ne σ d hj] at sj; rw [updv_ne vals v hj] at e; exact n j oj sj e
  have tabne : ∀ j y, C.tab[j]? = some y → j ≠ i → y ≠ x := fun j y hj ne e => by
    subst e
    obtain ⟨hj1, hj2⟩ := List.getElem?_eq_some_iff.mp hj
    obtain ⟨hi1, hi2⟩ := List.getElem?_eq_some_iff.mp hx
    exact ne ((List.getElem_inj V.nodup).mp (hj2.trans hi2.symm))
  have newg : ∀ a, h₀.get? a = none → C.g₀.get? a = none := fun a n => V.g.none n
  -- what is common to both roads
  have main : ∀ (h' : Heap) (L : Addr) (oL : Obj), s.heap.get? L = some oL → h'.get? L ≠ none → (∀ xs n, oL.data ≠ .seq xs n) → h₀.get? L = none → Heap.SameBut L s.heap h' → FrOk sc h₀ env h' → ValAt env h' x v →
      (∀ y w, y ≠ x → ValAt env s.heap y w → ValAt env h' y w) → (∀ a, C.P a → ∃ o es n, h'.get? a = some o ∧ o.data = .dict es n) →
      StV C sc h₀ env (upd σ i d) (updv vals i v) h' := fun h' L oL hL hL' hLd hLn hs F hv hval hp => by
    have ne : ∀ b o, h₀.get? b = some o → b ≠ L := fun b o e z => by rw [z, hLn] at e; cases e
    have on : On s.heap h' (Sx C σ vals) (fun a => C.S a ∧ NotO C.own (upd σ i d) (updv vals i v) a) := fun a ha o hao ⟨xs, n, hd⟩ => by
      have hne : a ≠ L := fun z => by subst z; rw [hL] at hao; cases hao; exact hLd _ _ hd
      exact ⟨⟨ha.1, notO a ha.1 ha.2⟩, o.slots, (hs.2 a hne).trans hao⟩
    refine ⟨F, V.g, fun b o e => let ⟨sl, w⟩ := V.ext b o e; ⟨sl, (hs.2 b (ne b o e)).trans w⟩, fun b o e => ?_, fun a n => V.newS a ((hs.2 a (fun z => hL' (z ▸ n))).symm.trans n), V.bg, hp, V.bP, V.nodup, fun j dj y hj hy hsc => ?_, fun j dj hj oj => ?_, fun j dj hj oj => ?_, fun j k a oj ok sj sk ej ek => ?_⟩
    · have hb : b ≠ L := fun z => V.bg b o e (newg b (z ▸ hLn))
      exact (hs.2 b hb).trans (V.stay b o e)
    · by_cases hji : j = i
      · subst hji
        rw [hx] at hy; cases hy
        rw [updv_same]; exact hv
      · rw [upd_ne σ d hji] at hj
        rw [updv_ne vals v hji]
        exact hval y _ (tabne j y hy hji) (V.val j dj y hj hy hsc)
    · by_cases hji : j = i
      · subst hji
        rw [upd_same] at hj; cases hj
        rw [updv_same]
        rcases hr with ⟨_, hr⟩ | ⟨ho, _⟩
        · exact hr.on on
        · rw [ho] at oj; cases oj
      · rw [upd_ne σ d hji] at hj
        rw [updv_ne vals v hji]
        exact (V.rep j dj hj oj).on on
    · by_cases hji : j = i
      · subst hji
        rw [upd_same] at hj; cases hj
        rw [updv_same]
        rcases hr with ⟨ho, _⟩ | ⟨_, a, ds, vs, q1, q2, _, _, ⟨o, g1, g2, n, g3⟩, q4, q5⟩
        · rw [ho] at oj; cases oj
        · have hne : a ≠ L := fun z => by subst z; rw [hL] at g1; cases g1; exact hLd _ _ g3
          exact ⟨a, ds, vs, q2, q1, ⟨o, (hs.2 a hne).trans g1, g2, n, g3⟩, q4.on on, q5⟩
      · rw [upd_ne σ d hji] at hj
        rw [updv_ne vals v hji]
        obtain ⟨a, ds, vs, q1, q2, ⟨o, g1, g2, n, g3⟩, q4, q5⟩ := V.owned j dj hj oj
        have hne : a ≠ L := fun z => by subst z; rw [hL] at g1; cases g1; exact hLd _ _ g3
        exact ⟨a, ds, vs, q1, q2, ⟨o, (hs.2 a hne).trans g1, g2, n, g3⟩, q4.on on, q5⟩
    · by_cases hji : j = i
      · by_cases hki : k = i
        · rw [hji, hki]
        · exfalso
          subst hji
          rw [upd_ne σ d hki] at sk
          rw [updv_ne vals v hki] at ek
          rw [updv_same] at ej
          rcases hr with ⟨ho, _⟩ | ⟨_, a', ds, vs, q, _, _, nO, _⟩
          · rw [ho] at oj; cases oj
          · rw [q] at ej; cases ej; exact nO k ok sk ek
      · by_cases hki : k = i
        · exfalso
          subst hki
          rw [upd_ne σ d hji] at sj
          rw [updv_ne vals v hji] at ej
          rw [updv_same] at ek
          rcases hr with ⟨ho, _⟩ | ⟨_, a', ds, vs, q, _, _, nO, _⟩
          · rw [ho] at ok; cases ok
          · rw [q] at ek; cases ek; exact nO j oj sj ej
        · rw [upd_ne σ d hji] at sj
          rw [upd_ne σ d hki] at sk
          rw [updv_ne vals v hji] at ej
          rw [updv_ne vals v hki] at ek
          exact V.dist j k a oj ok sj sk ej ek
  unfold isW at hw
  split at hw
  · rename_i hl
    have hk := V.fr.kL x hl
    obtain ⟨m, hn⟩ := V.fr.ns
    obtain ⟨oL, es, ep, hL, hLd, hLk⟩ := id hn
    refine wpAny_storeName_local hk hn (fun h' hn' hs => ?_) (by rw [V.fr.kind]; rfl)
    have cne : ∀ y c, env.cells.lookup y = some c → c ≠ env.locals := fun y c hc z => by
      obtain ⟨u, oc, hoc, hcd⟩ := V.fr.cell y c hc
      rw [z, hL] at hoc; cases hoc; rw [hLd] at hcd; cases hcd
    refine h h' _ (main h' env.locals oL hL (by obtain ⟨o, _, _, q, _⟩ := id hn'; rw [q]; simp) (fun xs n z => by rw [hLd] at z; cases z) V.fr.newL hs ⟨V.fr.kind, V.fr.glob, V.fr.bi, ⟨_, hn'⟩, V.fr.newL, V.fr.kL, V.fr.kC, V.fr.kF, V.fr.kG, fun y c hc => let ⟨u, n⟩ := V.fr.cell y c hc; ⟨u, n.sameBut hs (cne y c hc)⟩, V.fr.inj⟩
      (.inl ⟨hk, _, hn', by simp⟩) (fun y u hy a => ?_) fun a p => ?_) (fun b o e nb _ => (hs.2 b nb).trans e) fun b nb => hs.2 b fun z => nb (by rw [z]; exact V.fr.newL)
    · rcases a with ⟨k, m', n, q⟩ | ⟨k, c, q, n⟩
      · refine .inl ⟨k, _, hn', ?_⟩
        rw [if_neg hy]
        obtain ⟨o1, e1, p1, a1, b1, _, f1⟩ := n
        obtain ⟨o2, e2, p2, a2, b2, _, f2⟩ := hn
        rw [a1] at a2; cases a2
        rw [b1] at b2; cases b2
        rw [← f2, f1]; exact q
      · exact .inr ⟨k, c, q, n.sameBut hs (cne y c q)⟩
    · by_cases ha : a = env.locals
      · subst ha
        obtain ⟨o, es, ep, q, d, _⟩ := hn'
        exact ⟨o, es, ep, q, d⟩
      · obtain ⟨o, es, n, q, d⟩ := V.pf a p
        exact ⟨o, es, n, (hs.2 a ha).trans q, d⟩
  · rename_i hl
    obtain ⟨hk, c, hc, hcn⟩ := V.fr.kC x hl
    obtain ⟨u, hu⟩ := V.fr.cell x c hc
    obtain ⟨oc, hoc, hcd⟩ := id hu
    refine wpAny_storeName_cell V.fr.kind hk hc hu fun h' hv' hs => ?_
    have lne : env.locals ≠ c := fun z => by
      obtain ⟨m, o, es, ep, q, d, _⟩ := V.fr.ns
      rw [z, hoc] at q; cases q; rw [hcd] at d; cases d
    have hcell : ∀ y c', env.cells.lookup y = some c' → ∃ w, h'.IsCell c' w := fun y c' hy => by
      by_cases z : c' = c
      · exact ⟨_, z ▸ hv'⟩
      · obtain ⟨w, n⟩ := V.fr.cell y c' hy
        exact ⟨w, n.sameBut hs z⟩
    refine h h' _ (main h' c oc hoc (by obtain ⟨o, q, _⟩ := id hv'; rw [q]; simp) (fun xs n z => by rw [hcd] at z; cases z) hcn hs ⟨V.fr.kind, V.fr.glob, V.fr.bi, let ⟨m, n⟩ := V.fr.ns; ⟨m, n.sameBut hs lne⟩, V.fr.newL, V.fr.kL, V.fr.kC, V.fr.kF, V.fr.kG, hcell, V.fr.inj⟩
      (.inr ⟨.inl hk, c, hc, hv'⟩) (fun y u hy a => ?_) fun a p => ?_) (fun b o e _ nc => (hs.2 b fun z => by subst z; rw [hoc] at e; cases e; exact nc _ hcd).trans e) fun b nb => hs.2 b fun z => nb (by rw [z]; exact hcn)
    · rcases a with ⟨k, m', n, q⟩ | ⟨k, c', q, n⟩
      · exact .inl ⟨k, m', n.sameBut hs lne, q⟩
      · exact .inr ⟨k, c', q, n.sameBut hs fun z => hy (V.fr.inj y x c (z ▸ q) hc)⟩
    · obtain ⟨o, es, n, q, d⟩ := V.pf a p
      exact ⟨o, es, n, (hs.2 a fun z => by subst z; rw [hoc] at q; cases q; rw [hcd] at d; cases d).trans q, d⟩
  · cases hw

theorem store_ok {i : Nat} {x : PySem.Str} {v : Value} {d : D} {Q : Unit → Shared → Prop} (V : StV C sc h₀ env σ vals s.heap) (hx : C.tab[i]? = some x) (hw : isW sc x = true) (ho : C.own i = false)
    (hr : Rep s.heap (Sx C σ vals) v d)
    (h : ∀ h' tk, StV C sc h₀ env (upd σ i d) (updv vals i v) h' → (∀ b o, s.heap.get? b = some o → b ≠ env.locals → (∀ u, o.data ≠ .cell u) → h'.get? b = some o) →
      (∀ b, h₀.get? b ≠ none → h'.get? b = s.heap.get? b) → Q () { s with heap := h', toks := tk }) :
    wpAny M A (storeName env x v) Q E s := store_any V hx hw (.inl ⟨ho, hr⟩) h
end
end Mine
end

section
open PySem PySem.W PyProof.Rows PySem.SeqAt PySem.MeetsSeq PySem.MeetsSeq2 PySem.MeetsSeq3
set_option maxRecDepth 100000
namespace Mine

/-! ## 4. One operation each -/

/-- what is known of the exception that is being handled -/
abbrev HOk (A : Around) : Prop := A.handled = none

section
variable {prog : Program} {w : World} {A : Around} {E : Value → Shared → Prop} {s : Shared}

abbrev newL (vs : List Value) : Obj := { cls := .type "list", data := .seq vs.toArray }
abbrev newT (vs : List Value) : Obj := { cls := .type "tuple", data := .seq vs.toArray }

theorem LBs : LB ≤ sizeLine := by rw [sizeLine_eq]; decide

theorem p_newList {M : Model} {vs : List Value} {Q : Value → Shared → Prop} (hz : vs.length ≤ LB) (h : Q (.ref s.heap.objs.size) { s with heap := s.heap.push (newL vs) }) : wpAny M A (newList vs) Q E s :=
  wpAny_newObj_type h (by show vs.toArray.size ≤ sizeLine; rw [List.size_toArray]; exact Nat.le_trans hz LBs)
theorem p_newTuple {M : Model} {vs : List Value} {Q : Value → Shared → Prop} (hz : vs.length ≤ LB) (h : Q (.ref s.heap.objs.size) { s with heap := s.heap.push (newT vs) }) : wpAny M A (newTuple vs) Q E s :=
  wpAny_newObj_type h (by show vs.toArray.size ≤ sizeLine; rw [List.size_toArray]; exact Nat.le_trans hz LBs)

theorem p_addList {l b : Addr} {vs ws : List Value} {Q : Value → Shared → Prop} (hl : s.heap.IsList l vs.toArray) (hb : s.heap.IsList b ws.toArray) (hz : vs.length + ws.length ≤ LB)
    (h : Q (.ref s.heap.objs.size) { s with heap := s.heap.push (newL (vs ++ ws)) }) : wpAny (model prog w) A (binaryOp .Add (.ref l) (.ref b)) Q E s := by
  obtain ⟨⟨c1, d1, e1, f1⟩, ho, hc, n, hd⟩ := id hl
  obtain ⟨⟨c2, d2, e2, f2⟩, ho2, hc2, n2, hd2⟩ := id hb
  dsimp only at hc hd hc2 hd2
  subst hc hd hc2 hd2
  have e : vs.toArray ++ ws.toArray = (vs ++ ws).toArray := by simp
  refine concat_meets ⟨_, ho, rfl⟩ ⟨_, ho2, rfl⟩ noFill_list_add seq_list_add PySem.F.slot_list_add PySem.F.entry_list_add (PySem.F.args_list_add_2 _ _)
    (list_addW l b vs.toArray ws.toArray n n2 d1 d2 f1 f2 (Nat.le_trans (by simpa using hz) LBs)) ⟨ho, ho2, ?_⟩
  rw [e]
  exact h

theorem foldl_app_replicate (v : Value) : ∀ (n : Nat) (acc : List Value), List.foldl (fun x1 x2 => x1 ++ x2) acc.toArray (List.replicate n #[v]) = (acc ++ List.replicate n v).toArray
  | 0, acc => by simp
  | n + 1, acc => by
    rw [List.replicate_succ, List.foldl_cons, show acc.toArray ++ #[v] = (acc ++ [v]).toArray from by simp, foldl_app_replicate v n, List.replicate_succ]
    simp
theorem p_rep {l : Addr} {v : Value} {k : Nat} {x : Int} {u : Tok} {Q : Value → Shared → Prop} (hl : s.heap.get? l = some { cls := .type "list", dict := none, data := .seq #[v] k, slots := #[] })
    (h0 : 0 ≤ x) (h1 : x ≤ LB) (h : Q (.ref s.heap.objs.size) { s with heap := s.heap.push (newL (List.replicate x.toNat v)) }) : wpAny (model prog w) A (binaryOp .Mult (.ref l) (.int x u)) Q E s := by
  have hx : x ≤ 1000 := h1
  have e : List.foldl (fun x1 x2 => x1 ++ x2) #[] (List.replicate (if (#[v] : Array Value).isEmpty = true then 0 else x.toNat) #[v]) = (List.replicate x.toNat v).toArray := by
    have := foldl_app_replicate v x.toNat []
    simpa using this
  refine wpAny_binaryOp_repeat_ref (T := "list") (U := "int") (by decide) ⟨_, hl, rfl⟩ (fun s' => typeIs_int s' x u) noFill_list_mul F.fills_int_mul F.slot_int_rmul repeat_list F.slot_int_index.lookup
    (call_meets F.slot_int_rmul (typeIs_int s x u) F.entry_int_rmul (F.args_int_rmul_2 _ _) (int___rmul___int_list x u l #[v] k)
      ⟨hl, rfl, ⟨_, hl, rfl⟩, call_meets F.slot_list_mul ⟨_, hl, rfl⟩ F.entry_list_mul (F.args_list_mul_2 _ _)
        (AutoListH.list___mul___list_int_3 l #[v] k x u (by simp [Builtin.List.listFitsIndex]; omega) (by have e : (#[v] : Array Value).size = 1 := rfl; rw [e]; omega) (by have := sizeLine_eq; simp [Builtin.List.listTooLong]; omega))
        ⟨hl, ?_⟩⟩)
  show Q (.ref s.heap.objs.size) { s with heap := s.heap.push { cls := .type "list", data := .seq (List.foldl (fun x1 x2 => x1 ++ x2) #[] (List.replicate (if (#[v] : Array Value).isEmpty = true then 0 else x.toNat) #[v])) } }
  rw [e]; exact h

theorem p_mul {a b : Int} {t u : Tok} {Q : Value → Shared → Prop} (hs : (small a || small b) = true) (h : Q (.int (a * b) s.toks) { s with toks := s.toks + 1 }) : wpAny (model prog w) A (binaryOp .Mult (.int a t) (.int b u)) Q E s := by
  have bits : ∀ c : Int, small c = true → Builtin.Int.intBits c ≤ 64 := fun c hc => by
    have hc : c.natAbs < 2 ^ 63 := of_decide_eq_true hc
    unfold Builtin.Int.intBits
    split
    · omega
    · rename_i h0
      have hne : c.natAbs ≠ 0 := by simpa using h0
      have : c.natAbs.log2 < 63 := (Nat.log2_lt hne).mpr hc
      omega
  refine PySem.P.mul_int h ?_
  rcases Bool.or_eq_true_iff.mp hs with q | q
  · exact .of_left (bits a q)
  · exact .of_right (bits b q)

theorem p_fdiv {a b : Int} {t u : Tok} {Q : Value → Shared → Prop} (h0 : 0 < b) (hs : small b = true) (h : Q (.int (a / b) s.toks) { s with toks := s.toks + 1 }) : wpAny (model prog w) A (binaryOp .FloorDiv (.int a t) (.int b u)) Q E s := by
  have hb : b.natAbs < 2 ^ 63 := of_decide_eq_true hs
  refine PyProof.Rows.floordiv_int (by omega) ?_ (.inl (PyProof.noPylong_of_log2 ?_))
  · rw [Int.fdiv_eq_ediv_of_nonneg a (by omega)]; exact h
  · have : b.natAbs.log2 < 63 := (Nat.log2_lt (by omega)).mpr hb
    omega
theorem p_mod {a b : Int} {t u : Tok} {Q : Value → Shared → Prop} (h0 : 0 < b) (h : Q (.int (a % b) s.toks) { s with toks := s.toks + 1 }) : wpAny (model prog w) A (binaryOp .Mod (.int a t) (.int b u)) Q E s := by
  refine PyProof.Rows.mod_int (by omega) ?_
  rw [Int.fmod_eq_emod_of_nonneg a (by omega)]; exact h
theorem p_pow {a b : Int} {t u : Tok} {Q : Value → Shared → Prop} (h0 : 0 ≤ b) (h1 : b ≤ 64) (ha : a.natAbs ≤ 64) (h : Q (.int (a ^ b.toNat) s.toks) { s with toks := s.toks + 1 }) : wpAny (model prog w) A (binaryOp .Pow (.int a t) (.int b u)) Q E s := by
  have hbits : Builtin.Int.intBits a ≤ 7 := by
    unfold Builtin.Int.intBits
    split
    · omega
    · rename_i hn
      have hne : a.natAbs ≠ 0 := by simpa using hn
      have : a.natAbs.log2 < 7 := (Nat.log2_lt hne).mpr (by omega)
      omega
  refine PyProof.Rows.pow_int h0 ?_ h
  have h2 : (Builtin.Int.intBits a : Int) * b ≤ 7 * 64 := Int.mul_le_mul (by omega) h1 h0 (by omega)
  omega

end
end Mine
end

section
open PySem PySem.W PyProof.Rows PySem.SeqAt PySem.MeetsSeq PySem.MeetsSeq2 PySem.MeetsSeq3
set_option maxRecDepth 100000
namespace Mine

/-! ## 5. Comparisons, items, cuts -/

section
variable {prog : Program} {w : World} {A : Around} {E : Value → Shared → Prop} {s : Shared}

theorem isTuple_of {h : Heap} {a : Addr} {vs : Array Value} (x : IsTup h a vs) : h.IsTuple a vs := x

/-- two lists of ints, at their places -/
theorem ints_at {vs ws : List Value} {x y : List Int} (hx : IntsAre vs x) (hy : IntsAre ws y) (A : Around) (s : Shared) (j : Nat) (h1 : j < vs.toArray.size) (h2 : j < ws.toArray.size) :
    EqAt A s vs.toArray[j] ws.toArray[j] (x.getD j 0 == y.getD j 0) := by
  have key : ∀ {vs : List Value} {x : List Int}, IntsAre vs x → ∀ j (h : j < vs.length), ∃ t, vs[j] = .int (x.getD j 0) t := by
    intro vs x h
    induction h with
    | nil => intro j h; simp at h
    | cons n t r ih =>
      intro j h
      cases j with
      | zero => exact ⟨t, rfl⟩
      | succ j => obtain ⟨t', e⟩ := ih j (by simpa using h); exact ⟨t', by simpa using e⟩
  obtain ⟨t, e⟩ := key hx j (by simpa using h1)
  obtain ⟨u, e'⟩ := key hy j (by simpa using h2)
  have e1 : vs.toArray[j] = .int (x.getD j 0) t := by simpa using e
  have e2 : ws.toArray[j] = .int (y.getD j 0) u := by simpa using e'
  rw [e1, e2]
  exact EqAt.int_int _ _ _ _
theorem all_beq : ∀ (x y : List Int), x.length = y.length → ((List.range x.length).all fun j => x.getD j 0 == y.getD j 0) = (x == y)
  | [], [], _ => rfl
  | a :: r, b :: q, h => by
    have ih := all_beq r q (by simpa using h)
    rw [List.length_cons, List.range_succ_eq_map, List.all_cons, List.all_map]
    have : ((fun j => (a :: r).getD j 0 == (b :: q).getD j 0) ∘ Nat.succ) = fun j => r.getD j 0 == q.getD j 0 := by funext j; simp
    rw [this, ih]
    simp [List.cons_beq_cons]

theorem eq_at {d e : D} {b : Bool} {v u : Value} {S S' : Addr → Prop} (he : eqD d e = some b) (hv : Rep s.heap S v d) (hu : Rep s.heap S' u e) (hc : A.units + 1 < cLine) :
    RcAt A s v u b ∧ EqAt A s v u b := by
  unfold eqD at he
  split at he
  · cases hv; cases hu; cases he; exact ⟨.int_int _ _ _ _, .int_int _ _ _ _⟩
  · cases hv; cases hu; cases he; exact ⟨.str_str _ _ _ _, .str_str _ _ _ _⟩
  · cases hv; cases hu; cases he; exact ⟨.none_none, .same _⟩
  · obtain ⟨l, vs, rfl, _, hl, _⟩ := hu.list_inv; cases hv; cases he; exact ⟨.none_list hl (by omega), .none_list hl (by omega)⟩
  · obtain ⟨l, vs, rfl, _, hl, _⟩ := hv.list_inv; cases hu; cases he; exact ⟨.list_none hl (by omega), .list_none hl (by omega)⟩
  · rename_i da db
    simp only [Option.bind_eq_some_iff] at he
    obtain ⟨x, hx, y, hy, he⟩ := he
    cases he
    obtain ⟨l, vs, rfl, _, hl, _, hr⟩ := hv.list_inv
    obtain ⟨m, ws, rfl, _, hm, _, hq⟩ := hu.list_inv
    have ea := intsOf_eq hx
    have eb := intsOf_eq hy
    subst ea eb
    have hx' := hr.ints
    have hy' := hq.ints
    have e1 : vs.length = x.length := hx'.length
    have e2 : ws.length = y.length := hy'.length
    have rc : RcAt A s (.ref l) (.ref m) (x == y) := by
      by_cases hsz : vs.length = ws.length
      · have h := RcAt.lists (A := A) (e := fun j => x.getD j 0 == y.getD j 0) hl hm (by simpa using hsz) (by omega) (fun j h1 h2 => ints_at hx' hy' A.in1 s j h1 h2)
        rw [show vs.toArray.size = x.length from by simpa using e1, all_beq x y (by omega)] at h
        exact h
      · have h := RcAt.lists_lengths (A := A) hl hm (by simpa using hsz) (by omega)
        have : (x == y) = false := by
          rw [beq_eq_false_iff_ne]; rintro rfl; omega
        rw [this]; exact h
    refine ⟨rc, ?_⟩
    by_cases hne : l = m
    · subst hne
      have : (x == y) = true := by
        obtain ⟨o, ho, _, n, hd⟩ := hl
        obtain ⟨o', ho', _, n', hd'⟩ := hm
        rw [ho] at ho'; cases ho'
        rw [hd] at hd'
        injection hd' with q _
        have q' : vs = ws := by simpa using q
        subst q'
        have uniq : ∀ {vs : List Value} {x y : List Int}, IntsAre vs x → IntsAre vs y → x = y := by
          intro vs x y h
          induction h generalizing y with
          | nil => intro h'; cases h'; rfl
          | cons n t r ih => intro h'; cases h' with | cons _ _ r' => rw [ih r']
        rw [uniq hx' hy']; exact beq_self_eq_true _
      rw [this]; exact .same _
    · exact .of_refs hne rc
  · cases he

theorem p_eq {d e : D} {b : Bool} {v u : Value} {S S' : Addr → Prop} {Q : Value → Shared → Prop} (he : eqD d e = some b) (hv : Rep s.heap S v d) (hu : Rep s.heap S' u e) (hc : A.units + 1 < cLine) (h : Q (.bool b) s) :
    wpAny (model prog w) A (compareOp .Eq v u) Q E s := (eq_at he hv hu hc).1 prog w E Q h

theorem p_neInts {a b : Int} {t u : Tok} {Q : Value → Shared → Prop} (h : Q (.bool (!(a == b))) s) : wpAny (model prog w) A (compareOp .NotEq (.int a t) (.int b u)) Q E s :=
  RcNeAt.int_int a t b u prog w E Q h
theorem p_neLists {da db : List D} {b : Bool} {v u : Value} {S S' : Addr → Prop} {Q : Value → Shared → Prop} (he : eqD (.list da) (.list db) = some b) (hv : Rep s.heap S v (.list da)) (hu : Rep s.heap S' u (.list db)) (hc : A.units + 1 < cLine)
    (h : Q (.bool (!b)) s) : wpAny (model prog w) A (compareOp .NotEq v u) Q E s := by
  unfold eqD at he
  simp only [Option.bind_eq_some_iff] at he
  obtain ⟨x, hx, y, hy, he⟩ := he
  cases he
  obtain ⟨l, vs, rfl, _, hl, _, hr⟩ := hv.list_inv
  obtain ⟨m, ws, rfl, _, hm, _, hq⟩ := hu.list_inv
  have ea := intsOf_eq hx
  have eb := intsOf_eq hy
  subst ea eb
  have hx' := hr.ints
  have hy' := hq.ints
  have e1 : vs.length = x.length := hx'.length
  have e2 : ws.length = y.length := hy'.length
  by_cases hsz : vs.length = ws.length
  · have h' := RcNeAt.lists (A := A) (e := fun j => x.getD j 0 == y.getD j 0) hl hm (by simpa using hsz) (by omega) (fun j h1 h2 => ints_at hx' hy' A.in1 s j h1 h2)
    rw [show vs.toArray.size = x.length from by simpa using e1, all_beq x y (by omega)] at h'
    exact h' prog w E Q h
  · have h' := RcNeAt.lists_lengths (A := A) hl hm (by simpa using hsz) (by omega)
    have : (x == y) = false := by
      rw [beq_eq_false_iff_ne]; rintro rfl; omega
    rw [this] at h; exact h' prog w E Q h

/-! ### membership -/

theorem anyEq_at {d : D} {v : Value} {S S' : Addr → Prop} (hv : Rep s.heap S v d) (hc : A.units + 1 < cLine) {xs : List D} {vs : List Value} {b : Bool} (he : anyEq d xs = some b) (hr : RepL s.heap S' vs xs) :
    ∃ e : Value → Bool, (∀ y, y ∈ vs → EqAt A s y v (e y)) ∧ vs.any e = b := by
  have key : ∀ {xs : List D} {vs : List Value} {b : Bool}, anyEq d xs = some b → RepL s.heap S' vs xs →
      (∀ y, y ∈ vs → ∃ x q, Rep s.heap S' y x ∧ eqD x d = some q) ∧ ∀ e : Value → Bool, (∀ y x, Rep s.heap S' y x → eqD x d = some (e y) ∨ eqD x d = none) → vs.any e = b := by
    intro xs
    induction xs with
    | nil =>
      intro vs b he hr
      obtain rfl := hr.nil_inv
      simp only [anyEq, Option.some.injEq] at he
      exact ⟨fun y h => by simp at h, fun e _ => by simpa using he⟩
    | cons x r ih =>
      intro vs b he hr
      obtain ⟨u, ws, rfl, hu, hr⟩ := hr.cons_inv
      simp only [anyEq, Option.bind_eq_some_iff, Option.map_eq_some_iff] at he
      obtain ⟨q, hq, c, hc, rfl⟩ := he
      obtain ⟨h1, h2⟩ := ih hc hr
      refine ⟨fun y hy => ?_, fun e h => ?_⟩
      · rcases List.mem_cons.mp hy with rfl | hy
        · exact ⟨x, q, hu, hq⟩
        · exact h1 y hy
      · rw [List.any_cons, h2 e h]
        rcases h u x hu with h | h
        · rw [hq] at h; cases h; rfl
        · rw [hq] at h; cases h
  obtain ⟨h1, h2⟩ := key he hr
  classical
  refine ⟨fun y => decide (∃ x, Rep s.heap S' y x ∧ eqD x d = some true), fun y hy => ?_, h2 _ fun y x hyx => ?_⟩
  · obtain ⟨x, q, hyx, hq⟩ := h1 y hy
    have := (eq_at (A := A) hq hyx hv hc).2
    have e : decide (∃ x, Rep s.heap S' y x ∧ eqD x d = some true) = q := by
      cases q with
      | true => exact decide_eq_true ⟨x, hyx, hq⟩
      | false =>
        refine decide_eq_false fun ⟨x', hyx', hq'⟩ => ?_
        rw [← hyx.uniq hyx', hq] at hq'; cases hq'
    show EqAt A s y v (decide (∃ x, Rep s.heap S' y x ∧ eqD x d = some true))
    rw [e]; exact this
  · cases hx : eqD x d with
    | none => exact .inr rfl
    | some q =>
      refine .inl ?_
      congr 1
      cases q with
      | true => exact (decide_eq_true ⟨x, hyx, hx⟩).symm
      | false =>
        refine (decide_eq_false fun ⟨x', hyx', hq'⟩ => ?_).symm
        rw [← hyx.uniq hyx', hx] at hq'; cases hq'

theorem p_in {d e : D} {b : Bool} {v u : Value} {S S' : Addr → Prop} {Q : Value → Shared → Prop} (he : inD d e = some b) (hv : Rep s.heap S v d) (hu : Rep s.heap S' u e) (hc : A.units + 2 < cLine) (h : Q (.bool b) s) :
    wpAny (model prog w) A (compareOp .In v u) Q E s := by
  have hc1 : A.in1.units + 1 < cLine := hc
  unfold inD at he
  split at he
  · obtain ⟨l, vs, rfl, _, hl, _, hr⟩ := hu.list_inv
    obtain ⟨q, h1, h2⟩ := anyEq_at (A := A.in1) hv hc1 he hr
    refine in_listAt q hl (fun y hy => h1 y (by simpa using hy)) ?_
    rw [List.any_toArray, h2]; exact h
  · obtain ⟨l, vs, rfl, _, hl, _, hr⟩ := hu.tup_inv
    obtain ⟨q, h1, h2⟩ := anyEq_at (A := A.in1) hv hc1 he hr
    refine in_tupleAt q hl (fun y hy => h1 y (by simpa using hy)) ?_
    rw [List.any_toArray, h2]; exact h
  · cases he
theorem p_notIn {d e : D} {b : Bool} {v u : Value} {S S' : Addr → Prop} {Q : Value → Shared → Prop} (he : inD d e = some b) (hv : Rep s.heap S v d) (hu : Rep s.heap S' u e) (hc : A.units + 2 < cLine) (h : Q (.bool (!b)) s) :
    wpAny (model prog w) A (compareOp .NotIn v u) Q E s := by
  have hc1 : A.in1.units + 1 < cLine := hc
  unfold inD at he
  split at he
  · obtain ⟨l, vs, rfl, _, hl, _, hr⟩ := hu.list_inv
    obtain ⟨q, h1, h2⟩ := anyEq_at (A := A.in1) hv hc1 he hr
    refine notIn_listAt q hl (fun y hy => h1 y (by simpa using hy)) ?_
    rw [List.any_toArray, h2]; exact h
  · obtain ⟨l, vs, rfl, _, hl, _, hr⟩ := hu.tup_inv
    obtain ⟨q, h1, h2⟩ := anyEq_at (A := A.in1) hv hc1 he hr
    refine notIn_tupleAt q hl (fun y hy => h1 y (by simpa using hy)) ?_
    rw [List.any_toArray, h2]; exact h
  · cases he

theorem p_cmp {o : Cm} {op : CmpOp} {d e : D} {b : Bool} {v u : Value} {S S' : Addr → Prop} {Q : Value → Shared → Prop}
    (hop : op = match o with | .eq => .Eq | .ne => .NotEq | .lt => .Lt | .le => .LtE | .gt => .Gt | .ge => .GtE | .inn => .In | .nin => .NotIn)
    (he : cmD o d e = some b) (hv : Rep s.heap S v d) (hu : Rep s.heap S' u e) (hc : A.units + 2 < cLine) (h : Q (.bool b) s) :
    wpAny (model prog w) A (compareOp op v u) Q E s := by
  subst hop
  unfold cmD at he
  split at he
  · exact p_eq he hv hu (by omega) h
  · obtain ⟨t, rfl⟩ := hv.int_inv; obtain ⟨t', rfl⟩ := hu.int_inv; cases he; exact p_neInts h
  · simp only [Option.map_eq_some_iff] at he
    obtain ⟨q, hq, rfl⟩ := he
    exact p_neLists hq hv hu (by omega) h
  · obtain ⟨t, rfl⟩ := hv.int_inv; obtain ⟨t', rfl⟩ := hu.int_inv; cases he; exact PySem.P.lt_int h
  · obtain ⟨t, rfl⟩ := hv.int_inv; obtain ⟨t', rfl⟩ := hu.int_inv; cases he; exact PySem.P.le_int h
  · obtain ⟨t, rfl⟩ := hv.int_inv; obtain ⟨t', rfl⟩ := hu.int_inv; cases he; exact PySem.P.gt_int h
  · obtain ⟨t, rfl⟩ := hv.int_inv; obtain ⟨t', rfl⟩ := hu.int_inv; cases he; exact PySem.P.ge_int h
  · exact p_in he hv hu hc h
  · simp only [Option.map_eq_some_iff] at he
    obtain ⟨q, hq, rfl⟩ := he
    exact p_notIn hq hv hu hc h
  · cases he

/-! ### items -/

theorem place_seqIndex {n : Nat} {k : Int} {j : Nat} (h : place n k = some j) : seqIndex? k n = some j ∧ j < n ∧ -(n : Int) ≤ k ∧ k < n := by
  unfold place at h
  split at h
  · split at h
    · cases h
      rename_i h0 h1
      refine ⟨?_, h1, by omega, by omega⟩
      unfold seqIndex?
      simp; omega
    · cases h
  · split at h
    · cases h
      rename_i h0 h1
      refine ⟨?_, by omega, by omega, by omega⟩
      rw [PySem.seqIndex_neg (by omega) (by omega)]
      congr 1; omega
    · cases h
end
end Mine
end

section
open PySem PySem.W PyProof.Rows PySem.SeqAt PySem.MeetsSeq PySem.MeetsSeq2 PySem.MeetsSeq3
set_option maxRecDepth 100000
namespace Mine

/-! ## 6. Items, cuts, built-ins -/

theorem subscripted_ops (slice : PySem.Expr) (o i : Value) : ∃ ops, subscripted slice false o i = operate ops (getItem o i) := by
  unfold subscripted
  split
  · exact ⟨_, rfl⟩
  · rename_i h; cases h
  · exact ⟨_, rfl⟩

section
variable {prog : Program} {w : World} {A : Around} {E : Value → Shared → Prop} {s : Shared}

theorem p_itemList {value slice : PySem.Expr} {l : Addr} {vs : List Value} {k : Int} {u : Tok} {j : Nat} {x : Value} {Q : Value → Shared → Prop} (hl : s.heap.IsList l vs.toArray) (hz : vs.length ≤ LB)
    (hp : place vs.length k = some j) (hx : vs[j]? = some x) (h : Q x s) : wpAny (model prog w) A (subscriptTail value slice (.ref l) (.int k u)) Q E s := by
  obtain ⟨ops, hs⟩ := subscripted_ops slice (.ref l) (.int k u)
  obtain ⟨_, h1, h2, h3⟩ := place_seqIndex hp
  have hz' : (vs.length : Int) ≤ 1000 := by have : vs.length ≤ 1000 := hz; omega
  refine tail_any hl.typeIs slot_list_getitem.lookup ?_ hs
  unfold place at hp
  by_cases h0 : 0 ≤ k
  · rw [if_pos h0] at hp
    split at hp
    · cases hp
      exact wpAny_getItem_list hl h0 (by omega) (by simpa using hx) h
    · cases hp
  · rw [if_neg h0] at hp
    split at hp
    · cases hp
      refine wpAny_getItem_list_neg hl (by omega) (by simpa using h2) (by omega) ?_ h
      rw [← hx]
      simp only [List.size_toArray, List.getElem?_toArray]
      congr 1; omega
    · cases hp

theorem p_itemTup {value slice : PySem.Expr} {l : Addr} {vs : List Value} {k : Int} {u : Tok} {j : Nat} {x : Value} {Q : Value → Shared → Prop} (hl : IsTup s.heap l vs.toArray) (hz : vs.length ≤ LB)
    (hp : place vs.length k = some j) (hx : vs[j]? = some x) (h : Q x s) : wpAny (model prog w) A (subscriptTail value slice (.ref l) (.int k u)) Q E s := by
  obtain ⟨ops, hs⟩ := subscripted_ops slice (.ref l) (.int k u)
  obtain ⟨h0, h1, h2, h3⟩ := place_seqIndex hp
  have hz' : (vs.length : Int) ≤ 1000 := by have : vs.length ≤ 1000 := hz; omega
  exact tail_any hl.typeIs slot_tuple_getitem.lookup (PyProof.Rows.getItem_tuple hl (by omega) (by omega) (by simpa using h0) (by simpa using hx) h) hs

theorem p_idx {value slice : PySem.Expr} {a i d : D} {v u : Value} {S S' : Addr → Prop} {Q : Value → Shared → Prop} (he : idxD a i = some d)
    (hv : Rep s.heap S v a ∨ ∃ l vs ds, v = .ref l ∧ a = .list ds ∧ s.heap.IsList l vs.toArray ∧ ds.length ≤ LB ∧ RepL s.heap S vs ds) (hu : Rep s.heap S' u i) (h : ∀ x, Rep s.heap S x d → Q x s) :
    wpAny (model prog w) A (subscriptTail value slice v u) Q E s := by
  unfold idxD at he
  simp only [Option.bind_eq_some_iff] at he
  obtain ⟨xs, h1, k, h2, j, h3, h4⟩ := he
  obtain ⟨t, rfl⟩ : ∃ t, u = .int k t := by
    cases i <;> simp [intD] at h2
    subst h2; exact hu.int_inv
  have fin : (∃ l vs ds, v = .ref l ∧ a = .list ds ∧ s.heap.IsList l vs.toArray ∧ ds.length ≤ LB ∧ RepL s.heap S vs ds) → wpAny (model prog w) A (subscriptTail value slice v (.int k t)) Q E s := by
    rintro ⟨l, vs, ds, rfl, rfl, hl, hz, hr⟩
    simp only [seqD, Option.some.injEq] at h1
    subst h1
    obtain ⟨x, hx, rx⟩ := hr.get h4
    exact p_itemList hl (by rw [hr.length]; exact hz) (by rw [hr.length]; exact h3) hx (h x rx)
  rcases hv with hv | hv
  · cases a with
    | list ds => obtain ⟨l, vs, e, _, hl, hz, hr⟩ := hv.list_inv; exact fin ⟨l, vs, ds, e, rfl, hl, hz, hr⟩
    | tup ds =>
      obtain ⟨l, vs, rfl, _, hl, hz, hr⟩ := hv.tup_inv
      simp only [seqD, Option.some.injEq] at h1
      subst h1
      obtain ⟨x, hx, rx⟩ := hr.get h4
      exact p_itemTup hl (by rw [hr.length]; exact hz) (by rw [hr.length]; exact h3) hx (h x rx)
    | _ => simp [seqD] at h1
  · exact fin hv

/-- a bound that is told or not -/
def partOf : Option Int → Tok → Value
  | none, _ => .none
  | some i, t => .int i t
theorem isPart_of (o : Option Int) (t : Tok) : IsPart (partOf o t) o := by cases o; exact .none; exact .int _ _

theorem pick_two (l : List Value) {a b : Int} (ha : 0 ≤ a) (hb : 0 ≤ b) : kms_pick l (some a) (some b) = (l.take b.toNat).drop a.toNat := by
  apply List.ext_getElem?
  intro i
  unfold kms_pick
  have e1 : kms_lo (some a) l.length = min a.toNat l.length := by simp only [kms_lo]; rw [if_neg (by omega)]
  have e2 : kms_hi (some b) l.length = min b.toNat l.length := by simp only [kms_hi]; rw [if_neg (by omega)]
  rw [e1, e2, List.getElem?_take, List.getElem?_drop, List.getElem?_drop, List.getElem?_take]
  by_cases h1 : a.toNat ≤ l.length
  · rw [Nat.min_eq_left h1]
    by_cases h2 : a.toNat + i < b.toNat
    · rw [if_pos h2]
      by_cases h3 : i < min b.toNat l.length - a.toNat
      · rw [if_pos h3]
      · rw [if_neg h3]
        exact (List.getElem?_eq_none (by omega)).symm
    · rw [if_neg h2, if_neg (by omega)]
  · rw [Nat.min_eq_right (show l.length ≤ a.toNat by omega)]
    have h4 : ¬ i < min b.toNat l.length - l.length := by omega
    rw [if_neg h4]
    split
    · exact (List.getElem?_eq_none (by omega)).symm
    · rfl

theorem pick_slD {vs : List Value} {lo hi : Option Int} {ds ds' : List D} (h : slD ds lo hi = some ds') (hlen : vs.length = ds.length) : ∃ f : ∀ {β : Type}, List β → List β, ds' = f ds ∧ (slicePick vs.toArray lo hi none).toList = f vs ∧ (∀ (hp : Heap) (S : Addr → Prop), RepL hp S vs ds → RepL hp S (f vs) (f ds)) ∧ (f ds).length ≤ ds.length := by
  unfold slD at h
  split at h
  · cases h
  · split at h
    · cases h
      rename_i hl
      rename_i l
      refine ⟨fun x => x.drop l.toNat, rfl, ?_, fun hp S r => r.drop _, by simp⟩
      have := slicePick_from' vs.toArray l.toNat
      rw [Int.toNat_of_nonneg hl.1] at this
      rw [this]
    · cases h
  · split at h
    · cases h
      rename_i u hu
      refine ⟨fun x => x.take u.toNat, rfl, ?_, fun hp S r => r.take _, by simp; omega⟩
      have := slicePick_upto' vs.toArray u.toNat
      rw [Int.toNat_of_nonneg hu.1] at this
      rw [this]
    · cases h
  · split at h
    · cases h
      rename_i l u hu
      refine ⟨fun x => (x.take u.toNat).drop l.toNat, rfl, ?_, fun hp S r => (r.take _).drop _, by simp; omega⟩
      rw [kms_pick_eq vs.toArray (some l) (some u)]
      exact pick_two vs hu.1 hu.2.1
    · cases h

/-- a cut of a list: the slice object, then the new list -/
theorem p_cut {value slice : PySem.Expr} {l : Addr} {vs : List Value} {vl vu vk : Value} {lo hi st : Option Int} {Q : Value → Shared → Prop} (hl : s.heap.IsList l vs.toArray) (hz : vs.length ≤ LB)
    (pl : IsPart vl lo) (pu : IsPart vu hi) (pk : IsPart vk st) (h0 : st ≠ some 0)
    (h : Q (.ref (s.heap.objs.size + 1)) { s with heap := (s.heap.push { cls := .type "slice", data := .fields #[vl, vu, vk] }).push (newL (slicePick vs.toArray lo hi st).toList) }) :
    wpAny (model prog w) A (subscriptTail value slice (.ref l) (.ref s.heap.objs.size)) Q E { s with heap := s.heap.push { cls := .type "slice", data := .fields #[vl, vu, vk] } } := by
  obtain ⟨ops, hs⟩ := subscripted_ops slice (.ref l) (.ref s.heap.objs.size)
  refine tail_any (Heap.IsList.typeIs (s := { s with heap := s.heap.push { cls := .type "slice", data := .fields #[vl, vu, vk] } }) (hl.push _)) list_getitem_lookup
    (wpAny_getItem_list_slice (hl.push _) (Heap.IsSliceOf.new ..) pl pu pk h0 ?_ (by show vs.toArray.size ≤ sizeLine; rw [List.size_toArray]; exact Nat.le_trans hz LBs)) hs
  show Q (.ref (s.heap.push _).objs.size) _
  rw [Heap.size_push]
  have e : newL (slicePick vs.toArray lo hi st).toList = { cls := .type "list", data := .seq (slicePick vs.toArray lo hi st) } := by simp [newL]
  rw [← e]
  exact h

/-! ### built-ins over ints -/

theorem old_push {h₁ h' : Heap} {I : Addr} {o : Obj} (hI : I = h₁.objs.size) (hk : ∀ b x, b ∉ [I] → (h₁.push o).get? b = some x → h'.get? b = some x) : ∀ b x, h₁.get? b = some x → h'.get? b = some x := fun b x e => by
  refine hk b x (fun hm => ?_) (Heap.get?_push_of_some _ e)
  rcases List.mem_cons.mp hm with e1 | hm
  · have := Heap.lt_size e; rw [e1, hI] at this; exact Nat.lt_irrefl _ this
  · cases hm

theorem walks_list (hh : HOk A) (I ax : Addr) (hne : ax ≠ I) (items : Array Value) : Walks prog w A I [I, ax] [I] items.size (fun i v => items[i]? = some v) (fun i h => h.IsListIter I ax i ∧ h.IsList ax items) :=
  Walks.list hh I ax hne items

theorem intsAre_get : ∀ {vs : List Value} {x : List Int}, IntsAre vs x → ∀ {j : Nat} {v : Value}, vs[j]? = some v → ∃ t, v = .int (x.getD j 0) t
  | _, _, .nil, j, v, e => by simp at e
  | _, _, .cons n t r, 0, v, e => by simp at e; subst e; exact ⟨t, by simp⟩
  | _, _, .cons n t r, j + 1, v, e => by
    obtain ⟨u, hu⟩ := intsAre_get r (j := j) (v := v) (by simpa using e)
    exact ⟨u, by simpa using hu⟩

theorem preSum_list (l : List Int) : preSum (fun i => l.getD i 0) l.length = l.sum := by
  have key : ∀ j, j ≤ l.length → preSum (fun i => l.getD i 0) j = (l.take j).sum := by
    intro j
    induction j with
    | zero => intro _; simp [preSum]
    | succ j ih =>
      intro hj
      have e1 : l.take (j + 1) = l.take j ++ [l.getD j 0] := by
        rw [List.take_add_one, List.getElem?_eq_getElem (by omega)]; simp [List.getD_eq_getElem?_getD, List.getElem?_eq_getElem (show j < l.length by omega)]
      rw [preSum, ih (by omega), e1, List.sum_append]; simp
  simpa using key l.length (Nat.le_refl _)

theorem p_sum {l : Addr} {vs : List Value} {x : List Int} {Q : Value → Shared → Prop} (hh : HOk A) (hl : s.heap.IsList l vs.toArray) (hx : IntsAre vs x)
    (h : ∀ h' tk t, (∀ b o, s.heap.get? b = some o → h'.get? b = some o) → Q (.int x.sum t) { s with heap := h', toks := tk }) : wpAny (model prog w) A (call (.builtin "sum") [.ref l]) Q E s := by
  have hlt : l < s.heap.objs.size := by obtain ⟨_, e, _⟩ := hl; exact Heap.lt_size e
  have e1 : vs.length = x.length := hx.length
  refine call_sum_walkG (wpAny_pyIter_list hl ⟨s.heap.objs.size, _, _, _, _, _, fun i => x.getD i 0, rfl, walks_list (A := A.in1) hh s.heap.objs.size l (Nat.ne_of_lt hlt) vs.toArray,
    ⟨⟨_, Heap.get?_push_size _ rfl, rfl, rfl⟩, hl.push _⟩, fun b hb => ?_, fun i v hv => intsAre_get hx (by simpa using hv), fun h' tk t hk => ?_⟩)
  · rw [Heap.size_push]
    rcases List.mem_cons.mp hb with rfl | hb
    · exact Nat.lt_succ_self _
    · rcases List.mem_cons.mp hb with rfl | hb
      · exact Nat.lt_succ_of_lt hlt
      · cases hb
  · have := h h' tk t (old_push rfl hk)
    rw [← preSum_list, ← e1] at this
    simpa using this

theorem p_len {v : Value} {d : D} {xs : List D} {S : Addr → Prop} {Q : Value → Shared → Prop} (hs : seqD d = some xs) (hv : Rep s.heap S v d) (h : ∀ t tk, Q (.int xs.length t) { s with toks := tk }) :
    wpAny (model prog w) A (call (.builtin "len") [v]) Q E s := by
  cases d <;> simp [seqD] at hs
  · subst hs
    obtain ⟨l, vs, rfl, _, hl, hz, hr⟩ := hv.list_inv
    have hz' : (vs.length : Int) ≤ 1000 := by have : vs.length ≤ 1000 := by rw [hr.length]; exact hz
                                              omega
    refine Calls.call_len_list hl (by simp; omega) ?_
    have := h (s.toks + 1) (s.toks + 1 + 1)
    rw [← hr.length] at this
    simpa using this
  · subst hs
    obtain ⟨l, vs, rfl, _, hl, hz, hr⟩ := hv.tup_inv
    have hz' : (vs.length : Int) ≤ 1000 := by have : vs.length ≤ 1000 := by rw [hr.length]; exact hz
                                              omega
    refine PyProof.Rows.len_tuple hl (by simp; omega) ?_
    have := h (s.toks + 1) (s.toks + 1 + 1)
    rw [← hr.length] at this
    simpa using this
end
end Mine
end

section
open PySem PySem.W PyProof.Rows PySem.SeqAt PySem.MeetsSeq PySem.MeetsSeq2 PySem.MeetsSeq3
set_option maxRecDepth 100000
namespace Mine

/-! ## 7. sorted, max, min -/

theorem ins_perm (i : Int) : ∀ l : List Int, (ins i l).Perm (i :: l)
  | [] => .refl _
  | j :: r => by
    unfold ins
    split
    · exact .refl _
    · exact ((ins_perm i r).cons j).trans (.swap i j r)
theorem isort_perm : ∀ l : List Int, (isort l).Perm l
  | [] => .refl _
  | i :: r => (ins_perm i _).trans ((isort_perm r).cons i)
theorem ins_sorted (i : Int) : ∀ l : List Int, l.Pairwise (· ≤ ·) → (ins i l).Pairwise (· ≤ ·)
  | [], _ => by simp [ins]
  | j :: r, h => by
    obtain ⟨h1, h2⟩ := List.pairwise_cons.mp h
    unfold ins
    split
    · rename_i hij
      refine List.pairwise_cons.mpr ⟨fun a ha => ?_, h⟩
      rcases List.mem_cons.mp ha with rfl | ha
      · exact hij
      · exact Int.le_trans hij (h1 a ha)
    · rename_i hij
      refine List.pairwise_cons.mpr ⟨fun a ha => ?_, ins_sorted i r h2⟩
      rcases List.mem_cons.mp ((ins_perm i r).mem_iff.mp ha) with rfl | ha
      · omega
      · exact h1 a ha
theorem isort_sorted : ∀ l : List Int, (isort l).Pairwise (· ≤ ·)
  | [] => .nil
  | i :: r => ins_sorted i _ (isort_sorted r)
theorem sorted_uniq : ∀ {a b : List Int}, a.Perm b → a.Pairwise (· ≤ ·) → b.Pairwise (· ≤ ·) → a = b
  | [], b, p, _, _ => (List.nil_perm.mp p).symm
  | x :: r, b, p, ha, hb => by
    obtain ⟨h1, h2⟩ := List.pairwise_cons.mp ha
    cases b with
    | nil => exact absurd p.length_eq (by simp)
    | cons y q =>
      obtain ⟨h3, h4⟩ := List.pairwise_cons.mp hb
      have e : x = y := by
        have m1 : x ∈ y :: q := p.mem_iff.mp (List.mem_cons_self)
        have m2 : y ∈ x :: r := p.mem_iff.mpr (List.mem_cons_self)
        rcases List.mem_cons.mp m1 with e | m1
        · exact e
        · rcases List.mem_cons.mp m2 with e | m2
          · exact e.symm
          · have := h3 x m1; have := h1 y m2; omega
      subst e
      rw [sorted_uniq ((List.perm_cons x).mp p) h2 h4]

theorem maxI_spec : ∀ (l : List Int) (m : Int), maxI m l ∈ m :: l ∧ ∀ a ∈ m :: l, a ≤ maxI m l
  | [], m => by simp [maxI]
  | i :: r, m => by
    obtain ⟨h1, h2⟩ := maxI_spec r (if i > m then i else m)
    unfold maxI
    refine ⟨?_, fun a ha => ?_⟩
    · rcases List.mem_cons.mp h1 with e | h
      · rw [e]; split <;> simp
      · simp [h]
    · have h0 := h2 _ (List.mem_cons_self)
      rcases List.mem_cons.mp ha with rfl | ha
      · split at h0 <;> (split <;> omega)
      · rcases List.mem_cons.mp ha with rfl | ha
        · split at h0 <;> (split <;> omega)
        · exact h2 a (List.mem_cons_of_mem _ ha)
theorem minI_spec : ∀ (l : List Int) (m : Int), minI m l ∈ m :: l ∧ ∀ a ∈ m :: l, minI m l ≤ a
  | [], m => by simp [minI]
  | i :: r, m => by
    obtain ⟨h1, h2⟩ := minI_spec r (if i < m then i else m)
    unfold minI
    refine ⟨?_, fun a ha => ?_⟩
    · rcases List.mem_cons.mp h1 with e | h
      · rw [e]; split <;> simp
      · simp [h]
    · have h0 := h2 _ (List.mem_cons_self)
      rcases List.mem_cons.mp ha with rfl | ha
      · split at h0 <;> (split <;> omega)
      · rcases List.mem_cons.mp ha with rfl | ha
        · split at h0 <;> (split <;> omega)
        · exact h2 a (List.mem_cons_of_mem _ ha)

section
variable {prog : Program} {w : World} {A : Around} {E : Value → Shared → Prop} {s : Shared}

theorem p_sorted {l : Addr} {vs : List Value} {x : List Int} {Q : Value → Shared → Prop} (hl : s.heap.IsList l vs.toArray) (hx : IntsAre vs x) (hz : x.length < 64)
    (h : ∀ h' a out, (∀ b o, s.heap.get? b = some o → h'.get? b = some o) → s.heap.get? a = none → h'.IsList a out.toArray → IntsAre out (isort x) → Q (.ref a) { s with heap := h' }) :
    wpAny (model prog w) A (call (.builtin "sorted") [.ref l]) Q E s := by
  refine sorted_ints hl hx (by rw [hx.length]; exact hz) fun out ns' a1 a2 a3 => ?_
  obtain ⟨e, he⟩ := sortedAll_at s.heap vs out
  have e1 : ns' = isort x := sorted_uniq (a2.trans (isort_perm x).symm) a3 (isort_sorted x)
  subst e1
  refine h _ _ out.toList (fun _ _ => sortedAll_old) ?_ ⟨_, he, rfl, e, by simp⟩ a1
  cases q : s.heap.get? (s.heap.objs.size + 1) with
  | none => rfl
  | some o => exact absurd (Heap.lt_size q) (Nat.not_lt.mpr (Nat.le_succ _))

theorem getD_mem' {x : List Int} {j : Nat} (h : j < x.length) : x.getD j 0 ∈ x := by
  rw [List.getD_eq_getElem?_getD, List.getElem?_eq_getElem h]; exact List.getElem_mem h
theorem mem_getD' {x : List Int} {a : Int} (h : a ∈ x) : ∃ j, j < x.length ∧ x.getD j 0 = a := by
  obtain ⟨j, hj, e⟩ := List.getElem_of_mem h
  exact ⟨j, hj, by rw [List.getD_eq_getElem?_getD, List.getElem?_eq_getElem hj]; exact e⟩

theorem p_max {l : Addr} {vs : List Value} {i : Int} {r : List Int} {Q : Value → Shared → Prop} (hh : HOk A) (hl : s.heap.IsList l vs.toArray) (hx : IntsAre vs (i :: r))
    (h : ∀ h' tk t, (∀ b o, s.heap.get? b = some o → h'.get? b = some o) → Q (.int (maxI i r) t) { s with heap := h', toks := tk }) : wpAny (model prog w) A (call (.builtin "max") [.ref l]) Q E s := by
  have hlt : l < s.heap.objs.size := by obtain ⟨_, e, _⟩ := hl; exact Heap.lt_size e
  have e1 : vs.length = r.length + 1 := by simpa using hx.length
  refine call_max_walk (wpAny_pyIter_list hl ⟨s.heap.objs.size, _, _, _, _, _, _, rfl, walks_list (A := A.in1) hh s.heap.objs.size l (Nat.ne_of_lt hlt) vs.toArray,
    ⟨⟨_, Heap.get?_push_size _ rfl, rfl, rfl⟩, hl.push _⟩, fun b hb => ?_, (by simp; omega), CmpOf.ints_gt (fun j => (i :: r).getD j 0) fun j v hv => intsAre_get hx (by simpa using hv), fun v h' tk hP hk => ?_⟩)
  · rw [Heap.size_push]
    rcases List.mem_cons.mp hb with rfl | hb
    · exact Nat.lt_succ_self _
    · rcases List.mem_cons.mp hb with rfl | hb
      · exact Nat.lt_succ_of_lt hlt
      · cases hb
  · have hP' : vs.toArray[_]? = some v := hP
    rw [List.getElem?_toArray] at hP'
    obtain ⟨t, rfl⟩ := intsAre_get hx hP'
    clear hP hP'
    obtain ⟨b1, b2⟩ := argBest_gt (fun j => (i :: r).getD j 0) (vs.toArray.size - 1)
    generalize argBest (fun a b => decide ((i :: r).getD a 0 > (i :: r).getD b 0)) (vs.toArray.size - 1) = k at *
    have hsz : vs.toArray.size - 1 = r.length := by simp; omega
    rw [hsz] at b1 b2
    have e2 : (i :: r).getD k 0 = maxI i r := by
      obtain ⟨m1, m2⟩ := maxI_spec r i
      have q1 := m2 _ (getD_mem' (x := i :: r) (j := k) (by simp; omega))
      obtain ⟨j, hj, ej⟩ := mem_getD' m1
      have q2 := b2 j (by simp at hj; omega)
      have q2 : (i :: r).getD j 0 ≤ (i :: r).getD k 0 := q2
      omega
    rw [e2]
    exact h h' tk t (old_push rfl hk)
theorem p_min {l : Addr} {vs : List Value} {i : Int} {r : List Int} {Q : Value → Shared → Prop} (hh : HOk A) (hl : s.heap.IsList l vs.toArray) (hx : IntsAre vs (i :: r))
    (h : ∀ h' tk t, (∀ b o, s.heap.get? b = some o → h'.get? b = some o) → Q (.int (minI i r) t) { s with heap := h', toks := tk }) : wpAny (model prog w) A (call (.builtin "min") [.ref l]) Q E s := by
  have hlt : l < s.heap.objs.size := by obtain ⟨_, e, _⟩ := hl; exact Heap.lt_size e
  have e1 : vs.length = r.length + 1 := by simpa using hx.length
  refine call_min_walk (wpAny_pyIter_list hl ⟨s.heap.objs.size, _, _, _, _, _, _, rfl, walks_list (A := A.in1) hh s.heap.objs.size l (Nat.ne_of_lt hlt) vs.toArray,
    ⟨⟨_, Heap.get?_push_size _ rfl, rfl, rfl⟩, hl.push _⟩, fun b hb => ?_, (by simp; omega), CmpOf.ints_lt (fun j => (i :: r).getD j 0) fun j v hv => intsAre_get hx (by simpa using hv), fun v h' tk hP hk => ?_⟩)
  · rw [Heap.size_push]
    rcases List.mem_cons.mp hb with rfl | hb
    · exact Nat.lt_succ_self _
    · rcases List.mem_cons.mp hb with rfl | hb
      · exact Nat.lt_succ_of_lt hlt
      · cases hb
  · have hP' : vs.toArray[_]? = some v := hP
    rw [List.getElem?_toArray] at hP'
    obtain ⟨t, rfl⟩ := intsAre_get hx hP'
    clear hP hP'
    obtain ⟨b1, b2⟩ := argBest_lt (fun j => (i :: r).getD j 0) (vs.toArray.size - 1)
    generalize argBest (fun a b => decide ((i :: r).getD a 0 < (i :: r).getD b 0)) (vs.toArray.size - 1) = k at *
    have hsz : vs.toArray.size - 1 = r.length := by simp; omega
    rw [hsz] at b1 b2
    have e2 : (i :: r).getD k 0 = minI i r := by
      obtain ⟨m1, m2⟩ := minI_spec r i
      have q1 := m2 _ (getD_mem' (x := i :: r) (j := k) (by simp; omega))
      obtain ⟨j, hj, ej⟩ := mem_getD' m1
      have q2 := b2 j (by simp at hj; omega)
      have q2 : (i :: r).getD k 0 ≤ (i :: r).getD j 0 := q2
      omega
    rw [e2]
    exact h h' tk t (old_push rfl hk)
theorem p_max2 {a b : Int} {t u : Tok} {Q : Value → Shared → Prop} (hh : HOk A) (h : ∀ h' tk t', (∀ c o, s.heap.get? c = some o → h'.get? c = some o) → Q (.int (if b > a then b else a) t') { s with heap := h', toks := tk }) :
    wpAny (model prog w) A (call (.builtin "max") [.int a t, .int b u]) Q E s :=
  max_two_ints hh fun h' tk hk => by
    have := h h' tk (if b > a then u else t) hk
    split <;> simp_all
theorem p_min2 {a b : Int} {t u : Tok} {Q : Value → Shared → Prop} (hh : HOk A) (h : ∀ h' tk t', (∀ c o, s.heap.get? c = some o → h'.get? c = some o) → Q (.int (if b < a then b else a) t') { s with heap := h', toks := tk }) :
    wpAny (model prog w) A (call (.builtin "min") [.int a t, .int b u]) Q E s :=
  min_two_ints hh fun h' tk hk => by
    have := h h' tk (if b < a then u else t) hk
    split <;> simp_all
end
end Mine
end

section
open PySem PySem.W PyProof.Rows PySem.SeqAt PySem.MeetsSeq PySem.MeetsSeq2 PySem.MeetsSeq3
set_option maxRecDepth 100000
namespace Mine

/-! ## 8. What a loop draws from -/

def isName : PySem.Expr → Bool
  | .Name .. => true
  | _ => false
def isTuple : PySem.Expr → Bool
  | .Tuple .. => true
  | _ => false

/-- an iterator that gives the data ds, one by one -/
structure It (prog : Program) (w : World) (A : Around) (target : PySem.Expr) (I : Addr) (fp wr : List Addr) (ds : List D) (Src : Heap → (Addr → Prop) → Prop) (St : Nat → Heap → Prop) : Prop where
  sub : ∀ b ∈ wr, b ∈ fp
  frame : ∀ i h h', St i h → (∀ b ∈ fp, ∀ o, h.get? b = some o → h'.get? b = some o) → St i h'
  obj : ∀ i h, St i h → ∀ b ∈ fp, ∃ o, h.get? b = some o ∧ (∀ es k, o.data ≠ .dict es k) ∧ ∀ u, o.data ≠ .cell u
  src : ∀ h h' S S', On h h' S S' → Src h S → Src h' S'
  item : ∀ i (s : Shared) (S : Addr → Prop) (d : D) (Q : Option Value → Shared → Prop) (E : Value → Shared → Prop), ds[i]? = some d → St i s.heap → Src s.heap S → (∀ a, s.heap.get? a = none → S a) →
    (∀ v h' tk, (∀ b o, b ∉ wr → s.heap.get? b = some o → h'.get? b = some o) →
      (∀ (s₂ : Shared) (Q' : Unit → Shared → Prop) (E' : Value → Shared → Prop), s₂.heap = h' →
        (∀ h'', St (i + 1) h'' → Rep h'' S v d → (∀ b o, b ∉ wr → h'.get? b = some o → h''.get? b = some o) → Q' () { s₂ with heap := h'' }) → wpAny (model prog w) A (letOwnedTupleGo target (.ref I) v) Q' E' s₂) →
      Q (some v) { s with heap := h', toks := tk }) → wpAny (model prog w) A (pyNext (.ref I)) Q E s
  done : ∀ (s : Shared) (Q : Option Value → Shared → Prop) (E : Value → Shared → Prop), St ds.length s.heap →
    (∀ h' tk, (∀ b o, b ∉ wr → s.heap.get? b = some o → h'.get? b = some o) → Q none { s with heap := h', toks := tk }) → wpAny (model prog w) A (pyNext (.ref I)) Q E s
  self : ∀ (s : Shared) (Q : Value → Shared → Prop) (E : Value → Shared → Prop), St 0 s.heap → Q (.ref I) s → wpAny (model prog w) A (pyIter (.ref I)) Q E s

section
variable {prog : Program} {w : World} {A : Around} {E : Value → Shared → Prop} {s : Shared}

theorem letGo_name {target : PySem.Expr} (h : isName target = true) (it v : Value) : letOwnedTupleGo target it v = pure () := by
  cases target <;> first | rfl | (simp [isName] at h)

theorem letGo_listiter {target : PySem.Expr} {I l : Addr} {i : Nat} {v : Value} {Q : Unit → Shared → Prop} (ht : isName target = true ∨ isTuple target = true) (hit : s.heap.IsListIter I l i) (h : Q () s) :
    wpAny (model prog w) A (letOwnedTupleGo target (.ref I) v) Q E s := by
  rcases ht with ht | ht
  · exact wpAny_of_eq (letGo_name ht _ _) h
  · cases target with
    | Tuple elts k pos =>
      cases v with
      | ref T => exact wpAny_letOwnedTupleGo_listiter hit h
      | _ => exact wpAny_of_eq (by rfl) h
    | _ => simp [isTuple] at ht

theorem It.list {target : PySem.Expr} (ht : isName target = true ∨ isTuple target = true) (hh : HOk A) (I ax : Addr) (hne : ax ≠ I) {vs : List Value} {ds : List D} (hlen : vs.length = ds.length) :
    It prog w A target I [I, ax] [I] ds (fun h S => RepL h S vs ds) (fun i h => h.IsListIter I ax i ∧ h.IsList ax vs.toArray) where
  sub := fun b hb => by simp at hb; simp [hb]
  frame := fun i h h' st hk => (walks_list (prog := prog) (w := w) hh I ax hne vs.toArray).frame i h h' st hk
  obj := fun i h st b hb => by
    obtain ⟨⟨o, ho, _, hd⟩, ⟨o', ho', _, n, hd'⟩⟩ := st
    rcases List.mem_cons.mp hb with rfl | hb
    · exact ⟨o, ho, fun _ _ => by rw [hd]; simp, fun _ => by rw [hd]; simp⟩
    · rcases List.mem_cons.mp hb with rfl | hb
      · exact ⟨o', ho', fun _ _ => by rw [hd']; simp, fun _ => by rw [hd']; simp⟩
      · cases hb
  src := fun h h' S S' on r => r.on on
  item := fun i s S d Q E hd st hs hS hQ => by
    obtain ⟨v, hv, rv⟩ := hs.get hd
    refine wpAny_pyNext_list_item st.1 st.2 (x := v) (by simpa using hv) fun h' hit' hs' => ?_
    refine hQ v h' s.toks (fun b o hb e => hs'.extBut b o (fun z => hb (by simp [z])) e) fun s₂ Q' E' e hQ' => ?_
    subst e
    refine letGo_listiter ht hit' (hQ' _ ⟨hit', st.2.extBut hs'.extBut hne⟩ (rv.on fun a ha o ho ⟨xs, n, hx⟩ => ?_) fun _ _ _ e => e)
    have hne' : a ≠ I := fun z => by subst z; obtain ⟨o', ho', _, hd'⟩ := st.1; rw [ho] at ho'; cases ho'; rw [hx] at hd'; cases hd'
    exact ⟨ha, o.slots, (hs'.2 a hne').trans ho⟩
  done := fun s Q E st hQ => (walks_list (prog := prog) (w := w) hh I ax hne vs.toArray).done s Q E (by simpa [hlen] using st) hQ
  self := fun s Q E st hQ => (walks_list (prog := prog) (w := w) hh I ax hne vs.toArray).self 0 s Q E st hQ

theorem walks_range (hh : HOk A) (I : Addr) (a : Int) (n : Nat) : Walks prog w A I [I] [I] n (fun i v => ∃ t, v = .int (a + (i : Int)) t) (fun i h => IsRangeIter h I (a + (i : Nat) * 1) ((n : Int) - (i : Nat)) 1) :=
  PyProof.Rows.LCg.range_walks hh a n

theorem It.range {target : PySem.Expr} (ht : isName target = true) (hh : HOk A) (I : Addr) (a : Int) (n : Nat) :
    It prog w A target I [I] [I] ((List.range n).map fun (j : Nat) => D.int (a + j)) (fun _ _ => True) (fun i h => IsRangeIter h I (a + (i : Nat) * 1) ((n : Int) - (i : Nat)) 1) where
  sub := fun b hb => hb
  frame := fun i h h' st hk => (walks_range (prog := prog) (w := w) hh I a n).frame i h h' st hk
  obj := fun i h st b hb => by
    obtain rfl := List.mem_singleton.mp hb
    exact ⟨_, st, fun _ _ => by simp, fun _ => by simp⟩
  src := fun _ _ _ _ _ _ => trivial
  item := fun i s S d Q E hd st hs hS hQ => by
    rw [List.getElem?_map, Option.map_eq_some_iff] at hd
    obtain ⟨j, hj, rfl⟩ := hd
    have hi : i < n := by
      have := (List.getElem?_eq_some_iff.mp hj).1
      simpa using this
    have hij : j = i := by
      have := (List.getElem?_eq_some_iff.mp hj).2
      simpa using this.symm
    subst hij
    refine (walks_range (prog := prog) (w := w) hh I a n).item j s _ _ hi st fun v h' tk hP st' hk => ?_
    obtain ⟨t, rfl⟩ := hP
    refine hQ _ h' tk hk fun s₂ Q' E' e hQ' => ?_
    subst e
    exact wpAny_of_eq (letGo_name ht _ _) (hQ' _ st' (.int _ _) fun _ _ _ e => e)
  done := fun s Q E st hQ => (walks_range (prog := prog) (w := w) hh I a n).done s Q E (by simpa using st) hQ
  self := fun s Q E st hQ => (walks_range (prog := prog) (w := w) hh I a n).self 0 s Q E st hQ

theorem It.ofT {elts : List PySem.Expr} {k : Nat} {pos : Pos} {I : Addr} {fp wr : List Addr} {ds : List D} {Pt : Nat → Array Value → Prop} {St : Nat → Heap → Prop} {Mid : Nat → Addr → Heap → Prop} (Src : Heap → (Addr → Prop) → Prop)
    (W : WalksT prog w A I fp wr ds.length Pt St Mid)
    (obj : ∀ i h, St i h → ∀ b ∈ fp, ∃ o, h.get? b = some o ∧ (∀ es k, o.data ≠ .dict es k) ∧ ∀ u, o.data ≠ .cell u)
    (src : ∀ h h' S S', On h h' S S' → Src h S → Src h' S')
    (val : ∀ i h S vals d, ds[i]? = some d → Pt i vals → Src h S → ∃ es, d = .tup es ∧ RepL h (fun a => S a ∧ a ∉ wr) vals.toList es ∧ es.length ≤ LB) :
    It prog w A (.Tuple elts k pos) I fp wr ds Src St where
  sub := W.sub
  frame := W.frame
  obj := obj
  src := src
  item := fun i s S d Q E hd st hs hS hQ => by
    have hi : i < ds.length := (List.getElem?_eq_some_iff.mp hd).1
    refine W.item i s _ _ hi st fun T vals h' tk hP hT hIT hM hk => ?_
    obtain ⟨es, rfl, hr, hz⟩ := val i s.heap S vals d hd hP hs
    refine hQ _ h' tk hk fun s₂ Q' E' e hQ' => ?_
    subst e
    refine W.go elts k pos i T s₂ _ _ hM fun h'' st' hk' => hQ' h'' st' ?_ hk'
    have hTn : s.heap.get? T = none := by
      cases q : s.heap.get? T with
      | none => rfl
      | some o => exact absurd (Heap.lt_size q) (Nat.not_lt.mpr hT)
    obtain ⟨o, ho, hc, n, hd'⟩ := hIT
    refine .tup (vs := vals.toList) (hS T hTn) ⟨o, hk' T o (W.apart i T _ hM) ho, hc, n, by simpa using hd'⟩ hz (hr.on fun a ha o' ho' _ => ?_)
    exact ⟨ha.1, o'.slots, hk' a o' ha.2 (hk a o' ha.2 ho')⟩
  done := W.done
  self := fun s Q E st hQ => W.self 0 s Q E st hQ

theorem zipD_length : ∀ a b : List D, (zipD a b).length = min a.length b.length
  | [], _ => by simp [zipD]
  | _ :: _, [] => by simp [zipD]
  | x :: r, y :: q => by simp [zipD, zipD_length r q]
theorem zipD_get : ∀ {a b : List D} {i : Nat} {d : D}, (zipD a b)[i]? = some d → ∃ x y, a[i]? = some x ∧ b[i]? = some y ∧ d = .tup [x, y]
  | [], _, i, d, h => by simp [zipD] at h
  | _ :: _, [], i, d, h => by simp [zipD] at h
  | x :: r, y :: q, 0, d, h => by simp [zipD] at h; exact ⟨x, y, by simp, by simp, h.symm⟩
  | x :: r, y :: q, i + 1, d, h => by simpa using zipD_get (a := r) (b := q) (i := i) (by simpa [zipD] using h)
theorem enumD_length : ∀ (n : Nat) (a : List D), (enumD n a).length = a.length
  | _, [] => rfl
  | n, x :: r => by simp [enumD, enumD_length (n + 1) r]
theorem enumD_get : ∀ {n : Nat} {a : List D} {i : Nat} {d : D}, (enumD n a)[i]? = some d → ∃ x, a[i]? = some x ∧ d = .tup [.int ((n + i : Nat) : Int), x]
  | _, [], i, d, h => by simp [enumD] at h
  | n, x :: r, 0, d, h => by simp [enumD] at h; exact ⟨x, by simp, by simp [h]⟩
  | n, x :: r, i + 1, d, h => by
    obtain ⟨y, h1, h2⟩ := enumD_get (n := n + 1) (a := r) (i := i) (by simpa [enumD] using h)
    exact ⟨y, by simpa using h1, by rw [h2]; congr 4; omega⟩

theorem LB2 : 2 ≤ LB := by decide
theorem RepL.two {h : Heap} {S : Addr → Prop} {v u : Value} {d e : D} (a : Rep h S v d) (b : Rep h S u e) : RepL h S [v, u] [d, e] := .cons a (.cons b .nil)

theorem On.and {h h' : Heap} {S S' : Addr → Prop} {P : Addr → Prop} (on : On h h' S S') : On h h' (fun a => S a ∧ P a) (fun a => S' a ∧ P a) := fun a ha o ho hx => let ⟨h1, h2⟩ := on a ha.1 o ho hx; ⟨⟨h1, ha.2⟩, h2⟩

theorem It.zip {elts : List PySem.Expr} {k : Nat} {pos : Pos} (hh : HOk A) {z TI TO i1 i2 l1 l2 : Addr} (Da : ZipApart z TI TO i1 i2 l1 l2) {xs ys : List Value} {dx dy : List D} (hx : xs.length = dx.length) (hy : ys.length = dy.length) :
    It prog w A (.Tuple elts k pos) z [z, TI, TO, i1, i2, l1, l2] [z, TO, i1, i2] (zipD dx dy) (fun h S => RepL h (fun a => S a ∧ a ∉ [z, TO, i1, i2]) xs dx ∧ RepL h (fun a => S a ∧ a ∉ [z, TO, i1, i2]) ys dy)
      (fun i h => IsZip h z TI TO .none ∧ IsPair h TI (.ref i1) (.ref i2) ∧ (∃ a b, IsPair h TO a b) ∧ h.IsListIter i1 l1 i ∧ h.IsListIter i2 l2 i ∧ h.IsList l1 xs.toArray ∧ h.IsList l2 ys.toArray) := by
  have W := WalksT.zip2 (prog := prog) (w := w) (A := A) hh z TI TO i1 i2 l1 l2 Da xs.toArray ys.toArray
  have e : min xs.toArray.size ys.toArray.size = (zipD dx dy).length := by rw [zipD_length]; simp [hx, hy]
  rw [e] at W
  refine It.ofT _ W (fun i h st b hb => ?_) (fun h h' S S' on r => ⟨r.1.on on.and, r.2.on on.and⟩) fun i h S vals d hd hP hs => ?_
  · obtain ⟨a1, a2, ⟨p, q, a3⟩, ⟨o4, a4, _, d4⟩, ⟨o5, a5, _, d5⟩, ⟨o6, a6, _, n6, d6⟩, ⟨o7, a7, _, n7, d7⟩⟩ := st
    simp only [List.mem_cons, List.not_mem_nil, or_false] at hb
    rcases hb with rfl | rfl | rfl | rfl | rfl | rfl | rfl
    · exact ⟨_, a1, fun _ _ => by simp, fun _ => by simp⟩
    · exact ⟨_, a2, fun _ _ => by simp, fun _ => by simp⟩
    · exact ⟨_, a3, fun _ _ => by simp, fun _ => by simp⟩
    · exact ⟨_, a4, fun _ _ => by rw [d4]; simp, fun _ => by rw [d4]; simp⟩
    · exact ⟨_, a5, fun _ _ => by rw [d5]; simp, fun _ => by rw [d5]; simp⟩
    · exact ⟨_, a6, fun _ _ => by rw [d6]; simp, fun _ => by rw [d6]; simp⟩
    · exact ⟨_, a7, fun _ _ => by rw [d7]; simp, fun _ => by rw [d7]; simp⟩
  · obtain ⟨a, b, ha, hb, rfl⟩ := zipD_get hd
    obtain ⟨x, y, h1, h2, rfl⟩ := hP
    obtain ⟨x', h1', rx⟩ := hs.1.get ha
    obtain ⟨y', h2', ry⟩ := hs.2.get hb
    rw [List.getElem?_toArray] at h1 h2
    rw [h1] at h1'; cases h1'
    rw [h2] at h2'; cases h2'
    exact ⟨[a, b], rfl, .two rx ry, LB2⟩

theorem It.enum {elts : List PySem.Expr} {k : Nat} {pos : Pos} (hh : HOk A) {e it l : Addr} (hei : e ≠ it) (hle : l ≠ e) (hli : l ≠ it) {xs : List Value} {dx : List D} (hx : xs.length = dx.length) :
    It prog w A (.Tuple elts k pos) e [e, it, l] [e, it] (enumD 0 dx) (fun h S => RepL h (fun a => S a ∧ a ∉ [e, it]) xs dx)
      (fun i h => (∃ old, IsEnum h e it i old) ∧ h.IsListIter it l i ∧ h.IsList l xs.toArray) := by
  have W := WalksT.enumerate (prog := prog) (w := w) (A := A) hh e it l hei hle hli xs.toArray
  have q : xs.toArray.size = (enumD 0 dx).length := by rw [enumD_length]; simp [hx]
  rw [q] at W
  refine It.ofT _ W (fun i h st b hb => ?_) (fun h h' S S' on r => r.on on.and) fun i h S vals d hd hP hs => ?_
  · obtain ⟨⟨old, a1⟩, ⟨o4, a4, _, d4⟩, ⟨o6, a6, _, n6, d6⟩⟩ := st
    simp only [List.mem_cons, List.not_mem_nil, or_false] at hb
    rcases hb with rfl | rfl | rfl
    · exact ⟨_, a1, fun _ _ => by simp, fun _ => by simp⟩
    · exact ⟨_, a4, fun _ _ => by rw [d4]; simp, fun _ => by rw [d4]; simp⟩
    · exact ⟨_, a6, fun _ _ => by rw [d6]; simp, fun _ => by rw [d6]; simp⟩
  · obtain ⟨a, ha, rfl⟩ := enumD_get hd
    obtain ⟨t, x, h1, rfl⟩ := hP
    obtain ⟨x', h1', rx⟩ := hs.get ha
    rw [List.getElem?_toArray] at h1
    rw [h1] at h1'; cases h1'
    refine ⟨[.int ((0 + i : Nat) : Int), a], rfl, ?_, LB2⟩
    rw [show ((0 + i : Nat) : Int) = (i : Int) from by omega]
    exact .two (.int _ _) rx
end
end Mine
end

section
open PySem PySem.W PyProof.Rows PySem.SeqAt PySem.MeetsSeq PySem.MeetsSeq2 PySem.MeetsSeq3
set_option maxRecDepth 100000
namespace Mine

/-! ## 9. The checker: a term t stands for the tree e -/

def opE : Op2 → PySem.Operator
  | .add => .Add | .sub => .Sub | .mul => .Mult | .fdiv => .FloorDiv | .mod => .Mod | .pow => .Pow
def cmE : Cm → PySem.CmpOp
  | .eq => .Eq | .ne => .NotEq | .lt => .Lt | .le => .LtE | .gt => .Gt | .ge => .GtE | .inn => .In | .nin => .NotIn
def isOpE (o : Op2) (p : PySem.Operator) : Bool := match o, p with
  | .add, .Add | .sub, .Sub | .mul, .Mult | .fdiv, .FloorDiv | .mod, .Mod | .pow, .Pow => true
  | _, _ => false
theorem isOpE_eq {o : Op2} {p : PySem.Operator} (h : isOpE o p = true) : p = opE o := by cases o <;> cases p <;> first | rfl | (simp [isOpE] at h)
def isCmE (o : Cm) (p : PySem.CmpOp) : Bool := match o, p with
  | .eq, .Eq | .ne, .NotEq | .lt, .Lt | .le, .LtE | .gt, .Gt | .ge, .GtE | .inn, .In | .nin, .NotIn => true
  | _, _ => false
theorem isCmE_eq {o : Cm} {p : PySem.CmpOp} (h : isCmE o p = true) : p = cmE o := by cases o <;> cases p <;> first | rfl | (simp [isCmE] at h)
def biE : Bi → PySem.Str × Value
  | .len => (PySem.Str.ofString "len", .builtin "len") | .sum => (PySem.Str.ofString "sum", .builtin "sum") | .sorted => (PySem.Str.ofString "sorted", .builtin "sorted")
  | .int => (PySem.Str.ofString "int", .type "int") | .max2 => (PySem.Str.ofString "max", .builtin "max") | .min2 => (PySem.Str.ofString "min", .builtin "min")
  | .maxL => (PySem.Str.ofString "max", .builtin "max") | .minL => (PySem.Str.ofString "min", .builtin "min")
def isG (sc : Scope) (x : PySem.Str) : Bool := sc.names.lookup x == some .globalImplicit
def debugN : PySem.Str := PySem.Str.ofString "__debug__"
def clsdN : PySem.Str := PySem.Str.ofString "__classdict__"
def isSlice : PySem.Expr → Bool
  | .Slice .. => true
  | _ => false
def isSet : PySem.Expr → Bool
  | .Set .. => true
  | _ => false
def isStar : PySem.Expr → Bool
  | .Starred .. => true
  | _ => false
def keysOk (sc : Scope) : Bool := decide ((sc.names.map (·.1)).Nodup)

section
variable (tab fnm : List PySem.Str)

mutual
def chkP : Pat → Scope → PySem.Expr → Bool
  | .v i, sc, .Name x _ => tab[i]? == some x && isW sc x
  | .tup ps, sc, .Tuple es _ _ => chkPL ps sc es
  | _, _, _ => false
def chkPL : PatL → Scope → List PySem.Expr → Bool
  | .nil, _, [] => true
  | .cons p ps, sc, e :: es => !isStar e && chkP p sc e && chkPL ps sc es
  | _, _, _ => false
end

/-- the scope of a comprehension within sc, whose targets are the names of vs -/
def scOk (sc isc : Scope) (vs : List Nat) : Bool :=
  isc.kind == .function && keysOk isc && (isc.names.all fun xk => match xk.2 with
    | .local => xk.1 == PySem.Str.ofString ".0" || vs.any fun i => tab[i]? == some xk.1
    | .cell => vs.any fun i => tab[i]? == some xk.1
    | .free => (sc.names.lookup xk.1 == some .cell || sc.names.lookup xk.1 == some .free)
    | .globalImplicit => true
    | _ => false) && !tab.contains (PySem.Str.ofString ".0")

mutual
def chk : T → Scope → PySem.Expr → Bool
  | .k c, _, .Constant d _ _ => match c, d with
    | .non, .none => true
    | .tru, .bool b => b
    | .fls, .bool b => !b
    | .int i, .int j => i == j
    | .str x, .str y => x == y
    | _, _ => false
  | .v i, sc, .Name x _ => tab[i]? == some x && isV sc x && x != debugN && x != clsdN
  | .op o a b, sc, .BinOp l p r _ => isOpE o p && chk a sc l && chk b sc r
  | .neg a, sc, .UnaryOp .USub x _ => chk a sc x
  | .cmp o a b, sc, .Compare l [p] [r] _ => isCmE o p && chk a sc l && chk b sc r && !isSet r
  | .isn yes a, sc, .Compare l [p] [.Constant .none _ _] _ => (match p with | .Is => yes | .IsNot => !yes | _ => false) && chk a sc l
  | .bop isAnd l, sc, .BoolOp p es _ => (match p with | .And => isAnd | .Or => !isAnd) && chkL l sc es
  | .not a, sc, .UnaryOp .Not x _ => chk a sc x
  | .ite c a b, sc, .IfExp t x y _ => chk c sc t && chk a sc x && chk b sc y
  | .list l, sc, .List es _ => chkL l sc es
  | .rep a n, sc, .BinOp (.List [x] _) .Mult r _ => chk a sc x && chk n sc r
  | .tup l, sc, .Tuple es _ _ => chkL l sc es
  | .idx a i, sc, .Subscript x y _ => !isSlice y && chk a sc x && chk i sc y
  | .sl a lo hi, sc, .Subscript x (.Slice l u none _) _ => chk a sc x && chkO lo sc l && chkO hi sc u
  | .rev a, sc, .Subscript x (.Slice none none (some (.UnaryOp .USub (.Constant (.int 1) _ _) _)) _) _ => chk a sc x
  | .call f l, sc, .Call (.Name x _) es [] _ => fnm[f]? == some x && isG sc x && x != debugN && !es.isEmpty && chkL l sc es
  | .bi b l, sc, .Call (.Name x _) es [] _ => x == (biE b).1 && isG sc x && !es.isEmpty && chkL l sc es
  | .comp elt g, sc, .ListComp e gens isc _ => scOk tab sc isc g.vars && decide g.vars.Nodup && chk elt isc e && (match g, gens with
    | .cons p s c g', ⟨target, iter, ifs, a⟩ :: gs => a == 0 && chkP tab p isc target && chkSr s sc target iter && chkL c isc ifs && chkG g' isc gs
    | _, _ => false)
  | _, _, _ => false
def chkL : TL → Scope → List PySem.Expr → Bool
  | .nil, _, [] => true
  | .cons a l, sc, e :: es => !isStar e && chk a sc e && chkL l sc es
  | _, _, _ => false
def chkO : TO → Scope → Option PySem.Expr → Bool
  | .none, _, none => true
  | .some a, sc, some e => chk a sc e
  | _, _, _ => false
def chkSr : Sr → Scope → PySem.Expr → PySem.Expr → Bool
  | .t a, sc, target, e => (isName target || isTuple target) && !isSet e && chk a sc e
  | .range1 a, sc, target, .Call (.Name x _) [e] [] _ => isName target && x == PySem.Str.ofString "range" && isG sc x && !isStar e && chk a sc e
  | .range2 a b, sc, target, .Call (.Name x _) [e, e'] [] _ => isName target && x == PySem.Str.ofString "range" && isG sc x && !isStar e && !isStar e' && chk a sc e && chk b sc e'
  | .zip a b, sc, target, .Call (.Name x _) [e, e'] [] _ => isTuple target && x == PySem.Str.ofString "zip" && isG sc x && !isStar e && !isStar e' && chk a sc e && chk b sc e'
  | .enum a, sc, target, .Call (.Name x _) [e] [] _ => isTuple target && x == PySem.Str.ofString "enumerate" && isG sc x && !isStar e && chk a sc e
  | _, _, _, _ => false
def chkG : GL → Scope → List PySem.Comprehension → Bool
  | .nil, _, [] => true
  | .cons p s c g, sc, ⟨target, iter, ifs, a⟩ :: gs => a == 0 && chkP tab p sc target && chkSr s sc target iter && chkL c sc ifs && chkG g sc gs
  | _, _, _ => false
end
end
end Mine
end

section
open PySem PySem.W PyProof.Rows PySem.SeqAt PySem.MeetsSeq PySem.MeetsSeq2 PySem.MeetsSeq3
set_option maxRecDepth 100000
namespace Mine

/-! ## 10. Soundness of terms -/

def RepB (bw : Bool) (h : Heap) (S : Addr → Prop) (v : Value) (d : D) : Prop :=
  Rep h S v d ∨ (bw = true ∧ ∃ l vs ds, v = .ref l ∧ d = .list ds ∧ h.IsList l vs.toArray ∧ ds.length ≤ LB ∧ RepL h S vs ds)
theorem RepB.plain {h : Heap} {S : Addr → Prop} {v : Value} {d : D} (r : RepB false h S v d) : Rep h S v d := r.elim id fun x => by cases x.1
theorem RepB.any {bw : Bool} {h : Heap} {S : Addr → Prop} {v : Value} {d : D} (r : RepB bw h S v d) : Rep h (fun _ => True) v d := by
  rcases r with r | ⟨_, l, vs, ds, rfl, rfl, hl, hz, hr⟩
  · exact r.any
  · exact .list trivial hl hz hr.any
theorem RepB.ext {bw : Bool} {h h' : Heap} {S : Addr → Prop} {v : Value} {d : D} (r : RepB bw h S v d) (x : Ext h h') : RepB bw h' S v d := by
  rcases r with r | ⟨b, l, vs, ds, e1, e2, hl, hz, hr⟩
  · exact .inl (r.ext x)
  · exact .inr ⟨b, l, vs, ds, e1, e2, x.isList hl, hz, hr.ext x⟩

def srcE : List (PySem.Str × Value) := [(PySem.Str.ofString "range", .type "range"), (PySem.Str.ofString "zip", .type "zip"), (PySem.Str.ofString "enumerate", .type "enumerate")]

structure Gl (C : Cx) (fnm : List PySem.Str) (fa : Nat → Addr) (mg mb : PySem.Str → Option Value) : Prop where
  g : C.base.Ns mainGlobals mg
  b : C.base.Ns builtinsNs mb
  bi : ∀ x : Bi, mg (biE x).1 = none ∧ mb (biE x).1 = some (biE x).2
  src : ∀ x ∈ srcE, mg x.1 = none ∧ mb x.1 = some x.2
  fn : ∀ f x, fnm[f]? = some x → mg x = some (.ref (fa f)) ∧ ∃ o fd, C.base.get? (fa f) = some o ∧ o.data = .func fd

structure AOk (A : Around) : Prop where
  hh : HOk A
  units : A.units + 50 < cLine

structure CallOk (prog : Program) (w : World) (A : Around) (C : Cx) (fa : Nat → Addr) (F : Fn) : Prop where
  call : ∀ f ds d, F f ds = some (.ok d) → ∀ (s : Shared) (vs : List Value) (S : Addr → Prop), RepL s.heap S vs ds → (∀ a, s.heap.get? a = none → S a) → (∀ b o, C.base.get? b = some o → s.heap.get? b = some o) →
    (∀ a, C.P a → ∃ o es n, s.heap.get? a = some o ∧ o.data = .dict es n) → ∀ (Q E : Value → Shared → Prop), (∀ v s', Le C.base C.P s s' → Rep s'.heap S v d → Q v s') → wpAny (model prog w) A (call (.ref (fa f)) vs) Q E s

section
variable (prog : Program) (w : World) (A : Around) (C : Cx) (fnm : List PySem.Str) (F : Fn)

def SoT (t : T) : Prop := ∀ {bw : Bool} {σ : Sg} {d : D} {sc : Scope} {e : PySem.Expr} {h₀ : Heap} {env : Env} {vals : Nat → Value} {s : Shared} {Q E : Value → Shared → Prop},
  ev C.own F bw t σ = some d → chk C.tab fnm t sc e = true → StV C sc h₀ env σ vals s.heap →
  (∀ v s', Le C.base C.P s s' → RepB bw s'.heap (Sx C σ vals) v d → (t.fresh = true → ∀ a, v = .ref a → s.heap.get? a = none) → Q v s') → wpAny (model prog w) A (eval e env) Q E s
def SoB (t : T) : Prop := ∀ {σ : Sg} {b : Bool} {sc : Scope} {e : PySem.Expr} {h₀ : Heap} {env : Env} {vals : Nat → Value} {s : Shared} {Q : Bool → Shared → Prop} {E : Value → Shared → Prop},
  ev C.own F false t σ = some (.bool b) → chk C.tab fnm t sc e = true → StV C sc h₀ env σ vals s.heap →
  (∀ s', Le C.base C.P s s' → Q b s') → wpAny (model prog w) A (isTrue e env (eval e env)) Q E s
def SoL (l : TL) : Prop := ∀ {bw : Bool} {σ : Sg} {ds : List D} {sc : Scope} {es : List PySem.Expr} {pos : Pos} {h₀ : Heap} {env : Env} {vals : Nat → Value} {s : Shared} {Q : List Value → Shared → Prop} {E : Value → Shared → Prop},
  evL C.own F bw l σ = some ds → chkL C.tab fnm l sc es = true → StV C sc h₀ env σ vals s.heap →
  (∀ vs s', Le C.base C.P s s' → vs.length = ds.length → (∀ S, (∀ a, Sx C σ vals a → S a) → bw = false → RepL s'.heap S vs ds) → RepL s'.heap (fun _ => True) vs ds → Q vs s') → wpAny (model prog w) A (spliced (backTo pos (starEach es env))) Q E s
end

section
variable {prog : Program} {w : World} {A : Around} {C : Cx} {fnm : List PySem.Str} {F : Fn} {fa : Nat → Addr} {mg mb : PySem.Str → Option Value}

/-- where the value's tree has no other truth than the value's -/
theorem so_truth {e : PySem.Expr} {env : Env} {b : Bool} {s : Shared} {Q : Bool → Shared → Prop} {E : Value → Shared → Prop}
    (he : ∀ x, isTrue e env x = (do let v ← x; standAt e.pos; holding [v] (truthy v)))
    (h : wpAny (model prog w) A (eval e env) (fun v s' => v = .bool b ∧ Q b s') E s) : wpAny (model prog w) A (isTrue e env (eval e env)) Q E s := by
  rw [he]
  refine wpAny_bind (wpAny_mono h (fun v s' hv => ?_) fun _ _ x => x)
  obtain ⟨rfl, hq⟩ := hv
  exact wpAny_bind (wpAny_standAt (wpAny_holding (wpAny_truthy_bool hq)))

theorem so_k (c : K) : SoT prog w A C fnm F (.k c) := by
  intro bw σ d sc e h₀ env vals s Q E he hc V h
  cases e with
  | Constant x k pos =>
    simp only [ev, Option.some.injEq] at he
    subst he
    cases c with
    | non => cases x <;> simp [chk] at hc; exact fun _ _ _ => h _ _ (.refl ..) (.inl .non) (by simp [T.fresh])
    | tru =>
      cases x <;> simp [chk] at hc
      subst hc
      exact fun _ _ _ => h _ _ (.refl ..) (.inl (.bool true)) (by simp [T.fresh])
    | fls =>
      cases x <;> simp [chk] at hc
      subst hc
      exact fun _ _ _ => h _ _ (.refl ..) (.inl (.bool false)) (by simp [T.fresh])
    | int i =>
      cases x <;> simp [chk] at hc
      subst hc
      exact wpAny_Constant_int (h _ _ (.tok ..) (.inl (.int _ _)) (by simp [T.fresh]))
    | str y =>
      cases x <;> simp [chk] at hc
      subst hc
      exact Calls.Constant_str (h _ _ (.tok ..) (.inl (.str _ _)) (by simp [T.fresh]))
  | _ => simp [chk] at hc

theorem ne_beq {x y : PySem.Str} (h : (x != y) = true) : (x == y) = false := by
  simpa [bne] using h

theorem so_v (i : Nat) : SoT prog w A C fnm F (.v i) := by
  intro bw σ d sc e h₀ env vals s Q E he hc V h
  cases e with
  | Name x pos =>
    simp only [chk, Bool.and_eq_true, beq_iff_eq] at hc
    obtain ⟨⟨⟨h1, h2⟩, h3⟩, h4⟩ := hc
    have go : ∀ hσ : σ i = some d, RepB bw s.heap (Sx C σ vals) (vals i) d → wpAny (model prog w) A (eval (.Name x pos) env) Q E s := fun hσ hr =>
      wpAny_Name (load_ok V.fr (V.val i d x hσ h1 h2) (ne_beq h4) (h _ _ (.refl ..) hr (by simp [T.fresh]))) (ne_beq h3)
    unfold ev at he
    split at he
    · cases he
    · rename_i ho
      by_cases hown : C.own i = true
      · obtain ⟨a, ds, vs, rfl, e2, hl, hr, hz, _⟩ := V.owned i d he hown
        have hb : bw = true := by
          cases bw with
          | true => rfl
          | false => simp [hown] at ho
        exact go he (.inr ⟨hb, a, vs, ds, e2, rfl, hl, hz, hr⟩)
      · exact go he (.inl (V.rep i d he (by simpa using hown)))
  | _ => simp [chk] at hc

theorem so_op {o : Op2} {a b : T} (ha : SoT prog w A C fnm F a) (hb : SoT prog w A C fnm F b) : SoT prog w A C fnm F (.op o a b) := by
  intro bw σ d sc e h₀ env vals s Q E he hc V h
  cases e with
  | BinOp l p r pos =>
    simp only [chk, Bool.and_eq_true] at hc
    obtain ⟨⟨h1, h2⟩, h3⟩ := hc
    obtain rfl := isOpE_eq h1
    simp only [ev, Option.bind_eq_some_iff] at he
    obtain ⟨x, hx, y, hy, he⟩ := he
    refine wpAny_BinOp (ha hx h2 V fun v s₁ L₁ r₁ _ => hb hy h3 (V.Le L₁) fun u s₂ L₂ r₂ _ => ?_)
    have r₁ := r₁.plain.ext L₂.ext
    have r₂ := r₂.plain
    have L := L₁.trans L₂
    have int : ∀ {k : Int} {t : Tok}, d = .int k → Q (.int k t) { s₂ with toks := s₂.toks + 1 } := fun {k t} hd => by
      subst hd
      exact h _ _ (L.trans (.tok ..)) (.inl (.int _ _)) (fun _ a e => by cases e)
    unfold op2D at he
    split at he
    · obtain ⟨t, rfl⟩ := r₁.int_inv; obtain ⟨t', rfl⟩ := r₂.int_inv; cases he; exact PySem.P.add_int (int rfl)
    · obtain ⟨t, rfl⟩ := r₁.int_inv; obtain ⟨t', rfl⟩ := r₂.int_inv; cases he; exact PySem.P.sub_int (int rfl)
    · obtain ⟨t, rfl⟩ := r₁.int_inv; obtain ⟨t', rfl⟩ := r₂.int_inv
      split at he
      · rename_i hs; cases he; exact p_mul hs (int rfl)
      · cases he
    · obtain ⟨t, rfl⟩ := r₁.int_inv; obtain ⟨t', rfl⟩ := r₂.int_inv
      split at he
      · rename_i hs; cases he; exact p_fdiv hs.1 hs.2 (int rfl)
      · cases he
    · obtain ⟨t, rfl⟩ := r₁.int_inv; obtain ⟨t', rfl⟩ := r₂.int_inv
      split at he
      · rename_i hs; cases he; exact p_mod hs (int rfl)
      · cases he
    · obtain ⟨t, rfl⟩ := r₁.int_inv; obtain ⟨t', rfl⟩ := r₂.int_inv
      split at he
      · rename_i hs; cases he; exact p_pow hs.1 hs.2.1 hs.2.2 (int rfl)
      · cases he
    · obtain ⟨la, vs, rfl, _, hl, _, hr⟩ := r₁.list_inv
      obtain ⟨lb, ws, rfl, _, hm, _, hq⟩ := r₂.list_inv
      split at he
      · rename_i hs
        cases he
        refine p_addList hl hm (by rw [hr.length, hq.length]; exact hs) ?_
        have Lp := L.trans (Le.push C.base C.P s₂ (newL (vs ++ ws)))
        have hn : s₂.heap.get? s₂.heap.objs.size = none := by
          cases q : s₂.heap.get? s₂.heap.objs.size with
          | none => rfl
          | some o => exact absurd (Heap.lt_size q) (Nat.lt_irrefl _)
        refine h _ _ Lp (.inl (.list ((V.Le L).new hn) ⟨_, Heap.get?_push_size _ rfl, rfl, _, rfl⟩ (by simpa using hs) ?_)) fun _ a e => ?_
        · exact (hr.append hq).ext (.of fun _ _ e => Heap.get?_push_of_some _ e)
        · cases e; exact L.ext.none hn
      · cases he
    · cases he
  | _ => simp [chk] at hc

theorem so_neg {a : T} (ha : SoT prog w A C fnm F a) : SoT prog w A C fnm F (.neg a) := by
  intro bw σ d sc e h₀ env vals s Q E he hc V h
  cases e with
  | UnaryOp op x pos =>
    cases op with
    | USub =>
      simp only [chk] at hc
      simp only [ev, Option.bind_eq_some_iff] at he
      obtain ⟨x, hx, he⟩ := he
      refine wpAny_UnaryOp (ha hx hc V fun v s₁ L₁ r₁ _ => ?_)
      cases x <;> simp [negD] at he
      subst he
      obtain ⟨t, rfl⟩ := r₁.plain.int_inv
      exact PySem.P.neg_int (h _ _ (L₁.trans (.tok ..)) (.inl (.int _ _)) (by simp [T.fresh]))
    | _ => simp [chk] at hc
  | _ => simp [chk] at hc

theorem noMarks {op : PySem.CmpOp} {r : PySem.Expr} (h : isSet r = false) : behindInMarks op r = false := by
  cases r <;> first | rfl | (simp [isSet] at h)

theorem so_cmp {o : Cm} {a b : T} (hu : A.units + 50 < cLine) (ha : SoT prog w A C fnm F a) (hb : SoT prog w A C fnm F b) : SoT prog w A C fnm F (.cmp o a b) := by
  intro bw σ d sc e h₀ env vals s Q E he hc V h
  cases e with
  | Compare l ops rs pos =>
    match ops, rs with
    | [p], [r] =>
      simp only [chk, Bool.and_eq_true, Bool.not_eq_true'] at hc
      obtain ⟨⟨⟨h1, h2⟩, h3⟩, h4⟩ := hc
      obtain rfl := isCmE_eq h1
      simp only [ev, Option.bind_eq_some_iff, Option.map_eq_some_iff] at he
      obtain ⟨x, hx, y, hy, q, hq, rfl⟩ := he
      refine wpAny_Compare1 (ha hx h2 V fun v s₁ L₁ r₁ _ => hb hy h3 (V.Le L₁) fun u s₂ L₂ r₂ _ => ?_) (noMarks h4)
      refine p_cmp (o := o) (by cases o <;> rfl) hq (r₁.any.ext L₂.ext) r₂.any (by omega) ?_
      exact h _ _ (L₁.trans L₂) (.inl (.bool _)) (by simp [T.fresh])
    | [], _ => simp [chk] at hc
    | [_], [] => simp [chk] at hc
    | _ :: _ :: _, _ => simp [chk] at hc
    | [_], _ :: _ :: _ => simp [chk] at hc
  | _ => simp [chk] at hc
theorem sb_cmp {o : Cm} {a b : T} (hu : A.units + 50 < cLine) (ha : SoT prog w A C fnm F a) (hb : SoT prog w A C fnm F b) : SoB prog w A C fnm F (.cmp o a b) := by
  intro σ q sc e h₀ env vals s Q E he hc V h
  cases e with
  | Compare l ops rs pos =>
    match ops, rs with
    | [p], [r] =>
      simp only [chk, Bool.and_eq_true, Bool.not_eq_true'] at hc
      obtain ⟨⟨⟨h1, h2⟩, h3⟩, h4⟩ := hc
      obtain rfl := isCmE_eq h1
      simp only [ev, Option.bind_eq_some_iff, Option.map_eq_some_iff] at he
      obtain ⟨x, hx, y, hy, q', hq, he⟩ := he
      cases he
      refine wpAny_isTrue_Compare1 (ha hx h2 V fun v s₁ L₁ r₁ _ => hb hy h3 (V.Le L₁) fun u s₂ L₂ r₂ _ => ?_) (noMarks h4)
      refine p_cmp (o := o) (by cases o <;> rfl) hq (r₁.any.ext L₂.ext) r₂.any (by omega) ?_
      exact wpAny_truthy_bool (h _ (L₁.trans L₂))
    | [], _ => simp [chk] at hc
    | [_], [] => simp [chk] at hc
    | _ :: _ :: _, _ => simp [chk] at hc
    | [_], _ :: _ :: _ => simp [chk] at hc
  | _ => simp [chk] at hc
end
end Mine
end

section
open PySem PySem.W PyProof.Rows PySem.SeqAt PySem.MeetsSeq PySem.MeetsSeq2 PySem.MeetsSeq3
set_option maxRecDepth 100000
namespace Mine

section
variable {prog : Program} {w : World} {A : Around} {C : Cx} {fnm : List PySem.Str} {F : Fn} {fa : Nat → Addr} {mg mb : PySem.Str → Option Value}

theorem rep_ne_none {h : Heap} {S : Addr → Prop} {v : Value} {d : D} (r : Rep h S v d) : (v == Value.none) = isNon d ∧ plainIs v .none = true := by
  cases r <;> exact ⟨by first | rfl | (simp [isNon]; done), rfl⟩

theorem is_none_ok {p : PySem.CmpOp} {yes : Bool} {v : Value} {d : D} {S : Addr → Prop} {s : Shared} {Q E : Value → Shared → Prop} (hp : (match p with | .Is => yes | .IsNot => !yes | _ => false) = true) (r : Rep s.heap S v d)
    (h : Q (.bool (isNon d == yes)) s) : wpAny (model prog w) A (compareOp p v .none) Q E s := by
  obtain ⟨e1, e2⟩ := rep_ne_none r
  cases p <;> simp at hp
  · subst hp; refine wpAny_is_plain e2 ?_; rw [e1]; simpa using h
  · subst hp; refine wpAny_isNot_plain e2 ?_; rw [e1]; simpa using h

theorem so_isn {yes : Bool} {a : T} (ha : SoT prog w A C fnm F a) : SoT prog w A C fnm F (.isn yes a) := by
  intro bw σ d sc e h₀ env vals s Q E he hc V h
  cases e with
  | Compare l ops rs pos =>
    match ops, rs with
    | [p], [r] =>
      cases r with
      | Constant c k q =>
        cases c with
        | none =>
          simp only [chk, Bool.and_eq_true] at hc
          obtain ⟨h1, h2⟩ := hc
          simp only [ev, Option.map_eq_some_iff] at he
          obtain ⟨x, hx, rfl⟩ := he
          refine wpAny_Compare1 (ha hx h2 V fun v s₁ L₁ r₁ _ => ?_) rfl
          show wpAny _ _ (pure Value.none) _ _ _
          exact wpAny_pure (is_none_ok h1 r₁.any (h _ _ L₁ (.inl (.bool _)) (by simp [T.fresh])))
        | _ => simp [chk] at hc
      | _ => simp [chk] at hc
    | [p], [] => simp [chk] at hc
    | [p], _ :: _ :: _ => simp [chk] at hc
    | [], _ => simp [chk] at hc
    | _ :: _ :: _, _ => simp [chk] at hc
  | _ => simp [chk] at hc
theorem sb_isn {yes : Bool} {a : T} (ha : SoT prog w A C fnm F a) : SoB prog w A C fnm F (.isn yes a) := by
  intro σ q sc e h₀ env vals s Q E he hc V h
  cases e with
  | Compare l ops rs pos =>
    match ops, rs with
    | [p], [r] =>
      cases r with
      | Constant c k q =>
        cases c with
        | none =>
          simp only [chk, Bool.and_eq_true] at hc
          obtain ⟨h1, h2⟩ := hc
          simp only [ev, Option.map_eq_some_iff] at he
          obtain ⟨x, hx, he⟩ := he
          cases he
          refine wpAny_isTrue_Compare1 (ha hx h2 V fun v s₁ L₁ r₁ _ => ?_) rfl
          show wpAny _ _ (pure Value.none) _ _ _
          exact wpAny_pure (is_none_ok h1 r₁.any (wpAny_truthy_bool (h _ L₁)))
        | _ => simp [chk] at hc
      | _ => simp [chk] at hc
    | [p], [] => simp [chk] at hc
    | [p], _ :: _ :: _ => simp [chk] at hc
    | [], _ => simp [chk] at hc
    | _ :: _ :: _, _ => simp [chk] at hc
  | _ => simp [chk] at hc

theorem boolD_some {d : D} {b : Bool} (h : boolD d = some b) : d = .bool b := by
  cases d <;> simp [boolD] at h
  subst h; rfl
theorem intD_some {d : D} {i : Int} (h : intD d = some i) : d = .int i := by
  cases d <;> simp [intD] at h
  subst h; rfl
theorem listD_some {d : D} {xs : List D} (h : listD d = some xs) : d = .list xs := by
  cases d <;> simp [listD] at h
  subst h; rfl

theorem so_not {a : T} (ha : SoT prog w A C fnm F a) : SoT prog w A C fnm F (.not a) := by
  intro bw σ d sc e h₀ env vals s Q E he hc V h
  cases e with
  | UnaryOp op x pos =>
    cases op with
    | Not =>
      simp only [chk] at hc
      simp only [ev, Option.bind_eq_some_iff, Option.map_eq_some_iff] at he
      obtain ⟨x, hx, b, hb, rfl⟩ := he
      obtain rfl := boolD_some hb
      refine wpAny_UnaryOp (ha hx hc V fun v s₁ L₁ r₁ _ => ?_)
      obtain rfl := r₁.plain.bool_inv
      exact not_of (wpAny_truthy_bool (h _ _ L₁ (.inl (.bool _)) (by simp [T.fresh])))
    | _ => simp [chk] at hc
  | _ => simp [chk] at hc
theorem sb_not {a : T} (ha : SoB prog w A C fnm F a) : SoB prog w A C fnm F (.not a) := by
  intro σ q sc e h₀ env vals s Q E he hc V h
  cases e with
  | UnaryOp op x pos =>
    cases op with
    | Not =>
      simp only [chk] at hc
      simp only [ev, Option.bind_eq_some_iff, Option.map_eq_some_iff] at he
      obtain ⟨x, hx, b, hb, he⟩ := he
      obtain rfl := boolD_some hb
      cases he
      exact wpAny_isTrue_Not (ha hx hc V fun s₁ L₁ => h _ L₁)
    | _ => simp [chk] at hc
  | _ => simp [chk] at hc

theorem so_ite {c a b : T} (hc' : SoB prog w A C fnm F c) (ha : SoT prog w A C fnm F a) (hb : SoT prog w A C fnm F b) : SoT prog w A C fnm F (.ite c a b) := by
  intro bw σ d sc e h₀ env vals s Q E he hc V h
  cases e with
  | IfExp t x y pos =>
    simp only [chk, Bool.and_eq_true] at hc
    obtain ⟨⟨h1, h2⟩, h3⟩ := hc
    simp only [ev, Option.bind_eq_some_iff] at he
    obtain ⟨q, hq, b, hb', he⟩ := he
    obtain rfl := boolD_some hb'
    refine wpAny_IfExp (hc' hq h1 V fun s₁ L₁ => ?_)
    cases b with
    | true =>
      simp only [if_true] at he ⊢
      exact ha he h2 (V.Le L₁) fun v s₂ L₂ r _ => h v s₂ (L₁.trans L₂) (.inl r.plain) (by simp [T.fresh])
    | false =>
      simp only [Bool.false_eq_true, if_false] at he ⊢
      exact hb he h3 (V.Le L₁) fun v s₂ L₂ r _ => h v s₂ (L₁.trans L₂) (.inl r.plain) (by simp [T.fresh])
  | _ => simp [chk] at hc
theorem sb_ite {c a b : T} (hc' : SoB prog w A C fnm F c) (ha : SoB prog w A C fnm F a) (hb : SoB prog w A C fnm F b) : SoB prog w A C fnm F (.ite c a b) := by
  intro σ q sc e h₀ env vals s Q E he hc V h
  cases e with
  | IfExp t x y pos =>
    simp only [chk, Bool.and_eq_true] at hc
    obtain ⟨⟨h1, h2⟩, h3⟩ := hc
    simp only [ev, Option.bind_eq_some_iff] at he
    obtain ⟨q, hq, b, hb', he⟩ := he
    obtain rfl := boolD_some hb'
    rw [arm_isTrue_IfExp]
    refine wpAny_bind (hc' hq h1 V fun s₁ L₁ => ?_)
    cases b with
    | true =>
      simp only [if_true] at he ⊢
      exact ha he h2 (V.Le L₁) fun s₂ L₂ => h s₂ (L₁.trans L₂)
    | false =>
      simp only [Bool.false_eq_true, if_false] at he ⊢
      exact hb he h3 (V.Le L₁) fun s₂ L₂ => h s₂ (L₁.trans L₂)
  | _ => simp [chk] at hc

/-! and, or: over a list -/
variable (prog w A C fnm F) in
def SoBo (l : TL) : Prop := (∀ {isAnd : Bool} {σ : Sg} {b : Bool} {sc : Scope} {p : PySem.BoolOp} {es : List PySem.Expr} {pos : Pos} {h₀ : Heap} {env : Env} {vals : Nat → Value} {s : Shared} {Q E : Value → Shared → Prop},
  (match p with | .And => isAnd | .Or => !isAnd) = true → evBop C.own F isAnd l σ = some b → chkL C.tab fnm l sc es = true → StV C sc h₀ env σ vals s.heap →
  (∀ s', Le C.base C.P s s' → Q (.bool b) s') → wpAny (model prog w) A (boolOp pos p (evalEach es env)) Q E s) ∧
 (∀ {isAnd : Bool} {σ : Sg} {b : Bool} {sc : Scope} {p : PySem.BoolOp} {es : List PySem.Expr} {h₀ : Heap} {env : Env} {vals : Nat → Value} {s : Shared} {Q : Bool → Shared → Prop} {E : Value → Shared → Prop},
  (match p with | .And => isAnd | .Or => !isAnd) = true → evBop C.own F isAnd l σ = some b → chkL C.tab fnm l sc es = true → StV C sc h₀ env σ vals s.heap →
  (∀ s', Le C.base C.P s s' → Q b s') → wpAny (model prog w) A (allTrue p es env) Q E s)

theorem sbo_nil : SoBo prog w A C fnm F .nil := ⟨by intro _ _ _ _ _ _ _ _ _ _ _ _ _ _ he; simp [evBop] at he, by intro _ _ _ _ _ _ _ _ _ _ _ _ _ he; simp [evBop] at he⟩
theorem sbo_cons {a : T} {l : TL} (ha : SoT prog w A C fnm F a) (hb : SoB prog w A C fnm F a) (hl : SoBo prog w A C fnm F l) : SoBo prog w A C fnm F (.cons a l) := by
  refine ⟨?_, ?_⟩
  · intro isAnd σ b sc p es pos h₀ env vals s Q E hp he hc V h
    cases es with
    | nil => simp [chkL] at hc
    | cons e es =>
      simp only [chkL, Bool.and_eq_true] at hc
      obtain ⟨⟨_, h1⟩, h2⟩ := hc
      simp only [evBop, Option.bind_eq_some_iff] at he
      obtain ⟨x, hx, q, hq, he⟩ := he
      obtain rfl := boolD_some hq
      rw [arm_evalEach_cons]
      cases l with
      | nil =>
        cases es with
        | cons => simp [chkL] at h2
        | nil =>
          cases he
          exact ha hx h1 V fun v s₁ L₁ r _ => by obtain rfl := r.plain.bool_inv; exact h _ L₁
      | cons a' l' =>
        cases es with
        | nil => simp [chkL] at h2
        | cons e' es' =>
          rw [arm_evalEach_cons]
          show wpAny _ _ (do
            let v ← eval e env
            standAt pos
            let t ← holding [v] (truthy v)
            match p, t with
            | .And, false | .Or, true => pure v
            | _, _ => boolOp pos p (eval e' env :: evalEach es' env)) _ _ _
          refine wpAny_bind (ha hx h1 V fun v s₁ L₁ r _ => wpAny_bind (wpAny_standAt (wpAny_bind (wpAny_holding ?_))))
          obtain rfl := r.plain.bool_inv
          refine wpAny_truthy_bool ?_
          have next : (if (q == isAnd) = true then evBop C.own F isAnd (.cons a' l') σ else some q) = some b := he
          cases p <;> cases q <;> simp at hp <;> subst hp
          · simp at next; subst next; exact wpAny_pure (h _ L₁)
          · exact hl.1 (p := .And) (es := e' :: es') rfl (by simpa using next) h2 (V.Le L₁) fun s₂ L₂ => h _ (L₁.trans L₂)
          · exact hl.1 (p := .Or) (es := e' :: es') rfl (by simpa using next) h2 (V.Le L₁) fun s₂ L₂ => h _ (L₁.trans L₂)
          · simp at next; subst next; exact wpAny_pure (h _ L₁)
  · intro isAnd σ b sc p es h₀ env vals s Q E hp he hc V h
    cases es with
    | nil => simp [chkL] at hc
    | cons e es =>
      simp only [chkL, Bool.and_eq_true] at hc
      obtain ⟨⟨_, h1⟩, h2⟩ := hc
      simp only [evBop, Option.bind_eq_some_iff] at he
      obtain ⟨x, hx, q, hq, he⟩ := he
      obtain rfl := boolD_some hq
      show wpAny _ _ (do
        match p, ← isTrue e env (eval e env) with
        | .And, false => pure false
        | .Or, true => pure true
        | _, _ => allTrue p es env) _ _ _
      refine wpAny_bind (hb hx h1 V fun s₁ L₁ => ?_)
      cases l with
      | nil =>
        cases es with
        | cons => simp [chkL] at h2
        | nil =>
          cases he
          cases p <;> cases b
          · exact wpAny_pure (h _ L₁)
          · exact wpAny_pure (h _ L₁)
          · exact wpAny_pure (h _ L₁)
          · exact wpAny_pure (h _ L₁)
      | cons a' l' =>
        have next : (if (q == isAnd) = true then evBop C.own F isAnd (.cons a' l') σ else some q) = some b := he
        cases p <;> cases q <;> simp at hp <;> subst hp
        · simp at next; subst next; exact wpAny_pure (h _ L₁)
        · exact hl.2 (p := .And) rfl (by simpa using next) h2 (V.Le L₁) fun s₂ L₂ => h _ (L₁.trans L₂)
        · exact hl.2 (p := .Or) rfl (by simpa using next) h2 (V.Le L₁) fun s₂ L₂ => h _ (L₁.trans L₂)
        · simp at next; subst next; exact wpAny_pure (h _ L₁)

theorem so_bop {isAnd : Bool} {l : TL} (hl : SoBo prog w A C fnm F l) : SoT prog w A C fnm F (.bop isAnd l) := by
  intro bw σ d sc e h₀ env vals s Q E he hc V h
  cases e with
  | BoolOp p es pos =>
    simp only [chk, Bool.and_eq_true] at hc
    simp only [ev, Option.map_eq_some_iff] at he
    obtain ⟨b, hb, rfl⟩ := he
    rw [arm_eval_BoolOp]
    exact hl.1 hc.1 hb hc.2 V fun s' L => h _ _ L (.inl (.bool _)) (by simp [T.fresh])
  | _ => simp [chk] at hc
theorem sb_bop {isAnd : Bool} {l : TL} (hl : SoBo prog w A C fnm F l) : SoB prog w A C fnm F (.bop isAnd l) := by
  intro σ q sc e h₀ env vals s Q E he hc V h
  cases e with
  | BoolOp p es pos =>
    simp only [chk, Bool.and_eq_true] at hc
    simp only [ev, Option.map_eq_some_iff] at he
    obtain ⟨b, hb, he⟩ := he
    cases he
    rw [arm_isTrue_BoolOp]
    exact hl.2 hc.1 hb hc.2 V h
  | _ => simp [chk] at hc

/-! lists of terms -/
theorem star_cons {e : PySem.Expr} {es : List PySem.Expr} {env : Env} {pos : Pos} (h : isStar e = false) : backTo pos (starEach (e :: es) env) = (false, eval e env) :: backTo pos (starEach es env) := by
  cases e <;> first | rfl | (simp [isStar] at h)
theorem sl_nil : SoL prog w A C fnm F .nil := by
  intro bw σ ds sc es pos h₀ env vals s Q E he hc V h
  cases es with
  | nil =>
    simp only [evL, Option.some.injEq] at he
    subst he
    exact Calls.spliced_nil (h _ _ (.refl ..) rfl (fun _ _ _ => .nil) .nil)
  | cons => simp [chkL] at hc
theorem sl_cons {a : T} {l : TL} (ha : SoT prog w A C fnm F a) (hl : SoL prog w A C fnm F l) : SoL prog w A C fnm F (.cons a l) := by
  intro bw σ ds sc es pos h₀ env vals s Q E he hc V h
  cases es with
  | nil => simp [chkL] at hc
  | cons e es =>
    simp only [chkL, Bool.and_eq_true, Bool.not_eq_true'] at hc
    obtain ⟨⟨h0, h1⟩, h2⟩ := hc
    simp only [evL, Option.bind_eq_some_iff] at he
    obtain ⟨x, hx, xs, hxs, he⟩ := he
    cases he
    rw [star_cons h0]
    refine Calls.spliced_cons (ha hx h1 V fun v s₁ L₁ r _ => hl hxs h2 (V.Le L₁) fun vs s₂ L₂ hlen hS hT => ?_)
    refine h _ _ (L₁.trans L₂) (by simp [hlen]) (fun S hs hb => ?_) (.cons (r.any.ext L₂.ext) hT)
    subst hb
    exact .cons ((r.plain.mono hs).ext L₂.ext) (hS S hs rfl)

theorem fresh_size {h : Heap} : h.get? h.objs.size = none := by
  cases q : h.get? h.objs.size with
  | none => rfl
  | some o => exact absurd (Heap.lt_size q) (Nat.lt_irrefl _)

theorem so_list {l : TL} (hl : SoL prog w A C fnm F l) : SoT prog w A C fnm F (.list l) := by
  intro bw σ d sc e h₀ env vals s Q E he hc V h
  cases e with
  | List es pos =>
    simp only [chk] at hc
    simp only [ev, Option.bind_eq_some_iff] at he
    obtain ⟨ds, hds, he⟩ := he
    split at he
    · rename_i hz
      cases he
      rw [arm_eval_List]
      refine wpAny_bind (wpAny_standAt (wpAny_bind (hl (pos := pos) hds hc V fun vs s₁ L₁ hlen hS hT => p_newList (by rw [hlen]; exact hz) ?_)))
      refine h _ _ (L₁.trans (.push ..)) (.inl (.list ((V.Le L₁).new fresh_size) ⟨_, Heap.get?_push_size _ rfl, rfl, _, rfl⟩ hz ((hS _ (fun _ y => y) rfl).ext (.of fun _ _ e => Heap.get?_push_of_some _ e)))) fun _ a e => ?_
      cases e; exact L₁.ext.none fresh_size
    · cases he
  | _ => simp [chk] at hc
theorem so_tup {l : TL} (hl : SoL prog w A C fnm F l) : SoT prog w A C fnm F (.tup l) := by
  intro bw σ d sc e h₀ env vals s Q E he hc V h
  cases e with
  | Tuple es k pos =>
    simp only [chk] at hc
    simp only [ev, Option.bind_eq_some_iff] at he
    obtain ⟨ds, hds, he⟩ := he
    split at he
    · rename_i hz
      cases he
      rw [arm_eval_Tuple]
      refine wpAny_bind (wpAny_standAt (wpAny_bind (hl (pos := pos) hds hc V fun vs s₁ L₁ hlen hS hT => p_newTuple (by rw [hlen]; exact hz) ?_)))
      refine h _ _ (L₁.trans (.push ..)) (.inl (.tup ((V.Le L₁).new fresh_size) ⟨_, Heap.get?_push_size _ rfl, rfl, _, rfl⟩ hz ((hS _ (fun _ y => y) rfl).ext (.of fun _ _ e => Heap.get?_push_of_some _ e)))) fun hf => by simp [T.fresh] at hf
    · cases he
  | _ => simp [chk] at hc
end
end Mine
end

section
open PySem PySem.W PyProof.Rows PySem.SeqAt PySem.MeetsSeq PySem.MeetsSeq2 PySem.MeetsSeq3
set_option maxRecDepth 100000
namespace Mine

section
variable {prog : Program} {w : World} {A : Around} {C : Cx} {fnm : List PySem.Str} {F : Fn} {fa : Nat → Addr} {mg mb : PySem.Str → Option Value}

theorem so_rep {a n : T} (ha : SoT prog w A C fnm F a) (hn : SoT prog w A C fnm F n) : SoT prog w A C fnm F (.rep a n) := by
  intro bw σ d sc e h₀ env vals s Q E he hc V h
  cases e with
  | BinOp l p r pos =>
    cases l with
    | List es q =>
      match es, p with
      | [x], .Mult =>
        simp only [chk, Bool.and_eq_true] at hc
        obtain ⟨h1, h2⟩ := hc
        simp only [ev, Option.bind_eq_some_iff] at he
        obtain ⟨da, hda, y, hy, b, hb, he⟩ := he
        obtain rfl := intD_some hb
        split at he
        · rename_i hz
          cases he
          by_cases hst : isStar x = true
          · cases x <;> first | (simp [isStar] at hst; done) | (cases a <;> simp [chk] at h1)
          refine wpAny_BinOp ?_
          rw [arm_eval_List]
          refine wpAny_bind (wpAny_standAt (wpAny_bind ?_))
          rw [star_cons (by simpa using hst)]
          refine Calls.spliced_cons (ha hda h1 V fun v s₁ L₁ r₁ _ => Calls.spliced_nil (p_newList (by show 1 ≤ LB; decide) ?_))
          have V₁ := V.Le L₁
          have Lp := L₁.trans (Le.push C.base C.P s₁ (newL [v]))
          have hP : ¬ C.P s₁.heap.objs.size := V₁.offP_new fresh_size
          refine hn hy h2 (V.Le Lp) fun u s₂ L₂ r₂ _ => ?_
          obtain ⟨t, rfl⟩ := r₂.plain.int_inv
          have hl := L₂.exact _ _ hP (Heap.get?_push_size (o := newL [v]) s₁.heap rfl)
          refine p_rep (k := 0) hl hz.1 hz.2 ?_
          have L := Lp.trans L₂
          refine h _ _ (L.trans (.push ..)) (.inl (.list ((V.Le L).new fresh_size) ⟨_, Heap.get?_push_size _ rfl, rfl, _, rfl⟩ ?_ ?_)) fun _ a e => ?_
          · simp; have := hz.2; simp [LB] at this ⊢; omega
          · have hr : Rep (s₂.heap.push (newL (List.replicate b.toNat v))) (Sx C σ vals) v da := (r₁.plain.ext ((Le.push C.base C.P s₁ (newL [v])).ext.trans L₂.ext)).ext (.of fun _ _ e => Heap.get?_push_of_some _ e)
            exact RepL.replicate hr b.toNat
          · cases e; exact L.ext.none fresh_size
        · cases he
      | [], _ => cases p <;> simp [chk] at hc
      | _ :: _ :: _, _ => cases p <;> simp [chk] at hc
      | [x], .Add => simp [chk] at hc
      | [x], .Sub => simp [chk] at hc
      | [x], .Div => simp [chk] at hc
      | [x], .FloorDiv => simp [chk] at hc
      | [x], .Mod => simp [chk] at hc
      | [x], .Pow => simp [chk] at hc
      | [x], .MatMult => simp [chk] at hc
      | [x], .LShift => simp [chk] at hc
      | [x], .RShift => simp [chk] at hc
      | [x], .BitOr => simp [chk] at hc
      | [x], .BitXor => simp [chk] at hc
      | [x], .BitAnd => simp [chk] at hc
    | _ => simp [chk] at hc
  | _ => simp [chk] at hc

theorem so_idx {a i : T} (ha : SoT prog w A C fnm F a) (hi : SoT prog w A C fnm F i) : SoT prog w A C fnm F (.idx a i) := by
  intro bw σ d sc e h₀ env vals s Q E he hc V h
  cases e with
  | Subscript x y pos =>
    simp only [chk, Bool.and_eq_true] at hc
    obtain ⟨⟨_, h1⟩, h2⟩ := hc
    simp only [ev, Option.bind_eq_some_iff] at he
    obtain ⟨p, hp, q, hq, he⟩ := he
    refine PyProof.Rows.Subscript_ (ha hp h1 V fun v s₁ L₁ r₁ _ => hi hq h2 (V.Le L₁) fun u s₂ L₂ r₂ _ => ?_)
    refine p_idx (S := Sx C σ vals) he ?_ r₂.plain fun x hx => h x _ (L₁.trans L₂) (.inl hx) (by simp [T.fresh])
    rcases r₁.ext L₂.ext with r | ⟨_, r⟩
    · exact .inl r
    · exact .inr r
  | _ => simp [chk] at hc

variable (prog w A C fnm F) in
def SoO (o : TO) : Prop := ∀ {σ : Sg} {k : Option Int} {sc : Scope} {e : Option PySem.Expr} {h₀ : Heap} {env : Env} {vals : Nat → Value} {s : Shared} {Q E : Value → Shared → Prop},
  evO C.own F o σ = some k → chkO C.tab fnm o sc e = true → StV C sc h₀ env σ vals s.heap →
  (∀ v s', Le C.base C.P s s' → IsPart v k → Q v s') → wpAny (model prog w) A (evalPart e env) Q E s
theorem soo_none : SoO prog w A C fnm F .none := by
  intro σ k sc e h₀ env vals s Q E he hc V h
  cases e with
  | none =>
    simp only [evO, Option.some.injEq] at he
    subst he
    rw [evalPart_none]
    exact wpAny_pure (h _ _ (.refl ..) .none)
  | some e => simp [chkO] at hc
theorem soo_some {a : T} (ha : SoT prog w A C fnm F a) : SoO prog w A C fnm F (.some a) := by
  intro σ k sc e h₀ env vals s Q E he hc V h
  cases e with
  | none => simp [chkO] at hc
  | some e =>
    simp only [chkO] at hc
    simp only [evO, Option.bind_eq_some_iff, Option.map_eq_some_iff] at he
    obtain ⟨x, hx, i, hi, rfl⟩ := he
    obtain rfl := intD_some hi
    rw [evalPart_some]
    exact ha hx hc V fun v s₁ L₁ r _ => by obtain ⟨t, rfl⟩ := r.plain.int_inv; exact h _ _ L₁ (.int ..)

theorem so_sl {a : T} {lo hi : TO} (ha : SoT prog w A C fnm F a) (hlo : SoO prog w A C fnm F lo) (hhi : SoO prog w A C fnm F hi) : SoT prog w A C fnm F (.sl a lo hi) := by
  intro bw σ d sc e h₀ env vals s Q E he hc V h
  cases e with
  | Subscript x y pos =>
    cases y with
    | Slice l u st p =>
      cases st with
      | some => simp [chk] at hc
      | none =>
        simp only [chk, Bool.and_eq_true] at hc
        obtain ⟨⟨h1, h2⟩, h3⟩ := hc
        simp only [ev, Option.bind_eq_some_iff, Option.map_eq_some_iff] at he
        obtain ⟨da, hda, xs, hxs, kl, hkl, ku, hku, ds', hsl, rfl⟩ := he
        obtain rfl := listD_some hxs
        refine PyProof.Rows.Subscript_ (ha hda h1 V fun v s₁ L₁ r₁ _ => wpAny_Slice (hlo hkl h2 (V.Le L₁) fun vl s₂ L₂ pl => hhi hku h3 (V.Le (L₁.trans L₂)) fun vu s₃ L₃ pu => ?_))
        rw [evalPart_none]
        refine wpAny_pure ?_
        have L := (L₁.trans L₂).trans L₃
        obtain ⟨la, vs, rfl, _, hl, hz, hr⟩ := (r₁.plain.ext (L₂.ext.trans L₃.ext)).list_inv
        obtain ⟨f, rfl, e2, e3, e4⟩ := pick_slD hsl hr.length
        refine p_cut hl (by rw [hr.length]; exact hz) pl pu .none (by simp) ?_
        have Lc := (L.trans (Le.push C.base C.P s₃ { cls := .type "slice", data := .fields #[vl, vu, Value.none] })).trans (Le.push C.base C.P _ (newL (slicePick vs.toArray kl ku none).toList))
        have hg : ((s₃.heap.push { cls := .type "slice", data := .fields #[vl, vu, Value.none] }).push (newL (slicePick vs.toArray kl ku none).toList)).get? (s₃.heap.objs.size + 1) = some (newL (slicePick vs.toArray kl ku none).toList) := by
          have := Heap.get?_push_size (o := newL (slicePick vs.toArray kl ku none).toList) (s₃.heap.push { cls := .type "slice", data := .fields #[vl, vu, Value.none] }) rfl
          rw [Heap.size_push] at this; exact this
        refine h _ _ Lc (.inl (.list ?_ ⟨_, hg, rfl, _, rfl⟩ (Nat.le_trans e4 hz) ?_)) fun _ a e => ?_
        · have := (V.Le (L.trans (Le.push C.base C.P s₃ { cls := .type "slice", data := .fields #[vl, vu, Value.none] }))).new fresh_size
          rw [Heap.size_push] at this; exact this
        · rw [e2]
          exact (e3 _ _ hr).ext (.of fun _ _ e => Heap.get?_push_of_some _ (Heap.get?_push_of_some _ e))
        · cases e
          refine L.ext.none ?_
          cases q : s₃.heap.get? (s₃.heap.objs.size + 1) with
          | none => rfl
          | some o => exact absurd (Heap.lt_size q) (Nat.not_lt.mpr (Nat.le_succ _))
    | _ => simp [chk] at hc
  | _ => simp [chk] at hc

theorem so_rev {a : T} (ha : SoT prog w A C fnm F a) : SoT prog w A C fnm F (.rev a) := by
  intro bw σ d sc e h₀ env vals s Q E he hc V h
  unfold chk at hc
  split at hc <;> try (first | cases hc | (rename_i hh _; cases hh; done) | (rename_i hh; cases hh; done))
  rename_i sc' hh
  cases hh
  simp only [ev, Option.bind_eq_some_iff, Option.map_eq_some_iff] at he
  obtain ⟨da, hda, xs, hxs, rfl⟩ := he
  obtain rfl := listD_some hxs
  refine PyProof.Rows.Subscript_ (ha hda hc V fun v s₁ L₁ r₁ _ => wpAny_Slice ?_)
  rw [evalPart_none]
  refine wpAny_pure (wpAny_pure ?_)
  rw [evalPart_some]
  refine wpAny_UnaryOp (wpAny_Constant_int (PySem.P.neg_int ?_))
  obtain ⟨la, vs, rfl, _, hl, hz, hr⟩ := r₁.plain.list_inv
  refine p_cut (s := { s₁ with toks := s₁.toks + 1 + 1 }) (st := some (-1)) hl (by rw [hr.length]; exact hz) .none .none (.int ..) (by simp) ?_
  have L := L₁.trans (Le.tok C.base C.P s₁ (s₁.toks + 1 + 1))
  have e2 : (slicePick vs.toArray none none (some (-1))).toList = vs.reverse := by rw [krv_pick]
  rw [e2]
  have Lp := L.trans (Le.push C.base C.P { s₁ with toks := s₁.toks + 1 + 1 } { cls := .type "slice", data := .fields #[Value.none, Value.none, Value.int (-1) (s₁.toks + 1)] })
  have Lc := Lp.trans (Le.push C.base C.P _ (newL vs.reverse))
  have hg : ((s₁.heap.push { cls := .type "slice", data := .fields #[Value.none, Value.none, Value.int (-1) (s₁.toks + 1)] }).push (newL vs.reverse)).get? (s₁.heap.objs.size + 1) = some (newL vs.reverse) := by
    have := Heap.get?_push_size (o := newL vs.reverse) (s₁.heap.push { cls := .type "slice", data := .fields #[Value.none, Value.none, Value.int (-1) (s₁.toks + 1)] }) rfl
    rw [Heap.size_push] at this; exact this
  refine h _ _ Lc (.inl (.list ?_ ⟨_, hg, rfl, _, rfl⟩ (by simpa using hz) ?_)) fun _ a e => ?_
  · have := (V.Le Lp).new fresh_size
    rw [Heap.size_push] at this; exact this
  · exact hr.reverse.ext (.of fun _ _ e => Heap.get?_push_of_some _ (Heap.get?_push_of_some _ e))
  · cases e
    refine L₁.ext.none ?_
    cases q : s₁.heap.get? (s₁.heap.objs.size + 1) with
    | none => rfl
    | some o => exact absurd (Heap.lt_size q) (Nat.not_lt.mpr (Nat.le_succ _))

theorem plain_trees {env : Env} {pos : Pos} {sc : Scope} : ∀ {l : TL} {es : List PySem.Expr}, chkL C.tab fnm l sc es = true → (backTo pos (starEach es env)).any (·.1) = false
  | .nil, [], _ => rfl
  | .nil, _ :: _, h => by simp [chkL] at h
  | .cons _ _, [], h => by simp [chkL] at h
  | .cons a l, e :: es, h => by
    simp only [chkL, Bool.and_eq_true, Bool.not_eq_true'] at h
    rw [star_cons h.1.1]
    show (false || (backTo pos (starEach es env)).any (·.1)) = false
    rw [plain_trees h.2]; rfl

theorem isG_eq {sc : Scope} {x : PySem.Str} (h : isG sc x = true) : sc.names.lookup x = some .globalImplicit := by
  unfold isG at h
  cases q : sc.names.lookup x with
  | none => rw [q] at h; cases h
  | some k => rw [q] at h; cases k <;> first | rfl | cases h

section
variable {σ : Sg} {sc : Scope} {h₀ : Heap} {env : Env} {vals : Nat → Value} {s : Shared} {Q E : Value → Shared → Prop}
theorem glob_name (G : Gl C fnm fa mg mb) (V : StV C sc h₀ env σ vals s.heap) {x : PySem.Str} {p : Pos} {v : Value} (hx : isG sc x = true) (hd : (x == debugN) = false) (hv : mg x = some v) (h : Q v s) :
    wpAny (model prog w) A (eval (.Name x p) env) Q E s :=
  Calls.Name_function_global V.fr.kind (V.fr.kG x (isG_eq hx)) (Calls.loadGlobal_global (V.fr.glob ▸ Ext.ns (.of V.stay) G.g) hv h) hd
theorem built_name (G : Gl C fnm fa mg mb) (V : StV C sc h₀ env σ vals s.heap) {x : PySem.Str} {p : Pos} {v : Value} (hx : isG sc x = true) (hd : (x == debugN) = false) (hv : mg x = none ∧ mb x = some v) (h : Q v s) :
    wpAny (model prog w) A (eval (.Name x p) env) Q E s :=
  Calls.Name_function_global V.fr.kind (V.fr.kG x (isG_eq hx)) (Calls.loadGlobal_builtin (V.fr.glob ▸ Ext.ns (.of V.stay) G.g) hv.1 (V.fr.bi ▸ Ext.ns (.of V.stay) G.b) hv.2 h) hd

theorem evalArgs_of {f : Value} {l : TL} {es : List PySem.Expr} {pos : Pos} {Q : Args → Shared → Prop} (hne : es.isEmpty = false) (hc : chkL C.tab fnm l sc es = true)
    (h : wpAny (model prog w) A (spliced (backTo pos (starEach es env))) (fun vs s' => Q ⟨vs, []⟩ s') E s) : wpAny (model prog w) A (evalArgs f true (backTo pos (starEach es env)) []) Q E s := by
  cases es with
  | nil => cases hne
  | cons e es =>
    cases l with
    | nil => simp [chkL] at hc
    | cons a l =>
      simp only [chkL, Bool.and_eq_true, Bool.not_eq_true'] at hc
      rw [star_cons hc.1.1] at h ⊢
      exact Calls.evalArgs_plain h
end

theorem so_call {f : Nat} {l : TL} (G : Gl C fnm fa mg mb) (K : CallOk prog w A C fa F) (hl : SoL prog w A C fnm F l) : SoT prog w A C fnm F (.call f l) := by
  intro bw σ d sc e h₀ env vals s Q E he hc V h
  unfold chk at hc
  split at hc <;> try (first | cases hc | (rename_i hh _; cases hh; done) | (rename_i hh; cases hh; done))
  rename_i f' l' sc' x p es pos hh
  cases hh
  simp only [Bool.and_eq_true, beq_iff_eq, Bool.not_eq_true'] at hc
  obtain ⟨⟨⟨⟨h1, h2⟩, h3⟩, h4⟩, h5⟩ := hc
  simp only [ev, Option.bind_eq_some_iff] at he
  obtain ⟨ds, hds, he⟩ := he
  have he' : F f ds = some (.ok d) := by
    cases q : F f ds with
    | none => rw [q] at he; simp [okD] at he
    | some r => rw [q] at he; cases r <;> simp [okD] at he; rw [he]
  obtain ⟨g1, o, fd, g2, g3⟩ := G.fn f x h1
  refine PyProof.Rows.Call_Name rfl (glob_name G V h2 (ne_beq h3) g1 ?_)
  refine Calls.callWith_function (o := o) (fd := fd) (evalArgs_of h4 h5 (hl hds h5 V fun vs s₁ L₁ hlen hS _ => ⟨⟨(V.Le L₁).stay _ _ g2, g3⟩, ?_⟩))
  have V₁ := V.Le L₁
  exact K.call f ds d he' s₁ vs _ (hS _ (fun _ y => y) rfl) (fun a n => V₁.new n) V₁.stay V₁.pf _ _ fun v s' L' r => h v s' (L₁.trans L') (.inl r) (by simp [T.fresh])

theorem so_bi {b : Bi} {l : TL} (hA : AOk A) (G : Gl C fnm fa mg mb) (hl : SoL prog w A C fnm F l) : SoT prog w A C fnm F (.bi b l) := by
  intro bw σ d sc e h₀ env vals s Q E he hc V h
  unfold chk at hc
  split at hc <;> try (first | cases hc | (rename_i hh _; cases hh; done) | (rename_i hh; cases hh; done))
  rename_i f' l' sc' x p es pos hh
  cases hh
  simp only [Bool.and_eq_true, beq_iff_eq, Bool.not_eq_true'] at hc
  obtain ⟨⟨⟨h1, h2⟩, h4⟩, h5⟩ := hc
  simp only [ev, Option.bind_eq_some_iff] at he
  obtain ⟨ds, hds, he⟩ := he
  subst h1
  have go : wpAny (model prog w) A (spliced (backTo pos (starEach es env))) (fun vs s' => wpAny (model prog w) A (call (biE b).2 vs) Q E s') E s →
      wpAny (model prog w) A (eval (.Call (.Name (biE b).1 p) es [] pos) env) Q E s := fun g => by
    refine PyProof.Rows.Call_Name rfl (built_name G V h2 (by cases b <;> decide) (G.bi b) ?_)
    cases b with
    | int => exact PyProof.Rows.callWith_type (plain_trees h5) (evalArgs_of h4 h5 g)
    | _ => exact Calls.callWith_builtin (plain_trees h5) (evalArgs_of h4 h5 g)
  refine go (hl hds h5 V fun vs s₁ L₁ hlen _ hT => ?_)
  have keep : ∀ {h' : Heap} {tk : Nat} {k : Int} {t : Tok}, d = .int k → (∀ c o, s₁.heap.get? c = some o → h'.get? c = some o) → Q (.int k t) { s₁ with heap := h', toks := tk } := fun hd hk => by
    subst hd
    exact h _ _ (L₁.trans (.keep hk)) (.inl (.int _ _)) (fun _ a e => by cases e)
  unfold biD at he
  split at he
  · simp only [Option.map_eq_some_iff] at he
    obtain ⟨xs, h6, rfl⟩ := he
    obtain ⟨v, ws, rfl, r, hn⟩ := hT.cons_inv
    obtain rfl := hn.nil_inv
    exact p_len h6 r fun t tk => keep rfl fun _ _ e => e
  · simp only [Option.map_eq_some_iff, Option.bind_eq_some_iff] at he
    obtain ⟨xs, h6, li, h7, rfl⟩ := he
    obtain rfl := listD_some h6
    obtain rfl := intsOf_eq h7
    obtain ⟨v, ws, rfl, r, hn⟩ := hT.cons_inv
    obtain rfl := hn.nil_inv
    obtain ⟨a, vs, rfl, _, hls, _, hr⟩ := r.list_inv
    exact p_sum hA.hh hls hr.ints fun h' tk t hk => keep rfl hk
  · simp only [Option.bind_eq_some_iff] at he
    obtain ⟨xs, h6, li, h7, he⟩ := he
    obtain rfl := listD_some h6
    obtain rfl := intsOf_eq h7
    obtain ⟨v, ws, rfl, r, hn⟩ := hT.cons_inv
    obtain rfl := hn.nil_inv
    obtain ⟨a, vs, rfl, _, hls, hz, hr⟩ := r.list_inv
    split at he
    · rename_i h64
      cases he
      refine p_sorted hls hr.ints h64 fun h' a' out hk hn' hl' hi' => ?_
      have L : Le C.base C.P s { s₁ with heap := h' } := L₁.trans (.keep (tk := s₁.toks) hk)
      refine h _ _ L (.inl (.list ((V.Le L₁).new hn') hl' ?_ (.of_ints hi'))) fun _ a e => ?_
      · rw [List.length_map, (isort_perm li).length_eq]; simpa using hz
      · cases e; exact L₁.ext.none hn'
    · cases he
  · cases he
    obtain ⟨v, ws, rfl, r, hn⟩ := hT.cons_inv
    obtain rfl := hn.nil_inv
    obtain ⟨t, rfl⟩ := r.int_inv
    exact call_int_int (keep (h' := s₁.heap) (tk := s₁.toks) rfl fun _ _ e => e)
  · cases he
    obtain ⟨v, ws, rfl, r, hn⟩ := hT.cons_inv
    obtain ⟨v', ws, rfl, r', hn⟩ := hn.cons_inv
    obtain rfl := hn.nil_inv
    obtain ⟨t, rfl⟩ := r.int_inv
    obtain ⟨t', rfl⟩ := r'.int_inv
    exact p_max2 hA.hh fun h' tk t' hk => keep rfl hk
  · cases he
    obtain ⟨v, ws, rfl, r, hn⟩ := hT.cons_inv
    obtain ⟨v', ws, rfl, r', hn⟩ := hn.cons_inv
    obtain rfl := hn.nil_inv
    obtain ⟨t, rfl⟩ := r.int_inv
    obtain ⟨t', rfl⟩ := r'.int_inv
    exact p_min2 hA.hh fun h' tk t' hk => keep rfl hk
  · simp only [Option.bind_eq_some_iff] at he
    obtain ⟨xs, h6, li, h7, he⟩ := he
    obtain rfl := listD_some h6
    obtain rfl := intsOf_eq h7
    obtain ⟨v, ws, rfl, r, hn⟩ := hT.cons_inv
    obtain rfl := hn.nil_inv
    obtain ⟨a, vs, rfl, _, hls, _, hr⟩ := r.list_inv
    cases li with
    | nil => cases he
    | cons i q => cases he; exact p_max hA.hh hls hr.ints fun h' tk t hk => keep rfl hk
  · simp only [Option.bind_eq_some_iff] at he
    obtain ⟨xs, h6, li, h7, he⟩ := he
    obtain rfl := listD_some h6
    obtain rfl := intsOf_eq h7
    obtain ⟨v, ws, rfl, r, hn⟩ := hT.cons_inv
    obtain rfl := hn.nil_inv
    obtain ⟨a, vs, rfl, _, hls, _, hr⟩ := r.list_inv
    cases li with
    | nil => cases he
    | cons i q => cases he; exact p_min hA.hh hls hr.ints fun h' tk t hk => keep rfl hk
  · cases he
end
end Mine
end

section
open PySem PySem.W PyProof.Rows PySem.SeqAt PySem.MeetsSeq PySem.MeetsSeq2 PySem.MeetsSeq3
set_option maxRecDepth 100000
namespace Mine

/-! ## 13. Patterns -/

/-- what binding the names of l leaves alone -/
structure Ag (own : Nat → Bool) (l : List Nat) (σ σ' : Sg) (vals vals' : Nat → Value) : Prop where
  off : ∀ j, j ∉ l → σ' j = σ j ∧ vals' j = vals j
  ow : ∀ j, own j = true → σ' j = σ j ∧ vals' j = vals j
theorem Ag.refl {own : Nat → Bool} {l : List Nat} {σ : Sg} {vals : Nat → Value} : Ag own l σ σ vals vals := ⟨fun _ _ => ⟨rfl, rfl⟩, fun _ _ => ⟨rfl, rfl⟩⟩
theorem Ag.trans {own : Nat → Bool} {l l' : List Nat} {σ σ' σ'' : Sg} {vals vals' vals'' : Nat → Value} (a : Ag own l σ σ' vals vals') (b : Ag own l' σ' σ'' vals' vals'') : Ag own (l ++ l') σ σ'' vals vals'' :=
  ⟨fun j n => by simp at n; obtain ⟨e1, e2⟩ := a.off j n.1; obtain ⟨e3, e4⟩ := b.off j n.2; exact ⟨e3.trans e1, e4.trans e2⟩,
   fun j n => by obtain ⟨e1, e2⟩ := a.ow j n; obtain ⟨e3, e4⟩ := b.ow j n; exact ⟨e3.trans e1, e4.trans e2⟩⟩
theorem Ag.wide {own : Nat → Bool} {l l' : List Nat} {σ σ' : Sg} {vals vals' : Nat → Value} (a : Ag own l σ σ' vals vals') (m : ∀ j ∈ l, j ∈ l') : Ag own l' σ σ' vals vals' :=
  ⟨fun j n => a.off j fun h => n (m j h), a.ow⟩
theorem Ag.notO {own : Nat → Bool} {l : List Nat} {σ σ' : Sg} {vals vals' : Nat → Value} (a : Ag own l σ σ' vals vals') {ad : Addr} : NotO own σ vals ad ↔ NotO own σ' vals' ad := by
  constructor
  · intro h j o s; obtain ⟨e1, e2⟩ := a.ow j o; rw [e1] at s; rw [e2]; exact h j o s
  · intro h j o s; obtain ⟨e1, e2⟩ := a.ow j o; rw [← e1] at s; rw [← e2]; exact h j o s
theorem Ag.sx {C : Cx} {l : List Nat} {σ σ' : Sg} {vals vals' : Nat → Value} (a : Ag C.own l σ σ' vals vals') {ad : Addr} : Sx C σ vals ad ↔ Sx C σ' vals' ad := and_congr_right fun _ => a.notO

/-- what a store into a frame leaves alone -/
structure Kp (h₀ : Heap) (env : Env) (h h' : Heap) : Prop where
  big : ∀ b o, h.get? b = some o → b ≠ env.locals → (∀ u, o.data ≠ .cell u) → h'.get? b = some o
  old : ∀ b o, h₀.get? b ≠ none → h.get? b = some o → h'.get? b = some o
theorem Kp.of {h₀ : Heap} {env : Env} {h h' : Heap} (k : ∀ b o, h.get? b = some o → h'.get? b = some o) : Kp h₀ env h h' := ⟨fun b o e _ _ => k b o e, fun b o _ e => k b o e⟩
theorem Kp.trans {h₀ : Heap} {env : Env} {a b c : Heap} (x : Kp h₀ env a b) (y : Kp h₀ env b c) : Kp h₀ env a c :=
  ⟨fun k o e n1 n2 => y.big k o (x.big k o e n1 n2) n1 n2, fun k o n e => y.old k o n (x.old k o n e)⟩

section
variable {C : Cx} {sc : Scope} {h₀ h h' : Heap} {env : Env} {σ σ' : Sg} {vals vals' : Nat → Value}
theorem Kp.on {S S' : Addr → Prop} (V : StV C sc h₀ env σ vals h) (k : Kp h₀ env h h') (m : ∀ a, S a → S' a) : On h h' S S' := fun a sa o ho ⟨xs, n, hd⟩ => by
  refine ⟨m a sa, o.slots, k.big a o ho (fun z => ?_) (fun u e => by rw [hd] at e; cases e)⟩
  obtain ⟨mm, o', es, ep, q, d, _⟩ := V.fr.ns
  rw [z, q] at ho; cases ho; rw [d] at hd; cases hd
/-- fewer names -/
theorem StV.less (V : StV C sc h₀ env σ' vals' h) (le : ∀ j d, σ j = some d → σ' j = some d ∧ vals' j = vals j) : StV C sc h₀ env σ vals h where
  fr := V.fr
  g := V.g
  ext := V.ext
  stay := V.stay
  newS := V.newS
  bg := V.bg
  pf := V.pf
  bP := V.bP
  nodup := V.nodup
  val := fun i d x a b c => by obtain ⟨e1, e2⟩ := le i d a; rw [← e2]; exact V.val i d x e1 b c
  rep := fun i d a b => by
    obtain ⟨e1, e2⟩ := le i d a
    rw [← e2]
    refine (V.rep i d e1 b).mono fun ad hs => ⟨hs.1, fun j o sj e => ?_⟩
    obtain ⟨dj, hj⟩ := Option.isSome_iff_exists.mp sj
    obtain ⟨f1, f2⟩ := le j dj hj
    exact hs.2 j o (by rw [f1]; rfl) (f2.trans e)
  owned := fun i d a b => by
    obtain ⟨e1, e2⟩ := le i d a
    obtain ⟨ad, ds, vs, q1, q2, q3, q4, q5⟩ := V.owned i d e1 b
    refine ⟨ad, ds, vs, q1, e2 ▸ q2, q3, q4.mono fun ad hs => ⟨hs.1, fun j o sj e => ?_⟩, q5⟩
    obtain ⟨dj, hj⟩ := Option.isSome_iff_exists.mp sj
    obtain ⟨f1, f2⟩ := le j dj hj
    exact hs.2 j o (by rw [f1]; rfl) (f2.trans e)
  dist := fun i j a oi oj si sj ei ej => by
    obtain ⟨di, hi⟩ := Option.isSome_iff_exists.mp si
    obtain ⟨dj, hj⟩ := Option.isSome_iff_exists.mp sj
    obtain ⟨e1, e2⟩ := le i di hi
    obtain ⟨f1, f2⟩ := le j dj hj
    exact V.dist i j a oi oj (by rw [e1]; rfl) (by rw [f1]; rfl) (e2.trans ei) (f2.trans ej)
end

theorem tupD_some {d : D} {xs : List D} (h : tupD d = some xs) : d = .tup xs := by
  cases d <;> simp [tupD] at h
  subst h; rfl
theorem each_cons {e : PySem.Expr} {es : List PySem.Expr} {env : Env} (h : isStar e = false) : assignEach (e :: es) env = (false, assign e env) :: assignEach es env := by
  cases e <;> first | rfl | (simp [isStar] at h)
theorem each_plain {tab : List PySem.Str} {sc : Scope} {env : Env} : ∀ {ps : PatL} {es : List PySem.Expr}, chkPL tab ps sc es = true → (assignEach es env).findIdx? (·.1) = none ∧ (assignEach es env).length = es.length
  | .nil, [], _ => ⟨rfl, rfl⟩
  | .nil, _ :: _, h => by simp [chkPL] at h
  | .cons _ _, [], h => by simp [chkPL] at h
  | .cons p ps, e :: es, h => by
    simp only [chkPL, Bool.and_eq_true, Bool.not_eq_true'] at h
    obtain ⟨i1, i2⟩ := each_plain (env := env) h.2
    rw [each_cons h.1.1]
    exact ⟨by simp [List.findIdx?_cons, i1], by simp [i2]⟩
theorem bindPL_len {own : Nat → Bool} {tab : List PySem.Str} {sc : Scope} : ∀ {ps : PatL} {es : List PySem.Expr} {ds : List D} {σ σ' : Sg}, chkPL tab ps sc es = true → bindPL own ps ds σ = some σ' → es.length = ds.length
  | .nil, [], [], _, _, _, _ => rfl
  | .nil, [], _ :: _, _, _, _, h => by simp [bindPL] at h
  | .nil, _ :: _, _, _, _, h, _ => by simp [chkPL] at h
  | .cons _ _, [], _, _, _, h, _ => by simp [chkPL] at h
  | .cons _ _, _ :: _, [], _, _, _, h => by simp [bindPL] at h
  | .cons p ps, e :: es, d :: ds, σ, σ', hc, h => by
    simp only [chkPL, Bool.and_eq_true] at hc
    simp only [bindPL, Option.bind_eq_some_iff] at h
    obtain ⟨σ'', _, h⟩ := h
    simp [bindPL_len hc.2 h]

section
variable {prog : Program} {w : World} {A : Around} {C : Cx}
variable {sc : Scope} {h₀ : Heap} {env : Env}

mutual
theorem so_bind (hh : HOk A) : ∀ (p : Pat) {σ σ' : Sg} {d : D} {target : PySem.Expr} {vals : Nat → Value} {s : Shared} {v : Value} {Q : Unit → Shared → Prop} {E : Value → Shared → Prop},
    bindP C.own p d σ = some σ' → chkP C.tab p sc target = true → StV C sc h₀ env σ vals s.heap → Rep s.heap (Sx C σ vals) v d →
    (∀ h' tk vals', StV C sc h₀ env σ' vals' h' → Ag C.own p.vars σ σ' vals vals' → Kp h₀ env s.heap h' → Q () { s with heap := h', toks := tk }) → wpAny (model prog w) A (assign target env v) Q E s
  | .v i, σ, σ', d, target, vals, s, v, Q, E, hb, hc, V, hr, h => by
    cases target with
    | Name x pos =>
      simp only [chkP, Bool.and_eq_true, beq_iff_eq] at hc
      simp only [bindP] at hb
      split at hb
      · cases hb
      · rename_i ho
        have ho : C.own i = false := by simpa using ho
        cases hb
        refine wpAny_assign_Name (store_ok V hc.1 hc.2 ho hr fun h' tk V' k1 k2 => h h' tk _ V' ⟨fun j n => ?_, fun j oj => ?_⟩ ⟨k1, fun b o n e => by rw [k2 b n]; exact e⟩)
        · have : j ≠ i := fun z => n (by simp [Pat.vars, z])
          exact ⟨upd_ne _ _ this, updv_ne _ _ this⟩
        · have : j ≠ i := fun z => by rw [z, ho] at oj; cases oj
          exact ⟨upd_ne _ _ this, updv_ne _ _ this⟩
    | _ => simp [chkP] at hc
  | .tup ps, σ, σ', d, target, vals, s, v, Q, E, hb, hc, V, hr, h => by
    cases target with
    | Tuple es k pos =>
      simp only [chkP] at hc
      simp only [bindP, Option.bind_eq_some_iff] at hb
      obtain ⟨ds, hd, hb⟩ := hb
      obtain rfl := tupD_some hd
      obtain ⟨t, vs, rfl, _, hl, _, hr⟩ := hr.tup_inv
      obtain ⟨e1, e2⟩ := each_plain (env := env) hc
      refine PyProof.Rows.assign_Tuple_tuple hh hl (by rw [e2, bindPL_len hc hb, List.size_toArray, hr.length]) e1 fun h₁ he => ?_
      have k : ∀ b o, s.heap.get? b = some o → h₁.get? b = some o := fun b o e => he b o (Nat.ne_of_lt (Heap.lt_size e)) e
      have V₁ : StV C sc h₀ env σ vals h₁ := V.le (.of k) fun b o _ e => k b o e
      exact so_bindL hh ps (s := { s with heap := h₁ }) hb hc V₁ (hr.ext (.of k)) fun h' tk vals' V' ag kp => h h' tk vals' V' ag ((Kp.of k).trans kp)
    | _ => simp [chkP] at hc
theorem so_bindL (hh : HOk A) : ∀ (ps : PatL) {σ σ' : Sg} {ds : List D} {es : List PySem.Expr} {vals : Nat → Value} {s : Shared} {vs : List Value} {Q : Unit → Shared → Prop} {E : Value → Shared → Prop},
    bindPL C.own ps ds σ = some σ' → chkPL C.tab ps sc es = true → StV C sc h₀ env σ vals s.heap → RepL s.heap (Sx C σ vals) vs ds →
    (∀ h' tk vals', StV C sc h₀ env σ' vals' h' → Ag C.own ps.vars σ σ' vals vals' → Kp h₀ env s.heap h' → Q () { s with heap := h', toks := tk }) → wpAny (model prog w) A (assignInOrder ((assignEach es env).map (·.2)) vs) Q E s
  | .nil, σ, σ', ds, es, vals, s, vs, Q, E, hb, hc, V, hr, h => by
    cases es with
    | cons => simp [chkPL] at hc
    | nil =>
      cases ds with
      | cons => simp [bindPL] at hb
      | nil =>
        simp only [bindPL, Option.some.injEq] at hb
        subst hb
        obtain rfl := hr.nil_inv
        exact wpAny_pure (h s.heap s.toks vals V .refl (.of fun _ _ e => e))
  | .cons p ps, σ, σ', ds, es, vals, s, vs, Q, E, hb, hc, V, hr, h => by
    cases es with
    | nil => simp [chkPL] at hc
    | cons e es =>
      simp only [chkPL, Bool.and_eq_true, Bool.not_eq_true'] at hc
      cases ds with
      | nil => simp [bindPL] at hb
      | cons d ds =>
        simp only [bindPL, Option.bind_eq_some_iff] at hb
        obtain ⟨σ₁, hb1, hb2⟩ := hb
        obtain ⟨v, ws, rfl, rv, rs⟩ := hr.cons_inv
        rw [each_cons hc.1.1]
        show wpAny _ _ (do holding ws (assign e env v); assignInOrder ((assignEach es env).map (·.2)) ws) _ _ _
        refine wpAny_bind (wpAny_holding (so_bind hh p hb1 hc.1.2 V rv fun h₁ tk₁ vals₁ V₁ ag₁ kp₁ => ?_))
        refine so_bindL hh ps (s := { s with heap := h₁, toks := tk₁ }) hb2 hc.2 V₁ (rs.on (kp₁.on V fun a ha => ag₁.sx.mp ha)) fun h' tk vals' V' ag kp => h h' tk vals' V' (ag₁.trans ag) (kp₁.trans kp)
end
end
end Mine
end

section
open PySem PySem.W PyProof.Rows PySem.SeqAt PySem.MeetsSeq PySem.MeetsSeq2 PySem.MeetsSeq3
set_option maxRecDepth 100000
namespace Mine

/-! ## 14. The frame of a comprehension -/

abbrev Nm := List (PySem.Str × NameKind)

def closOf (env : Env) : Nm → List (PySem.Str × Addr) → List (PySem.Str × Addr)
  | [], acc => acc
  | (n, k) :: r, acc => if k == .free then closOf env r ((n, (env.cells.lookup n).getD 0) :: acc) else closOf env r acc

theorem clos_pure_aux (env : Env) : ∀ (names : Nm) (acc : List (PySem.Str × Addr)), (∀ x, (x, NameKind.free) ∈ names → ∃ c, env.cells.lookup x = some c) →
    (forIn names acc (fun (x : PySem.Str × NameKind) (r : List (PySem.Str × Addr)) => if (x.2 == NameKind.free) = true then (do let a ← cellOf env x.1; pure (ForInStep.yield ((x.1, a) :: r))) else pure (ForInStep.yield r)) : Sem (List (PySem.Str × Addr))) = pure (closOf env names acc)
  | [], acc, _ => rfl
  | (n, k) :: r, acc, h => by
    rw [List.forIn_cons]
    unfold closOf
    by_cases hk : (k == NameKind.free) = true
    · simp only [hk, if_true]
      have hk' : k = .free := by cases k <;> first | rfl | (exact absurd hk (by decide))
      subst hk'
      obtain ⟨c, hc⟩ := h n List.mem_cons_self
      have e1 : cellOf env n = pure c := by unfold cellOf; rw [hc]
      rw [e1, hc]
      show (forIn r ((n, c) :: acc) _ : Sem _) = _
      exact clos_pure_aux env r _ fun x hx => h x (List.mem_cons_of_mem _ hx)
    · simp only [hk]
      show (forIn r acc _ : Sem _) = _
      exact clos_pure_aux env r _ fun x hx => h x (List.mem_cons_of_mem _ hx)
theorem clos_pure (env : Env) (scope : Scope) (h : ∀ x, (x, NameKind.free) ∈ scope.names → ∃ c, env.cells.lookup x = some c) : closureFor scope env = pure (closOf env scope.names []) := by
  have := clos_pure_aux env scope.names [] h
  unfold closureFor
  show (forIn scope.names [] _ >>= fun r => pure r) = _
  first
    | (rw [show (forIn scope.names [] _ : Sem (List (PySem.Str × Addr))) = pure (closOf env scope.names []) from this]; rfl)
    | (simpa using this)

/-! lookups in names whose keys differ -/
theorem mem_lookup {α : Type} : ∀ {l : List (PySem.Str × α)} {x : PySem.Str} {a : α}, (l.map (·.1)).Nodup → (x, a) ∈ l → l.lookup x = some a
  | (k, v) :: r, x, a, nd, h => by
    simp only [List.map_cons, List.nodup_cons] at nd
    rw [List.lookup_cons]
    rcases List.mem_cons.mp h with e | h
    · cases e; simp
    · have : (x == k) = false := by
        cases hb : x == k with
        | false => rfl
        | true => exact absurd (List.mem_map_of_mem (f := (·.1)) h) (by rw [show (x, a).1 = k from beq_iff_eq.mp hb]; exact nd.1)
      rw [this]; exact mem_lookup nd.2 h

theorem closOf_lookup (env : Env) : ∀ (names : Nm) (acc : List (PySem.Str × Addr)) (x : PySem.Str), (names.map (·.1)).Nodup →
    (closOf env names acc).lookup x = if (x, NameKind.free) ∈ names then some ((env.cells.lookup x).getD 0) else acc.lookup x
  | [], acc, x, _ => by simp [closOf]
  | (n, k) :: r, acc, x, nd => by
    simp only [List.map_cons, List.nodup_cons] at nd
    unfold closOf
    by_cases hk : (k == NameKind.free) = true
    · have hk' : k = .free := by cases k <;> first | rfl | (exact absurd hk (by decide))
      subst hk'
      simp only [hk, if_true]
      rw [closOf_lookup env r _ x nd.2]
      by_cases hx : (x, NameKind.free) ∈ r
      · simp [hx]
      · simp only [hx, if_false, List.mem_cons, or_false]
        rw [List.lookup_cons]
        by_cases he : x = n
        · subst he; simp
        · have : (x == n) = false := by simpa using he
          simp [this, he]
    · simp only [hk]
      rw [if_neg (by simp)]
      rw [closOf_lookup env r _ x nd.2]
      have hne : k ≠ .free := fun z => hk (by rw [z]; rfl)
      have : ((x, NameKind.free) ∈ (n, k) :: r) ↔ (x, NameKind.free) ∈ r := by
        constructor
        · intro h; rcases List.mem_cons.mp h with e | h
          · cases e; exact absurd rfl hne
          · exact h
        · exact List.mem_cons_of_mem _
      by_cases hm : (x, NameKind.free) ∈ r
      · rw [if_pos hm, if_pos (this.mpr hm)]
      · rw [if_neg hm, if_neg fun z => hm (this.mp z)]

theorem cellsFrom_lookup : ∀ (names : Nm) (n : Nat) (acc : List (PySem.Str × Addr)) (x : PySem.Str), (names.map (·.1)).Nodup →
    ((x, NameKind.cell) ∉ names → (cellsFrom n names acc).lookup x = acc.lookup x) ∧ ((x, NameKind.cell) ∈ names → ∃ c, (cellsFrom n names acc).lookup x = some c ∧ n ≤ c)
  | [], n, acc, x, _ => ⟨fun _ => rfl, fun h => by cases h⟩
  | (m, k) :: r, n, acc, x, nd => by
    simp only [List.map_cons, List.nodup_cons] at nd
    unfold cellsFrom
    by_cases hk : (k == NameKind.cell) = true
    · have hk' : k = .cell := by cases k <;> first | rfl | (exact absurd hk (by decide))
      subst hk'
      simp only [hk, if_true]
      obtain ⟨i1, i2⟩ := cellsFrom_lookup r (n + 1) ((m, n) :: acc) x nd.2
      refine ⟨fun h => ?_, fun h => ?_⟩
      · simp only [List.mem_cons, not_or] at h
        rw [i1 h.2, List.lookup_cons]
        have : (x == m) = false := by
          cases hb : x == m with
          | false => rfl
          | true => exact absurd (by rw [beq_iff_eq.mp hb]) h.1
        rw [this]
      · by_cases hm : (x, NameKind.cell) ∈ r
        · obtain ⟨c, e, l⟩ := i2 hm; exact ⟨c, e, by omega⟩
        · rcases List.mem_cons.mp h with e | h
          · cases e; exact ⟨n, by rw [i1 hm]; simp, Nat.le_refl _⟩
          · exact absurd h hm
    · simp only [hk]
      rw [if_neg (by simp)]
      obtain ⟨i1, i2⟩ := cellsFrom_lookup r n acc x nd.2
      have hne : k ≠ .cell := fun z => hk (by rw [z]; rfl)
      refine ⟨fun h => i1 fun z => h (List.mem_cons_of_mem _ z), fun h => ?_⟩
      rcases List.mem_cons.mp h with e | h
      · cases e; exact absurd rfl hne
      · exact i2 h

theorem cellsFrom_app : ∀ (names : Nm) (n : Nat) (acc : List (PySem.Str × Addr)), cellsFrom n names acc = cellsFrom n names [] ++ acc
  | [], _, _ => rfl
  | (m, k) :: r, n, acc => by
    unfold cellsFrom
    split
    · rw [cellsFrom_app r (n + 1) ((m, n) :: acc), cellsFrom_app r (n + 1) [(m, n)]]; simp
    · exact cellsFrom_app r n acc

theorem relabel_lookup (env : Env) (x : PySem.Str) : ∀ (names : Nm), (names.map fun (n, k) => if (k == NameKind.free && env.scope.kind == .function && env.kindOf n == some .cell) then (n, NameKind.cell) else (n, k)).lookup x =
    (names.lookup x).map fun k => if (k == NameKind.free && env.scope.kind == .function && env.kindOf x == some .cell) then NameKind.cell else k
  | [] => rfl
  | (n, k) :: r => by
    rw [List.map_cons]
    show List.lookup x ((if (k == NameKind.free && env.scope.kind == .function && env.kindOf n == some .cell) = true then (n, NameKind.cell) else (n, k)) :: _) = _
    by_cases hx : x = n
    · subst hx
      split <;> simp_all
    · have : (x == n) = false := by simpa using hx
      split <;> simp only [List.lookup_cons, this] <;> exact relabel_lookup env x r

/-- the frame's env of a comprehension -/
def compEnv (isc : Scope) (h : Heap) (env : Env) : Env :=
  { scope := relabel isc env, locals := h.objs.size, globals := env.globals, cells := cellsFrom (h.objs.size + 1) isc.names (closOf env isc.names []), qual := env.qual, func := none, code := env.code, frame := env.frame, builtins := env.builtins }
def compHeap (isc : Scope) (h : Heap) : Heap := pushCells (h.push { cls := .type "dict", data := .dict #[] }) isc.names

section
variable {M : Model} {A : Around} {E : Value → Shared → Prop} {s : Shared}
theorem wpAny_newEnv_comp {isc : Scope} {env : Env} {Q : Env → Shared → Prop}
    (h : ∀ cenv : Env, { cenv with scope := relabel isc env } = compEnv isc s.heap env → cenv.locals = s.heap.objs.size → Q cenv { s with heap := compHeap isc s.heap }) :
    wpAny M A (newFunctionEnv isc env.globals (closOf env isc.names []) [] env.qual none .none (some env)) Q E s := by
  simp only [newFunctionEnv, Option.isSome_some, if_true]
  refine wpAny_bind (wpAny_alloc ?_)
  refine wpAny_bind (wpAny_layCells _ (fun name kind cells => by cases hkc : kind == NameKind.cell <;> simp [hkc]) _ _ _ _ ?_)
  rw [show ({ s with heap := s.heap.push { cls := .type "dict", data := .dict #[] } } : Shared).heap.objs.size = s.heap.objs.size + 1 from Heap.size_push ..]
  refine wpAny_bind ?_
  rw [List.forIn_nil]
  exact wpAny_pure (wpAny_pure (h _ rfl rfl))
end

theorem isW_cases {sc : Scope} {x : PySem.Str} (h : isW sc x = true) : sc.names.lookup x = some .local ∨ sc.names.lookup x = some .cell := by
  unfold isW at h
  split at h <;> first | (exact .inl (by assumption)) | (exact .inr (by assumption)) | cases h
theorem isV_cases {sc : Scope} {x : PySem.Str} (h : isV sc x = true) : sc.names.lookup x = some .local ∨ sc.names.lookup x = some .cell ∨ sc.names.lookup x = some .free := by
  unfold isV at h
  split at h <;> first | (exact .inl (by assumption)) | (exact .inr (.inl (by assumption))) | (exact .inr (.inr (by assumption))) | cases h

theorem compHeap_old (isc : Scope) (h : Heap) : ∀ b o, h.get? b = some o → (compHeap isc h).get? b = some o := fun b o e => pushCells_keeps _ _ _ _ (Heap.get?_push_of_some _ e)

theorem none_of_le {h : Heap} {a : Addr} (l : h.objs.size ≤ a) : h.get? a = none := by
  cases q : h.get? a with
  | none => rfl
  | some o => exact absurd (Heap.lt_size q) (Nat.not_lt.mpr l)

/-- a comprehension's frame, over a state's frame -/
theorem comp_frame {C : Cx} {sc isc : Scope} {h₀ h : Heap} {env : Env} {σ : Sg} {vals : Nat → Value} {vs : List Nat} (V : StV C sc h₀ env σ vals h) (hs : scOk C.tab sc isc vs = true) :
    closureFor isc env = pure (closOf env isc.names []) ∧ isc.kind = .function ∧ (∀ x ∈ isc.names, x.2 = .local → isc.names.lookup x.1 = some .local) ∧
    StV C isc h (compEnv isc h env) (unb vs σ) vals (compHeap isc h) := by
  simp only [scOk, Bool.and_eq_true] at hs
  obtain ⟨⟨⟨h1, h2⟩, h3⟩, h4⟩ := hs
  have nd : (isc.names.map (·.1)).Nodup := by simpa [keysOk] using h2
  have hkind : isc.kind = .function := by
    cases q : isc.kind <;> first | rfl | (rw [q] at h1; cases h1)
  rw [List.all_eq_true] at h3
  have free : ∀ x, (x, NameKind.free) ∈ isc.names → (sc.names.lookup x = some .cell ∨ sc.names.lookup x = some .free) ∧ (env.kindOf x = some .cell ∨ env.kindOf x = some .free) ∧ ∃ c, env.cells.lookup x = some c := fun x hx => by
    have := h3 _ hx
    simp only [Bool.or_eq_true] at this
    rcases this with q | q
    · have q' : sc.names.lookup x = some .cell := by
        cases z : sc.names.lookup x with
        | none => rw [z] at q; cases q
        | some k => rw [z] at q; cases k <;> first | rfl | cases q
      obtain ⟨k1, c, k2, _⟩ := V.fr.kC x q'
      exact ⟨.inl q', .inl k1, c, k2⟩
    · have q' : sc.names.lookup x = some .free := by
        cases z : sc.names.lookup x with
        | none => rw [z] at q; cases q
        | some k => rw [z] at q; cases k <;> first | rfl | cases q
      obtain ⟨k1, c, k2⟩ := V.fr.kF x q'
      exact ⟨.inr q', k1, c, k2⟩
  have look : ∀ {x k}, isc.names.lookup x = some k → (x, k) ∈ isc.names := fun h => mem_of_lookup h
  have kindOf : ∀ x, (compEnv isc h env).kindOf x = (isc.names.lookup x).map fun k => if (k == NameKind.free && env.scope.kind == .function && env.kindOf x == some .cell) then NameKind.cell else k := fun x => relabel_lookup env x isc.names
  have ck : ∀ x k, isc.names.lookup x = some k → k ≠ .free → (compEnv isc h env).kindOf x = some k := fun x k e ne => by
    rw [kindOf, e]
    have : (k == NameKind.free) = false := by cases k <;> first | rfl | exact absurd rfl ne
    rw [Option.map_some, this]; rfl
  have nocell : ∀ x k, isc.names.lookup x = some k → k ≠ .cell → (x, NameKind.cell) ∉ isc.names := fun x k e ne hm => by
    have := mem_lookup nd hm
    rw [e] at this; cases this; exact ne rfl
  have old := compHeap_old isc h
  have hx : Ext h (compHeap isc h) := .of old
  -- where the cells lie
  have okn := cellsFrom_ok isc.names (h.push { cls := .type "dict", data := .dict #[] }) (h.objs.size + 1) [] ⟨fun _ _ hm => (nomatch hm), List.Pairwise.nil⟩ (by rw [Heap.size_push]; exact Nat.le_refl _)
  rw [Heap.size_push] at okn
  have cellsE : (compEnv isc h env).cells = cellsFrom (h.objs.size + 1) isc.names [] ++ closOf env isc.names [] := cellsFrom_app _ _ _
  have lookC : ∀ x c, (compEnv isc h env).cells.lookup x = some c → ((x, c) ∈ cellsFrom (h.objs.size + 1) isc.names [] ∧ (compHeap isc h).IsCell c none ∧ h.objs.size + 1 ≤ c) ∨ (env.cells.lookup x = some c ∧ (x, NameKind.free) ∈ isc.names) := fun x c e => by
    by_cases hm : (x, NameKind.cell) ∈ isc.names
    · have hmem := mem_of_lookup e
      rw [cellsE] at hmem
      rcases List.mem_append.mp hmem with q | q
      · obtain ⟨q1, q2⟩ := okn.empty _ _ q
        exact .inl ⟨q, q1, q2⟩
      · exfalso
        have nf : (x, NameKind.free) ∉ isc.names := fun z => by
          have a := mem_lookup nd hm; have b := mem_lookup nd z; rw [a] at b; cases b
        have := closOf_lookup env isc.names [] x nd
        rw [if_neg nf] at this
        have e2 : ∀ {l : List (PySem.Str × Addr)}, (x, c) ∈ l → l.lookup x ≠ none := fun {l} hm => by
          induction l with
          | nil => cases hm
          | cons y r ih =>
            obtain ⟨k, v⟩ := y
            rw [List.lookup_cons]
            cases hb : x == k with
            | true => simp
            | false =>
              rcases List.mem_cons.mp hm with z | z
              · cases z; simp at hb
              · exact ih z
        exact e2 q this
    · have e' : (cellsFrom (h.objs.size + 1) isc.names (closOf env isc.names [])).lookup x = some c := e
      rw [(cellsFrom_lookup isc.names _ _ x nd).1 hm, closOf_lookup env isc.names [] x nd] at e'
      split at e'
      · rename_i hf
        obtain ⟨_, _, c', hc'⟩ := free x hf
        rw [hc'] at e'; cases e'
        exact .inr ⟨hc', hf⟩
      · cases e'
  have cellIn : ∀ x c, (compEnv isc h env).cells.lookup x = some c → ∃ v, (compHeap isc h).IsCell c v := fun x c e => by
    rcases lookC x c e with ⟨_, q, _⟩ | ⟨q, _⟩
    · exact ⟨_, q⟩
    · obtain ⟨v, n⟩ := V.fr.cell x c q
      exact ⟨v, hx.isCell n⟩
  have ltOld : ∀ x c, env.cells.lookup x = some c → c < h.objs.size := fun x c e => by
    obtain ⟨v, o, n, _⟩ := V.fr.cell x c e
    exact Heap.lt_size n
  refine ⟨clos_pure env isc fun x hx => (free x hx).2.2, hkind, fun x hx e => ?_, ?_⟩
  · obtain ⟨n, k⟩ := x
    simp only at e; subst e
    exact mem_lookup nd hx
  · refine (V.le hx fun b o _ e => old b o e) |> fun V' => ?_
    refine ⟨⟨hkind, V.fr.glob, V.fr.bi, ⟨_, (Heap.Ns.new h (.type "dict")).keeps (pushCells_keeps _ _)⟩, fresh_size, fun x e => ck x _ e (by simp), fun x e => ?_, fun x e => ?_, fun x e => ck x _ e (by simp), cellIn, fun x y c ex ey => ?_⟩,
      V'.g.trans V'.ext |>.trans (.refl _) |> fun _ => V.g.trans V.ext, hx, V'.stay, V'.newS, V.bg, V'.pf, V.bP, V.nodup, fun i d x hi hxi hv => ?_, fun i d hi ho => ?_, fun i d hi ho => ?_, fun i j a oi oj si sj ei ej => ?_⟩
    · refine ⟨ck x _ e (by simp), ?_⟩
      obtain ⟨c, e1, l⟩ := (cellsFrom_lookup isc.names (h.objs.size + 1) (closOf env isc.names []) x nd).2 (look e)
      exact ⟨c, e1, none_of_le (by omega)⟩
    · obtain ⟨_, q, c, hc⟩ := free x (look e)
      refine ⟨?_, c, ?_⟩
      · rw [kindOf, e]
        rcases q with q | q
        · left; simp [V.fr.kind, q]
        · right; simp [q]
      · show (cellsFrom (h.objs.size + 1) isc.names (closOf env isc.names [])).lookup x = some c
        rw [(cellsFrom_lookup isc.names _ _ x nd).1 (nocell x _ e (by simp)), closOf_lookup env isc.names [] x nd, if_pos (look e), hc]; rfl
    · rcases lookC x c ex with ⟨q1, _, l1⟩ | ⟨q1, _⟩
      · rcases lookC y c ey with ⟨q2, _, l2⟩ | ⟨q2, _⟩
        · exact name_of_addr okn.apart q1 q2
        · have := ltOld y c q2; exact absurd (Nat.le_of_succ_le l1) (Nat.not_le.mpr this)
      · rcases lookC y c ey with ⟨q2, _, l2⟩ | ⟨q2, _⟩
        · have := ltOld x c q1; exact absurd (Nat.le_of_succ_le l2) (Nat.not_le.mpr this)
        · exact V.fr.inj x y c q1 q2
    · have hi' : σ i = some d ∧ i ∉ vs := by
        unfold unb at hi
        split at hi
        · cases hi
        · rename_i q; exact ⟨hi, by simpa using q⟩
      have noW : ∀ k, isc.names.lookup x = some k → k = .local ∨ k = .cell → False := fun k e hk => by
        have hm := look e
        have h3' := h3 _ hm
        have any : (vs.any fun i => C.tab[i]? == some x) = true → False := fun z => by
          rw [List.any_eq_true] at z
          obtain ⟨j, hj, ej⟩ := z
          have ej : C.tab[j]? = some x := by simpa using ej
          obtain ⟨a1, a2⟩ := List.getElem?_eq_some_iff.mp ej
          obtain ⟨b1, b2⟩ := List.getElem?_eq_some_iff.mp hxi
          have : j = i := (List.getElem_inj V.nodup).mp (a2.trans b2.symm)
          exact hi'.2 (this ▸ hj)
        rcases hk with rfl | rfl
        · simp only [Bool.or_eq_true] at h3'
          rcases h3' with q | q
          · have : x = PySem.Str.ofString ".0" := by simpa using q
            subst this
            have : (C.tab.contains (PySem.Str.ofString ".0")) = true := by
              rw [List.contains_iff_mem]; exact List.mem_of_getElem? hxi
            rw [this] at h4; cases h4
          · exact any q
        · exact any h3'
      rcases isV_cases hv with e | e | e
      · exact (noW _ e (.inl rfl)).elim
      · exact (noW _ e (.inr rfl)).elim
      · obtain ⟨k0, k1, c, hc⟩ := free x (look e)
        have vv := V.val i d x hi'.1 hxi (by unfold isV; rcases k0 with k0 | k0 <;> rw [k0])
        rcases vv with ⟨z, _⟩ | ⟨_, c', hc', n⟩
        · rcases k1 with k1 | k1 <;> rw [k1] at z <;> cases z
        · refine .inr ⟨?_, c', ?_, hx.isCell n⟩
          · rw [kindOf, e]
            rcases k1 with q | q
            · left; simp [V.fr.kind, q]
            · right; simp [q]
          · show (cellsFrom (h.objs.size + 1) isc.names (closOf env isc.names [])).lookup x = some c'
            rw [(cellsFrom_lookup isc.names _ _ x nd).1 (nocell x _ e (by simp)), closOf_lookup env isc.names [] x nd, if_pos (look e), hc']; rfl
    all_goals
      have V'' := V'.less (σ := unb vs σ) (vals := vals) fun j d e => by
        unfold unb at e
        split at e
        · cases e
        · exact ⟨e, rfl⟩
    · exact V''.rep i d hi ho
    · exact V''.owned i d hi ho
    · exact V''.dist i j a oi oj si sj ei ej
end Mine
end

section
open PySem PySem.W PyProof.Rows PySem.SeqAt PySem.MeetsSeq PySem.MeetsSeq2 PySem.MeetsSeq3
set_option maxRecDepth 100000
namespace Mine

/-! ## 15. What a loop draws from: soundness -/

section
variable {prog : Program} {w : World} {A : Around} {C : Cx} {fnm : List PySem.Str} {F : Fn} {fa : Nat → Addr} {mg mb : PySem.Str → Option Value}

variable (prog w A C fnm F) in
def SoSr (sr : Sr) : Prop := ∀ {σ : Sg} {ds : List D} {sc : Scope} {target e : PySem.Expr} {h₀ : Heap} {env : Env} {vals : Nat → Value} {s : Shared} {Q E : Value → Shared → Prop},
  evSr C.own F sr σ = some ds → chkSr C.tab fnm sr sc target e = true → StV C sc h₀ env σ vals s.heap →
  (∀ I fp wr Src St s', Le C.base C.P s s' → It prog w A target I fp wr ds Src St → (∀ a ∈ wr, s.heap.get? a = none) → (∀ a ∈ fp, Sx C σ vals a ∨ s.heap.get? a = none) → St 0 s'.heap → Src s'.heap (fun a => Sx C σ vals a ∧ a ∉ wr) → ds.length ≤ LB → Q (.ref I) s') →
  wpAny (model prog w) A (eval e env) (fun x s₁ => wpAny (model prog w) A (pyIter x) Q E s₁) E s

theorem onFresh {h h' : Heap} {S : Addr → Prop} {wr : List Addr} (k : ∀ b o, h.get? b = some o → h'.get? b = some o) (n : ∀ a ∈ wr, h.get? a = none) : On h h' S (fun a => S a ∧ a ∉ wr) := fun a ha o ho _ =>
  ⟨⟨ha, fun m => by rw [n a m] at ho; cases ho⟩, o.slots, k a o ho⟩

theorem sosr_t {a : T} (hA : AOk A) (ha : SoT prog w A C fnm F a) : SoSr prog w A C fnm F (.t a) := by
  intro σ ds sc target e h₀ env vals s Q E he hc V h
  simp only [chkSr, Bool.and_eq_true, Bool.or_eq_true] at hc
  simp only [evSr, Option.bind_eq_some_iff] at he
  obtain ⟨d, hd, he⟩ := he
  obtain rfl := listD_some he
  refine ha hd hc.2 V fun v s₁ L₁ r _ => ?_
  obtain ⟨l, vs, rfl, hS, hl, hz, hr⟩ := r.plain.list_inv
  have hlt : l < s₁.heap.objs.size := by obtain ⟨_, q, _⟩ := hl; exact Heap.lt_size q
  refine wpAny_pyIter_list hl (h _ _ _ _ _ _ (L₁.trans (.push C.base C.P s₁ _)) (It.list hc.1.1 hA.hh s₁.heap.objs.size l (Nat.ne_of_lt hlt) hr.length) (fun a hm => ?_) (fun a hm => ?_) ⟨⟨_, Heap.get?_push_size _ rfl, rfl, rfl⟩, hl.push _⟩ ?_ hz)
  · obtain rfl := List.mem_singleton.mp hm
    exact L₁.ext.none fresh_size
  · simp only [List.mem_cons, List.not_mem_nil, or_false] at hm
    rcases hm with rfl | rfl
    · exact .inr (L₁.ext.none fresh_size)
    · exact .inl hS
  · exact hr.on (onFresh (fun _ _ e => Heap.get?_push_of_some _ e) fun a hm => by obtain rfl := List.mem_singleton.mp hm; exact fresh_size)

theorem type_call {T : String} {x : PySem.Str} {p pos : Pos} {l : TL} {es : List PySem.Expr} {ds : List D} {σ : Sg} {sc : Scope} {h₀ : Heap} {env : Env} {vals : Nat → Value} {s : Shared} {Q E : Value → Shared → Prop}
    (G : Gl C fnm fa mg mb) (V : StV C sc h₀ env σ vals s.heap) (hx : isG sc x = true) (hm : (x, Value.type T) ∈ srcE) (hne : es.isEmpty = false) (hc : chkL C.tab fnm l sc es = true) (hl : SoL prog w A C fnm F l)
    (he : evL C.own F false l σ = some ds) (h : ∀ vs s', Le C.base C.P s s' → RepL s'.heap (Sx C σ vals) vs ds → wpAny (model prog w) A (call (.type T) vs) Q E s') : wpAny (model prog w) A (eval (.Call (.Name x p) es [] pos) env) Q E s := by
  have hd : (x == debugN) = false := by
    simp only [srcE, List.mem_cons, List.not_mem_nil, or_false, Prod.mk.injEq] at hm
    rcases hm with ⟨rfl, _⟩ | ⟨rfl, _⟩ | ⟨rfl, _⟩ <;> decide
  refine PyProof.Rows.Call_Name rfl (built_name G V hx hd (G.src _ hm) ?_)
  exact PyProof.Rows.callWith_type (plain_trees hc) (evalArgs_of hne hc (hl he hc V fun vs s₁ L₁ _ hS _ => h vs s₁ L₁ (hS _ (fun _ y => y) rfl)))

theorem iter_range_ok {a b : Int} {t u v : Tok} {r : Addr} {target : PySem.Expr} {ds : List D} {s₀ s : Shared} {C : Cx} {σ : Sg} {vals : Nat → Value} {Q E : Value → Shared → Prop} (hA : AOk A) (ht : isName target = true) (hd : rangeD a b = some ds)
    (hr : IsRange s.heap r a b 1 t u v) (L : Le C.base C.P s₀ s)
    (h : ∀ I fp wr Src St s', Le C.base C.P s₀ s' → It prog w A target I fp wr ds Src St → (∀ a ∈ wr, s₀.heap.get? a = none) → (∀ a ∈ fp, Sx C σ vals a ∨ s₀.heap.get? a = none) → St 0 s'.heap → Src s'.heap (fun a => Sx C σ vals a ∧ a ∉ wr) → ds.length ≤ LB → Q (.ref I) s') :
    wpAny (model prog w) A (pyIter (.ref r)) Q E s := by
  unfold rangeD at hd
  split at hd
  · rename_i hz
    obtain ⟨h1, h2, h3⟩ := hz
    cases hd
    simp only [tiny, decide_eq_true_eq] at h1 h2
    have h3' : b - a ≤ 1000 := h3
    refine wpAny_pyIter_range hr (small_one (by omega) (by omega) (by omega) (by omega)) ?_
    refine h _ _ _ _ _ _ (L.trans (.push C.base C.P s _)) (It.range ht hA.hh s.heap.objs.size a (b - a).toNat) (fun c hm => ?_) (fun c hm => ?_) ?_ trivial (by simp [LB]; omega)
    · obtain rfl := List.mem_singleton.mp hm
      exact L.ext.none fresh_size
    · obtain rfl := List.mem_singleton.mp hm
      exact .inr (L.ext.none fresh_size)
    · have e1 : Builtin.Range.rangeSize a b 1 = (((b - a).toNat : Nat) : Int) := by rw [rangeSize_one]; split <;> omega
      show Heap.get? _ _ = some _
      rw [e1]
      have := Heap.get?_push_size (o := { cls := .type "range_iterator", data := .fields #[rawInt a, rawInt (((b - a).toNat : Nat) : Int), rawInt 1] }) s.heap rfl
      simpa using this
  · cases hd

theorem sosr_range1 {a : T} (hA : AOk A) (G : Gl C fnm fa mg mb) (ha : SoT prog w A C fnm F a) : SoSr prog w A C fnm F (.range1 a) := by
  intro σ ds sc target e h₀ env vals s Q E he hc V h
  unfold chkSr at hc
  split at hc <;> try (first | cases hc | (rename_i hh _; cases hh; done) | (rename_i hh; cases hh; done))
  rename_i a' sc' target' x p e pos hh
  cases hh
  simp only [Bool.and_eq_true, beq_iff_eq, Bool.not_eq_true'] at hc
  obtain ⟨⟨⟨⟨h1, rfl⟩, h3⟩, h4⟩, h5⟩ := hc
  simp only [evSr, Option.bind_eq_some_iff] at he
  obtain ⟨d, hd, n, hn, he⟩ := he
  obtain rfl := intD_some hn
  refine type_call (T := "range") (l := .cons a .nil) (ds := [.int n]) G V h3 (by simp [srcE]) rfl (by simp [chkL, h4, h5]) (sl_cons ha sl_nil) (by simp [evL, hd]) fun vs s₁ L₁ rr => ?_
  obtain ⟨v, ws, rfl, r, hr⟩ := rr.cons_inv
  obtain rfl := hr.nil_inv
  obtain ⟨t, rfl⟩ := r.int_inv
  refine call_range_1 ?_
  exact iter_range_ok hA h1 he (IsRange.new s₁.heap 0 n 1 _ t _) (L₁.trans ((Le.push C.base C.P s₁ _).trans (.tok ..))) h
theorem sosr_range2 {a b : T} (hA : AOk A) (G : Gl C fnm fa mg mb) (ha : SoT prog w A C fnm F a) (hb : SoT prog w A C fnm F b) : SoSr prog w A C fnm F (.range2 a b) := by
  intro σ ds sc target e h₀ env vals s Q E he hc V h
  unfold chkSr at hc
  split at hc <;> try (first | cases hc | (rename_i hh _; cases hh; done) | (rename_i hh; cases hh; done))
  rename_i a' b' sc' target' x p e e' pos hh
  cases hh
  simp only [Bool.and_eq_true, beq_iff_eq, Bool.not_eq_true'] at hc
  obtain ⟨⟨⟨⟨⟨⟨h1, rfl⟩, h3⟩, h4⟩, h4'⟩, h5⟩, h5'⟩ := hc
  simp only [evSr, Option.bind_eq_some_iff] at he
  obtain ⟨d, hd, d', hd', m, hm, n, hn, he⟩ := he
  obtain rfl := intD_some hn
  obtain rfl := intD_some hm
  refine type_call (T := "range") (l := .cons a (.cons b .nil)) (ds := [.int m, .int n]) G V h3 (by simp [srcE]) rfl (by simp [chkL, h4, h5, h4', h5']) (sl_cons ha (sl_cons hb sl_nil)) (by simp [evL, hd, hd']) fun vs s₁ L₁ rr => ?_
  obtain ⟨v, ws, rfl, r, hr⟩ := rr.cons_inv
  obtain ⟨v', ws', rfl, r', hr⟩ := hr.cons_inv
  obtain rfl := hr.nil_inv
  obtain ⟨t, rfl⟩ := r.int_inv
  obtain ⟨t', rfl⟩ := r'.int_inv
  refine call_range_2 ?_
  exact iter_range_ok (b := n) hA h1 he (IsRange.new s₁.heap m n 1 t t' _) (L₁.trans ((Le.push C.base C.P s₁ _).trans (.tok ..))) h

theorem isTuple_ex {e : PySem.Expr} (h : isTuple e = true) : ∃ es k pos, e = .Tuple es k pos := by
  cases e <;> first | exact ⟨_, _, _, rfl⟩ | (simp [isTuple] at h)

theorem sosr_enum {a : T} (hA : AOk A) (G : Gl C fnm fa mg mb) (ha : SoT prog w A C fnm F a) : SoSr prog w A C fnm F (.enum a) := by
  intro σ ds sc target e h₀ env vals s Q E he hc V h
  unfold chkSr at hc
  split at hc <;> try (first | cases hc | (rename_i hh _; cases hh; done) | (rename_i hh; cases hh; done))
  rename_i a' sc' target' x p e pos hh
  cases hh
  simp only [Bool.and_eq_true, beq_iff_eq, Bool.not_eq_true'] at hc
  obtain ⟨⟨⟨⟨h1, rfl⟩, h3⟩, h4⟩, h5⟩ := hc
  obtain ⟨es', k', pos', rfl⟩ := isTuple_ex h1
  simp only [evSr, Option.bind_eq_some_iff] at he
  obtain ⟨d, hd, xs, hn, he⟩ := he
  cases he
  obtain rfl := listD_some hn
  refine type_call (T := "enumerate") (l := .cons a .nil) (ds := [.list xs]) G V h3 (by simp [srcE]) rfl (by simp [chkL, h4, h5]) (sl_cons ha sl_nil) (by simp [evL, hd]) fun vs s₁ L₁ rr => ?_
  obtain ⟨v, ws, rfl, r, hr⟩ := rr.cons_inv
  obtain rfl := hr.nil_inv
  obtain ⟨l, vs, rfl, hS, hl, hz, hr⟩ := r.list_inv
  have hlt : l < s₁.heap.objs.size := by obtain ⟨_, q, _⟩ := hl; exact Heap.lt_size q
  refine call_enumerate_list hl fun h' i1 i2 i3 i4 => ?_
  refine wpAny_pyIter_enum i1 ?_
  have nw : ∀ a ∈ [s₁.heap.objs.size + 1, s₁.heap.objs.size], s₁.heap.get? a = none := fun a hm => by
    simp only [List.mem_cons, List.not_mem_nil, or_false] at hm
    rcases hm with rfl | rfl
    · exact none_of_le (Nat.le_succ _)
    · exact fresh_size
  refine h _ _ _ _ _ _ (L₁.trans (.keep (tk := s₁.toks) i4)) (It.enum hA.hh (e := s₁.heap.objs.size + 1) (it := s₁.heap.objs.size) (l := l) (Nat.succ_ne_self _) (Nat.ne_of_lt (Nat.lt_succ_of_lt hlt)) (Nat.ne_of_lt hlt) hr.length)
    (fun a hm => L₁.ext.none (nw a hm)) (fun a hm => by
      simp only [List.mem_cons, List.not_mem_nil, or_false] at hm
      rcases hm with rfl | rfl | rfl
      · exact .inr (L₁.ext.none (nw _ (by simp)))
      · exact .inr (L₁.ext.none (nw _ (by simp)))
      · exact .inl hS) ⟨⟨_, i1⟩, i2, (Ext.of i4).isList hl⟩ ((hr.on (onFresh i4 nw)).mono fun _ x => ⟨x, x.2⟩) (by rw [enumD_length]; exact hz)

theorem sosr_zip {a b : T} (hA : AOk A) (G : Gl C fnm fa mg mb) (ha : SoT prog w A C fnm F a) (hb : SoT prog w A C fnm F b) : SoSr prog w A C fnm F (.zip a b) := by
  intro σ ds sc target e h₀ env vals s Q E he hc V h
  unfold chkSr at hc
  split at hc <;> try (first | cases hc | (rename_i hh _; cases hh; done) | (rename_i hh; cases hh; done))
  rename_i a' b' sc' target' x p e e' pos hh
  cases hh
  simp only [Bool.and_eq_true, beq_iff_eq, Bool.not_eq_true'] at hc
  obtain ⟨⟨⟨⟨⟨⟨h1, rfl⟩, h3⟩, h4⟩, h4'⟩, h5⟩, h5'⟩ := hc
  obtain ⟨es', k', pos', rfl⟩ := isTuple_ex h1
  simp only [evSr, Option.bind_eq_some_iff] at he
  obtain ⟨d, hd, d', hd', xs, hm, ys, hn, he⟩ := he
  cases he
  obtain rfl := listD_some hn
  obtain rfl := listD_some hm
  refine type_call (T := "zip") (l := .cons a (.cons b .nil)) (ds := [.list xs, .list ys]) G V h3 (by simp [srcE]) rfl (by simp [chkL, h4, h5, h4', h5']) (sl_cons ha (sl_cons hb sl_nil)) (by simp [evL, hd, hd']) fun vs s₁ L₁ rr => ?_
  obtain ⟨v, ws, rfl, r, hr⟩ := rr.cons_inv
  obtain ⟨v', ws', rfl, r', hr⟩ := hr.cons_inv
  obtain rfl := hr.nil_inv
  obtain ⟨l, vs, rfl, hS, hl, hz, hq⟩ := r.list_inv
  obtain ⟨l', vs', rfl, hS', hl', hz', hr'⟩ := r'.list_inv
  have hlt : l < s₁.heap.objs.size := by obtain ⟨_, q, _⟩ := hl; exact Heap.lt_size q
  have hlt' : l' < s₁.heap.objs.size := by obtain ⟨_, q, _⟩ := hl'; exact Heap.lt_size q
  refine call_zip_2 hl hl' fun h' i1 i2 i3 i4 i5 i6 i7 => ?_
  refine wpAny_pyIter_zip i1 ?_
  have nw : ∀ a ∈ [s₁.heap.objs.size + 4, s₁.heap.objs.size + 3, s₁.heap.objs.size, s₁.heap.objs.size + 1], s₁.heap.get? a = none := fun a hm => by
    simp only [List.mem_cons, List.not_mem_nil, or_false] at hm
    rcases hm with rfl | rfl | rfl | rfl <;> exact none_of_le (by first | exact Nat.le_refl _ | exact Nat.le_add_right _ _)
  generalize hn : s₁.heap.objs.size = n at *
  have Da : ZipApart (n + 4) (n + 2) (n + 3) n (n + 1) l l' := by
    have q : ∀ k, l ≠ n + k := fun k => Nat.ne_of_lt (Nat.lt_of_lt_of_le hlt (Nat.le_add_right _ _))
    have q' : ∀ k, l' ≠ n + k := fun k => Nat.ne_of_lt (Nat.lt_of_lt_of_le hlt' (Nat.le_add_right _ _))
    have f : ∀ {i j : Nat}, i ≠ j → n + i ≠ n + j := fun h z => h (Nat.add_left_cancel z)
    exact ⟨f (by decide), f (by decide), f (i := 0) (by decide), f (by decide), f (by decide), f (j := 0) (by decide), f (by decide), f (j := 0) (by decide), f (by decide), f (i := 0) (by decide), q 4, q 3, q 0, q 1, q' 4, q' 3, q' 0, q' 1⟩
  refine h _ _ _ _ _ _ (L₁.trans (.keep (tk := s₁.toks) i7)) (It.zip hA.hh Da hq.length hr'.length)
    (fun a hm => L₁.ext.none (nw a hm)) (fun a hm => by
      simp only [List.mem_cons, List.not_mem_nil, or_false] at hm
      rcases hm with rfl | rfl | rfl | rfl | rfl | rfl | rfl
      · exact .inr (L₁.ext.none (nw _ (by simp)))
      · exact .inr (L₁.ext.none (hn ▸ none_of_le (Nat.le_add_right _ _)))
      · exact .inr (L₁.ext.none (nw _ (by simp)))
      · exact .inr (L₁.ext.none (nw _ (by simp)))
      · exact .inr (L₁.ext.none (nw _ (by simp)))
      · exact .inl hS
      · exact .inl hS') ⟨i1, i2, ⟨_, _, i3⟩, i4, i5, (Ext.of i7).isList hl, (Ext.of i7).isList hl'⟩ ⟨(hq.on (onFresh i7 nw)).mono fun _ x => ⟨x, x.2⟩, (hr'.on (onFresh i7 nw)).mono fun _ x => ⟨x, x.2⟩⟩ (by rw [zipD_length]; omega)
end
end Mine
end

section
open PySem PySem.W PyProof.Rows PySem.SeqAt PySem.MeetsSeq PySem.MeetsSeq2 PySem.MeetsSeq3
set_option maxRecDepth 100000
namespace Mine

/-! ## 16. Loops of comprehensions -/

abbrev Cx.w (C : Cx) (S : Addr → Prop) : Cx := { C with S := S }

section
variable {C : Cx} {sc : Scope} {h₀ h h' : Heap} {env : Env} {σ : Sg} {vals : Nat → Value}

/-- a change at addresses that no value bears and no frame is -/
theorem StV.chg' (V : StV C sc h₀ env σ vals h) (S' : Addr → Prop) (m' : ∀ a, C.S a → S' a) (X : List Addr) (k : ∀ b o, b ∉ X → h.get? b = some o → h'.get? b = some o)
    (kd : ∀ a ∈ X, ∃ o, h.get? a = some o ∧ (∀ es n, o.data ≠ .dict es n) ∧ ∀ u, o.data ≠ .cell u) (hx : ∀ a ∈ X, h'.get? a = none → S' a) (hn : ∀ a ∈ X, h₀.get? a = none)
    (hS : ∀ a ∈ X, ¬ C.S a) (hO : ∀ a ∈ X, NotO C.own σ vals a) : StV (C.w S') sc h₀ env σ vals h' := by
  have on : On h h' (Sx C σ vals) (Sx (C.w S') σ vals) := fun a ha o ho _ => ⟨⟨m' a ha.1, ha.2⟩, o.slots, k a o (fun m => hS a m ha.1) ho⟩
  have ne : env.locals ∉ X := fun m => by
    obtain ⟨o, q, d, _⟩ := kd _ m
    obtain ⟨mm, o', es, ep, q', d', _⟩ := V.fr.ns
    rw [q] at q'; cases q'; exact d _ _ d'
  have cne : ∀ x c, env.cells.lookup x = some c → c ∉ X := fun x c hc m => by
    obtain ⟨o, q, _, d⟩ := kd _ m
    obtain ⟨v, o', q', d'⟩ := V.fr.cell x c hc
    rw [q] at q'; cases q'; exact d _ d'
  have ns : ∀ m, h.Ns env.locals m → h'.Ns env.locals m := fun m ⟨o, es, ep, q, r⟩ => ⟨o, es, ep, k _ o ne q, r⟩
  have ic : ∀ x c v, env.cells.lookup x = some c → h.IsCell c v → h'.IsCell c v := fun x c v hc ⟨o, q, d⟩ => ⟨o, k _ o (cne x c hc) q, d⟩
  refine ⟨⟨V.fr.kind, V.fr.glob, V.fr.bi, let ⟨m, n⟩ := V.fr.ns; ⟨m, ns m n⟩, V.fr.newL, V.fr.kL, V.fr.kC, V.fr.kF, V.fr.kG, fun x c hc => let ⟨v, n⟩ := V.fr.cell x c hc; ⟨v, ic x c v hc n⟩, V.fr.inj⟩,
    V.g, fun b o e => ?_, fun b o e => ?_, fun a n => ?_, V.bg, fun a p => ?_, V.bP, V.nodup, fun i d x a b c => ?_, fun i d a b => (V.rep i d a b).on on, fun i d a b => ?_, V.dist⟩
  · obtain ⟨sl, w⟩ := V.ext b o e
    exact ⟨sl, k b _ (fun m => by rw [hn b m] at e; cases e) w⟩
  · refine k b o (fun m => V.bg b o e (V.g.none (hn b m))) (V.stay b o e)
  · by_cases m : a ∈ X
    · exact hx a m n
    · refine m' a (V.newS a ?_)
      cases q : h.get? a with
      | none => rfl
      | some o => rw [k a o m q] at n; cases n
  · obtain ⟨o, es, n, q, d⟩ := V.pf a p
    refine ⟨o, es, n, k a o (fun m => ?_) q, d⟩
    obtain ⟨o', q', d', _⟩ := kd a m
    rw [q] at q'; cases q'; exact d' _ _ d
  · rcases V.val i d x a b c with ⟨q1, m, q2, q3⟩ | ⟨q1, c', q2, q3⟩
    · exact .inl ⟨q1, m, ns m q2, q3⟩
    · exact .inr ⟨q1, c', q2, ic x c' _ q2 q3⟩
  · obtain ⟨ad, ds, vs, q1, q2, ⟨o, g1, g2⟩, q4, q5⟩ := V.owned i d a b
    exact ⟨ad, ds, vs, q1, q2, ⟨o, k ad o (fun m => hO ad m i b (by rw [a]; rfl) q2) g1, g2⟩, q4.on on, q5⟩
theorem StV.chg (V : StV C sc h₀ env σ vals h) (X : List Addr) (k : ∀ b o, b ∉ X → h.get? b = some o → h'.get? b = some o)
    (kd : ∀ a ∈ X, ∃ o, h.get? a = some o ∧ (∀ es n, o.data ≠ .dict es n) ∧ ∀ u, o.data ≠ .cell u) (hx : ∀ a ∈ X, h'.get? a ≠ none) (hn : ∀ a ∈ X, h₀.get? a = none)
    (hS : ∀ a ∈ X, ¬ C.S a) (hO : ∀ a ∈ X, NotO C.own σ vals a) : StV C sc h₀ env σ vals h' :=
  V.chg' C.S (fun _ z => z) X k kd (fun a m n => absurd n (hx a m)) hn hS hO
/-- addresses that were not there are shunned from now on -/
theorem StV.shun (V : StV C sc h₀ env σ vals h) (V' : StV C sc h₀ env σ vals h') (e : Ext h h') (X : List Addr) (n : ∀ a ∈ X, h.get? a = none) (x : ∀ a ∈ X, h'.get? a ≠ none) :
    StV (C.w fun a => C.S a ∧ a ∉ X) sc h₀ env σ vals h' := by
  have on : On h h' (Sx C σ vals) (Sx (C.w fun a => C.S a ∧ a ∉ X) σ vals) := fun a ha o ho _ => ⟨⟨⟨ha.1, fun m => by rw [n a m] at ho; cases ho⟩, ha.2⟩, e a o ho⟩
  exact ⟨V'.fr, V'.g, V'.ext, V'.stay, fun a q => ⟨V'.newS a q, fun m => x a m q⟩, V'.bg, V'.pf, V'.bP, V'.nodup, V'.val, fun i d a b => (V.rep i d a b).on on,
    fun i d a b => let ⟨ad, ds, vs, q1, q2, q3, q4, q5⟩ := V.owned i d a b; ⟨ad, ds, vs, q1, q2, e.isList q3, q4.on on, q5⟩, V'.dist⟩
theorem StV.wide {S : Addr → Prop} (V : StV (C.w S) sc h₀ env σ vals h) {S' : Addr → Prop} (m : ∀ a, S a → S' a) : StV (C.w S') sc h₀ env σ vals h :=
  ⟨V.fr, V.g, V.ext, V.stay, fun a q => m a (V.newS a q), V.bg, V.pf, V.bP, V.nodup, V.val, fun i d a b => (V.rep i d a b).mono fun _ z => ⟨m _ z.1, z.2⟩,
    fun i d a b => let ⟨ad, ds, vs, q1, q2, q3, q4, q5⟩ := V.owned i d a b; ⟨ad, ds, vs, q1, q2, q3, q4.mono fun _ z => ⟨m _ z.1, z.2⟩, q5⟩, V.dist⟩
end

/-- what a comprehension's loop leaves alone -/
def Kq (X : List Addr) (h h' : Heap) : Prop := ∀ b o, h.get? b = some o → (∀ es k, o.data ≠ .dict es k) → (∀ u, o.data ≠ .cell u) → b ∉ X → h'.get? b = some o
theorem Kq.refl (X : List Addr) (h : Heap) : Kq X h h := fun _ _ e _ _ _ => e
theorem Kq.trans {X : List Addr} {a b c : Heap} (x : Kq X a b) (y : Kq X b c) : Kq X a c := fun k o e n1 n2 n3 => y k o (x k o e n1 n2 n3) n1 n2 n3
theorem Kq.more {X Y : List Addr} {a b : Heap} (x : Kq X a b) (m : ∀ a ∈ X, a ∈ Y) : Kq Y a b := fun k o e n1 n2 n3 => x k o e n1 n2 fun z => n3 (m k z)
theorem Kq.of {X : List Addr} {h h' : Heap} (k : ∀ b o, b ∉ X → h.get? b = some o → h'.get? b = some o) : Kq X h h' := fun b o e _ _ n => k b o n e
/-- what was not there does not count -/
theorem Kq.new {X Y : List Addr} {h h' : Heap} (x : Kq X h h') (n : ∀ a ∈ X, a ∉ Y → h.get? a = none) : Kq Y h h' := fun b o e n1 n2 n3 => x b o e n1 n2 fun m => by rw [n b m n3] at e; cases e
section
variable {C : Cx} {sc : Scope} {h₀ h h' : Heap} {env : Env} {σ : Sg} {vals : Nat → Value}
theorem Kq.le {s s' : Shared} (V : StV C sc h₀ env σ vals s.heap) (L : Le C.base C.P s s') (X : List Addr) : Kq X s.heap s'.heap := fun b o e n1 _ _ => L.exact b o (V.offP e n1) e
theorem Kq.kp (V : StV C sc h₀ env σ vals h) (k : Kp h₀ env h h') (X : List Addr) : Kq X h h' := fun b o e n1 n2 _ => k.big b o e (fun z => by
  obtain ⟨m, o', es, ep, q, d, _⟩ := V.fr.ns
  rw [← z, e] at q; cases q; exact n1 _ _ d) n2
end

section
variable {prog : Program} {w : World} {A : Around} {C : Cx} {fnm : List PySem.Str} {F : Fn}

/-! the tests -/
def testF (env : Env) : PySem.Expr → Bool → Sem (ForInStep Bool) := fun c r => if r = true then do let ok ← isTrue c env (eval c env); pure (ForInStep.yield ok) else pure (ForInStep.yield r)
variable (prog w A C fnm F) in
def SoTs (l : TL) : Prop := ∀ {σ : Sg} {b : Bool} {sc : Scope} {es : List PySem.Expr} {h₀ : Heap} {env : Env} {vals : Nat → Value} {s : Shared} {Q : Bool → Shared → Prop} {E : Value → Shared → Prop},
  evC C.own F l σ = some b → chkL C.tab fnm l sc es = true → StV C sc h₀ env σ vals s.heap → (∀ s', Le C.base C.P s s' → Q b s') → wpAny (model prog w) A (forIn es true (testF env)) Q E s
theorem test_false {env : Env} {E : Value → Shared → Prop} : ∀ {es : List PySem.Expr} {s : Shared} {Q : Bool → Shared → Prop}, Q false s → wpAny (model prog w) A (forIn es false (testF env)) Q E s
  | [], s, Q, h => wpAny_pure h
  | e :: es, s, Q, h => by
    rw [List.forIn_cons]
    unfold testF
    simp only [Bool.false_eq_true, if_false]
    exact wpAny_bind (wpAny_pure (test_false (es := es) h))
theorem sots_nil : SoTs prog w A C fnm F .nil := by
  intro σ b sc es h₀ env vals s Q E he hc V h
  cases es with
  | cons => simp [chkL] at hc
  | nil =>
    simp only [evC, Option.some.injEq] at he
    subst he
    exact wpAny_pure (h _ (.refl ..))
theorem sots_cons {a : T} {l : TL} (ha : SoB prog w A C fnm F a) (hl : SoTs prog w A C fnm F l) : SoTs prog w A C fnm F (.cons a l) := by
  intro σ b sc es h₀ env vals s Q E he hc V h
  cases es with
  | nil => simp [chkL] at hc
  | cons e es =>
    simp only [chkL, Bool.and_eq_true] at hc
    simp only [evC, Option.bind_eq_some_iff] at he
    obtain ⟨x, hx, q, hq, he⟩ := he
    obtain rfl := boolD_some hq
    rw [List.forIn_cons]
    refine wpAny_bind ?_
    show wpAny _ _ (do let ok ← isTrue e env (eval e env); pure (ForInStep.yield ok)) _ _ _
    refine wpAny_bind (ha hx hc.1.2 V fun s₁ L₁ => wpAny_pure ?_)
    show wpAny _ _ (forIn es q (testF env)) _ _ _
    cases q with
    | true => exact hl he hc.2 (V.Le L₁) fun s₂ L₂ => h _ (L₁.trans L₂)
    | false => cases he; exact test_false (h _ L₁)

/-! the state of a comprehension -/
structure CI (C : Cx) (S : Addr → Prop) (isc : Scope) (h₀ : Heap) (cenv : Env) (σ : Sg) (vals : Nat → Value) (Dl : Addr) (acc : List D) (h : Heap) : Prop where
  V : StV (C.w S) isc h₀ cenv σ vals h
  ex : Exact C.P h₀ h
  ls : ∃ vs, h.IsList Dl vs.toArray ∧ RepL h (Sx (C.w S) σ vals) vs acc
  nS : ∀ a, S a → a ≠ Dl
  nO : NotO C.own σ vals Dl
  new : h₀.get? Dl = none

theorem CI.le {S : Addr → Prop} {isc : Scope} {h₀ : Heap} {cenv : Env} {σ : Sg} {vals : Nat → Value} {Dl : Addr} {acc : List D} {s s' : Shared} (I : CI C S isc h₀ cenv σ vals Dl acc s.heap) (L : Le C.base C.P s s') :
    CI C S isc h₀ cenv σ vals Dl acc s'.heap :=
  ⟨StV.Le (C := C.w S) I.V L, fun b o p e => L.exact b o p (I.ex b o p e), let ⟨vs, a, b⟩ := I.ls; ⟨vs, L.ext.isList a, b.ext L.ext⟩, I.nS, I.nO, I.new⟩

theorem CI.le' {S : Addr → Prop} {isc : Scope} {h₀ : Heap} {cenv : Env} {σ : Sg} {vals : Nat → Value} {Dl : Addr} {acc : List D} {s s' : Shared} (L : Le C.base C.P s s') (I : CI C S isc h₀ cenv σ vals Dl acc s.heap) :
    CI C S isc h₀ cenv σ vals Dl acc s'.heap := I.le L

def tailAct (elt : PySem.Expr) (gens : List Comprehension) (isc : Scope) (pos : Pos) (depth : Nat) (Dl : Addr) (env : Env) (k : Sem Fin) : Sem Fin :=
  match gens[depth + 1]? with
  | some g' => do
    let x ← eval g'.iter env
    standAt g'.iter.pos
    let x ← foldedSetIterable g'.iter env x
    let _ ← runOwn (.compStart (.ListComp elt gens isc pos) (depth + 1) (← holding [x] (pyIter x)) (.ref Dl) env) env
    k
  | none => do
    (do let _ ← call (.builtin "list.append") [.ref Dl, ← eval elt env])
    k

theorem compTurn_at {elt target iter : PySem.Expr} {ifs : List PySem.Expr} {gens : List Comprehension} {isc : Scope} {pos : Pos} {depth : Nat} (it : Value) (Dl : Addr) (env : Env) (hg : gens[depth]? = some ⟨target, iter, ifs, 0⟩)
    (hg' : gens[depth + 1]? = none ∨ ∃ t i f, gens[depth + 1]? = some ⟨t, i, f, 0⟩) :
    compTurn (.ListComp elt gens isc pos) depth it (.ref Dl) env = (do
      standAt iter.pos
      match ← pyNext it with
      | none => pure (.done .next)
      | some v =>
        letOwnedTupleGo target it v
        assign target env v
        let ok ← forIn ifs true (testF env)
        if ok then tailAct elt gens isc pos depth Dl env (again (.compLoop (.ListComp elt gens isc pos) depth it (.ref Dl) env))
        else again (.compLoop (.ListComp elt gens isc pos) depth it (.ref Dl) env)) := by
  unfold compTurn
  simp only [hg]
  unfold tailAct testF
  rcases hg' with hg' | ⟨t, i, f, hg'⟩
  · simp only [hg']; rfl
  · simp only [hg']; rfl

variable (prog w A C F) in
/-- what follows the tests, at a depth -/
def TailOk (elt : PySem.Expr) (gens : List Comprehension) (isc : Scope) (pos : Pos) (f : Sg → Option D) (depth : Nat) (g' : GL) : Prop :=
  ∀ {S : Addr → Prop} {σ : Sg} {vals : Nat → Value} {h₀ : Heap} {cenv : Env} {Dl : Addr} {acc out : List D} {s : Shared} {k : Sem Fin} {Q : Fin → Shared → Prop} {E : Value → Shared → Prop},
    evG C.own F f g' σ = some out → CI C S isc h₀ cenv σ vals Dl acc s.heap → (∀ j ∈ g'.vars, σ j = none) → acc.length + out.length ≤ LB →
    (∀ h' tk, CI C S isc h₀ cenv σ vals Dl (acc ++ out) h' → Kq [Dl] s.heap h' → wpAny (model prog w) A k Q E { s with heap := h', toks := tk }) → wpAny (model prog w) A (tailAct elt gens isc pos depth Dl cenv k) Q E s

theorem CI.app {S : Addr → Prop} {isc : Scope} {h₀ h h' : Heap} {cenv : Env} {σ : Sg} {vals : Nat → Value} {Dl : Addr} {acc : List D} {v : Value} {d : D} {vs : List Value} (I : CI C S isc h₀ cenv σ vals Dl acc h)
    (hl : h.IsList Dl vs.toArray) (hr : RepL h (Sx (C.w S) σ vals) vs acc) (hv : Rep h (Sx (C.w S) σ vals) v d) (hl' : h'.IsList Dl (vs.toArray.push v)) (hs : Heap.SameBut Dl h h') : CI C S isc h₀ cenv σ vals Dl (acc ++ [d]) h' := by
  have k : ∀ b o, b ∉ [Dl] → h.get? b = some o → h'.get? b = some o := fun b o n e => (hs.2 b fun z => n (by simp [z])).trans e
  have on : On h h' (Sx (C.w S) σ vals) (Sx (C.w S) σ vals) := fun a ha o ho _ => ⟨ha, o.slots, (hs.2 a (I.nS a ha.1)).trans ho⟩
  refine ⟨I.V.chg [Dl] k (fun a m => ?_) (fun a m => ?_) (fun a m => ?_) (fun a m => ?_) (fun a m => ?_), fun b o p e => (hs.2 b fun z => ?_).trans (I.ex b o p e), ⟨vs ++ [v], by simpa using hl', (hr.append (.cons hv .nil)).on on⟩, I.nS, I.nO, I.new⟩
  · obtain rfl := List.mem_singleton.mp m
    obtain ⟨o, q, _, n, d⟩ := hl
    exact ⟨o, q, fun _ _ => by rw [d]; simp, fun _ => by rw [d]; simp⟩
  · obtain rfl := List.mem_singleton.mp m
    obtain ⟨o, q, _⟩ := hl'
    rw [q]; simp
  · obtain rfl := List.mem_singleton.mp m; exact I.new
  · obtain rfl := List.mem_singleton.mp m; exact fun z => I.nS _ z rfl
  · obtain rfl := List.mem_singleton.mp m; exact I.nO
  · rw [z, I.new] at e; cases e

theorem tail_nil {elt : PySem.Expr} {t : T} {gens : List Comprehension} {isc : Scope} {pos : Pos} {depth : Nat} (hg : gens[depth + 1]? = none) (hc : chk C.tab fnm t isc elt = true) (ht : ∀ S, SoT prog w A (C.w S) fnm F t) :
    TailOk prog w A C F elt gens isc pos (fun σ => ev C.own F false t σ) depth .nil := by
  intro S σ vals h₀ cenv Dl acc out s k Q E he I _ hz h
  simp only [evG, Option.bind_eq_some_iff] at he
  obtain ⟨d, hd, he⟩ := he
  cases he
  unfold tailAct
  rw [hg]
  refine wpAny_bind (wpAny_bind (ht S hd hc I.V fun v s₁ L₁ r _ => ?_))
  have I₁ := I.le L₁
  obtain ⟨vs, hl, hr⟩ := I₁.ls
  have hlen := hr.length
  have hsz : vs.toArray.size ≤ sizeLine := by rw [List.size_toArray, hlen]; exact Nat.le_trans (by simp at hz; omega) LBs
  refine wpAny_bind (wpAny_list_append (hsz := hsz) hl fun h' hl' hs' => wpAny_pure ?_)
  obtain ⟨h1, t1, rfl, e1, k1, b1⟩ := L₁
  exact h h' t1 (I₁.app hl hr r.plain hl' hs') ((Kq.le (C := C.w S) I.V ⟨h1, t1, rfl, e1, k1, b1⟩ _).trans (.of fun b o n e => (hs'.2 b fun z => n (by simp [z])).trans e))
end
end Mine
end

section
open PySem PySem.W PyProof.Rows PySem.SeqAt PySem.MeetsSeq PySem.MeetsSeq2 PySem.MeetsSeq3
set_option maxRecDepth 100000
namespace Mine

/-! ## 17. Comprehensions -/
section
variable {prog : Program} {w : World} {A : Around} {C : Cx} {fnm : List PySem.Str} {F : Fn}

theorem CI.bind {S : Addr → Prop} {isc : Scope} {h₀ h h' : Heap} {cenv : Env} {σ σ' : Sg} {vals vals' : Nat → Value} {Dl : Addr} {acc : List D} {l : List Nat} (I : CI C S isc h₀ cenv σ vals Dl acc h)
    (V' : StV (C.w S) isc h₀ cenv σ' vals' h') (ag : Ag C.own l σ σ' vals vals') (kp : Kp h₀ cenv h h') : CI C S isc h₀ cenv σ' vals' Dl acc h' := by
  obtain ⟨vs, hl, hr⟩ := I.ls
  refine ⟨V', fun b o p e => kp.old b o (by rw [e]; simp) (I.ex b o p e), ⟨vs, ?_, hr.on (kp.on I.V fun a ha => (Ag.sx (C := C.w S) ag).mp ha)⟩, I.nS, ag.notO.mp I.nO, I.new⟩
  obtain ⟨o, q, c, n, d⟩ := hl
  exact ⟨o, Kq.kp I.V kp [] _ _ q (fun _ _ => by rw [d]; simp) (fun _ => by rw [d]; simp) (by simp), c, n, d⟩
theorem CI.unbind {S : Addr → Prop} {isc : Scope} {h₀ h' : Heap} {cenv : Env} {σ σ' : Sg} {vals vals' : Nat → Value} {Dl : Addr} {acc : List D} {l : List Nat} (I : CI C S isc h₀ cenv σ' vals' Dl acc h')
    (ag : Ag C.own l σ σ' vals vals') (hv : ∀ j ∈ l, σ j = none) : CI C S isc h₀ cenv σ vals Dl acc h' := by
  obtain ⟨vs, hl, hr⟩ := I.ls
  refine ⟨I.V.less fun j d e => ?_, I.ex, ⟨vs, hl, hr.mono fun a ha => (Ag.sx (C := C.w S) ag).mpr ha⟩, I.nS, ag.notO.mpr I.nO, I.new⟩
  have : j ∉ l := fun m => by rw [hv j m] at e; cases e
  obtain ⟨e1, e2⟩ := ag.off j this
  exact ⟨e1.trans e, e2⟩

theorem comp_level {elt target iter : PySem.Expr} {ifs : List PySem.Expr} {gens : List Comprehension} {isc : Scope} {pos : Pos} {depth : Nat} {f : Sg → Option D} {p : Pat} {c : TL} {g' : GL} (hA : AOk A)
    (hg : gens[depth]? = some ⟨target, iter, ifs, 0⟩) (hg' : gens[depth + 1]? = none ∨ ∃ t i f, gens[depth + 1]? = some ⟨t, i, f, 0⟩) (hp : chkP C.tab p isc target = true) (hcc : chkL C.tab fnm c isc ifs = true)
    (hts : ∀ S, SoTs prog w A (C.w S) fnm F c) (hT : TailOk prog w A C F elt gens isc pos f depth g')
    {S S' : Addr → Prop} {σ : Sg} {vals : Nat → Value} {h₀ : Heap} {cenv : Env} {Dl : Addr} {acc out : List D} {s : Shared} {R : Result → Shared → Prop} {I : Addr} {fp wr : List Addr} {ds : List D} {Src : Heap → (Addr → Prop) → Prop} {St : Nat → Heap → Prop}
    (W : It prog w A target I fp wr ds Src St)
    (he : flatM (fun d => (bindP C.own p d σ).bind fun σ' => (evC C.own F c σ').bind fun b => if b then evG C.own F f g' σ' else some []) ds = some out)
    (hI : CI C S isc h₀ cenv σ vals Dl acc s.heap) (hv : ∀ j ∈ p.vars ++ g'.vars, σ j = none) (hnd : (p.vars ++ g'.vars).Nodup)
    (hst : St 0 s.heap) (hsrc : Src s.heap (Sx (C.w S) σ vals)) (hDf : Dl ∉ fp) (hwS : ∀ a, S a → a ∉ wr) (hwO : ∀ a ∈ wr, NotO C.own σ vals a) (hwn : ∀ a ∈ wr, h₀.get? a = none) (hz : acc.length + out.length ≤ LB)
    (hS' : ∀ a, S a → S' a) (hSw : ∀ a ∈ wr, S' a) (hSD : ∀ a, S' a → a ≠ Dl)
    (hR : ∀ h' tk, CI C S' isc h₀ cenv σ vals Dl (acc ++ out) h' → Kq (Dl :: wr) s.heap h' → R (.ok .next) { s with heap := h', toks := tk }) :
    codeAny (model prog w) A (.compLoop (.ListComp elt gens isc pos) depth (.ref I) (.ref Dl) cenv) R s := by
  refine codeAny_loop rfl (fun n s' => ∃ i h' tk accs rest, s' = { s with heap := h', toks := tk } ∧ n = ds.length + 1 - i ∧ i ≤ ds.length ∧
    flatM (fun d => (bindP C.own p d σ).bind fun σ' => (evC C.own F c σ').bind fun b => if b then evG C.own F f g' σ' else some []) (ds.drop i) = some rest ∧ accs ++ rest = acc ++ out ∧
    CI C S isc h₀ cenv σ vals Dl accs h' ∧ St i h' ∧ Src h' (Sx (C.w S) σ vals) ∧ Kq (Dl :: wr) s.heap h') ?_ (ds.length + 1) ⟨0, s.heap, s.toks, acc, out, rfl, rfl, Nat.zero_le _, by simpa using he, rfl, hI, hst, hsrc, Kq.refl _ _⟩
  rintro n s' ⟨i, h, tk, accs, rest, rfl, rfl, hi, hf, hacc, hI, hst, hsrc, hkq⟩
  show wpAny _ A ((compTurn (.ListComp elt gens isc pos) depth (.ref I) (.ref Dl) cenv).onRaise (fun x => do noteFrame x cenv; theTreesLotGoes x)) _ _ _
  refine wpAny_noted ?_
  rw [compTurn_at _ _ _ hg hg']
  refine wpAny_bind (wpAny_standAt (wpAny_bind ?_))
  have hwf : ∀ {i h'}, St i h' → ∀ a ∈ wr, ∃ o, h'.get? a = some o ∧ (∀ es n, o.data ≠ .dict es n) ∧ ∀ u, o.data ≠ .cell u := fun st a m => W.obj _ _ st a (W.sub a m)
  have hDw : Dl ∉ wr := fun m => hDf (W.sub _ m)
  by_cases hlt : i < ds.length
  · have hd : ds[i]? = some ds[i] := List.getElem?_eq_getElem hlt
    rw [List.drop_eq_getElem_cons hlt] at hf
    simp only [flatM, Option.bind_eq_some_iff] at hf
    obtain ⟨a, ⟨σ', hb, b, hcb, hif⟩, rest', hf', hrest⟩ := hf
    cases hrest
    refine W.item i { s with heap := h, toks := tk } (Sx (C.w S) σ vals) ds[i] _ _ hd hst hsrc (fun a n => hI.V.new n) fun v h1 tk1 k1 hgo => ?_
    refine wpAny_bind (hgo _ _ _ rfl fun h2 st2 rv k2 => ?_)
    have k12 : ∀ b o, b ∉ wr → h.get? b = some o → h2.get? b = some o := fun b o n e => k2 b o n (k1 b o n e)
    have V2 : StV (C.w S) isc h₀ cenv σ vals h2 := hI.V.chg wr k12 (hwf hst) (fun a m => by obtain ⟨o, q, _⟩ := hwf st2 a m; rw [q]; simp) hwn (fun a m z => hwS a z m) hwO
    have I2 : CI C S isc h₀ cenv σ vals Dl accs h2 := by
      obtain ⟨vs, ⟨o, q, r⟩, hr⟩ := hI.ls
      exact ⟨V2, fun b o p e => k12 b o (fun m => by rw [hwn b m] at e; cases e) (hI.ex b o p e), ⟨vs, ⟨o, k12 _ o hDw q, r⟩, hr.on fun a ha o ho _ => ⟨ha, o.slots, k12 a o (hwS a ha.1) ho⟩⟩, hI.nS, hI.nO, hI.new⟩
    refine wpAny_bind (so_bind (C := C.w S) hA.hh p hb hp V2 rv fun h3 tk3 vals' V3 ag kp => ?_)
    have I3 := I2.bind V3 ag kp
    refine wpAny_bind (hts S hcb hcc V3 fun s4 L4 => ?_)
    have I4 : CI C S isc h₀ cenv σ' vals' Dl accs s4.heap := CI.le' (C := C) L4 I3
    have kq24 : Kq [Dl] h2 s4.heap := (Kq.kp V2 kp _).trans (Kq.le (C := C.w S) V3 L4 _)
    obtain ⟨h4, tk4, rfl, L4'⟩ := L4
    have fin : ∀ h5 tk5, CI C S isc h₀ cenv σ' vals' Dl (accs ++ a) h5 → Kq [Dl] h2 h5 →
        ∃ m, m < ds.length + 1 - i ∧ ∃ i h' tk accs rest, ({ s with heap := h5, toks := tk5 } : Shared) = { s with heap := h', toks := tk } ∧ m = ds.length + 1 - i ∧ i ≤ ds.length ∧
          flatM (fun d => (bindP C.own p d σ).bind fun σ' => (evC C.own F c σ').bind fun b => if b then evG C.own F f g' σ' else some []) (ds.drop i) = some rest ∧ accs ++ rest = acc ++ out ∧
          CI C S isc h₀ cenv σ vals Dl accs h' ∧ St i h' ∧ Src h' (Sx (C.w S) σ vals) ∧ Kq (Dl :: wr) s.heap h' := fun h5 tk5 I5 kq => by
      have kqh : Kq (Dl :: wr) h h5 := (Kq.of fun b o n e => k12 b o (fun m => n (by simp [m])) e).trans (kq.more (by simp))
      refine ⟨ds.length + 1 - (i + 1), by omega, i + 1, h5, tk5, accs ++ a, rest', rfl, rfl, hlt, hf', by rw [← hacc]; simp, I5.unbind ag (fun j m => hv j (by simp [m])), ?_, ?_, hkq.trans kqh⟩
      · refine W.frame _ _ _ st2 fun b m o e => ?_
        obtain ⟨o', q, n1, n2⟩ := W.obj _ _ st2 b m
        rw [q] at e; cases e
        exact kq b o q n1 n2 (by simp; exact fun z => hDf (z ▸ m))
      · refine W.src h h5 _ _ (fun a ha o ho ⟨xs, n, hd⟩ => ⟨ha, o.slots, kqh a o ho (fun _ _ => by rw [hd]; simp) (fun _ => by rw [hd]; simp) ?_⟩) hsrc
        simp only [List.mem_cons, not_or]
        exact ⟨hI.nS a ha.1, hwS a ha.1⟩
    cases b with
    | true =>
      simp only [if_true] at hif ⊢
      have hle : accs.length + a.length ≤ LB := by
        have := congrArg List.length hacc
        simp at this; omega
      refine hT hif I4 (fun j m => ?_) hle fun h5 tk5 I5 kq5 => wpAny_pure ⟨rfl, fin h5 tk5 I5 (kq24.trans kq5)⟩
      have hjp : j ∉ p.vars := fun z => (List.nodup_append.mp hnd).2.2 j z j m rfl
      rw [(ag.off j hjp).1]; exact hv j (by simp [m])
    | false =>
      simp only [Bool.false_eq_true, if_false] at hif ⊢
      cases hif
      exact wpAny_pure ⟨rfl, fin h4 tk4 (by simpa using I4) kq24⟩
  · have hi' : i = ds.length := by omega
    subst hi'
    simp [flatM] at hf
    subst hf
    refine W.done { s with heap := h, toks := tk } _ _ hst fun h1 tk1 k1 => ?_
    refine wpAny_pure (hR h1 tk1 ?_ (hkq.trans (.of fun b o n e => k1 b o (fun m => n (by simp [m])) e)))
    obtain ⟨vs, ⟨o, q, r⟩, hr⟩ := hI.ls
    have e : accs = acc ++ out := by simpa using hacc
    subst e
    refine ⟨hI.V.chg' S' hS' wr k1 (hwf hst) (fun a m _ => hSw a m) hwn (fun a m z => hwS a z m) hwO, fun b o p e => k1 b o (fun m => by rw [hwn b m] at e; cases e) (hI.ex b o p e),
      ⟨vs, ⟨o, k1 _ o hDw q, r⟩, hr.on fun a ha o ho _ => ⟨⟨hS' a ha.1, ha.2⟩, o.slots, k1 a o (hwS a ha.1) ho⟩⟩, hSD, hI.nO, hI.new⟩

theorem compStart_at {elt target iter : PySem.Expr} {ifs : List PySem.Expr} {gens : List Comprehension} {isc : Scope} {pos : Pos} {depth : Nat} {it acc : Value} {env : Env} {s : Shared} {R : Result → Shared → Prop}
    (hg : gens[depth]? = some ⟨target, iter, ifs, 0⟩) (h0 : codeAny (model prog w) A (.compLoop (.ListComp elt gens isc pos) depth it acc env) R s)
    (h : wpAny (model prog w) A (pyIter it) (fun it' s' => codeAny (model prog w) A (.compLoop (.ListComp elt gens isc pos) depth it' acc env) R s') (notedBy (model prog w) A env fun x s' => R (.error x) s') s) :
    codeAny (model prog w) A (.compStart (.ListComp elt gens isc pos) depth it acc env) R s := by
  refine codeAny_of_tree ?_
  show wpAny _ _ ((compStart (.ListComp elt gens isc pos) depth it acc env).onRaise (fun x => do noteFrame x env; standAt theWindowsPlace)) _ _ s
  refine wpAny_notedAt ?_
  unfold compStart
  simp only [clausesOf, hg]
  show wpAny _ _ (ask >>= _) _ _ s
  refine wpAny_bind (wpAny_askSetting (wpAny_ite ?_))
  split
  · exact wpAny_pure (And.intro rfl h0)
  · refine wpAny_bind (wpAny_rule ?_); show wpAny _ _ (standAt iter.pos >>= _) _ _ s; exact wpAny_bind (wpAny_standAt (wpAny_bind (wpAny_mono h (fun it' s' h' => wpAny_pure (And.intro rfl h')) fun _ _ x => x)))

theorem fold_pure {e : PySem.Expr} (h : isSet e = false) (env : Env) (x : Value) : foldedSetIterable e env x = pure x := by
  cases e <;> first | rfl | (simp [isSet] at h)
theorem chkSr_set {tab fnm : List PySem.Str} {sr : Sr} {sc : Scope} {target e : PySem.Expr} (h : chkSr tab fnm sr sc target e = true) : isSet e = false := by
  unfold chkSr at h
  split at h
  · simp only [Bool.and_eq_true, Bool.not_eq_true'] at h; exact h.1.2
  · rfl
  · rfl
  · rfl
  · rfl
  · cases h

theorem tail_cons {elt target iter : PySem.Expr} {ifs : List PySem.Expr} {gens : List Comprehension} {isc : Scope} {pos : Pos} {depth : Nat} {f : Sg → Option D} {p : Pat} {sr : Sr} {c : TL} {g' : GL} (hA : AOk A)
    (hg : gens[depth + 1]? = some ⟨target, iter, ifs, 0⟩) (hg' : gens[depth + 1 + 1]? = none ∨ ∃ t i f, gens[depth + 1 + 1]? = some ⟨t, i, f, 0⟩) (hp : chkP C.tab p isc target = true) (hcc : chkL C.tab fnm c isc ifs = true)
    (hsr : chkSr C.tab fnm sr isc target iter = true) (hsrc : ∀ S, SoSr prog w A (C.w S) fnm F sr)
    (hts : ∀ S, SoTs prog w A (C.w S) fnm F c) (hT : TailOk prog w A C F elt gens isc pos f (depth + 1) g') (hnd : (p.vars ++ g'.vars).Nodup) :
    TailOk prog w A C F elt gens isc pos f depth (.cons p sr c g') := by
  intro S σ vals h₀ cenv Dl acc out s k Q E he I hv hz h
  simp only [evG, Option.bind_eq_some_iff] at he
  obtain ⟨ds, hds, he⟩ := he
  unfold tailAct
  rw [hg]
  refine wpAny_bind (wpAny_mono (hsrc S hds hsr I.V (Q := fun it s' => wpAny (model prog w) A (runOwn (.compStart (.ListComp elt gens isc pos) (depth + 1) it (.ref Dl) cenv) cenv >>= fun _ => k) Q E s') (E := E) fun Ia fp wr Src St s' L W n1 n2 st src hlen => ?_) (fun x s₁ h₁ => wpAny_bind (wpAny_standAt (wpAny_bind (wpAny_of_eq (fold_pure (chkSr_set hsr) _ _) (wpAny_bind (wpAny_holding h₁)))))) fun _ _ z => z)
  have V' : StV (C.w S) isc h₀ cenv σ vals s'.heap := I.V.Le L
  have hwx : ∀ a ∈ wr, s'.heap.get? a ≠ none := fun a m => by obtain ⟨o, q, _⟩ := W.obj _ _ st a (W.sub a m); rw [q]; simp
  have V2 := I.V.shun V' L.ext wr n1 hwx
  have hDx : s.heap.get? Dl ≠ none := by obtain ⟨_, ⟨o, q, _⟩, _⟩ := I.ls; rw [q]; simp
  have I2 : CI C (fun a => S a ∧ a ∉ wr) isc h₀ cenv σ vals Dl acc s'.heap := by
    obtain ⟨vs, hl, hr⟩ := I.ls
    exact ⟨V2, fun b o p e => L.exact b o p (I.ex b o p e), ⟨vs, L.ext.isList hl, hr.on fun a ha o ho _ => ⟨⟨⟨ha.1, fun m => by rw [n1 a m] at ho; cases ho⟩, ha.2⟩, L.ext a o ho⟩⟩, fun a ha => I.nS a ha.1, I.nO, I.new⟩
  have src2 : Src s'.heap (Sx (C.w fun a => S a ∧ a ∉ wr) σ vals) := W.src _ _ _ _ (.of (.refl _) fun a ha => ⟨⟨ha.1.1, ha.2⟩, ha.1.2⟩) src
  have hDf : Dl ∉ fp := fun m => by
    rcases n2 _ m with z | z
    · exact I.nS _ z.1 rfl
    · exact hDx z
  have kqL : Kq [Dl] s.heap s'.heap := Kq.le (C := C.w S) I.V L _
  obtain ⟨h1, tk1, rfl, L'⟩ := L
  have loop : codeAny (model prog w) A (.compLoop (.ListComp elt gens isc pos) (depth + 1) (.ref Ia) (.ref Dl) cenv)
      (fun r s' => match r with | .ok f => wpAny (model prog w) A k Q E s' | .error e => cameBackBy (model prog w) A cenv E e s') { s with heap := h1, toks := tk1 } := by
    refine comp_level (S' := S) hA hg hg' hp hcc hts hT W he I2 hv hnd st src2 hDf (fun a ha => ha.2) (fun a m => (I.V.new (n1 a m)).2) (fun a m => I.V.ext.none (n1 a m)) hz (fun a ha => ha.1) (fun a m => (I.V.new (n1 a m)).1) I.nS fun h' tk I' kq => ?_
    exact h h' tk I' ((Kq.trans (kqL.more (Y := Dl :: wr) (by simp)) kq).new fun a m nm => by
      rcases List.mem_cons.mp m with z | z
      · exact absurd (by simp [z]) nm
      · exact n1 a z)
  refine wpAny_bind (wpAny_runOwn ?_)
  exact compStart_at hg loop (W.self _ _ _ st loop)
end
end Mine
end

section
open PySem PySem.W PyProof.Rows PySem.SeqAt PySem.MeetsSeq PySem.MeetsSeq2 PySem.MeetsSeq3
set_option maxRecDepth 100000
namespace Mine

/-! ## 18. Comprehensions, whole; all terms -/
section
variable {prog : Program} {w : World} {A : Around} {C : Cx} {fnm : List PySem.Str} {F : Fn}

theorem StV.down {sc : Scope} {h₀ h₁ h : Heap} {env : Env} {σ : Sg} {vals : Nat → Value} (V : StV C sc h₁ env σ vals h) (e : Ext h₀ h₁) (g : Ext C.g₀ h₀) : StV C sc h₀ env σ vals h :=
  { V with fr := ⟨V.fr.kind, V.fr.glob, V.fr.bi, V.fr.ns, e.none V.fr.newL, V.fr.kL, fun x q => let ⟨a, c, b, n⟩ := V.fr.kC x q; ⟨a, c, b, e.none n⟩, V.fr.kF, V.fr.kG, V.fr.cell, V.fr.inj⟩
           g := g
           ext := e.trans V.ext }

theorem unb_some {l : List Nat} {σ : Sg} {j : Nat} (h : (unb l σ j).isSome = true) : (σ j).isSome = true := by
  unfold unb at h
  split at h
  · cases h
  · exact h
theorem unb_out {l : List Nat} {σ : Sg} {j : Nat} (h : j ∉ l) : unb l σ j = σ j := by
  unfold unb
  rw [if_neg (by simpa using h)]
theorem unb_in {l : List Nat} {σ : Sg} {j : Nat} (h : j ∈ l) : unb l σ j = none := by
  unfold unb
  rw [if_pos (by simpa using h)]

theorem chkG_next {tab : List PySem.Str} {isc : Scope} : ∀ {g : GL} {gens : List Comprehension} {k : Nat}, chkG tab fnm g isc (gens.drop k) = true →
    (match g with | .nil => gens[k]? = none | .cons p sr c g' => ∃ target iter ifs, gens[k]? = some ⟨target, iter, ifs, 0⟩ ∧ chkP tab p isc target = true ∧ chkSr tab fnm sr isc target iter = true ∧ chkL tab fnm c isc ifs = true ∧ chkG tab fnm g' isc (gens.drop (k + 1)) = true) := by
  intro g gens k h
  cases g with
  | nil =>
    cases q : gens.drop k with
    | nil => simpa using q
    | cons => rw [q] at h; simp [chkG] at h
  | cons p sr c g' =>
    cases q : gens.drop k with
    | nil => rw [q] at h; simp [chkG] at h
    | cons x r =>
      obtain ⟨target, iter, ifs, a⟩ := x
      rw [q] at h
      simp only [chkG, Bool.and_eq_true, beq_iff_eq] at h
      obtain ⟨⟨⟨⟨rfl, h1⟩, h2⟩, h3⟩, h4⟩ := h
      have hk : k < gens.length := by
        have := congrArg List.length q
        simp at this; omega
      rw [List.drop_eq_getElem_cons hk] at q
      injection q with q1 q2
      exact ⟨target, iter, ifs, by rw [List.getElem?_eq_getElem hk, q1], h1, h2, h3, by rw [q2]; exact h4⟩
theorem chkG_opt {tab : List PySem.Str} {isc : Scope} {g : GL} {gens : List Comprehension} {k : Nat} (h : chkG tab fnm g isc (gens.drop k) = true) : gens[k]? = none ∨ ∃ t i f, gens[k]? = some ⟨t, i, f, 0⟩ := by
  have := chkG_next h
  cases g with
  | nil => exact .inl this
  | cons p sr c g' => obtain ⟨t, i, f, e, _⟩ := this; exact .inr ⟨t, i, f, e⟩

variable (prog w A C fnm F) in
def SoGl (g : GL) : Prop := ∀ {t : T} {elt : PySem.Expr} {gens : List Comprehension} {isc : Scope} {pos : Pos} {depth : Nat}, (∀ S, SoT prog w A (C.w S) fnm F t) → chk C.tab fnm t isc elt = true → chkG C.tab fnm g isc (gens.drop (depth + 1)) = true → g.vars.Nodup →
  TailOk prog w A C F elt gens isc pos (fun σ => ev C.own F false t σ) depth g
theorem sogl_nil : SoGl prog w A C fnm F .nil := fun ht hc hg _ => tail_nil (chkG_next hg) hc ht
theorem sogl_cons {p : Pat} {sr : Sr} {c : TL} {g' : GL} (hA : AOk A) (hsr : ∀ S, SoSr prog w A (C.w S) fnm F sr) (hts : ∀ S, SoTs prog w A (C.w S) fnm F c) (hg' : SoGl prog w A C fnm F g') : SoGl prog w A C fnm F (.cons p sr c g') := fun ht hc hg hn => by
  obtain ⟨target, iter, ifs, e, h1, h2, h3, h4⟩ := chkG_next hg
  exact tail_cons hA e (chkG_opt h4) h1 h3 h2 hsr hts (hg' ht hc h4 (List.nodup_append.mp hn).2.1) hn

theorem chk_comp_eq {tab : List PySem.Str} {t : T} {p : Pat} {sr : Sr} {c : TL} {g' : GL} {sc isc : Scope} {elt : PySem.Expr} {gens : List Comprehension} {pos : Pos} (h : chk tab fnm (.comp t (.cons p sr c g')) sc (.ListComp elt gens isc pos) = true) :
    ∃ target iter ifs gs, gens = ⟨target, iter, ifs, 0⟩ :: gs ∧ scOk tab sc isc (GL.cons p sr c g').vars = true ∧ (GL.cons p sr c g').vars.Nodup ∧ chk tab fnm t isc elt = true ∧
      chkP tab p isc target = true ∧ chkSr tab fnm sr sc target iter = true ∧ chkL tab fnm c isc ifs = true ∧ chkG tab fnm g' isc gs = true := by
  cases gens with
  | nil =>
    have : chk tab fnm (.comp t (.cons p sr c g')) sc (.ListComp elt [] isc pos) = (scOk tab sc isc (GL.cons p sr c g').vars && decide (GL.cons p sr c g').vars.Nodup && chk tab fnm t isc elt && false) := by conv => lhs; unfold chk
    rw [this, Bool.and_false] at h; cases h
  | cons x gs =>
    obtain ⟨target, iter, ifs, a⟩ := x
    have : chk tab fnm (.comp t (.cons p sr c g')) sc (.ListComp elt (⟨target, iter, ifs, a⟩ :: gs) isc pos) = (scOk tab sc isc (GL.cons p sr c g').vars && decide (GL.cons p sr c g').vars.Nodup && chk tab fnm t isc elt &&
      (a == 0 && chkP tab p isc target && chkSr tab fnm sr sc target iter && chkL tab fnm c isc ifs && chkG tab fnm g' isc gs)) := by conv => lhs; unfold chk
    rw [this] at h
    obtain ⟨h1, h2⟩ := (Bool.and_eq_true_iff).mp h
    obtain ⟨h1, h3⟩ := (Bool.and_eq_true_iff).mp h1
    obtain ⟨h1, h4⟩ := (Bool.and_eq_true_iff).mp h1
    obtain ⟨h2, h5⟩ := (Bool.and_eq_true_iff).mp h2
    obtain ⟨h2, h6⟩ := (Bool.and_eq_true_iff).mp h2
    obtain ⟨h2, h7⟩ := (Bool.and_eq_true_iff).mp h2
    obtain ⟨h2, h8⟩ := (Bool.and_eq_true_iff).mp h2
    have : a = 0 := by simpa using h2
    subst this
    exact ⟨target, iter, ifs, gs, rfl, h1, of_decide_eq_true h4, h3, h8, h7, h6, h5⟩

theorem comp_core {t : T} {p : Pat} {sr : Sr} {c : TL} {g' : GL} (hA : AOk A) (ht : ∀ S, SoT prog w A (C.w S) fnm F t) (hsr : ∀ S, SoSr prog w A (C.w S) fnm F sr) (hts : ∀ S, SoTs prog w A (C.w S) fnm F c) (hg : SoGl prog w A C fnm F g')
    {bw : Bool} {σ : Sg} {d : D} {sc : Scope} {e : PySem.Expr} {h₀ : Heap} {env : Env} {vals : Nat → Value} {s : Shared} {use : Option (Value → Sem Unit)} {Q E : Value → Shared → Prop}
    (he : ev C.own F bw (.comp t (.cons p sr c g')) σ = some d) (hc : chk C.tab fnm (.comp t (.cons p sr c g')) sc e = true) (V : StV C sc h₀ env σ vals s.heap)
    (hR : ∀ Dl cl m h' tk, Le C.base C.P s { s with heap := h', toks := tk } → h'.Ns cl m → s.heap.get? cl = none → Rep h' (Sx C σ vals) (.ref Dl) d → (∃ out, d = .list out) → s.heap.get? Dl = none →
      compPost (model prog w) A E use Q (.ref Dl) cl (.ok .next) { s with heap := h', toks := tk }) :
    ∃ elt gens isc pos, e = .ListComp elt gens isc pos ∧ wpAny (model prog w) A (comprehension (.ListComp elt gens isc pos) isc env (firstIterPos gens pos) (newList []) (firstAsync gens) (firstIter gens env) use) Q E s := by
  cases e with
  | ListComp elt gens isc pos =>
    refine ⟨elt, gens, isc, pos, rfl, ?_⟩
    obtain ⟨target, iter, ifs, gs, rfl, hsc, hnd, hce, hp, hcs, hcc, hgs⟩ := chk_comp_eq hc
    · simp only [ev] at he
      split at he
      · cases he
      rename_i hown
      simp only [Option.bind_eq_some_iff] at he
      obtain ⟨ds, hds, out, hout, he⟩ := he
      have hlen : out.length ≤ LB := by
        by_cases q : out.length ≤ LB
        · exact q
        · rw [if_neg q] at he; cases he
      rw [if_pos hlen] at he
      cases he
      obtain ⟨hclos, hkind, hnames, _⟩ := comp_frame V hsc
      refine wpAny_comprehension_free (use := use) rfl (fold_pure (chkSr_set hcs) env) hclos hkind hnames ?_
      refine hsr C.S hds hcs V fun I fp wr Src St s₂ L W n1 n2 st src hl => ?_
      refine p_newList (vs := []) (Nat.zero_le _) (wpAny_newEnv_comp fun cenv hce' hcl => ?_)
      rw [hce', hcl]
      have V₂ := V.Le L
      have hwx : ∀ a ∈ wr, s₂.heap.get? a ≠ none := fun a m => by obtain ⟨o, q, _⟩ := W.obj _ _ st a (W.sub a m); rw [q]; simp
      have hex := L.exact
      have hext := L.ext
      have hstay := L.stay
      obtain ⟨h2, tk2, rfl, _⟩ := L
      have hDn2 : h2.get? h2.objs.size = none := fresh_size
      have hDn : s.heap.get? h2.objs.size = none := hext.none hDn2
      generalize hDl : h2.objs.size = Dl at hDn2 hDn ⊢
      have hgD : (h2.push (newL [])).get? Dl = some (newL []) := by rw [← hDl]; exact Heap.get?_push_size _ rfl
      generalize hh3 : h2.push (newL []) = h3 at hgD ⊢
      have k23 : ∀ b o, h2.get? b = some o → h3.get? b = some o := fun b o e => by rw [← hh3]; exact Heap.get?_push_of_some _ e
      have V3 := V₂.le (h' := h3) (.of k23) fun b o _ e => k23 b o e
      have V3' := V.shun V3 (hext.trans (.of k23)) (Dl :: wr) (fun a m => by
        rcases List.mem_cons.mp m with z | z
        · rw [z]; exact hDn
        · exact n1 a z) (fun a m => by
        rcases List.mem_cons.mp m with z | z
        · rw [z, hgD]; simp
        · obtain ⟨o, q⟩ := Option.ne_none_iff_exists'.mp (hwx a z)
          rw [k23 a o q]; simp)
      obtain ⟨_, _, _, V4⟩ := comp_frame V3' hsc
      have V5 := V4.down (h₀ := s.heap) (hext.trans (.of k23)) (V.g.trans V.ext)
      have k34 := compHeap_old isc h3
      have k24 : ∀ b o, h2.get? b = some o → (compHeap isc h3).get? b = some o := fun b o e => k34 b o (k23 b o e)
      have notU : ∀ a, NotO C.own σ vals a → NotO C.own (unb (p.vars ++ g'.vars) σ) vals a := fun a n j o sj => n j o (unb_some sj)
      have notB : ∀ a, NotO C.own (unb (p.vars ++ g'.vars) σ) vals a → NotO C.own σ vals a := fun a n j o sj => n j o (by
        rw [unb_out]; exact sj
        intro m
        exact hown (List.any_eq_true.mpr ⟨j, m, o⟩))
      have I0 : CI C (fun a => C.S a ∧ a ∉ Dl :: wr) isc s.heap (compEnv isc h3 env) (unb (p.vars ++ g'.vars) σ) vals Dl [] (compHeap isc h3) :=
        ⟨V5, fun b o p e => k24 b o (hex b o p e), ⟨[], ⟨_, k34 _ _ hgD, rfl, _, rfl⟩, .nil⟩, fun a ha z => ha.2 (by simp [z]), notU _ (V.new hDn).2, hDn⟩
      have hz : ([] : List D).length + out.length ≤ LB := by simpa using hlen
      have loop : codeAny (model prog w) A (.compLoop (.ListComp elt (⟨target, iter, ifs, 0⟩ :: gs) isc pos) 0 (.ref I) (.ref Dl) (compEnv isc h3 env))
          (compPost (model prog w) A E use Q (.ref Dl) h3.objs.size) { s with heap := compHeap isc h3, toks := tk2 } := by
        refine comp_level (S' := fun a => C.S a ∧ a ≠ Dl) hA rfl (chkG_opt (k := 1) hgs) hp hcc hts (hg (gens := ⟨target, iter, ifs, 0⟩ :: gs) (depth := 0) ht hce hgs (List.nodup_append.mp hnd).2.1) W hout I0 (fun j m => unb_in m) hnd
          (W.frame _ _ _ st fun b _ o e => k24 b o e) (W.src _ _ _ _ (fun a ha o ho _ => ⟨⟨⟨ha.1.1, fun m => ?_⟩, notU a ha.1.2⟩, o.slots, k24 a o ho⟩) src) (fun m => ?_) (fun a ha m => ha.2 (by simp [m])) (fun a m => notU a (V.new (n1 a m)).2) n1 hz
          (fun a ha => ⟨ha.1, fun z => ha.2 (by simp [z])⟩) (fun a m => ⟨V.newS a (n1 a m), fun z => hwx a m (by rw [z]; exact hDn2)⟩) (fun a ha => ha.2) fun h' tk I' _ => ?_
        · rcases List.mem_cons.mp m with z | z
          · rw [z, hDn2] at ho; cases ho
          · exact ha.2 z
        · obtain ⟨o, q, _⟩ := W.obj _ _ st Dl m
          rw [hDn2] at q; cases q
        · obtain ⟨mm, hns⟩ := I'.V.fr.ns
          obtain ⟨vs, hl', hr'⟩ := I'.ls
          refine hR Dl h3.objs.size mm h' tk ⟨h', tk, rfl, I'.V.ext, I'.ex, fun b o q _ => I'.V.stay b o q⟩ hns I'.V.fr.newL (.list (V.new hDn) hl' (by simpa using hlen) (hr'.mono fun a ha => ⟨ha.1.1, notB a ha.2⟩)) ⟨_, rfl⟩ hDn
      exact compStart_at rfl loop (W.self _ _ _ (W.frame _ _ _ st fun b _ o e => k24 b o e) loop)
  | _ => simp [chk] at hc

variable (prog w A C fnm F) in
def GlP : GL → Prop
  | .nil => True
  | .cons _ sr c g' => (∀ S, SoSr prog w A (C.w S) fnm F sr) ∧ (∀ S, SoTs prog w A (C.w S) fnm F c) ∧ SoGl prog w A C fnm F g'
theorem so_comp {t : T} {g : GL} (hA : AOk A) (ht : ∀ S, SoT prog w A (C.w S) fnm F t) (hg : GlP prog w A C fnm F g) :
    SoT prog w A C fnm F (.comp t g) := by
  intro bw σ d sc e h₀ env vals s Q E he hc V h
  cases g with
  | nil => simp [ev] at he
  | cons p sr c g' =>
    obtain ⟨hsr, hts, hg⟩ := hg
    obtain ⟨elt, gens, isc, pos, rfl, hw⟩ := comp_core (use := none) (Q := Q) (E := E) hA ht hsr hts hg he hc V fun Dl cl m h' tk L hns hcl hr hd hDl => by
      refine ⟨m, hns, fun h'' hs => ?_⟩
      have ne : ∀ b o, s.heap.get? b = some o → b ≠ cl := fun b o e z => by rw [z, hcl] at e; cases e
      have L2 : Le C.base C.P s { s with heap := h'', toks := tk } :=
        ⟨h'', tk, rfl, fun b o e => let ⟨sl, w⟩ := L.ext b o e; ⟨sl, (hs.2 b (ne b o e)).trans w⟩, fun b o p e => (hs.2 b (ne b o e)).trans (L.exact b o p e), fun b o q e => (hs.2 b (ne b o e)).trans (L.stay b o q e)⟩
      refine h _ _ L2 (.inl (hr.on fun a ha o ho ⟨xs, n, hd⟩ => ⟨ha, o.slots, (hs.2 a fun z => ?_).trans ho⟩)) fun _ a e => by cases e; exact hDl
      obtain ⟨o', es, ep, q, d', _⟩ := hns
      rw [z, q] at ho; cases ho; rw [d'] at hd; cases hd
    rw [eval_ListComp]
    exact hw
end
end Mine
end

section
open PySem PySem.W PyProof.Rows PySem.SeqAt PySem.MeetsSeq PySem.MeetsSeq2 PySem.MeetsSeq3
set_option maxRecDepth 100000
namespace Mine

/-! ## 19. All terms -/
def plE : PySem.Expr → Bool
  | .UnaryOp .Not .. => false
  | .BoolOp .. => false
  | .IfExp .. => false
  | .Compare .. => false
  | _ => true
theorem isTrue_pl {e : PySem.Expr} (h : plE e = true) (env : Env) (x : Sem Value) : isTrue e env x = (do let v ← x; standAt e.pos; holding [v] (truthy v)) := by
  cases e with
  | UnaryOp op _ _ => cases op <;> first | rfl | (simp [plE] at h)
  | _ => first | rfl | (simp [plE] at h)
def plT : T → Bool
  | .cmp .. => false
  | .isn .. => false
  | .bop .. => false
  | .not .. => false
  | .ite .. => false
  | _ => true
theorem chk_pl {tab fnm : List PySem.Str} {t : T} {sc : Scope} {e : PySem.Expr} (ht : plT t = true) (h : chk tab fnm t sc e = true) : plE e = true := by
  unfold chk at h
  split at h <;> first | rfl | cases h | (simp [plT] at ht; done)

section
variable {prog : Program} {w : World} {A : Around} {C : Cx} {fnm : List PySem.Str} {F : Fn} {fa : Nat → Addr} {mg mb : PySem.Str → Option Value}

theorem sb_plain {t : T} (hp : plT t = true) (ht : SoT prog w A C fnm F t) : SoB prog w A C fnm F t := by
  intro σ b sc e h₀ env vals s Q E he hc V h
  refine so_truth (isTrue_pl (chk_pl hp hc) env) (ht he hc V fun v s' L r _ => ⟨r.plain.bool_inv, h s' L⟩)

theorem both {t : T} (hp : plT t = true) (ht : SoT prog w A C fnm F t) : SoT prog w A C fnm F t ∧ SoB prog w A C fnm F t := ⟨ht, sb_plain hp ht⟩
theorem Gl.at (G : Gl C fnm fa mg mb) (S : Addr → Prop) : Gl (C.w S) fnm fa mg mb := ⟨G.g, G.b, G.bi, G.src, G.fn⟩
theorem CallOk.at (K : CallOk prog w A C fa F) (S : Addr → Prop) : CallOk prog w A (C.w S) fa F := ⟨K.call⟩

mutual
theorem all_T (hA : AOk A) (G : Gl C fnm fa mg mb) (K : CallOk prog w A C fa F) : ∀ (t : T) (S : Addr → Prop), SoT prog w A (C.w S) fnm F t ∧ SoB prog w A (C.w S) fnm F t
  | .k c, S => ⟨so_k c, sb_plain rfl (so_k c)⟩
  | .v i, S => ⟨so_v i, sb_plain rfl (so_v i)⟩
  | .op o a b, S => both rfl (so_op (all_T hA G K a S).1 (all_T hA G K b S).1)
  | .neg a, S => both rfl (so_neg (all_T hA G K a S).1)
  | .cmp o a b, S => ⟨so_cmp hA.units (all_T hA G K a S).1 (all_T hA G K b S).1, sb_cmp hA.units (all_T hA G K a S).1 (all_T hA G K b S).1⟩
  | .isn yes a, S => ⟨so_isn (all_T hA G K a S).1, sb_isn (all_T hA G K a S).1⟩
  | .bop isAnd l, S => ⟨so_bop (all_L hA G K l S).2.2, sb_bop (all_L hA G K l S).2.2⟩
  | .not a, S => ⟨so_not (all_T hA G K a S).1, sb_not (all_T hA G K a S).2⟩
  | .ite c a b, S => ⟨so_ite (all_T hA G K c S).2 (all_T hA G K a S).1 (all_T hA G K b S).1, sb_ite (all_T hA G K c S).2 (all_T hA G K a S).2 (all_T hA G K b S).2⟩
  | .list l, S => both rfl (so_list (all_L hA G K l S).1)
  | .rep a n, S => both rfl (so_rep (all_T hA G K a S).1 (all_T hA G K n S).1)
  | .tup l, S => both rfl (so_tup (all_L hA G K l S).1)
  | .idx a i, S => both rfl (so_idx (all_T hA G K a S).1 (all_T hA G K i S).1)
  | .sl a lo hi, S => both rfl (so_sl (all_T hA G K a S).1 (all_O hA G K lo S) (all_O hA G K hi S))
  | .rev a, S => both rfl (so_rev (all_T hA G K a S).1)
  | .call f l, S => both rfl (so_call (G.at S) (K.at S) (all_L hA G K l S).1)
  | .bi b l, S => both rfl (so_bi hA (G.at S) (all_L hA G K l S).1)
  | .comp elt g, S => both rfl (so_comp (C := C.w S) hA (fun S' => (all_T hA G K elt S').1) (all_G hA G K g S).1)
theorem all_L (hA : AOk A) (G : Gl C fnm fa mg mb) (K : CallOk prog w A C fa F) : ∀ (l : TL) (S : Addr → Prop), SoL prog w A (C.w S) fnm F l ∧ SoTs prog w A (C.w S) fnm F l ∧ SoBo prog w A (C.w S) fnm F l
  | .nil, S => ⟨sl_nil, sots_nil, sbo_nil⟩
  | .cons a l, S => ⟨sl_cons (all_T hA G K a S).1 (all_L hA G K l S).1, sots_cons (all_T hA G K a S).2 (all_L hA G K l S).2.1, sbo_cons (all_T hA G K a S).1 (all_T hA G K a S).2 (all_L hA G K l S).2.2⟩
theorem all_O (hA : AOk A) (G : Gl C fnm fa mg mb) (K : CallOk prog w A C fa F) : ∀ (o : TO) (S : Addr → Prop), SoO prog w A (C.w S) fnm F o
  | .none, S => soo_none
  | .some a, S => soo_some (all_T hA G K a S).1
theorem all_Sr (hA : AOk A) (G : Gl C fnm fa mg mb) (K : CallOk prog w A C fa F) : ∀ (r : Sr) (S : Addr → Prop), SoSr prog w A (C.w S) fnm F r
  | .t a, S => sosr_t hA (all_T hA G K a S).1
  | .range1 a, S => sosr_range1 hA (G.at S) (all_T hA G K a S).1
  | .range2 a b, S => sosr_range2 hA (G.at S) (all_T hA G K a S).1 (all_T hA G K b S).1
  | .zip a b, S => sosr_zip hA (G.at S) (all_T hA G K a S).1 (all_T hA G K b S).1
  | .enum a, S => sosr_enum hA (G.at S) (all_T hA G K a S).1
theorem all_G (hA : AOk A) (G : Gl C fnm fa mg mb) (K : CallOk prog w A C fa F) : ∀ (g : GL) (S : Addr → Prop),
    GlP prog w A (C.w S) fnm F g ∧ SoGl prog w A (C.w S) fnm F g
  | .nil, S => ⟨trivial, sogl_nil⟩
  | .cons p sr c g', S => ⟨⟨fun S' => all_Sr hA G K sr S', fun S' => (all_L hA G K c S').2.1, (all_G hA G K g' S).2⟩, sogl_cons (C := C.w S) hA (fun S' => all_Sr hA G K sr S') (fun S' => (all_L hA G K c S').2.1) (all_G hA G K g' S).2⟩
end
end
end Mine
end

section
open PySem PySem.W PyProof.Rows
set_option maxRecDepth 100000
namespace Mine

/-! ## P1. Evaluating terms: no program, no heap -/
def DI (l : List Int) : D := .list (l.map .int)

section
variable {own : Nat → Bool} {F : Fn} {mu : Nat → Bool} {σ σ' : Sg} {s : TS} {l : SL} {e : T} {d : D}

theorem evSL_nxt (h : evS own F mu s σ = some (.nxt σ')) : evSL own F mu (.cons s l) σ = evSL own F mu l σ' := by simp [evSL, h]
theorem evSL_ret (h : evS own F mu s σ = some (.ret d)) : evSL own F mu (.cons s l) σ = some (.ret d) := by simp [evSL, h]
theorem e_asg {i : Nat} (h : ev own F false e σ = some d) (ho : own i = false) : evS own F mu (.asg (.v i) e) σ = some (.nxt (upd σ i d)) := by simp [evS, h, bindP, ho]
theorem e_own1 {i : Nat} {ds : List D} (h : ev own F false e σ = some (.list ds)) (ho : own i = true) (hm : mu i = true) (hf : e.fresh = true) : evS own F mu (.own1 i e) σ = some (.nxt (upd σ i (.list ds))) := by simp [evS, h, ho, hm, hf, listD]
theorem e_setI {x : Nat} {i : T} {ds : List D} {k : Int} (ho : own x = true) (hm : mu x = true) (he : ev own F false e σ = some d) (hx : σ x = some (.list ds)) (hi : ev own F false i σ = some (.int k)) (h0 : 0 ≤ k) (h1 : k.toNat < ds.length) :
    evS own F mu (.setI x i e) σ = some (.nxt (upd σ x (.list (ds.set k.toNat d)))) := by
  have hp : placeN ds.length k = some k.toNat := by unfold placeN; rw [if_pos ⟨h0, h1⟩]
  simp [evS, ho, hm, he, hx, hi, listD, intD, hp]
theorem e_augI {x : Nat} {i : T} {ds : List D} {k y b : Int} (ho : own x = true) (hm : mu x = true) (hx : σ x = some (.list ds)) (hi : ev own F false i σ = some (.int k)) (h0 : 0 ≤ k) (h1 : k.toNat < ds.length) (hy : ds[k.toNat]? = some (.int y)) (he : ev own F false e σ = some (.int b)) :
    evS own F mu (.augI x i e) σ = some (.nxt (upd σ x (.list (ds.set k.toNat (.int (y + b)))))) := by
  have hp : placeN ds.length k = some k.toNat := by unfold placeN; rw [if_pos ⟨h0, h1⟩]
  unfold evS
  simp [ho, hm, hx, hi, listD, intD, hp, hy, he]
theorem e_ite_t {c : T} {a b : SL} (h : ev own F false c σ = some (.bool true)) : evS own F mu (.ite c a b) σ = evSL own F mu a σ := by simp [evS, h, boolD]
theorem e_ite_f {c : T} {a b : SL} (h : ev own F false c σ = some (.bool false)) : evS own F mu (.ite c a b) σ = evSL own F mu b σ := by simp [evS, h, boolD]
theorem e_ret (h : ev own F false e σ = some d) : evS own F mu (.ret e) σ = some (.ret d) := by simp [evS, h]
theorem e_retO {x : Nat} {ds : List D} (ho : own x = true) (hx : σ x = some (.list ds)) : evS own F mu (.retO x) σ = some (.ret (.list ds)) := by simp [evS, ho, hx, listD]

/-! terms -/
theorem t_v {bw : Bool} {i : Nat} (h : σ i = some d) (ho : (own i && !bw) = false) : ev own F bw (.v i) σ = some d := by simp [ev, h, ho]
theorem upd_unb (i : Nat) (σ : Sg) (d : D) : upd (unb [i] σ) i d = upd σ i d := by
  funext j
  unfold upd unb
  split
  · rfl
  · rename_i h; simp [h]

theorem flatM_some {α : Type} {f : α → Option (List D)} {g : α → List D} : ∀ {l : List α}, (∀ d ∈ l, f d = some (g d)) → flatM f l = some (l.map g).flatten
  | [], _ => rfl
  | x :: r, h => by
    rw [flatM, h x List.mem_cons_self, flatM_some (g := g) fun d m => h d (List.mem_cons_of_mem _ m)]
    simp

theorem t_comp {bw : Bool} {i : Nat} {sr : Sr} {c : TL} {ds : List D} {f : D → D} {p : D → Bool} (ho : own i = false) (hs : evSr own F sr σ = some ds) (hc : ∀ d ∈ ds, evC own F c (upd σ i d) = some (p d))
    (he : ∀ d ∈ ds, p d = true → ev own F false e (upd σ i d) = some (f d)) (hl : ds.length ≤ LB) : ev own F bw (.comp e (.cons (.v i) sr c .nil)) σ = some (.list ((ds.filter p).map f)) := by
  have hfl : flatM (fun d => (bindP own (.v i) d (unb (Pat.vars (.v i) ++ GL.vars .nil) σ)).bind fun σ' => (evC own F c σ').bind fun b => if b then evG own F (fun σ => ev own F false e σ) .nil σ' else some []) ds
      = some ((ds.filter p).map f) := by
    have : (ds.filter p).map f = (ds.map fun d => if p d then [f d] else []).flatten := by
      clear hs hc he hl
      induction ds with
      | nil => rfl
      | cons x r ih =>
        rw [List.filter_cons]
        cases q : p x <;> simp [q, ih]
    rw [this]
    refine flatM_some fun d m => ?_
    have hv : (Pat.vars (.v i) ++ GL.vars .nil) = [i] := rfl
    simp only [bindP, ho, Bool.false_eq_true, if_false, Option.bind_some, hv, upd_unb, hc d m]
    cases q : p d with
    | false => simp
    | true => simp [evG, he d m q]
  unfold ev
  have hown : ((Pat.vars (.v i) ++ GL.vars .nil).any own) = false := by simp [Pat.vars, GL.vars, ho]
  simp only [hown, Bool.false_eq_true, if_false, hs, Option.bind_some, hfl]
  rw [if_pos (Nat.le_trans (by rw [List.length_map]; exact List.length_filter_le _ _) hl)]

/-- a comprehension without tests -/
theorem t_map {bw : Bool} {i : Nat} {sr : Sr} {ds : List D} {f : D → D} (ho : own i = false) (hs : evSr own F sr σ = some ds) (he : ∀ d ∈ ds, ev own F false e (upd σ i d) = some (f d)) (hl : ds.length ≤ LB) :
    ev own F bw (.comp e (.cons (.v i) sr .nil .nil)) σ = some (.list (ds.map f)) := by
  have := t_comp (bw := bw) (p := fun _ => true) (c := .nil) ho hs (fun d _ => rfl) (fun d m _ => he d m) hl
  rwa [List.filter_eq_self.mpr (fun _ _ => rfl)] at this

def rng (n : Nat) : List D := (List.range n).map fun (j : Nat) => D.int (j : Int)
theorem t_range {n : Nat} (h : ev own F false e σ = some (.int n)) (hn : n ≤ 1000) : evSr own F (.range1 e) σ = some (rng n) := by
  have h1 : tiny 0 = true := by decide
  have h2 : tiny (n : Int) = true := by simp [tiny]; omega
  have h3 : (n : Int) - 0 ≤ (LB : Int) := by simp [LB]; omega
  simp only [evSr, h, Option.bind_some, intD, rangeD, h1, h2, true_and]
  rw [if_pos h3]
  simp [rng]
theorem t_rangeMap {bw : Bool} {i n : Nat} {k : T} {f : Nat → D} (ho : own i = false) (h : ev own F false k σ = some (.int n)) (hn : n ≤ 1000) (he : ∀ j, j < n → ev own F false e (upd σ i (.int j)) = some (f j)) :
    ev own F bw (.comp e (.cons (.v i) (.range1 k) .nil .nil)) σ = some (.list ((List.range n).map f)) := by
  have hf : ∃ g : D → D, ∀ j : Nat, g (.int j) = f j := ⟨fun d => match d with | .int z => f z.toNat | d => d, fun j => by simp⟩
  obtain ⟨g, hg⟩ := hf
  have := t_map (bw := bw) (f := g) ho (t_range h hn) (fun d m => by
    simp only [rng, List.mem_map, List.mem_range] at m
    obtain ⟨j, hj, rfl⟩ := m
    rw [hg]; exact he j hj) (by simp [rng, LB]; omega)
  rw [this, rng, List.map_map]
  congr 2
  apply List.map_congr_left
  intro j _
  exact hg j
theorem t_rangeComp {bw : Bool} {i n : Nat} {k : T} {c : TL} {f : Nat → D} {p : Nat → Bool} (ho : own i = false) (h : ev own F false k σ = some (.int n)) (hn : n ≤ 1000) (hc : ∀ j, j < n → evC own F c (upd σ i (.int j)) = some (p j)) (he : ∀ j, j < n → p j = true → ev own F false e (upd σ i (.int j)) = some (f j)) :
    ev own F bw (.comp e (.cons (.v i) (.range1 k) c .nil)) σ = some (.list (((List.range n).filter p).map f)) := by
  obtain ⟨g, hg⟩ : ∃ g : D → D, ∀ j : Nat, g (.int j) = f j := ⟨fun d => match d with | .int z => f z.toNat | d => d, fun j => by simp⟩
  obtain ⟨q, hq⟩ : ∃ q : D → Bool, ∀ j : Nat, q (.int j) = p j := ⟨fun d => match d with | .int z => p z.toNat | _ => true, fun j => by simp⟩
  have := t_comp (bw := bw) (f := g) (p := q) ho (t_range h hn) (fun d m => by
    simp only [rng, List.mem_map, List.mem_range] at m
    obtain ⟨j, hj, rfl⟩ := m
    rw [hq]; exact hc j hj) (fun d m hp => by
    simp only [rng, List.mem_map, List.mem_range] at m
    obtain ⟨j, hj, rfl⟩ := m
    rw [hq] at hp
    rw [hg]; exact he j hj hp) (by simp [rng, LB]; omega)
  rw [this, rng, List.filter_map, List.map_map]
  congr 2
  have e1 : (q ∘ fun (j : Nat) => D.int (j : Int)) = p := by funext j; exact hq j
  rw [e1]
  apply List.map_congr_left
  intro j _
  exact hg j

theorem idx_DI {l : List Int} {j : Nat} (h : j < l.length) : idxD (DI l) (.int j) = some (.int (l.getD j 0)) := by
  have h0 : (0 : Int) ≤ (j : Int) := by omega
  have e : l[j]? = some (l.getD j 0) := by rw [List.getD_eq_getElem?_getD, List.getElem?_eq_getElem h]; rfl
  simp [idxD, DI, seqD, intD, place, h0, h, e]
theorem bi_sum (l : List Int) : biD .sum [DI l] = some (.int l.sum) := by simp [biD, DI, listD, intsOf_map]
theorem bi_len (l : List Int) : biD .len [DI l] = some (.int l.length) := by simp [biD, DI, seqD]
theorem bi_lenL (l : List D) : biD .len [.list l] = some (.int l.length) := by simp [biD, seqD]
theorem eq_DI (a b : List Int) : eqD (DI a) (DI b) = some (a == b) := by simp [eqD, DI, intsOf_map]
theorem op_mul {a b : Int} (h : small a = true ∨ small b = true) : op2D .mul (.int a) (.int b) = some (.int (a * b)) := by
  simp only [op2D]
  rw [if_pos (by simpa using h)]
theorem op_fdiv {a b : Int} (h : 0 < b) (hs : small b = true) : op2D .fdiv (.int a) (.int b) = some (.int (a / b)) := by
  simp only [op2D]
  rw [if_pos ⟨h, hs⟩]
theorem op_mod {a b : Int} (h : 0 < b) : op2D .mod (.int a) (.int b) = some (.int (a % b)) := by
  simp only [op2D]
  rw [if_pos h]
theorem op_add {a b : Int} : op2D .add (.int a) (.int b) = some (.int (a + b)) := rfl
theorem op_sub {a b : Int} : op2D .sub (.int a) (.int b) = some (.int (a - b)) := rfl
theorem small_of {a : Int} (h : -(2 ^ 63) < a) (h' : a < 2 ^ 63) : small a = true := by simp [small]; omega

/-- a loop that goes to its end, by an invariant -/
theorem loopF_inv {f : D → Sg → Option R} (I : Nat → Sg → Prop) : ∀ (ds : List D) (k : Nat) (σ : Sg), I k σ → (∀ i σ, (h : i < ds.length) → I (k + i) σ → ∃ σ', (f ds[i] σ = some (.nxt σ') ∨ f ds[i] σ = some (.cnt σ')) ∧ I (k + i + 1) σ') →
    ∃ σ', loopF f ds σ = some (.nxt σ') ∧ I (k + ds.length) σ'
  | [], k, σ, h, _ => ⟨σ, rfl, h⟩
  | d :: r, k, σ, h, step => by
    obtain ⟨σ1, h1, h2⟩ := step 0 σ (by simp) h
    simp only [List.getElem_cons_zero] at h1
    obtain ⟨σ2, h3, h4⟩ := loopF_inv I r (k + 1) σ1 h2 fun i σ hi hI => by
      have := step (i + 1) σ (by simpa using hi) (by rw [show k + (i + 1) = k + 1 + i from by omega]; exact hI)
      obtain ⟨σ', a, b⟩ := this
      refine ⟨σ', by simpa using a, ?_⟩
      rw [show k + 1 + i + 1 = k + (i + 1) + 1 from by omega]; exact b
    refine ⟨σ2, ?_, by rw [List.length_cons, show k + (r.length + 1) = k + 1 + r.length from by omega]; exact h4⟩
    rcases h1 with h1 | h1 <;> simp [loopF, h1, h3]
end
end Mine
end

section
open PySem PySem.W PyProof.Rows
set_option maxRecDepth 100000
namespace Mine

/-! ## P2. The quota method: what its terms mean -/
def q_body : SL :=
  (.cons (.asg (.v 4) (.k (.int 1))) (.cons (.loopB (.v 5) 3 (.cons (.asg (.v 4) (.op .mul (.v 4) (.op .add (.v 5) (.k (.int 1))))) .nil)) (.cons (.asg (.v 6) (.comp (.op .fdiv (.op .mul (.bi .int (.cons (.idx (.v 0) (.v 11)) .nil)) (.v 4)) (.op .add (.bi .int (.cons (.idx (.v 3) (.v 11)) .nil)) (.k (.int 1)))) (.cons (.v 11) (.range1 (.bi .len (.cons (.v 0) .nil))) .nil .nil))) (.cons (.ite (.cmp .ne (.bi .sum (.cons (.v 0) .nil)) (.k (.int 0))) (.cons (.asg (.v 10) (.comp (.neg (.op .fdiv (.op .mul (.neg (.v 12)) (.op .add (.bi .sum (.cons (.v 3) .nil)) (.k (.int 1)))) (.bi .sum (.cons (.v 0) .nil)))) (.cons (.v 12) (.t (.v 0)) .nil .nil))) (.cons (.asg (.v 6) (.comp (.ite (.cmp .ge (.idx (.v 3) (.v 11)) (.idx (.v 10) (.v 11))) (.k (.int 0)) (.idx (.v 6) (.v 11))) (.cons (.v 11) (.range1 (.bi .len (.cons (.v 0) .nil))) .nil .nil))) .nil)) .nil) (.cons (.asg (.v 7) (.bi .maxL (.cons (.v 6) .nil))) (.cons (.asg (.v 8) (.comp (.v 11) (.cons (.v 11) (.range1 (.bi .len (.cons (.v 0) .nil))) (.cons (.cmp .eq (.idx (.v 6) (.v 11)) (.v 7)) .nil) .nil))) (.cons (.asg (.v 9) (.idx (.v 8) (.k (.int 0)))) (.cons (.augI 3 (.v 9) (.k (.int 1))) .nil))))))))
def q_cond : T := .cmp .lt (.bi .sum (.cons (.v 3) .nil)) (.v 1)
def q_own : Nat → Bool := fun i => i == 3

def qcommon (r : List Int) : Int := r.foldl (fun c x => c * (x + 1)) 1
def qq (V r : List Int) : List Int := (List.range V.length).map fun i => V.getD i 0 * qcommon r / (r.getD i 0 + 1)
def qup (V r : List Int) : List Int := V.map fun p => -(-p * (r.sum + 1) / V.sum)
def qc (V r : List Int) : List Int := (List.range V.length).map fun i => if (qup V r).getD i 0 ≤ r.getD i 0 then 0 else (qq V r).getD i 0
def lmax : List Int → Int
  | [] => 0
  | i :: r => maxI i r
def qwho (V r : List Int) : List Nat := (List.range V.length).filter fun i => (qc V r).getD i 0 == lmax (qc V r)
def qnext (V r : List Int) : Nat := (qwho V r).headD 0
def qstep (V r : List Int) : List Int := r.set (qnext V r) (r.getD (qnext V r) 0 + 1)

theorem getD_map_range {n i : Nat} {f : Nat → Int} (h : i < n) : ((List.range n).map f).getD i 0 = f i := by
  rw [List.getD_eq_getElem?_getD, List.getElem?_map, List.getElem?_range h]; rfl
theorem getD_map {l : List Int} {i : Nat} {f : Int → Int} (h : i < l.length) : (l.map f).getD i 0 = f (l.getD i 0) := by
  rw [List.getD_eq_getElem?_getD, List.getD_eq_getElem?_getD, List.getElem?_map, List.getElem?_eq_getElem h]; rfl
theorem getD_mem {l : List Int} {i : Nat} (h : i < l.length) : l.getD i 0 ∈ l := by
  rw [List.getD_eq_getElem?_getD, List.getElem?_eq_getElem h]; exact List.getElem_mem h

theorem lmax_spec : ∀ {l : List Int}, l ≠ [] → lmax l ∈ l ∧ ∀ a ∈ l, a ≤ lmax l
  | [], h => absurd rfl h
  | i :: r, _ => maxI_spec r i

theorem sum_pos {l : List Int} (h : ∀ v ∈ l, 1 ≤ v) : (l.length : Int) ≤ l.sum := by
  induction l with
  | nil => simp
  | cons x r ih =>
    have h1 := h x List.mem_cons_self
    have h2 := ih fun v m => h v (List.mem_cons_of_mem _ m)
    simp only [List.length_cons, List.sum_cons]; omega
theorem sum_le {l : List Int} {b : Int} (h : ∀ v ∈ l, v ≤ b) : l.sum ≤ l.length * b := by
  induction l with
  | nil => simp
  | cons x r ih =>
    have h1 := h x List.mem_cons_self
    have h2 := ih fun v m => h v (List.mem_cons_of_mem _ m)
    simp only [List.length_cons, List.sum_cons]
    have : ((r.length + 1 : Nat) : Int) * b = r.length * b + b := by rw [Int.natCast_add, Int.add_mul]; simp
    omega
theorem sum_nonneg {l : List Int} (h : ∀ v ∈ l, 0 ≤ v) : 0 ≤ l.sum := by
  induction l with
  | nil => simp
  | cons x r ih =>
    have h1 := h x List.mem_cons_self
    have h2 := ih fun v m => h v (List.mem_cons_of_mem _ m)
    simp only [List.sum_cons]; omega
theorem le_sum {l : List Int} (h : ∀ v ∈ l, 0 ≤ v) : ∀ v ∈ l, v ≤ l.sum := by
  induction l with
  | nil => intro v m; cases m
  | cons x r ih =>
    intro v m
    have h1 := h x List.mem_cons_self
    have h2 := sum_nonneg fun v m => h v (List.mem_cons_of_mem _ m)
    have h3 := ih (fun v m => h v (List.mem_cons_of_mem _ m))
    simp only [List.sum_cons]
    rcases List.mem_cons.mp m with rfl | m
    · omega
    · have := h3 v m; omega

/-- votes as the laws build them -/
structure VOk (V : List Int) : Prop where
  n1 : 1 ≤ V.length
  n5 : V.length ≤ 5
  lo : ∀ v ∈ V, 1 ≤ v
  hi : ∀ v ∈ V, v ≤ 2 ^ 40
structure ROk (n : Nat) (b : Int) (r : List Int) : Prop where
  len : r.length = n
  lo : ∀ x ∈ r, 0 ≤ x
  hi : r.sum ≤ b

theorem VOk.sum {V : List Int} (h : VOk V) : 1 ≤ V.sum ∧ V.sum ≤ 5 * 2 ^ 40 := by
  have a := sum_pos h.lo
  have b := sum_le h.hi
  have c := h.n1
  have d := h.n5
  refine ⟨by omega, ?_⟩
  have : (V.length : Int) * 2 ^ 40 ≤ 5 * 2 ^ 40 := Int.mul_le_mul_of_nonneg_right (by omega) (by decide)
  omega

section
variable {F : Fn} {mu : Nat → Bool}

theorem q_turn (hm : ∀ i, mu i = true) {V r : List Int} {h : Int} (hV : VOk V) (hr : ROk V.length 1000 r) {σ : Sg} (h0 : σ 0 = some (DI V)) (h1 : σ 1 = some (.int h)) (h3 : σ 3 = some (DI r)) :
    ∃ σ', evSL q_own F mu q_body σ = some (.nxt σ') ∧ σ' 0 = some (DI V) ∧ σ' 1 = some (.int h) ∧ σ' 3 = some (DI (qstep V r)) := by
  have hs := hV.sum
  have hrs := sum_nonneg hr.lo
  have hrb : ∀ i, i < V.length → 0 ≤ r.getD i 0 ∧ r.getD i 0 ≤ 1000 := fun i hi => by
    have := getD_mem (l := r) (i := i) (by rw [hr.len]; exact hi)
    exact ⟨hr.lo _ this, Int.le_trans (le_sum hr.lo _ this) hr.hi⟩
  unfold q_body
  rw [evSL_nxt (σ' := upd σ 4 (.int 1)) (e_asg rfl rfl)]
  -- the product
  have hloop : ∃ σ2, evS q_own F mu (.loopB (.v 5) 3 (.cons (.asg (.v 4) (.op .mul (.v 4) (.op .add (.v 5) (.k (.int 1))))) .nil)) (upd σ 4 (.int 1)) = some (.nxt σ2) ∧ σ2 4 = some (.int (qcommon r)) ∧ ∀ j, j ≠ 4 → j ≠ 5 → σ2 j = σ j := by
    have inv := loopF_inv (f := fun d σ => (bindP q_own (.v 5) d σ).bind fun σ' => evSL q_own F (fun _ => false) (.cons (.asg (.v 4) (.op .mul (.v 4) (.op .add (.v 5) (.k (.int 1))))) .nil) σ')
      (fun k σ' => σ' 4 = some (.int ((r.take k).foldl (fun c x => c * (x + 1)) 1)) ∧ ∀ j, j ≠ 4 → j ≠ 5 → σ' j = σ j) (r.map .int) 0 (upd σ 4 (.int 1)) ⟨by simp [upd], fun j a b => by simp [upd, a]⟩ fun i σ' hi hI => by
        have hi' : i < r.length := by simpa using hi
        obtain ⟨e4, ej⟩ := hI
        simp only [Nat.zero_add] at e4 ⊢
        have hx : r[i] ∈ r := List.getElem_mem hi'
        have b1 := hr.lo _ hx
        have b2 := Int.le_trans (le_sum hr.lo _ hx) hr.hi
        refine ⟨upd (upd σ' 5 (.int r[i])) 4 (.int ((r.take i).foldl (fun c x => c * (x + 1)) 1 * (r[i] + 1))), .inl ?_, ?_, fun j a b => by simp [upd, a, b, ej j a b]⟩
        · simp only [bindP, List.getElem_map]
          rw [if_neg (by decide), Option.bind_some, evSL_nxt (e_asg ?_ rfl)]
          · rfl
          · simp only [ev]
            rw [if_neg (by decide), if_neg (by decide)]
            simp only [upd, K.d, e4]
            simp only [show (4 : Nat) ≠ 5 from by decide, if_false, if_true, Option.bind_some, op_add, e4]
            rw [op_mul (.inr (small_of (by omega) (by omega)))]
        · rw [List.take_succ_eq_append_getElem hi', List.foldl_append]
          simp [upd]
    obtain ⟨σ2, e, i1, i2⟩ := inv
    refine ⟨σ2, ?_, ?_, i2⟩
    · simp only [evS]
      rw [if_pos (by decide)]
      have : (upd σ 4 (.int 1)) 3 = some (DI r) := by simp [upd, h3]
      rw [this]
      simp only [Option.bind_some, DI, listD]
      exact e
    · rw [i1]; simp [qcommon]
  obtain ⟨σ2, e2, c4, cj⟩ := hloop
  rw [evSL_nxt e2]
  have g0 : σ2 0 = some (DI V) := by rw [cj 0 (by decide) (by decide), h0]
  have g1 : σ2 1 = some (.int h) := by rw [cj 1 (by decide) (by decide), h1]
  have g3 : σ2 3 = some (DI r) := by rw [cj 3 (by decide) (by decide), h3]
  have lenV : ∀ (σ : Sg), σ 0 = some (DI V) → ev q_own F false (.bi .len (.cons (.v 0) .nil)) σ = some (.int V.length) := fun σ e => by
    simp only [ev, evL]
    rw [if_neg (by decide), e]
    exact bi_len V
  have sumV : ∀ (σ : Sg), σ 0 = some (DI V) → ev q_own F false (.bi .sum (.cons (.v 0) .nil)) σ = some (.int V.sum) := fun σ e => by
    simp only [ev, evL]
    rw [if_neg (by decide), e]
    exact bi_sum V
  have sumR : ∀ (σ : Sg), σ 3 = some (DI r) → ev q_own F false (.bi .sum (.cons (.v 3) .nil)) σ = some (.int r.sum) := fun σ e => by
    simp only [ev, evL]
    rw [if_neg (by decide), e]
    exact bi_sum r
  -- quotas
  have q6 : ev q_own F false (.comp (.op .fdiv (.op .mul (.bi .int (.cons (.idx (.v 0) (.v 11)) .nil)) (.v 4)) (.op .add (.bi .int (.cons (.idx (.v 3) (.v 11)) .nil)) (.k (.int 1)))) (.cons (.v 11) (.range1 (.bi .len (.cons (.v 0) .nil))) .nil .nil)) σ2 = some (DI (qq V r)) := by
    rw [t_rangeMap (f := fun i => D.int (V.getD i 0 * qcommon r / (r.getD i 0 + 1))) rfl (lenV σ2 g0) (by have := hV.n5; omega) fun i hi => ?_]
    · simp [qq, DI]
    · have hvm := getD_mem hi
      have v1 := hV.lo _ hvm
      have v2 := hV.hi _ hvm
      obtain ⟨r1, r2⟩ := hrb i hi
      simp only [ev, evL]
      simp only [show q_own 0 = false from rfl, show q_own 11 = false from rfl, show q_own 4 = false from rfl, Bool.false_and, Bool.and_true, Bool.not_true, Bool.and_false, Bool.false_eq_true, if_false]
      simp only [upd, show (0 : Nat) ≠ 11 from by decide, show (4 : Nat) ≠ 11 from by decide, show (3 : Nat) ≠ 11 from by decide, if_false, if_true, g0, g3, c4, Option.bind_some, K.d]
      rw [idx_DI hi, idx_DI (by rw [hr.len]; exact hi)]
      simp only [Option.bind_some, biD, op_add]
      rw [op_mul (.inl (small_of (by omega) (by omega))), Option.bind_some, op_fdiv (by omega) (small_of (by omega) (by omega))]
  rw [evSL_nxt (e_asg q6 rfl)]
  generalize hσ3 : upd σ2 6 (DI (qq V r)) = σ3
  have k0 : σ3 0 = some (DI V) := by rw [← hσ3]; simp [upd, g0]
  have k1 : σ3 1 = some (.int h) := by rw [← hσ3]; simp [upd, g1]
  have k3 : σ3 3 = some (DI r) := by rw [← hσ3]; simp [upd, g3]
  have k6 : σ3 6 = some (DI (qq V r)) := by rw [← hσ3]; simp [upd]
  have c1 : ev q_own F false (.cmp .ne (.bi .sum (.cons (.v 0) .nil)) (.k (.int 0))) σ3 = some (.bool true) := by
    have := sumV σ3 k0
    simp only [ev, evL] at this ⊢
    rw [this]
    have hne : (V.sum == 0) = false := by simp; omega
    simp [K.d, cmD, hne]
  have hite : ∃ σ4, evS q_own F mu (.ite (.cmp .ne (.bi .sum (.cons (.v 0) .nil)) (.k (.int 0))) (.cons (.asg (.v 10) (.comp (.neg (.op .fdiv (.op .mul (.neg (.v 12)) (.op .add (.bi .sum (.cons (.v 3) .nil)) (.k (.int 1)))) (.bi .sum (.cons (.v 0) .nil)))) (.cons (.v 12) (.t (.v 0)) .nil .nil))) (.cons (.asg (.v 6) (.comp (.ite (.cmp .ge (.idx (.v 3) (.v 11)) (.idx (.v 10) (.v 11))) (.k (.int 0)) (.idx (.v 6) (.v 11))) (.cons (.v 11) (.range1 (.bi .len (.cons (.v 0) .nil))) .nil .nil))) .nil)) .nil) σ3 = some (.nxt σ4) ∧ σ4 0 = some (DI V) ∧ σ4 1 = some (.int h) ∧ σ4 3 = some (DI r) ∧ σ4 6 = some (DI (qc V r)) := by
    rw [e_ite_t c1]
    have q10 : ev q_own F false (.comp (.neg (.op .fdiv (.op .mul (.neg (.v 12)) (.op .add (.bi .sum (.cons (.v 3) .nil)) (.k (.int 1)))) (.bi .sum (.cons (.v 0) .nil)))) (.cons (.v 12) (.t (.v 0)) .nil .nil)) σ3 = some (DI (qup V r)) := by
      rw [t_map (ds := V.map .int) (f := fun d => match d with | .int p => .int (-(-p * (r.sum + 1) / V.sum)) | d => d) rfl ?_ (fun d hd => ?_) (by simp [LB]; have := hV.n5; omega)]
      · simp [qup, DI]
      · simp only [evSr, ev]
        rw [if_neg (by decide), k0]
        rfl
      · obtain ⟨p, hp, rfl⟩ := List.mem_map.mp hd
        have v1 := hV.lo _ hp
        have v2 := hV.hi _ hp
        have e1 := sumR (upd σ3 12 (.int p)) (by simp [upd, k3])
        have e2 := sumV (upd σ3 12 (.int p)) (by simp [upd, k0])
        simp only [ev, evL] at e1 e2 ⊢
        rw [e1, e2, if_neg (by decide)]
        simp only [upd, if_true, Option.bind_some, negD, K.d, op_add]
        rw [op_mul (.inl (small_of (by omega) (by omega))), Option.bind_some, op_fdiv (by omega) (small_of (by omega) (by omega))]
        rfl
    rw [evSL_nxt (e_asg q10 rfl)]
    have q6' : ev q_own F false (.comp (.ite (.cmp .ge (.idx (.v 3) (.v 11)) (.idx (.v 10) (.v 11))) (.k (.int 0)) (.idx (.v 6) (.v 11))) (.cons (.v 11) (.range1 (.bi .len (.cons (.v 0) .nil))) .nil .nil)) (upd σ3 10 (DI (qup V r))) = some (DI (qc V r)) := by
      rw [t_rangeMap (f := fun i => D.int (if (qup V r).getD i 0 ≤ r.getD i 0 then 0 else (qq V r).getD i 0)) rfl (lenV _ (by simp [upd, k0])) (by have := hV.n5; omega) fun i hi => ?_]
      · simp [qc, DI]
      · simp only [ev, evL]
        simp only [show q_own 6 = false from rfl, show q_own 11 = false from rfl, show q_own 10 = false from rfl, Bool.false_and, Bool.and_true, Bool.not_true, Bool.and_false, Bool.false_eq_true, if_false]
        simp only [upd, show (3 : Nat) ≠ 11 from by decide, show (3 : Nat) ≠ 10 from by decide, show (10 : Nat) ≠ 11 from by decide, show (6 : Nat) ≠ 11 from by decide, show (6 : Nat) ≠ 10 from by decide, if_false, if_true, k3, k6, Option.bind_some, K.d]
        rw [idx_DI (by rw [hr.len]; exact hi), idx_DI (l := qup V r) (by simpa [qup] using hi), idx_DI (l := qq V r) (by simpa [qq] using hi)]
        simp only [Option.bind_some, cmD, Option.map_some, boolD]
        by_cases hc : (qup V r).getD i 0 ≤ r.getD i 0
        · simp only [hc, decide_true, if_true]
        · simp only [hc, decide_false, Bool.false_eq_true, if_false]
    rw [evSL_nxt (e_asg q6' rfl)]
    exact ⟨_, rfl, by simp [upd, k0], by simp [upd, k1], by simp [upd, k3], by simp [upd]⟩
  obtain ⟨σ4, e4, l0, l1, l3, l6⟩ := hite
  rw [evSL_nxt e4]
  have hne : qc V r ≠ [] := by
    have : (qc V r).length = V.length := by simp [qc]
    intro e; rw [e] at this; have := hV.n1; simp at *; omega
  have q7 : ev q_own F false (.bi .maxL (.cons (.v 6) .nil)) σ4 = some (.int (lmax (qc V r))) := by
    simp only [ev, evL]
    rw [if_neg (by decide), l6]
    simp only [Option.bind_some, biD, DI, listD, intsOf_map]
    cases q : qc V r with
    | nil => exact absurd q hne
    | cons i t => rfl
  rw [evSL_nxt (e_asg q7 rfl)]
  have q8 : ev q_own F false (.comp (.v 11) (.cons (.v 11) (.range1 (.bi .len (.cons (.v 0) .nil))) (.cons (.cmp .eq (.idx (.v 6) (.v 11)) (.v 7)) .nil) .nil)) (upd σ4 7 (.int (lmax (qc V r)))) = some (.list ((qwho V r).map fun (i : Nat) => D.int i)) := by
    rw [t_rangeComp (p := fun i => (qc V r).getD i 0 == lmax (qc V r)) (f := fun i => D.int i) rfl (lenV _ (by simp [upd, l0])) (by have := hV.n5; omega) (fun i hi => ?_) (fun i hi _ => ?_)]
    · rfl
    · simp only [evC, ev]
      simp only [show q_own 6 = false from rfl, show q_own 11 = false from rfl, show q_own 7 = false from rfl, Bool.false_and, Bool.and_true, Bool.not_true, Bool.and_false, Bool.false_eq_true, if_false]
      simp only [upd, show (6 : Nat) ≠ 11 from by decide, show (6 : Nat) ≠ 7 from by decide, show (7 : Nat) ≠ 11 from by decide, if_false, if_true, l6, Option.bind_some]
      rw [idx_DI (l := qc V r) (by simpa [qc] using hi)]
      simp only [Option.bind_some, cmD, eqD, Option.map_some, boolD]
      cases ((qc V r).getD i 0 == lmax (qc V r)) <;> rfl
    · simp only [ev]
      rw [if_neg (by decide)]
      simp [upd]
  rw [evSL_nxt (e_asg q8 rfl)]
  have hwho : ∃ k t, qwho V r = k :: t ∧ k < V.length := by
    obtain ⟨m1, _⟩ := lmax_spec hne
    obtain ⟨i, hi, e⟩ := List.getElem_of_mem m1
    have hi' : i < V.length := by simpa [qc] using hi
    have : i ∈ qwho V r := by
      unfold qwho
      rw [List.mem_filter]
      refine ⟨List.mem_range.mpr hi', ?_⟩
      rw [List.getD_eq_getElem?_getD, List.getElem?_eq_getElem hi, ← e]; simp
    cases q : qwho V r with
    | nil => rw [q] at this; cases this
    | cons k t =>
      refine ⟨k, t, rfl, ?_⟩
      have : k ∈ qwho V r := by rw [q]; exact List.mem_cons_self
      unfold qwho at this
      exact List.mem_range.mp (List.mem_filter.mp this).1
  obtain ⟨k, t, hk, hkl⟩ := hwho
  have hkn : qnext V r = k := by unfold qnext; rw [hk]; rfl
  have q9 : ev q_own F false (.idx (.v 8) (.k (.int 0))) (upd (upd σ4 7 (.int (lmax (qc V r)))) 8 (.list ((qwho V r).map fun (i : Nat) => D.int i))) = some (.int (k : Int)) := by
    simp only [ev]
    simp only [show q_own 8 = false from rfl, Bool.false_and, Bool.false_eq_true, if_false, upd, if_true, Option.bind_some, K.d, hk]
    simp [idxD, seqD, intD, place]
  rw [evSL_nxt (e_asg q9 rfl)]
  generalize hσ5 : upd (upd (upd σ4 7 (.int (lmax (qc V r)))) 8 (.list ((qwho V r).map fun (i : Nat) => D.int i))) 9 (.int (k : Int)) = σ5
  have m0 : σ5 0 = some (DI V) := by rw [← hσ5]; simp [upd, l0]
  have m1 : σ5 1 = some (.int h) := by rw [← hσ5]; simp [upd, l1]
  have m3 : σ5 3 = some (DI r) := by rw [← hσ5]; simp [upd, l3]
  have m9 : σ5 9 = some (.int (k : Int)) := by rw [← hσ5]; simp [upd]
  have hkr : k < r.length := by rw [hr.len]; exact hkl
  rw [evSL_nxt (e_augI (ds := r.map .int) (k := (k : Int)) (y := r.getD k 0) (b := 1) rfl (hm 3) m3 (by simp only [ev]; rw [if_neg (by decide)]; exact m9) (by omega) (by simpa using hkr) ?_ rfl)]
  · refine ⟨_, rfl, by simp [upd, m0], by simp [upd, m1], ?_⟩
    simp only [upd, if_true, DI, qstep, hkn]
    congr 2
    simp
  · simp [List.getElem?_map, List.getElem?_eq_getElem hkr, List.getD_eq_getElem?_getD]
end
end Mine
end

section
open PySem PySem.W PyProof.Rows
set_option maxRecDepth 100000
namespace Mine

/-! ## P3. The quota method, whole; its steps -/
def qit (V : List Int) : Nat → List Int
  | 0 => List.replicate V.length 0
  | h + 1 => qstep V (qit V h)

theorem qnext_lt {V r : List Int} (hn : 1 ≤ V.length) : qnext V r < V.length ∧ (qc V r).getD (qnext V r) 0 = lmax (qc V r) ∧ ∀ i, i < qnext V r → (qc V r).getD i 0 ≠ lmax (qc V r) := by
  have hne : qc V r ≠ [] := by
    have : (qc V r).length = V.length := by simp [qc]
    intro e; rw [e] at this; simp at this; omega
  obtain ⟨m1, _⟩ := lmax_spec hne
  obtain ⟨i, hi, e⟩ := List.getElem_of_mem m1
  have hi' : i < V.length := by simpa [qc] using hi
  have hm : i ∈ qwho V r := by
    unfold qwho
    rw [List.mem_filter]
    refine ⟨List.mem_range.mpr hi', ?_⟩
    rw [List.getD_eq_getElem?_getD, List.getElem?_eq_getElem hi, ← e]; simp
  have hs : (qwho V r).Pairwise (· < ·) := List.Pairwise.filter _ List.pairwise_lt_range
  cases q : qwho V r with
  | nil => rw [q] at hm; cases hm
  | cons k t =>
    have hk : qnext V r = k := by unfold qnext; rw [q]; rfl
    have hkm : k ∈ qwho V r := by rw [q]; exact List.mem_cons_self
    rw [hk]
    have hkm' := List.mem_filter.mp hkm
    refine ⟨List.mem_range.mp hkm'.1, by simpa using hkm'.2, fun j hj e => ?_⟩
    have hjm : j ∈ qwho V r := by
      unfold qwho
      exact List.mem_filter.mpr ⟨List.mem_range.mpr (Nat.lt_trans hj (List.mem_range.mp hkm'.1)), by simpa using e⟩
    rw [q] at hjm hs
    rcases List.mem_cons.mp hjm with z | z
    · omega
    · have := (List.pairwise_cons.mp hs).1 j z; omega

theorem sum_set {l : List Int} : ∀ {k : Nat} {x : Int}, k < l.length → (l.set k x).sum = l.sum - l.getD k 0 + x := by
  induction l with
  | nil => intro k x h; simp at h
  | cons y r ih =>
    intro k x h
    cases k with
    | zero => simp; omega
    | succ k =>
      have := ih (k := k) (x := x) (by simpa using h)
      simp only [List.set_cons_succ, List.sum_cons, List.getD_cons_succ]
      omega

theorem qstep_ok {V r : List Int} {b : Int} (hn : 1 ≤ V.length) (hr : ROk V.length b r) : ROk V.length (b + 1) (qstep V r) ∧ (qstep V r).sum = r.sum + 1 := by
  obtain ⟨hk, _⟩ := qnext_lt (r := r) hn
  have hk' : qnext V r < r.length := by rw [hr.len]; exact hk
  have hs : (qstep V r).sum = r.sum + 1 := by unfold qstep; rw [sum_set hk']; omega
  refine ⟨⟨by simp [qstep, hr.len], fun x hx => ?_, by rw [hs]; have := hr.hi; omega⟩, hs⟩
  unfold qstep at hx
  rcases List.mem_or_eq_of_mem_set hx with h | h
  · exact hr.lo x h
  · have := hr.lo _ (getD_mem hk'); omega

theorem qit_ok {V : List Int} (hn : 1 ≤ V.length) : ∀ h : Nat, ROk V.length (h : Int) (qit V h) ∧ (qit V h).sum = (h : Int)
  | 0 => by
    have e : (List.replicate V.length (0 : Int)).sum = 0 := by
      generalize V.length = n
      induction n with
      | zero => rfl
      | succ n ih => rw [List.replicate_succ, List.sum_cons, ih]; rfl
    refine ⟨⟨by simp [qit], fun x hx => ?_, ?_⟩, e⟩
    · have := List.eq_of_mem_replicate hx; omega
    · show (List.replicate V.length (0 : Int)).sum ≤ _
      rw [e]; simp
  | h + 1 => by
    obtain ⟨a, b⟩ := qit_ok hn h
    obtain ⟨c, d⟩ := qstep_ok hn a
    exact ⟨by show ROk V.length _ (qstep V (qit V h)); simpa using c, by rw [qit, d, b]; simp⟩

section
variable {F : Fn} {mu : Nat → Bool}
theorem q_while (hm : ∀ i, mu i = true) {V : List Int} {h : Nat} (hV : VOk V) (hh : h ≤ 1000) : ∀ (m i fuel : Nat) (σ : Sg), i + m = h → m < fuel → σ 0 = some (DI V) → σ 1 = some (.int h) → σ 3 = some (DI (qit V i)) →
    ∃ σ', whileF (fun σ => (ev q_own F false q_cond σ).bind boolD) (fun σ => evSL q_own F mu q_body σ) fuel σ = some (.nxt σ') ∧ σ' 3 = some (DI (qit V h))
  | m, i, 0, σ, _, hf, _, _, _ => absurd hf (Nat.not_lt_zero _)
  | m, i, fuel + 1, σ, hi, hf, h0, h1, h3 => by
    obtain ⟨ok, hs⟩ := qit_ok hV.n1 i
    have hc : ev q_own F false q_cond σ = some (.bool (decide ((i : Int) < h))) := by
      unfold q_cond
      simp only [ev, evL]
      rw [if_neg (by decide), if_neg (by decide), h3, h1]
      simp only [Option.bind_some, bi_sum, cmD, Option.map_some]
      rw [hs]
    simp only [whileF, hc, Option.bind_some, boolD]
    cases m with
    | zero =>
      have : ¬ ((i : Int) < h) := by omega
      simp only [this, decide_false, Bool.false_eq_true, if_false]
      have e : i = h := by omega
      exact ⟨σ, rfl, by rw [← e]; exact h3⟩
    | succ m =>
      have : ((i : Int) < h) := by omega
      simp only [this, decide_true, if_true]
      obtain ⟨σ', e, a0, a1, a3⟩ := q_turn (F := F) hm hV (r := qit V i) (h := h) ⟨ok.len, ok.lo, by have := ok.hi; omega⟩ h0 h1 h3
      rw [e]
      simp only [Option.bind_some]
      exact q_while hm hV hh m (i + 1) fuel σ' (by omega) (by omega) a0 a1 a3

theorem q_all (hm : ∀ i, mu i = true) {V : List Int} {h : Nat} {fuel : Nat} (hV : VOk V) (hh : h < fuel) (hf : fuel ≤ 1000) {σ : Sg} (h0 : σ 0 = some (DI V)) (h1 : σ 1 = some (.int h)) (h2 : σ 2 = some (.bool true)) :
    evSL q_own F mu (.cons (.ite (.not (.v 2)) (.cons .dead .nil) .nil) (.cons (.own1 3 (.rep (.k (.int 0)) (.bi .len (.cons (.v 0) .nil)))) (.cons (.whil fuel q_cond q_body) (.cons (.retO 3) .nil)))) σ = some (.ret (DI (qit V h))) := by
  have e1 : evS q_own F mu (.ite (.not (.v 2)) (.cons .dead .nil) .nil) σ = some (.nxt σ) := by
    rw [e_ite_f]
    · rfl
    · simp only [ev]
      rw [if_neg (by decide), h2]; rfl
  rw [evSL_nxt e1]
  have e2 : ev q_own F false (.rep (.k (.int 0)) (.bi .len (.cons (.v 0) .nil))) σ = some (.list (List.replicate V.length (.int 0))) := by
    simp only [ev, evL]
    rw [if_neg (by decide), h0]
    simp only [Option.bind_some, bi_len, intD, K.d]
    rw [if_pos ⟨by omega, by have := hV.n5; simp [LB]; omega⟩]
    simp
  rw [evSL_nxt (e_own1 e2 rfl (hm 3) rfl)]
  obtain ⟨σ', e3, a3⟩ := q_while (F := F) (mu := mu) hm hV (h := h) (by omega) h 0 fuel (upd σ 3 (.list (List.replicate V.length (.int 0)))) (by omega) hh (by simp [upd, h0]) (by simp [upd, h1]) (by simp [upd, DI, qit])
  have e3' : evS q_own F mu (.whil fuel q_cond q_body) (upd σ 3 (.list (List.replicate V.length (.int 0)))) = some (.nxt σ') := by unfold evS; exact e3
  rw [evSL_nxt e3']
  exact evSL_ret (e_retO rfl a3)
end
end Mine
end

section
open PySem PySem.W PyProof.Rows
set_option maxRecDepth 100000
namespace Mine

/-! ## P4. The divisor methods: what their terms mean -/
def d_own : Nat → Bool := fun i => i == 4
def d_hunt : T := (.cmp .inn (.v 2) (.list (.cons (.k (.str (PySem.Str.ofString "huntington"))) (.cons (.k (.str (PySem.Str.ofString "hill"))) (.cons (.k (.str (PySem.Str.ofString "equalproportions"))) .nil)))))
def d_wexp : T := (.comp (.comp (.op .fdiv (.op .mul (.op .mul (.bi .int (.cons (.v 13) .nil)) (.idx (.v 8) (.k (.int 1)))) (.v 7)) (.idx (.v 8) (.k (.int 0)))) (.cons (.v 8) (.t (.v 6)) .nil .nil)) (.cons (.v 13) (.t (.v 0)) .nil .nil))
def d_wexp2 : T := (.comp (.comp (.op .fdiv (.op .mul (.op .mul (.op .mul (.bi .int (.cons (.v 13) .nil)) (.bi .int (.cons (.v 13) .nil))) (.idx (.v 8) (.k (.int 1)))) (.v 7)) (.idx (.v 8) (.k (.int 0)))) (.cons (.v 8) (.t (.v 6)) .nil .nil)) (.cons (.v 13) (.t (.v 0)) .nil .nil))
def d_core : SL := (.cons (.asg (.v 7) (.k (.int 1))) (.cons (.loop (.v 8) (.t (.v 6)) (.cons (.asg (.v 7) (.op .mul (.v 7) (.idx (.v 8) (.k (.int 0))))) .nil)) (.cons (.ite d_hunt (.cons (.asg (.v 12) d_wexp2) .nil) (.cons (.asg (.v 12) d_wexp) .nil)) (.cons (.asg (.v 9) (.bi .sorted (.cons (.comp (.v 15) (.cons (.v 14) (.t (.v 12)) .nil (.cons (.v 15) (.t (.v 14)) .nil .nil))) .nil))) (.cons (.asg (.v 10) (.idx (.v 9) (.op .add (.neg (.v 1)) (.bi .sum (.cons (.v 4) .nil))))) (.cons (.own1 4 (.comp (.op .add (.idx (.v 4) (.v 11)) (.bi .len (.cons (.comp (.v 15) (.cons (.v 15) (.t (.idx (.v 12) (.v 11))) (.cons (.cmp .gt (.v 15) (.v 10)) .nil) .nil)) .nil))) (.cons (.v 11) (.range1 (.bi .len (.cons (.v 0) .nil))) .nil .nil))) .nil))))))

def DT (ds : List Int) : D := .list (ds.map fun d => D.tup [.int d, .int 1])
def DI2 (W : List (List Int)) : D := .list (W.map DI)
def dcommon (ds : List Int) : Int := ds.foldl (fun c d => c * d) 1
def dwt (V ds : List Int) : List (List Int) := V.map fun p => ds.map fun d => p * 1 * dcommon ds / d
def dflat (V ds : List Int) : List Int := (dwt V ds).flatten
/-- the weight of the last seat -/
def dmin (V ds r0 : List Int) (h : Int) : Int := (isort (dflat V ds)).getD ((dflat V ds).length - (h - r0.sum).toNat) 0
def dabove (V ds r0 : List Int) (h : Int) : List Int := (List.range V.length).map fun i => r0.getD i 0 + (((dwt V ds).getD i []).filter (fun w => decide (dmin V ds r0 h < w))).length

structure DsOk (ds : List Int) : Prop where
  len : ds.length ≤ 40
  lo : ∀ d ∈ ds, 1 ≤ d
  hi : ∀ d ∈ ds, d ≤ 2 ^ 20

theorem flatten_len {V ds : List Int} : (dflat V ds).length = V.length * ds.length := by
  unfold dflat dwt
  induction V with
  | nil => simp
  | cons p r ih =>
    rw [List.map_cons, List.flatten_cons, List.length_append, ih, List.length_map, List.length_cons, Nat.add_mul]; omega

theorem isort_len (l : List Int) : (isort l).length = l.length := (isort_perm l).length_eq

section
variable {F : Fn} {mu : Nat → Bool}

theorem d_core_ev (hm : ∀ i, mu i = true) {V ds r0 : List Int} {h : Int} (hV : VOk V) (hd : DsOk ds) (hr : ROk V.length 1000 r0) {σ : Sg} {m : PySem.Str} (h0 : σ 0 = some (DI V)) (h1 : σ 1 = some (.int h)) (h2 : σ 2 = some (.str m)) (h4 : σ 4 = some (DI r0)) (h6 : σ 6 = some (DT ds))
    (hh : ∀ σ, σ 2 = some (.str m) → ev d_own F false d_hunt σ = some (.bool false)) (hs : (dflat V ds).length < 64) (hk : 1 ≤ h - r0.sum) (hk' : (h - r0.sum).toNat ≤ (dflat V ds).length) :
    ∃ σ', evSL d_own F mu d_core σ = some (.nxt σ') ∧ σ' 0 = some (DI V) ∧ σ' 1 = some (.int h) ∧ σ' 3 = σ 3 ∧ σ' 4 = some (DI (dabove V ds r0 h)) ∧ σ' 10 = some (.int (dmin V ds r0 h)) ∧ σ' 12 = some (DI2 (dwt V ds)) := by
  unfold d_core
  rw [evSL_nxt (σ' := upd σ 7 (.int 1)) (e_asg rfl rfl)]
  have hloop : ∃ σ2, evS d_own F mu (.loop (.v 8) (.t (.v 6)) (.cons (.asg (.v 7) (.op .mul (.v 7) (.idx (.v 8) (.k (.int 0))))) .nil)) (upd σ 7 (.int 1)) = some (.nxt σ2) ∧ σ2 7 = some (.int (dcommon ds)) ∧ ∀ j, j ≠ 7 → j ≠ 8 → σ2 j = σ j := by
    have inv := loopF_inv (f := fun d σ => (bindP d_own (.v 8) d σ).bind fun σ' => evSL d_own F mu (.cons (.asg (.v 7) (.op .mul (.v 7) (.idx (.v 8) (.k (.int 0))))) .nil) σ')
      (fun k σ' => σ' 7 = some (.int ((ds.take k).foldl (fun c d => c * d) 1)) ∧ ∀ j, j ≠ 7 → j ≠ 8 → σ' j = σ j) (ds.map fun d => D.tup [.int d, .int 1]) 0 (upd σ 7 (.int 1)) ⟨by simp [upd], fun j a b => by simp [upd, a]⟩ fun i σ' hi hI => by
        have hi' : i < ds.length := by simpa using hi
        obtain ⟨e4, ej⟩ := hI
        simp only [Nat.zero_add] at e4 ⊢
        have hx : ds[i] ∈ ds := List.getElem_mem hi'
        have b1 := hd.lo _ hx
        have b2 := hd.hi _ hx
        refine ⟨upd (upd σ' 8 (.tup [.int ds[i], .int 1])) 7 (.int ((ds.take i).foldl (fun c d => c * d) 1 * ds[i])), .inl ?_, ?_, fun j a b => by simp [upd, a, b, ej j a b]⟩
        · simp only [bindP, List.getElem_map]
          rw [if_neg (by decide), Option.bind_some, evSL_nxt (e_asg ?_ rfl)]
          · rfl
          · simp only [ev]
            rw [if_neg (by decide), if_neg (by decide)]
            simp only [upd, K.d, show (7 : Nat) ≠ 8 from by decide, if_false, if_true, e4, Option.bind_some]
            have : idxD (.tup [.int ds[i], .int 1]) (.int 0) = some (.int ds[i]) := by simp [idxD, seqD, intD, place]
            rw [this, Option.bind_some, op_mul (.inr (small_of (by omega) (by omega)))]
        · rw [List.take_succ_eq_append_getElem hi', List.foldl_append]
          simp [upd]
    obtain ⟨σ2, e, i1, i2⟩ := inv
    refine ⟨σ2, ?_, ?_, i2⟩
    · simp only [evS, evSr, ev]
      rw [if_neg (by decide)]
      have : (upd σ 7 (.int 1)) 6 = some (DT ds) := by simp [upd, h6]
      rw [this]
      simp only [Option.bind_some, DT, listD]
      exact e
    · rw [i1]; simp [dcommon]
  obtain ⟨σ2, e2, c7, cj⟩ := hloop
  rw [evSL_nxt e2]
  have g0 : σ2 0 = some (DI V) := by rw [cj 0 (by decide) (by decide), h0]
  have g1 : σ2 1 = some (.int h) := by rw [cj 1 (by decide) (by decide), h1]
  have g2 : σ2 2 = some (.str m) := by rw [cj 2 (by decide) (by decide), h2]
  have g3 : σ2 3 = σ 3 := cj 3 (by decide) (by decide)
  have g4 : σ2 4 = some (DI r0) := by rw [cj 4 (by decide) (by decide), h4]
  have g6 : σ2 6 = some (DT ds) := by rw [cj 6 (by decide) (by decide), h6]
  have lenV : ∀ (σ : Sg), σ 0 = some (DI V) → ev d_own F false (.bi .len (.cons (.v 0) .nil)) σ = some (.int V.length) := fun σ e => by
    simp only [ev, evL]
    rw [if_neg (by decide), e]
    exact bi_len V
  have hw : ev d_own F false d_wexp σ2 = some (DI2 (dwt V ds)) := by
    unfold d_wexp
    rw [t_map (ds := V.map .int) (f := fun d => match d with | .int p => DI (ds.map fun d => p * 1 * dcommon ds / d) | d => d) rfl ?_ (fun d hd' => ?_) (by simp [LB]; have := hV.n5; omega)]
    · simp [DI2, dwt, DI]
    · simp only [evSr, ev]
      rw [if_neg (by decide), g0]
      rfl
    · obtain ⟨p, hp, rfl⟩ := List.mem_map.mp hd'
      have v1 := hV.lo _ hp
      have v2 := hV.hi _ hp
      rw [t_map (ds := ds.map fun d => D.tup [.int d, .int 1]) (f := fun d => match d with | .tup [.int d, _] => .int (p * 1 * dcommon ds / d) | d => d) rfl ?_ (fun d hd' => ?_) (by simp [LB]; have := hd.len; omega)]
      · simp [DI]
      · simp only [evSr, ev]
        rw [if_neg (by decide)]
        simp only [upd, show (6 : Nat) ≠ 13 from by decide, if_false, g6]
        rfl
      · obtain ⟨d, hdm, rfl⟩ := List.mem_map.mp hd'
        have b1 := hd.lo _ hdm
        have b2 := hd.hi _ hdm
        simp only [ev, evL]
        simp only [show d_own 13 = false from rfl, show d_own 8 = false from rfl, show d_own 7 = false from rfl, Bool.false_and, Bool.false_eq_true, if_false]
        simp only [upd, show (13 : Nat) ≠ 8 from by decide, show (7 : Nat) ≠ 8 from by decide, show (7 : Nat) ≠ 13 from by decide, if_false, if_true, c7, Option.bind_some, K.d, biD]
        have i1 : idxD (.tup [.int d, .int 1]) (.int 1) = some (.int 1) := by simp [idxD, seqD, intD, place]
        have i0 : idxD (.tup [.int d, .int 1]) (.int 0) = some (.int d) := by simp [idxD, seqD, intD, place]
        rw [i1, i0]
        simp only [Option.bind_some]
        rw [op_mul (.inr (by decide)), Option.bind_some, op_mul (.inl (small_of (by omega) (by omega))), Option.bind_some, op_fdiv (by omega) (small_of (by omega) (by omega))]
  have e3 : evS d_own F mu (.ite d_hunt (.cons (.asg (.v 12) d_wexp2) .nil) (.cons (.asg (.v 12) d_wexp) .nil)) σ2 = some (.nxt (upd σ2 12 (DI2 (dwt V ds)))) := by
    rw [e_ite_f (hh σ2 g2), evSL_nxt (e_asg hw rfl)]; rfl
  rw [evSL_nxt e3]
  generalize hσ3 : upd σ2 12 (DI2 (dwt V ds)) = σ3
  have k0 : σ3 0 = some (DI V) := by rw [← hσ3]; simp [upd, g0]
  have k1 : σ3 1 = some (.int h) := by rw [← hσ3]; simp [upd, g1]
  have k3 : σ3 3 = σ 3 := by rw [← hσ3]; simp [upd, g3]
  have k4 : σ3 4 = some (DI r0) := by rw [← hσ3]; simp [upd, g4]
  have k12 : σ3 12 = some (DI2 (dwt V ds)) := by rw [← hσ3]; simp [upd]
  have hflen := flatten_len (V := V) (ds := ds)
  -- the flat list
  have hf : ev d_own F true (.comp (.v 15) (.cons (.v 14) (.t (.v 12)) .nil (.cons (.v 15) (.t (.v 14)) .nil .nil))) σ3 = some (DI (dflat V ds)) := by
    unfold ev
    have e0 : evSr d_own F (.t (.v 12)) σ3 = some ((dwt V ds).map DI) := by
      simp only [evSr, ev]
      rw [if_neg (by decide), k12]; rfl
    simp only [show ((Pat.vars (.v 14) ++ GL.vars (.cons (.v 15) (.t (.v 14)) .nil .nil)).any d_own) = false from rfl, Bool.false_eq_true, if_false, e0, Option.bind_some]
    rw [flatM_some (g := fun d => match d with | .list l => l | _ => []) fun d hd' => ?_]
    · have e1 : (((dwt V ds).map DI).map fun d => match d with | .list l => l | _ => []).flatten = (dflat V ds).map D.int := by
        unfold dflat
        rw [List.map_map, List.map_flatten]
        rfl
      rw [e1]
      simp only [Option.bind_some]
      rw [if_pos (by simp [LB]; omega)]
      rfl
    · obtain ⟨l, hl, rfl⟩ := List.mem_map.mp hd'
      simp only [bindP, show d_own 14 = false from rfl, Bool.false_eq_true, if_false, Option.bind_some, evC, if_true]
      unfold evG
      have e1 : evSr d_own F (.t (.v 14)) (upd (unb (Pat.vars (.v 14) ++ GL.vars (.cons (.v 15) (.t (.v 14)) .nil .nil)) σ3) 14 (DI l)) = some (l.map D.int) := by
        simp only [evSr, ev]
        rw [if_neg (by decide)]
        simp [upd, DI, listD]
      rw [e1]
      simp only [Option.bind_some]
      rw [flatM_some (g := fun d => [d]) fun d _ => ?_]
      · have : ∀ l : List D, (l.map fun d => [d]).flatten = l := fun l => by induction l with
          | nil => rfl
          | cons x r ih => simp [ih]
        rw [this]; rfl
      · simp only [bindP, show d_own 15 = false from rfl, Bool.false_eq_true, if_false, Option.bind_some, evC, if_true, evG, ev, Bool.false_and]
        simp [upd]
  have h9 : ev d_own F false (.bi .sorted (.cons (.comp (.v 15) (.cons (.v 14) (.t (.v 12)) .nil (.cons (.v 15) (.t (.v 14)) .nil .nil))) .nil)) σ3 = some (DI (isort (dflat V ds))) := by
    unfold ev evL evL
    rw [hf]
    simp only [Option.bind_some, biD, DI, listD, intsOf_map]
    rw [if_pos hs]
  rw [evSL_nxt (e_asg h9 rfl)]
  have h10 : ev d_own F false (.idx (.v 9) (.op .add (.neg (.v 1)) (.bi .sum (.cons (.v 4) .nil)))) (upd σ3 9 (DI (isort (dflat V ds)))) = some (.int (dmin V ds r0 h)) := by
    simp only [ev, evL]
    simp only [show d_own 9 = false from rfl, show d_own 1 = false from rfl, Bool.false_and, Bool.not_true, Bool.and_false, Bool.false_eq_true, if_false, upd, if_true, Option.bind_some, show (1 : Nat) ≠ 9 from by decide, show (4 : Nat) ≠ 9 from by decide, k1, k4, negD, bi_sum, op_add]
    unfold idxD
    simp only [DI, seqD, Option.bind_some, intD]
    have hp : place ((isort (dflat V ds)).map D.int).length (-h + r0.sum) = some ((dflat V ds).length - (h - r0.sum).toNat) := by
      unfold place
      rw [if_neg (by omega), if_pos (by rw [List.length_map, isort_len]; omega), List.length_map, isort_len]
      congr 2; omega
    rw [hp, Option.bind_some, List.getElem?_map]
    have hlt : (dflat V ds).length - (h - r0.sum).toNat < (isort (dflat V ds)).length := by rw [isort_len]; omega
    rw [List.getElem?_eq_getElem hlt]
    simp [dmin, List.getD_eq_getElem?_getD, List.getElem?_eq_getElem hlt]
  rw [evSL_nxt (e_asg h10 rfl)]
  generalize hσ4 : upd (upd σ3 9 (DI (isort (dflat V ds)))) 10 (.int (dmin V ds r0 h)) = σ4
  have l0 : σ4 0 = some (DI V) := by rw [← hσ4]; simp [upd, k0]
  have l1 : σ4 1 = some (.int h) := by rw [← hσ4]; simp [upd, k1]
  have l3 : σ4 3 = σ 3 := by rw [← hσ4]; simp [upd, k3]
  have l4 : σ4 4 = some (DI r0) := by rw [← hσ4]; simp [upd, k4]
  have l10 : σ4 10 = some (.int (dmin V ds r0 h)) := by rw [← hσ4]; simp [upd]
  have l12 : σ4 12 = some (DI2 (dwt V ds)) := by rw [← hσ4]; simp [upd, k12]
  have hwl : (dwt V ds).length = V.length := by simp [dwt]
  have h4' : ev d_own F false (.comp (.op .add (.idx (.v 4) (.v 11)) (.bi .len (.cons (.comp (.v 15) (.cons (.v 15) (.t (.idx (.v 12) (.v 11))) (.cons (.cmp .gt (.v 15) (.v 10)) .nil) .nil)) .nil))) (.cons (.v 11) (.range1 (.bi .len (.cons (.v 0) .nil))) .nil .nil)) σ4 = some (DI (dabove V ds r0 h)) := by
    rw [t_rangeMap (f := fun i => D.int (r0.getD i 0 + (((dwt V ds).getD i []).filter (fun w => decide (dmin V ds r0 h < w))).length)) rfl (lenV σ4 l0) (by have := hV.n5; omega) fun i hi => ?_]
    · simp [dabove, DI]
    · have hwi : ∀ σ : Sg, σ 12 = some (DI2 (dwt V ds)) → σ 11 = some (.int (i : Int)) → ev d_own F false (.idx (.v 12) (.v 11)) σ = some (DI ((dwt V ds).getD i [])) := fun σ a b => by
        simp only [ev]
        simp only [show d_own 12 = false from rfl, show d_own 11 = false from rfl, Bool.false_and, Bool.false_eq_true, if_false, a, b, Option.bind_some, idxD, DI2, seqD, intD]
        have hp : place ((dwt V ds).map DI).length (i : Int) = some i := by
          unfold place
          rw [if_pos (by omega), if_pos (by simp [hwl]; omega)]; simp
        rw [hp, Option.bind_some, List.getElem?_map, List.getElem?_eq_getElem (by rw [hwl]; exact hi)]
        simp [List.getD_eq_getElem?_getD, List.getElem?_eq_getElem (show i < (dwt V ds).length by rw [hwl]; exact hi)]
      have hlw : ((dwt V ds).getD i []).length ≤ 40 := by
        rw [List.getD_eq_getElem?_getD, List.getElem?_eq_getElem (show i < (dwt V ds).length by rw [hwl]; exact hi)]
        have := hd.len
        simp [dwt]; exact this
      have hcnt : ev d_own F true (.comp (.v 15) (.cons (.v 15) (.t (.idx (.v 12) (.v 11))) (.cons (.cmp .gt (.v 15) (.v 10)) .nil) .nil)) (upd σ4 11 (.int (i : Int))) = some (DI (((dwt V ds).getD i []).filter (fun w => decide (dmin V ds r0 h < w)))) := by
        rw [t_comp (ds := ((dwt V ds).getD i []).map .int) (f := id) (p := fun d => match d with | .int w => decide (dmin V ds r0 h < w) | _ => true) rfl ?_ (fun d hd' => ?_) (fun d hd' _ => ?_) (by simp [LB]; have := hlw; simp at this; omega)]
        · rw [List.map_id, List.filter_map]; rfl
        · simp only [evSr]
          rw [hwi _ (by simp [upd, l12]) (by simp [upd])]; rfl
        · obtain ⟨x, _, rfl⟩ := List.mem_map.mp hd'
          simp only [evC, ev]
          simp only [show d_own 15 = false from rfl, show d_own 10 = false from rfl, Bool.false_and, Bool.false_eq_true, if_false, upd, if_true, show (10 : Nat) ≠ 15 from by decide, show (10 : Nat) ≠ 11 from by decide, l10, Option.bind_some, cmD, Option.map_some, boolD]
          cases decide (dmin V ds r0 h < x) <;> rfl
        · simp only [ev]
          rw [if_neg (by decide)]
          simp [upd]
      unfold ev
      have a1 : ev d_own F false (.idx (.v 4) (.v 11)) (upd σ4 11 (.int (i : Int))) = some (.int (r0.getD i 0)) := by
        simp only [ev]
        simp only [show d_own 11 = false from rfl, Bool.false_and, Bool.not_true, Bool.and_false, Bool.false_eq_true, if_false, upd, if_true, show (4 : Nat) ≠ 11 from by decide, l4, Option.bind_some]
        exact idx_DI (by rw [hr.len]; exact hi)
      have a2 : ev d_own F false (.bi .len (.cons (.comp (.v 15) (.cons (.v 15) (.t (.idx (.v 12) (.v 11))) (.cons (.cmp .gt (.v 15) (.v 10)) .nil) .nil)) .nil)) (upd σ4 11 (.int (i : Int))) = some (.int (((dwt V ds).getD i []).filter (fun w => decide (dmin V ds r0 h < w))).length) := by
        unfold ev evL evL
        rw [hcnt]
        exact bi_len _
      rw [a1, a2]
      rfl
  rw [evSL_nxt (e_own1 h4' rfl (hm 4) rfl)]
  exact ⟨_, rfl, by simp [upd, l0], by simp [upd, l1], by simp [upd, l3], by simp [upd, DI], by simp [upd, l10], by simp [upd, l12]⟩
end
end Mine
end

section
open PySem PySem.W PyProof.Rows
set_option maxRecDepth 100000
namespace Mine

/-! ## P5. The divisor methods: the last seats -/
def d_has : T := (.cmp .inn (.v 10) (.idx (.v 12) (.v 11)))
def d_sum : T := (.bi .sum (.cons (.v 4) .nil))
def d_tie (X : TS) : SL := (.cons (.ite (.bop true (.cons (.cmp .eq d_sum (.v 1)) (.cons d_has .nil))) (.cons (.ite (.not (.v 5)) (.cons (.ite (.not (.v 3)) (.cons X .nil) .nil) (.cons (.asg (.v 5) (.k .tru)) .nil)) .nil) .nil) .nil) (.cons (.ite (.bop true (.cons (.cmp .lt d_sum (.v 1)) (.cons d_has .nil))) (.cons (.augI 4 (.v 11) (.k (.int 1))) .nil) .nil) .nil))
def d_tail (X : TS) : SL := (.cons (.ite (.cmp .gt (.v 1) d_sum) d_core .nil) (.cons (.asg (.v 5) (.k .fls)) (.cons (.ite (.cmp .gt (.v 1) d_sum) (.cons (.loop (.v 11) (.range1 (.bi .len (.cons (.v 0) .nil))) (d_tie X)) .nil) .nil) (.cons (.ite (.bop true (.cons (.v 5) (.cons (.not (.v 3)) .nil))) (.cons X .nil) .nil) (.cons (.retO 4) .nil)))))

def has (M : Int) (w : List Int) : Bool := w.any fun x => x == M
def dturn (W : List (List Int)) (M h : Int) (s : List Int × Bool) (i : Nat) : List Int × Bool :=
  (if s.1.sum < h ∧ has M (W.getD i []) = true then s.1.set i (s.1.getD i 0 + 1) else s.1, s.2 || (s.1.sum == h && has M (W.getD i [])))
def dfold (W : List (List Int)) (M h : Int) (n : Nat) (s : List Int × Bool) : List Int × Bool := (List.range n).foldl (dturn W M h) s

theorem any_DI (m : Int) : ∀ l : List Int, anyEq (.int m) (l.map .int) = some (has m l)
  | [] => rfl
  | x :: r => by
    simp only [List.map_cons, anyEq, any_DI m r, eqD, Option.bind_some, Option.map_some, has, List.any_cons]

section
variable {F : Fn} {mu : Nat → Bool}

theorem d_sum_ev {r : List Int} {σ : Sg} (h4 : σ 4 = some (DI r)) : ev d_own F false d_sum σ = some (.int r.sum) := by
  unfold d_sum
  simp only [ev, evL]
  rw [if_neg (by decide), h4]
  exact bi_sum r
theorem bop_and {own : Nat → Bool} {a b : T} {σ : Sg} {x y : Bool} (ha : ev own F false a σ = some (.bool x)) (hb : x = true → ev own F false b σ = some (.bool y)) (bw : Bool) : ev own F bw (.bop true (.cons a (.cons b .nil))) σ = some (.bool (x && y)) := by
  simp only [ev, evBop, ha, Option.bind_some, boolD]
  cases x with
  | false => rfl
  | true => rw [hb rfl]; rfl
theorem bop_or {own : Nat → Bool} {a b : T} {σ : Sg} {x y : Bool} (ha : ev own F false a σ = some (.bool x)) (hb : x = false → ev own F false b σ = some (.bool y)) (bw : Bool) : ev own F bw (.bop false (.cons a (.cons b .nil))) σ = some (.bool (x || y)) := by
  simp only [ev, evBop, ha, Option.bind_some, boolD]
  cases x with
  | true => rfl
  | false => rw [hb rfl]; rfl

theorem d_has_ev {W : List (List Int)} {M : Int} {i : Nat} {σ : Sg} (h10 : σ 10 = some (.int M)) (h11 : σ 11 = some (.int (i : Int))) (h12 : σ 12 = some (DI2 W)) (hi : i < W.length) : ev d_own F false d_has σ = some (.bool (has M (W.getD i []))) := by
  unfold d_has
  simp only [ev]
  simp only [show d_own 12 = false from rfl, show d_own 11 = false from rfl, show d_own 10 = false from rfl, Bool.false_and, Bool.false_eq_true, if_false, h10, h11, h12, Option.bind_some]
  have e : idxD (DI2 W) (.int (i : Int)) = some (DI (W.getD i [])) := by
    simp only [idxD, DI2, seqD, Option.bind_some, intD]
    have hp : place (W.map DI).length (i : Int) = some i := by
      unfold place
      rw [if_pos (by omega), if_pos (by simp; omega)]; simp
    rw [hp, Option.bind_some, List.getElem?_map, List.getElem?_eq_getElem hi]
    simp [List.getD_eq_getElem?_getD, List.getElem?_eq_getElem hi]
  rw [e]
  simp only [Option.bind_some, cmD, inD, DI, any_DI, Option.map_some]

/-- one turn of the loop of the last seats, where no raise is reached -/
theorem d_turn_ev (hm : ∀ i, mu i = true) {X : TS} {W : List (List Int)} {M h : Int} {r : List Int} {t ta : Bool} {i : Nat} {σ : Sg} (h1 : σ 1 = some (.int h)) (h3 : σ 3 = some (.bool ta)) (h4 : σ 4 = some (DI r)) (h5 : σ 5 = some (.bool t)) (h10 : σ 10 = some (.int M)) (h11 : σ 11 = some (.int (i : Int))) (h12 : σ 12 = some (DI2 W))
    (hi : i < W.length) (hr : r.length = W.length) (hno : ta = true ∨ (dturn W M h (r, t) i).2 = false) :
    ∃ σ', evSL d_own F mu (d_tie X) σ = some (.nxt σ') ∧ σ' 4 = some (DI (dturn W M h (r, t) i).1) ∧ σ' 5 = some (.bool (dturn W M h (r, t) i).2) ∧ ∀ j, j ≠ 4 → j ≠ 5 → σ' j = σ j := by
  unfold d_tie
  have hh := d_has_ev (F := F) h10 h11 h12 hi
  have v1 : ev d_own F true (.v 1) σ = some (.int h) := by simp only [ev]; rw [if_neg (by decide), h1]
  have sT : ∀ {bw : Bool}, ev d_own F bw d_sum σ = some (.int r.sum) := fun {bw} => by
    unfold d_sum
    simp only [ev, evL]
    rw [if_neg (by decide), h4]
    exact bi_sum r
  have c1 : ev d_own F false (.bop true (.cons (.cmp .eq d_sum (.v 1)) (.cons d_has .nil))) σ = some (.bool ((r.sum == h) && has M (W.getD i []))) := by
    refine bop_and ?_ (fun _ => hh) _
    unfold ev
    rw [sT, v1]; rfl
  -- the first test
  have p1 : ∃ σ1, evS d_own F mu (.ite (.bop true (.cons (.cmp .eq d_sum (.v 1)) (.cons d_has .nil))) (.cons (.ite (.not (.v 5)) (.cons (.ite (.not (.v 3)) (.cons X .nil) .nil) (.cons (.asg (.v 5) (.k .tru)) .nil)) .nil) .nil) .nil) σ = some (.nxt σ1) ∧ σ1 5 = some (.bool (dturn W M h (r, t) i).2) ∧ ∀ j, j ≠ 5 → σ1 j = σ j := by
    cases q : ((r.sum == h) && has M (W.getD i [])) with
    | false =>
      rw [q] at c1
      rw [e_ite_f c1]
      refine ⟨σ, rfl, ?_, fun _ _ => rfl⟩
      rw [show (dturn W M h (r, t) i).2 = (t || ((r.sum == h) && has M (W.getD i []))) from rfl, q, Bool.or_false]; exact h5
    | true =>
      rw [q] at c1
      rw [e_ite_t c1]
      have e5 : (dturn W M h (r, t) i).2 = true := by rw [show (dturn W M h (r, t) i).2 = (t || ((r.sum == h) && has M (W.getD i []))) from rfl, q, Bool.or_true]
      have hta : ta = true := by
        rcases hno with z | z
        · exact z
        · rw [e5] at z; cases z
      have n5 : ev d_own F false (.not (.v 5)) σ = some (.bool (!t)) := by
        simp only [ev]
        rw [if_neg (by decide), h5]; rfl
      cases t with
      | true =>
        rw [evSL_nxt (σ' := σ) (by rw [e_ite_f n5]; rfl)]
        exact ⟨σ, rfl, by rw [e5, h5], fun _ _ => rfl⟩
      | false =>
        have n3 : ev d_own F false (.not (.v 3)) σ = some (.bool false) := by
          simp only [ev]
          rw [if_neg (by decide), h3, hta]; rfl
        have inner : evS d_own F mu (.ite (.not (.v 5)) (.cons (.ite (.not (.v 3)) (.cons X .nil) .nil) (.cons (.asg (.v 5) (.k .tru)) .nil)) .nil) σ = some (.nxt (upd σ 5 (.bool true))) := by
          rw [e_ite_t n5, evSL_nxt (σ' := σ) (by rw [e_ite_f n3]; rfl), evSL_nxt (e_asg (d := .bool true) rfl rfl)]; rfl
        rw [evSL_nxt inner]
        exact ⟨_, rfl, by rw [e5]; simp [upd], fun j hj => by simp [upd, hj]⟩
  obtain ⟨σ1, e1, a5, aj⟩ := p1
  rw [evSL_nxt e1]
  have b1 : σ1 1 = some (.int h) := by rw [aj 1 (by decide), h1]
  have b4 : σ1 4 = some (DI r) := by rw [aj 4 (by decide), h4]
  have hh1 := d_has_ev (F := F) (σ := σ1) (by rw [aj 10 (by decide)]; exact h10) (by rw [aj 11 (by decide)]; exact h11) (by rw [aj 12 (by decide)]; exact h12) hi
  have c2 : ev d_own F false (.bop true (.cons (.cmp .lt d_sum (.v 1)) (.cons d_has .nil))) σ1 = some (.bool (decide (r.sum < h) && has M (W.getD i []))) := by
    refine bop_and ?_ (fun _ => hh1) _
    have sT : ev d_own F true d_sum σ1 = some (.int r.sum) := by
      unfold d_sum
      simp only [ev, evL]
      rw [if_neg (by decide), b4]
      exact bi_sum r
    have v1 : ev d_own F true (.v 1) σ1 = some (.int h) := by simp only [ev]; rw [if_neg (by decide), b1]
    unfold ev
    rw [sT, v1]; rfl
  cases q : (decide (r.sum < h) && has M (W.getD i [])) with
  | false =>
    rw [q] at c2
    rw [evSL_nxt (σ' := σ1) (by rw [e_ite_f c2]; rfl)]
    refine ⟨σ1, rfl, ?_, a5, fun j _ b => aj j b⟩
    rw [b4]
    have : ¬ (r.sum < h ∧ has M (W.getD i []) = true) := by simpa using q
    simp only [dturn]
    rw [if_neg this]
  | true =>
    rw [q] at c2
    have hi' : i < r.length := by rw [hr]; exact hi
    have hlt : r.sum < h ∧ has M (W.getD i []) = true := by simpa using q
    rw [evSL_nxt (σ' := upd σ1 4 (.list ((r.map D.int).set (i : Int).toNat (.int (r.getD i 0 + 1))))) (by
      rw [e_ite_t c2, evSL_nxt (e_augI (ds := r.map .int) (k := (i : Int)) (y := r.getD i 0) (b := 1) rfl (hm 4) b4 (by simp only [ev]; rw [if_neg (by decide), aj 11 (by decide)]; exact h11) (by omega) (by simpa using hi') (by simp [List.getElem?_eq_getElem hi', List.getD_eq_getElem?_getD]) rfl)]; rfl)]
    refine ⟨_, rfl, ?_, by simp [upd, a5], fun j a b => by simp [upd, a, aj j b]⟩
    simp only [dturn]
    rw [if_pos hlt]
    simp [upd, DI]

theorem d_loop_ev (hm : ∀ i, mu i = true) {X : TS} {V : List Int} {W : List (List Int)} {M h : Int} {r : List Int} {ta : Bool} {σ : Sg} (h0 : σ 0 = some (DI V)) (h1 : σ 1 = some (.int h)) (h3 : σ 3 = some (.bool ta)) (h4 : σ 4 = some (DI r)) (h5 : σ 5 = some (.bool false)) (h10 : σ 10 = some (.int M)) (h12 : σ 12 = some (DI2 W))
    (hV : V.length = W.length) (hn : W.length ≤ 1000) (hr : r.length = W.length) (hno : ta = true ∨ ∀ k, k ≤ W.length → (dfold W M h k (r, false)).2 = false) :
    ∃ σ', evS d_own F mu (.loop (.v 11) (.range1 (.bi .len (.cons (.v 0) .nil))) (d_tie X)) σ = some (.nxt σ') ∧ σ' 3 = some (.bool ta) ∧ σ' 4 = some (DI (dfold W M h W.length (r, false)).1) ∧ σ' 5 = some (.bool (dfold W M h W.length (r, false)).2) := by
  have hlen : ev d_own F false (.bi .len (.cons (.v 0) .nil)) σ = some (.int W.length) := by
    simp only [ev, evL]
    rw [if_neg (by decide), h0, ← hV]
    exact bi_len V
  have flen : ∀ k, (dfold W M h k (r, false)).1.length = W.length := fun k => by
    unfold dfold
    induction k with
    | zero => exact hr
    | succ k ih =>
      rw [List.range_succ, List.foldl_append]
      simp only [List.foldl_cons, List.foldl_nil, dturn]
      split
      · simp [ih]
      · exact ih
  have succ : ∀ k, dfold W M h (k + 1) (r, false) = dturn W M h (dfold W M h k (r, false)) k := fun k => by
    unfold dfold
    rw [List.range_succ, List.foldl_append]; rfl
  have inv := loopF_inv (f := fun d σ => (bindP d_own (.v 11) d σ).bind fun σ' => evSL d_own F mu (d_tie X) σ')
    (fun k σ' => σ' 1 = some (.int h) ∧ σ' 3 = some (.bool ta) ∧ σ' 4 = some (DI (dfold W M h k (r, false)).1) ∧ σ' 5 = some (.bool (dfold W M h k (r, false)).2) ∧ σ' 10 = some (.int M) ∧ σ' 12 = some (DI2 W)) (rng W.length) 0 σ ⟨h1, h3, h4, h5, h10, h12⟩ fun i σ' hi hI => by
      have hi' : i < W.length := by simpa [rng] using hi
      obtain ⟨a1, a3, a4, a5, a10, a12⟩ := hI
      simp only [Nat.zero_add] at a4 a5 ⊢
      obtain ⟨σ2, e, b4, b5, bj⟩ := d_turn_ev (F := F) hm (X := X) (σ := upd σ' 11 (.int (i : Int))) (W := W) (M := M) (h := h) (r := (dfold W M h i (r, false)).1) (t := (dfold W M h i (r, false)).2) (ta := ta) (i := i) (by simp [upd, a1]) (by simp [upd, a3]) (by simp [upd, a4]) (by simp [upd, a5]) (by simp [upd, a10]) (by simp [upd]) (by simp [upd, a12]) hi' (flen i) (by
        rcases hno with z | z
        · exact .inl z
        · right; rw [← succ]; exact z (i + 1) hi')
      refine ⟨σ2, .inl ?_, by rw [bj 1 (by decide) (by decide)]; simp [upd, a1], by rw [bj 3 (by decide) (by decide)]; simp [upd, a3], ?_, ?_, by rw [bj 10 (by decide) (by decide)]; simp [upd, a10], by rw [bj 12 (by decide) (by decide)]; simp [upd, a12]⟩
      · have : (rng W.length)[i] = D.int (i : Int) := by simp [rng]
        rw [this]
        simp only [bindP]
        rw [if_neg (by decide), Option.bind_some]
        exact e
      · rw [succ]; exact b4
      · rw [succ]; exact b5
  obtain ⟨σ', e, _, a3, a4, a5, _⟩ := inv
  have hrl : 0 + (rng W.length).length = W.length := by simp [rng]
  rw [hrl] at a4 a5
  refine ⟨σ', ?_, a3, a4, a5⟩
  simp only [evS]
  rw [t_range hlen hn]
  simp only [Option.bind_some]
  exact e

/-- what the method gives back, from the divisors on -/
def dres (V ds r0 : List Int) (h : Int) : List Int := if (dabove V ds r0 h).sum < h then (dfold (dwt V ds) (dmin V ds r0 h) h V.length (dabove V ds r0 h, false)).1 else dabove V ds r0 h

theorem d_tail_ev (hm : ∀ i, mu i = true) {X : TS} {V ds r0 : List Int} {h : Int} (hV : VOk V) (hd : DsOk ds) (hr : ROk V.length 1000 r0) {σ : Sg} {m : PySem.Str} (h0 : σ 0 = some (DI V)) (h1 : σ 1 = some (.int h)) (h2 : σ 2 = some (.str m)) (h3 : σ 3 = some (.bool true)) (h4 : σ 4 = some (DI r0)) (h6 : σ 6 = some (DT ds))
    (hh : ∀ σ, σ 2 = some (.str m) → ev d_own F false d_hunt σ = some (.bool false)) (hs : (dflat V ds).length < 64) (hk : 1 ≤ h - r0.sum) (hk' : (h - r0.sum).toNat ≤ (dflat V ds).length) :
    evSL d_own F mu (d_tail X) σ = some (.ret (DI (dres V ds r0 h))) := by
  obtain ⟨σ1, e1, a0, a1, a3, a4, a10, a12⟩ := d_core_ev (F := F) hm hV hd hr h0 h1 h2 h4 h6 hh hs hk hk'
  unfold d_tail
  have cmp : ∀ {σ : Sg} {r : List Int}, σ 1 = some (.int h) → σ 4 = some (DI r) → ev d_own F false (.cmp .gt (.v 1) d_sum) σ = some (.bool (decide (r.sum < h))) := fun {σ r} h1 h4 => by
    have sT : ev d_own F true d_sum σ = some (.int r.sum) := by
      unfold d_sum
      simp only [ev, evL]
      rw [if_neg (by decide), h4]
      exact bi_sum r
    have v1 : ev d_own F true (.v 1) σ = some (.int h) := by simp only [ev]; rw [if_neg (by decide), h1]
    unfold ev
    rw [sT, v1]; rfl
  have c1 := cmp h1 h4
  rw [show decide (r0.sum < h) = true from by simp; omega] at c1
  rw [evSL_nxt (by rw [e_ite_t c1]; exact e1), evSL_nxt (e_asg (d := .bool false) rfl rfl)]
  generalize hσ : upd σ1 5 (.bool false) = σ2
  have b0 : σ2 0 = some (DI V) := by rw [← hσ]; simp [upd, a0]
  have b1 : σ2 1 = some (.int h) := by rw [← hσ]; simp [upd, a1]
  have b3 : σ2 3 = some (.bool true) := by rw [← hσ]; simp [upd, a3, h3]
  have b4 : σ2 4 = some (DI (dabove V ds r0 h)) := by rw [← hσ]; simp [upd, a4]
  have b5 : σ2 5 = some (.bool false) := by rw [← hσ]; simp [upd]
  have b10 : σ2 10 = some (.int (dmin V ds r0 h)) := by rw [← hσ]; simp [upd, a10]
  have b12 : σ2 12 = some (DI2 (dwt V ds)) := by rw [← hσ]; simp [upd, a12]
  have hwl : (dwt V ds).length = V.length := by simp [dwt]
  have c2 := cmp b1 b4
  have fin : ∀ {σ : Sg} {t : Bool} {r : List Int}, σ 3 = some (.bool true) → σ 4 = some (DI r) → σ 5 = some (.bool t) → evSL d_own F mu (.cons (.ite (.bop true (.cons (.v 5) (.cons (.not (.v 3)) .nil))) (.cons X .nil) .nil) (.cons (.retO 4) .nil)) σ = some (.ret (DI r)) := fun {σ t r} h3 h4 h5 => by
    have c : ev d_own F false (.bop true (.cons (.v 5) (.cons (.not (.v 3)) .nil))) σ = some (.bool (t && false)) := by
      refine bop_and (by simp only [ev]; rw [if_neg (by decide), h5]) (fun _ => ?_) _
      simp only [ev]
      rw [if_neg (by decide), h3]; rfl
    rw [Bool.and_false] at c
    rw [evSL_nxt (σ' := σ) (by rw [e_ite_f c]; rfl)]
    exact evSL_ret (e_retO rfl h4)
  by_cases hlt : (dabove V ds r0 h).sum < h
  · rw [show decide ((dabove V ds r0 h).sum < h) = true from by simp [hlt]] at c2
    obtain ⟨σ3, e3, d3, d4, d5⟩ := d_loop_ev (F := F) hm (X := X) b0 b1 b3 b4 b5 b10 b12 hwl.symm (by rw [hwl]; have := hV.n5; omega) (by simp [dabove, hwl]) (.inl rfl)
    rw [evSL_nxt (σ' := σ3) (by rw [e_ite_t c2, evSL_nxt e3]; rfl), fin d3 d4 d5]
    unfold dres
    rw [if_pos hlt, hwl]
  · rw [show decide ((dabove V ds r0 h).sum < h) = false from by simp; omega] at c2
    rw [evSL_nxt (σ' := σ2) (by rw [e_ite_f c2]; rfl), fin b3 b4 b5]
    unfold dres
    rw [if_neg hlt]
end
end Mine
end

section
open PySem PySem.W PyProof.Rows
set_option maxRecDepth 100000
namespace Mine

/-! ## P6. The divisor methods: which seats are dealt -/
theorem map_range_getD {α β : Type} (l : List α) (d : α) (f : α → β) : (List.range l.length).map (fun i => f (l.getD i d)) = l.map f := by
  apply List.ext_getElem
  · simp
  · intro i h1 h2
    have hi : i < l.length := by simpa using h1
    simp [List.getD_eq_getElem?_getD, List.getElem?_eq_getElem hi]
theorem sum_map_add {α : Type} (f g : α → Int) : ∀ l : List α, (l.map fun x => f x + g x).sum = (l.map f).sum + (l.map g).sum
  | [] => rfl
  | x :: r => by simp only [List.map_cons, List.sum_cons, sum_map_add f g r]; omega
theorem sum_cast (l : List Nat) : (l.map fun (x : Nat) => (x : Int)).sum = ((l.sum : Nat) : Int) := by
  induction l with
  | nil => rfl
  | cons x r ih => simp only [List.map_cons, List.sum_cons, ih]; omega

/-- what the k-th greatest leaves above and at least -/
theorem kth {l : List Int} {k : Nat} (h1 : 1 ≤ k) (h2 : k ≤ l.length) : let M := (isort l).getD (l.length - k) 0
    l.countP (fun w => decide (M < w)) ≤ k - 1 ∧ k ≤ l.countP (fun w => decide (M ≤ w)) := by
  intro M
  have hs := isort_sorted l
  have hp := isort_perm l
  have hlen := isort_len l
  have hlt : l.length - k < (isort l).length := by omega
  have hM : M = (isort l)[l.length - k] := by
    show (isort l).getD (l.length - k) 0 = _
    rw [List.getD_eq_getElem?_getD, List.getElem?_eq_getElem hlt]; rfl
  rw [List.pairwise_iff_getElem] at hs
  rw [← hp.countP_eq, ← hp.countP_eq]
  constructor
  · rw [← List.take_append_drop (l.length - k + 1) (isort l), List.countP_append]
    have e1 : ((isort l).take (l.length - k + 1)).countP (fun w => decide (M < w)) = 0 := by
      rw [List.countP_eq_zero]
      intro w hw
      obtain ⟨i, hi, e⟩ := List.getElem_of_mem hw
      rw [List.length_take] at hi
      rw [List.getElem_take] at e
      have : w ≤ M := by
        rw [hM, ← e]
        by_cases h : i = l.length - k
        · subst h; exact Int.le_refl _
        · exact hs i (l.length - k) (by omega) hlt (by omega)
      simp; omega
    have e2 : ((isort l).drop (l.length - k + 1)).countP (fun w => decide (M < w)) ≤ ((isort l).drop (l.length - k + 1)).length := List.countP_le_length
    rw [List.length_drop] at e2
    omega
  · rw [← List.take_append_drop (l.length - k) (isort l), List.countP_append]
    have e1 : ((isort l).drop (l.length - k)).countP (fun w => decide (M ≤ w)) = ((isort l).drop (l.length - k)).length := by
      rw [List.countP_eq_length]
      intro w hw
      obtain ⟨i, hi, e⟩ := List.getElem_of_mem hw
      rw [List.length_drop] at hi
      rw [List.getElem_drop] at e
      have : M ≤ w := by
        rw [hM, ← e]
        by_cases h : i = 0
        · subst h; exact Int.le_refl _
        · exact hs (l.length - k) (l.length - k + i) hlt (by omega) (by omega)
      simpa using this
    rw [e1, List.length_drop]
    omega

/-- a row: strictly falling -/
theorem row_above {M : Int} : ∀ {w : List Int}, w.Pairwise (fun a b => b < a) → ∀ t, (h : t < w.length) → (t < w.countP (fun x => decide (M < x)) ↔ M < w[t])
  | [], _, t, h => by simp at h
  | x :: r, hp, t, h => by
    obtain ⟨h1, h2⟩ := List.pairwise_cons.mp hp
    by_cases hx : M < x
    · rw [List.countP_cons_of_pos (by simpa using hx)]
      cases t with
      | zero => simp [hx]
      | succ t =>
        have := row_above (M := M) h2 t (by simpa using h)
        simp only [List.getElem_cons_succ]
        omega
    · rw [List.countP_cons_of_neg (by simpa using hx)]
      have hz : r.countP (fun x => decide (M < x)) = 0 := by
        rw [List.countP_eq_zero]
        intro y hy
        have := h1 y hy
        simp; omega
      rw [hz]
      cases t with
      | zero => simp; omega
      | succ t =>
        simp only [List.getElem_cons_succ]
        have := h1 _ (List.getElem_mem (show t < r.length by simpa using h))
        omega
theorem row_has {M : Int} : ∀ {w : List Int}, w.Pairwise (fun a b => b < a) → (has M w = true ↔ ∃ h : w.countP (fun x => decide (M < x)) < w.length, w[w.countP (fun x => decide (M < x))] = M) := fun {w} hp => by
  constructor
  · intro h
    unfold has at h
    rw [List.any_eq_true] at h
    obtain ⟨x, hx, e⟩ := h
    have e : x = M := by simpa using e
    obtain ⟨t, ht, e2⟩ := List.getElem_of_mem hx
    have h1 := row_above (M := M) hp t ht
    rw [e2, e] at h1
    have ht' : ¬ t < w.countP (fun x => decide (M < x)) := fun z => by have := h1.mp z; omega
    have hle : w.countP (fun x => decide (M < x)) ≤ t := by omega
    by_cases hq : w.countP (fun x => decide (M < x)) = t
    · exact ⟨by omega, by simp only [hq]; rw [e2, e]⟩
    · exfalso
      have hlt : w.countP (fun x => decide (M < x)) < t := by omega
      have h2 := row_above (M := M) hp (w.countP (fun x => decide (M < x))) (by omega)
      have h3 : ¬ M < w[w.countP (fun x => decide (M < x))] := fun z => by have := h2.mpr z; omega
      have h4 := (List.pairwise_iff_getElem.mp hp) _ t (by omega) ht hlt
      rw [e2, e] at h4
      exact h3 h4
  · rintro ⟨h, e⟩
    unfold has
    rw [List.any_eq_true]
    exact ⟨_, List.getElem_mem h, by rw [e]; simp⟩
theorem row_ge {M : Int} {w : List Int} (hp : w.Pairwise (fun a b => b < a)) : w.countP (fun x => decide (M ≤ x)) = w.countP (fun x => decide (M < x)) + if has M w = true then 1 else 0 := by
  induction w with
  | nil => rfl
  | cons x r ih =>
    obtain ⟨h1, h2⟩ := List.pairwise_cons.mp hp
    have ih := ih h2
    have hcons : has M (x :: r) = ((x == M) || has M r) := by simp [has]
    by_cases hx : M < x
    · rw [List.countP_cons_of_pos (by simp; omega), List.countP_cons_of_pos (by simpa using hx), ih, hcons]
      have : (x == M) = false := by simp; omega
      rw [this, Bool.false_or]; omega
    · have hz : r.countP (fun x => decide (M < x)) = 0 := by
        rw [List.countP_eq_zero]; intro y hy; have := h1 y hy; simp; omega
      have hz' : r.countP (fun x => decide (M ≤ x)) = 0 := by
        rw [List.countP_eq_zero]; intro y hy; have := h1 y hy; simp; omega
      have hno : has M r = false := by
        rw [Bool.eq_false_iff]
        intro z
        unfold has at z
        rw [List.any_eq_true] at z
        obtain ⟨y, hy, e⟩ := z
        have := h1 y hy
        have e : y = M := by simpa using e
        omega
      rw [List.countP_cons_of_neg (p := fun x => decide (M < x)) (by simpa using hx), hz, hcons, hno, Bool.or_false]
      by_cases he : x = M
      · subst he
        rw [List.countP_cons_of_pos (by simp), hz']; simp
      · rw [List.countP_cons_of_neg (p := fun x => decide (M ≤ x)) (by simp; omega), hz']
        simp [he]

/-! the loop of the last seats -/
section
variable {W : List (List Int)} {M h : Int}
/-- how many of the first rows bear M -/
def bsum (W : List (List Int)) (M : Int) (k : Nat) : Nat := ((List.range k).filter fun i => has M (W.getD i [])).length
theorem bsum_succ (k : Nat) : bsum W M (k + 1) = bsum W M k + if has M (W.getD k []) = true then 1 else 0 := by
  unfold bsum
  rw [List.range_succ, List.filter_append, List.length_append]
  cases q : has M (W.getD k []) with
  | true => simp only [List.filter, q]; rfl
  | false => simp only [List.filter, q]; rfl
theorem bsum_mono {i j : Nat} (hij : i ≤ j) : bsum W M i ≤ bsum W M j := by
  induction j with
  | zero => have : i = 0 := by omega
            subst this; exact Nat.le_refl _
  | succ j ih =>
    by_cases q : i = j + 1
    · subst q; exact Nat.le_refl _
    · have := ih (by omega); rw [bsum_succ]; omega
def got (W : List (List Int)) (M h S : Int) (i : Nat) : Bool := has M (W.getD i []) && decide (S + bsum W M i < h)

theorem dfold_spec {r : List Int} (hS : r.sum < h) : ∀ k, k ≤ r.length → (dfold W M h k (r, false)).1.length = r.length ∧ (dfold W M h k (r, false)).1.sum = min h (r.sum + bsum W M k) ∧
    (∀ i, i < r.length → (dfold W M h k (r, false)).1.getD i 0 = r.getD i 0 + if (decide (i < k) && got W M h r.sum i) = true then 1 else 0) ∧
    ((dfold W M h k (r, false)).2 = true ↔ ∃ i, i < k ∧ has M (W.getD i []) = true ∧ ¬ (r.sum + bsum W M i < h))
  | 0, _ => ⟨rfl, by show r.sum = _; simp [bsum]; omega, fun i hi => by simp [dfold], by simp [dfold]⟩
  | k + 1, hk => by
    obtain ⟨i1, i2, i3, i4⟩ := dfold_spec hS k (by omega)
    have e : dfold W M h (k + 1) (r, false) = dturn W M h (dfold W M h k (r, false)) k := by unfold dfold; rw [List.range_succ, List.foldl_append]; rfl
    generalize hD : dfold W M h k (r, false) = Dk at i1 i2 i3 i4 e
    rw [e]
    have hb := bsum_succ (W := W) (M := M) k
    by_cases c : Dk.1.sum < h ∧ has M (W.getD k []) = true
    · have hlt : r.sum + bsum W M k < h := by clear i4; have := c.1; rw [i2] at this; omega
      have hs : Dk.1.sum = r.sum + bsum W M k := by clear i4; rw [i2]; omega
      have e1 : (dturn W M h Dk k).1 = Dk.1.set k (Dk.1.getD k 0 + 1) := by unfold dturn; rw [if_pos c]
      have e2 : (dturn W M h Dk k).2 = (Dk.2 || (Dk.1.sum == h && has M (W.getD k []))) := rfl
      have hkl : k < Dk.1.length := by clear i4; rw [i1]; omega
      refine ⟨by rw [e1]; simp [i1], ?_, fun i hi => ?_, ?_⟩
      · clear i4; rw [e1, sum_set hkl, hb, if_pos c.2]; omega
      · rw [e1]
        by_cases hik : i = k
        · subst hik
          have : (Dk.1.set i (Dk.1.getD i 0 + 1)).getD i 0 = Dk.1.getD i 0 + 1 := by simp [List.getD_eq_getElem?_getD, hkl]
          rw [this, i3 i hi]
          have hg : got W M h r.sum i = true := by unfold got; rw [c.2]; simpa using hlt
          rw [hg]
          simp
        · have : (Dk.1.set k (Dk.1.getD k 0 + 1)).getD i 0 = Dk.1.getD i 0 := by simp [List.getD_eq_getElem?_getD, List.getElem?_set, Ne.symm hik]
          rw [this, i3 i hi]
          have : decide (i < k + 1) = decide (i < k) := by clear i4; by_cases z : i < k <;> simp [z] <;> omega
          rw [this]
      · rw [e2]
        have : (Dk.1.sum == h) = false := by clear i4; simp; omega
        rw [this, Bool.false_and, Bool.or_false, i4]
        constructor
        · rintro ⟨i, a, b, d⟩; exact ⟨i, by omega, b, d⟩
        · rintro ⟨i, a, b, d⟩
          by_cases hik : i = k
          · subst hik; exact absurd hlt d
          · exact ⟨i, by omega, b, d⟩
    · have e1 : (dturn W M h Dk k).1 = Dk.1 := by unfold dturn; rw [if_neg c]
      have e2 : (dturn W M h Dk k).2 = (Dk.2 || (Dk.1.sum == h && has M (W.getD k []))) := rfl
      cases q : has M (W.getD k []) with
      | false =>
        refine ⟨by rw [e1, i1], ?_, fun i hi => ?_, ?_⟩
        · rw [e1, i2, hb, q]; simp
        · rw [e1, i3 i hi]
          by_cases hik : i = k
          · subst hik
            have hg : got W M h r.sum i = false := by unfold got; rw [q]; rfl
            rw [hg]; simp
          · have : decide (i < k + 1) = decide (i < k) := by clear i4; by_cases z : i < k <;> simp [z] <;> omega
            rw [this]
        · rw [e2, q, Bool.and_false, Bool.or_false, i4]
          constructor
          · rintro ⟨i, a, b, d⟩; exact ⟨i, by omega, b, d⟩
          · rintro ⟨i, a, b, d⟩
            by_cases hik : i = k
            · subst hik; rw [q] at b; cases b
            · exact ⟨i, by omega, b, d⟩
      | true =>
        have hge : ¬ Dk.1.sum < h := fun z => c ⟨z, q⟩
        have hge' : ¬ (r.sum + bsum W M k < h) := by clear i4; rw [i2] at hge; omega
        have hs : Dk.1.sum = h := by clear i4; rw [i2]; omega
        refine ⟨by rw [e1, i1], ?_, fun i hi => ?_, ?_⟩
        · rw [e1, i2, hb, q]; clear i4; simp only [if_true]; omega
        · rw [e1, i3 i hi]
          by_cases hik : i = k
          · subst hik
            have hg : got W M h r.sum i = false := by unfold got; rw [q]; simpa using hge'
            rw [hg]; simp
          · have : decide (i < k + 1) = decide (i < k) := by clear i4; by_cases z : i < k <;> simp [z] <;> omega
            rw [this]
        · rw [e2, q, hs]
          simp only [beq_self_eq_true, Bool.and_true, Bool.or_true, true_iff]
          exact ⟨k, by omega, q, hge'⟩
end
end Mine
end

section
open PySem PySem.W PyProof.Rows
set_option maxRecDepth 100000
namespace Mine

/-! ## P7. The divisor methods: the outcome -/
theorem foldl_mul (l : List Int) : ∀ c : Int, l.foldl (fun c d => c * d) c = c * l.foldl (fun c d => c * d) 1 := by
  induction l with
  | nil => intro c; simp
  | cons x r ih => intro c; rw [List.foldl_cons, List.foldl_cons, ih (c * x), ih (1 * x)]; rw [Int.one_mul, Int.mul_assoc]
theorem dcommon_cons (x : Int) (r : List Int) : dcommon (x :: r) = x * dcommon r := by
  unfold dcommon; rw [List.foldl_cons, foldl_mul, Int.one_mul]
theorem dcommon_pos {l : List Int} (h : ∀ d ∈ l, 1 ≤ d) : 1 ≤ dcommon l := by
  induction l with
  | nil => decide
  | cons x r ih =>
    rw [dcommon_cons]
    have h1 := h x List.mem_cons_self
    have h2 := ih fun d m => h d (List.mem_cons_of_mem _ m)
    have : 1 * 1 ≤ x * dcommon r := Int.mul_le_mul h1 h2 (by decide) (by omega)
    simpa using this
theorem dcommon_dvd {l : List Int} : ∀ d ∈ l, d ∣ dcommon l := by
  induction l with
  | nil => intro d m; cases m
  | cons x r ih =>
    intro d m
    rw [dcommon_cons]
    rcases List.mem_cons.mp m with rfl | m
    · exact Int.dvd_mul_right _ _
    · exact Int.dvd_trans (ih d m) (Int.dvd_mul_left _ _)

def wgt (V ds : List Int) (i t : Nat) : Int := V.getD i 0 * 1 * dcommon ds / ds.getD t 0
theorem wgt_exact {V ds : List Int} (hd : ∀ d ∈ ds, 1 ≤ d) {i t : Nat} (ht : t < ds.length) : wgt V ds i t * ds.getD t 0 = V.getD i 0 * dcommon ds := by
  unfold wgt
  have hm := getD_mem ht
  rw [Int.mul_one]
  exact Int.ediv_mul_cancel (Int.dvd_trans (dcommon_dvd _ hm) (Int.dvd_mul_left _ _))
theorem cross_lt {x y d e p q C : Int} (h1 : x * d = p * C) (h2 : y * e = q * C) (hd : 0 < d) (he : 0 < e) (hC : 0 < C) : x < y ↔ p * e < q * d := by
  have hde : 0 < d * e := Int.mul_pos hd he
  have a : x * (d * e) = p * e * C := by rw [← Int.mul_assoc, h1, Int.mul_right_comm]
  have b : y * (d * e) = q * d * C := by rw [Int.mul_comm d e, ← Int.mul_assoc, h2, Int.mul_right_comm]
  constructor
  · intro h
    have := Int.mul_lt_mul_of_pos_right h hde
    rw [a, b] at this
    exact Int.lt_of_mul_lt_mul_right this (Int.le_of_lt hC)
  · intro h
    have := Int.mul_lt_mul_of_pos_right h hC
    rw [← a, ← b] at this
    exact Int.lt_of_mul_lt_mul_right this (Int.le_of_lt hde)
theorem cross_eq {x y d e p q C : Int} (h1 : x * d = p * C) (h2 : y * e = q * C) (hd : 0 < d) (he : 0 < e) (hC : 0 < C) : x = y ↔ p * e = q * d := by
  have a := cross_lt h1 h2 hd he hC
  have b := cross_lt h2 h1 he hd hC
  constructor
  · intro h
    have n1 : ¬ p * e < q * d := fun z => by have := a.mpr z; omega
    have n2 : ¬ q * d < p * e := fun z => by have := b.mpr z; omega
    omega
  · intro h
    have n1 : ¬ x < y := fun z => by have := a.mp z; omega
    have n2 : ¬ y < x := fun z => by have := b.mp z; omega
    omega

theorem dwt_row {V ds : List Int} {i : Nat} (hi : i < V.length) : (dwt V ds).getD i [] = ds.map fun d => V.getD i 0 * 1 * dcommon ds / d := by
  unfold dwt
  rw [List.getD_eq_getElem?_getD, List.getElem?_map, List.getElem?_eq_getElem hi]
  simp [List.getD_eq_getElem?_getD, List.getElem?_eq_getElem hi]
theorem dwt_get {V ds : List Int} {i t : Nat} (hi : i < V.length) (ht : t < ((dwt V ds).getD i []).length) : ((dwt V ds).getD i [])[t] = wgt V ds i t := by
  have hr := dwt_row (ds := ds) hi
  have ht' : t < ds.length := by rw [hr] at ht; simpa using ht
  have : ((dwt V ds).getD i [])[t]? = some (wgt V ds i t) := by
    rw [hr, List.getElem?_map, List.getElem?_eq_getElem ht']
    simp [wgt, List.getD_eq_getElem?_getD, List.getElem?_eq_getElem ht']
  rw [List.getElem?_eq_getElem ht] at this
  exact Option.some.inj this
theorem dwt_fall {V ds : List Int} (hV : ∀ v ∈ V, 1 ≤ v) (hd : ∀ d ∈ ds, 1 ≤ d) (hinc : ds.Pairwise (· < ·)) {i : Nat} (hi : i < V.length) : ((dwt V ds).getD i []).Pairwise (fun a b => b < a) := by
  rw [List.pairwise_iff_getElem]
  intro s t hs ht hst
  rw [dwt_get hi hs, dwt_get hi ht]
  have hr := dwt_row (ds := ds) hi
  have hs' : s < ds.length := by rw [hr] at hs; simpa using hs
  have ht' : t < ds.length := by rw [hr] at ht; simpa using ht
  have hv := hV _ (getD_mem hi)
  have d1 := hd _ (getD_mem hs')
  have d2 := hd _ (getD_mem ht')
  have hlt : ds.getD s 0 < ds.getD t 0 := by
    have := List.pairwise_iff_getElem.mp hinc s t hs' ht' hst
    simpa [List.getD_eq_getElem?_getD, List.getElem?_eq_getElem hs', List.getElem?_eq_getElem ht'] using this
  refine (cross_lt (wgt_exact hd ht') (wgt_exact hd hs') (by omega) (by omega) (by have := dcommon_pos hd; omega)).mpr ?_
  exact Int.mul_lt_mul_of_pos_left hlt (by omega)

theorem filter_len_sum {α : Type} (p : α → Bool) : ∀ l : List α, (l.filter p).length = (l.map fun x => if p x = true then 1 else 0).sum
  | [] => rfl
  | x :: r => by
    rw [List.filter_cons, List.map_cons, List.sum_cons, ← filter_len_sum p r]
    split <;> simp <;> omega
theorem sum_add_nat {α : Type} (f g : α → Nat) : ∀ l : List α, (l.map fun x => f x + g x).sum = (l.map f).sum + (l.map g).sum
  | [] => rfl
  | x :: r => by simp only [List.map_cons, List.sum_cons, sum_add_nat f g r]; omega
theorem sum_congr_nat {α : Type} {f g : α → Nat} : ∀ {l : List α}, (∀ x ∈ l, f x = g x) → (l.map f).sum = (l.map g).sum
  | [], _ => rfl
  | x :: r, h => by simp only [List.map_cons, List.sum_cons]; rw [h x List.mem_cons_self, sum_congr_nat fun y m => h y (List.mem_cons_of_mem _ m)]

/-- what a divisor method gives -/
structure DSpec (V ds r0 : List Int) (h : Int) (J : List Int) (tie : Bool) (c : Nat → Nat) : Prop where
  len : J.length = V.length
  sum : J.sum = h
  val : ∀ i, i < V.length → J.getD i 0 = r0.getD i 0 + c i ∧ c i ≤ ds.length
  ord : ∀ i j, i < V.length → j < V.length → 1 ≤ c i → c j < ds.length → V.getD j 0 * ds.getD (c i - 1) 0 < V.getD i 0 * ds.getD (c j) 0 ∨ (V.getD j 0 * ds.getD (c i - 1) 0 = V.getD i 0 * ds.getD (c j) 0 ∧ i < j ∧ tie = true)
  tied : tie = true → ∃ i j, i < j ∧ j < V.length ∧ 1 ≤ c i ∧ c j < ds.length ∧ V.getD j 0 * ds.getD (c i - 1) 0 = V.getD i 0 * ds.getD (c j) 0

theorem d_spec {V ds r0 : List Int} {h : Int} (hV : ∀ v ∈ V, 1 ≤ v) (hd : ∀ d ∈ ds, 1 ≤ d) (hinc : ds.Pairwise (· < ·)) (hr0 : r0.length = V.length) (hk : 1 ≤ h - r0.sum) (hk' : (h - r0.sum).toNat ≤ (dflat V ds).length) :
    (dabove V ds r0 h).sum < h ∧ ∃ c, DSpec V ds r0 h (dres V ds r0 h) (dfold (dwt V ds) (dmin V ds r0 h) h V.length (dabove V ds r0 h, false)).2 c := by
  have hwl : (dwt V ds).length = V.length := by simp [dwt]
  generalize hM : dmin V ds r0 h = M
  have hkth := kth (l := dflat V ds) (k := (h - r0.sum).toNat) (by omega) hk'
  have hM' : (isort (dflat V ds)).getD ((dflat V ds).length - (h - r0.sum).toNat) 0 = M := hM
  simp only [hM'] at hkth
  obtain ⟨q1, q2⟩ := hkth
  generalize hW : dwt V ds = W at hwl
  have hflat : dflat V ds = W.flatten := by rw [← hW]; rfl
  rw [hflat, List.countP_flatten] at q1 q2
  have q1 : (W.map fun w => w.countP (fun x => decide (M < x))).sum ≤ (h - r0.sum).toNat - 1 := q1
  have q2 : (h - r0.sum).toNat ≤ (W.map fun w => w.countP (fun x => decide (M ≤ x))).sum := q2
  have hfall : ∀ w ∈ W, w.Pairwise (fun a b => b < a) := fun w hw => by
    obtain ⟨i, hi, e⟩ := List.getElem_of_mem hw
    have hi' : i < V.length := by rw [← hwl]; exact hi
    have := dwt_fall hV hd hinc hi'
    rw [hW] at this
    simpa [List.getD_eq_getElem?_getD, List.getElem?_eq_getElem hi, e] using this
  have hge : (W.map fun w => w.countP (fun x => decide (M ≤ x))).sum = (W.map fun w => w.countP (fun x => decide (M < x))).sum + bsum W M V.length := by
    rw [sum_congr_nat fun w hw => row_ge (M := M) (hfall w hw), sum_add_nat]
    congr 1
    unfold bsum
    rw [filter_len_sum, ← hwl, map_range_getD W [] fun w => if has M w = true then 1 else 0]
  have hab : dabove V ds r0 h = (List.range V.length).map fun i => r0.getD i 0 + ((W.getD i []).countP (fun w => decide (M < w)) : Int) := by
    unfold dabove
    rw [hM, hW]
    apply List.map_congr_left
    intro i _
    rw [List.countP_eq_length_filter]
  generalize hR : dabove V ds r0 h = r at hab
  have hrlen : r.length = V.length := by rw [hab]; simp
  have hrsum : r.sum = r0.sum + ((W.map fun w => w.countP (fun x => decide (M < x))).sum : Nat) := by
    rw [hab, sum_map_add]
    congr 1
    · have := map_range_getD r0 0 (fun x : Int => x)
      rw [hr0] at this
      rw [this, List.map_id']
    · rw [← hwl, map_range_getD W [] fun w => ((w.countP (fun x => decide (M < x)) : Nat) : Int), ← sum_cast, List.map_map]
      rfl
  have hS : r.sum < h := by rw [hrsum]; omega
  obtain ⟨f1, f2, f3, f4⟩ := dfold_spec (W := W) (M := M) (h := h) (r := r) hS V.length (by rw [hrlen]; exact Nat.le_refl _)
  have hJ : dres V ds r0 h = (dfold W M h V.length (r, false)).1 := by
    unfold dres
    rw [hR, hM, hW, if_pos hS]
  refine ⟨hS, fun i => (W.getD i []).countP (fun w => decide (M < w)) + if got W M h r.sum i = true then 1 else 0, ?_⟩
  rw [hJ]
  generalize hD : dfold W M h V.length (r, false) = DD at f1 f2 f3 f4 ⊢
  have full : h ≤ r.sum + bsum W M V.length := by
    clear f4
    rw [hge] at q2; rw [hrsum]; omega
  have rowlen : ∀ i, i < V.length → (W.getD i []).length = ds.length := fun i hi => by rw [← hW, dwt_row hi]; simp
  have rowf : ∀ i, i < V.length → (W.getD i []).Pairwise (fun a b => b < a) := fun i hi => by rw [← hW]; exact dwt_fall hV hd hinc hi
  have rowget : ∀ i t, i < V.length → (ht : t < (W.getD i []).length) → (W.getD i [])[t] = wgt V ds i t := fun i t hi ht => by
    subst hW; exact dwt_get hi ht
  have cle : ∀ i, i < V.length → (W.getD i []).countP (fun w => decide (M < w)) + (if got W M h r.sum i = true then 1 else 0) ≤ ds.length := fun i hi => by
    have h1 : (W.getD i []).countP (fun w => decide (M < w)) ≤ (W.getD i []).length := List.countP_le_length
    rw [rowlen i hi] at h1
    split
    · rename_i hg
      unfold got at hg
      simp only [Bool.and_eq_true] at hg
      obtain ⟨h2, _⟩ := (row_has (rowf i hi)).mp hg.1
      rw [rowlen i hi] at h2; omega
    · omega
  -- the weight of the last seat dealt, of the next one
  have last : ∀ i, i < V.length → 1 ≤ (W.getD i []).countP (fun w => decide (M < w)) + (if got W M h r.sum i = true then 1 else 0) →
      (M < wgt V ds i ((W.getD i []).countP (fun w => decide (M < w)) + (if got W M h r.sum i = true then 1 else 0) - 1) ∨ (M = wgt V ds i ((W.getD i []).countP (fun w => decide (M < w)) + (if got W M h r.sum i = true then 1 else 0) - 1) ∧ got W M h r.sum i = true)) := fun i hi hc => by
    by_cases hg : got W M h r.sum i = true
    · right
      simp only [hg, if_true, Nat.add_sub_cancel] at hc ⊢
      refine ⟨?_, trivial⟩
      have hg' := hg
      unfold got at hg'
      simp only [Bool.and_eq_true] at hg'
      obtain ⟨h2, h3⟩ := (row_has (rowf i hi)).mp hg'.1
      rw [rowget i _ hi h2] at h3
      exact h3.symm
    · left
      have hg : got W M h r.sum i = false := by simpa using hg
      simp only [hg, Bool.false_eq_true, if_false, Nat.add_zero] at hc ⊢
      have hlt : (W.getD i []).countP (fun w => decide (M < w)) - 1 < (W.getD i []).length := by
        have : (W.getD i []).countP (fun w => decide (M < w)) ≤ (W.getD i []).length := List.countP_le_length
        clear f4; omega
      have := (row_above (M := M) (rowf i hi) _ hlt).mp (by clear f4; omega)
      rw [rowget i _ hi hlt] at this
      exact this
  have next : ∀ j, j < V.length → (W.getD j []).countP (fun w => decide (M < w)) + (if got W M h r.sum j = true then 1 else 0) < ds.length →
      (wgt V ds j ((W.getD j []).countP (fun w => decide (M < w)) + (if got W M h r.sum j = true then 1 else 0)) < M ∨ (wgt V ds j ((W.getD j []).countP (fun w => decide (M < w)) + (if got W M h r.sum j = true then 1 else 0)) = M ∧ has M (W.getD j []) = true ∧ ¬ (r.sum + bsum W M j < h))) := fun j hj hc => by
    have hl := rowlen j hj
    by_cases hg : got W M h r.sum j = true
    · left
      simp only [hg, if_true] at hc ⊢
      have hg' := hg
      unfold got at hg'
      simp only [Bool.and_eq_true] at hg'
      obtain ⟨h2, h3⟩ := (row_has (rowf j hj)).mp hg'.1
      have h4 : (W.getD j []).countP (fun w => decide (M < w)) + 1 < (W.getD j []).length := by rw [hl]; exact hc
      have := (List.pairwise_iff_getElem.mp (rowf j hj)) _ _ h2 h4 (Nat.lt_succ_self _)
      rw [h3, rowget j _ hj h4] at this
      exact this
    · have hg : got W M h r.sum j = false := by simpa using hg
      simp only [hg, Bool.false_eq_true, if_false, Nat.add_zero] at hc ⊢
      have h4 : (W.getD j []).countP (fun w => decide (M < w)) < (W.getD j []).length := by rw [hl]; exact hc
      have hn : ¬ M < (W.getD j [])[(W.getD j []).countP (fun w => decide (M < w))] := fun z => by
        have := (row_above (M := M) (rowf j hj) _ h4).mpr z
        exact Nat.lt_irrefl _ this
      rw [rowget j _ hj h4] at hn
      by_cases he : wgt V ds j ((W.getD j []).countP (fun w => decide (M < w))) = M
      · right
        have hh : has M (W.getD j []) = true := (row_has (rowf j hj)).mpr ⟨h4, by rw [rowget j _ hj h4]; exact he⟩
        refine ⟨he, hh, fun z => ?_⟩
        unfold got at hg
        rw [hh] at hg
        simp at hg
        clear f4; omega
      · left; clear f4; omega
  have Cpos := dcommon_pos hd
  refine ⟨by rw [f1, hrlen], ?_, fun i hi => ⟨?_, cle i hi⟩, fun i j hi hj ci cj => ?_, fun ht => ?_⟩
  · rw [f2]; clear f4; omega
  · rw [f3 i (by rw [hrlen]; exact hi)]
    have e1 : r.getD i 0 = r0.getD i 0 + ((W.getD i []).countP (fun w => decide (M < w)) : Int) := by rw [hab, getD_map_range hi]
    rw [e1]
    have : decide (i < V.length) = true := by simpa using hi
    rw [this, Bool.true_and]
    split <;> simp <;> (clear f4; omega)
  · have hci := cle i hi
    have t1 : (W.getD i []).countP (fun w => decide (M < w)) + (if got W M h r.sum i = true then 1 else 0) - 1 < ds.length := by clear f4; omega
    have x1 := wgt_exact (V := V) hd (i := j) cj
    have x2 := wgt_exact (V := V) hd (i := i) t1
    have p1 := hd _ (getD_mem cj)
    have p2 := hd _ (getD_mem t1)
    have key : wgt V ds j ((W.getD j []).countP (fun w => decide (M < w)) + (if got W M h r.sum j = true then 1 else 0)) < wgt V ds i ((W.getD i []).countP (fun w => decide (M < w)) + (if got W M h r.sum i = true then 1 else 0) - 1) ∨
        (wgt V ds j ((W.getD j []).countP (fun w => decide (M < w)) + (if got W M h r.sum j = true then 1 else 0)) = wgt V ds i ((W.getD i []).countP (fun w => decide (M < w)) + (if got W M h r.sum i = true then 1 else 0) - 1) ∧ i < j ∧ DD.2 = true) := by
      rcases last i hi ci with a | ⟨a, ga⟩ <;> rcases next j hj cj with b | ⟨b, hb, nb⟩
      · left; clear f4; omega
      · left; clear f4; omega
      · left; clear f4; omega
      · right
        refine ⟨b.trans a, ?_, f4.mpr ⟨j, hj, hb, nb⟩⟩
        unfold got at ga
        simp only [Bool.and_eq_true, decide_eq_true_eq] at ga
        have hlt : bsum W M i < bsum W M j := by clear f4; omega
        by_cases hij : i < j
        · exact hij
        · have := bsum_mono (W := W) (M := M) (show j ≤ i by clear f4; omega)
          clear f4; omega
    rcases key with a | ⟨a, b, t⟩
    · left; exact (cross_lt x1 x2 (by omega) (by omega) (by omega)).mp a
    · right; exact ⟨(cross_eq x1 x2 (by omega) (by omega) (by omega)).mp a, b, t⟩
  · obtain ⟨j, hj, hb, nb⟩ := f4.mp ht
    -- the first row that bears M got a seat
    have hbj : 0 < bsum W M j := by clear f4; omega
    have hex : ∃ i, i < j ∧ has M (W.getD i []) = true ∧ bsum W M i = 0 := by
      clear nb hb f4 hj
      induction j with
      | zero => simp [bsum] at hbj
      | succ j ih =>
        by_cases z : 0 < bsum W M j
        · obtain ⟨i, a, b⟩ := ih z; exact ⟨i, by omega, b⟩
        · rw [bsum_succ] at hbj
          have : has M (W.getD j []) = true := by
            by_cases q : has M (W.getD j []) = true
            · exact q
            · rw [if_neg q] at hbj; omega
          exact ⟨j, by omega, this, by omega⟩
    obtain ⟨i, hij, hi1, hi2⟩ := hex
    have hi : i < V.length := Nat.lt_trans hij hj
    have gi : got W M h r.sum i = true := by unfold got; rw [hi1, hi2]; simpa using hS
    have gj : got W M h r.sum j = false := by unfold got; rw [hb]; simp; clear f4; omega
    obtain ⟨u1, u2⟩ := (row_has (rowf i hi)).mp hi1
    obtain ⟨w1, w2⟩ := (row_has (rowf j hj)).mp hb
    rw [rowget i _ hi u1] at u2
    rw [rowget j _ hj w1] at w2
    rw [rowlen i hi] at u1
    rw [rowlen j hj] at w1
    refine ⟨i, j, hij, hj, by show 1 ≤ _ + (if got W M h r.sum i = true then 1 else 0); rw [if_pos gi]; clear f4; omega, by simp only [gj, Bool.false_eq_true, if_false, Nat.add_zero]; exact w1, ?_⟩
    simp only [gi, gj, if_true, Bool.false_eq_true, if_false, Nat.add_zero, Nat.add_sub_cancel]
    have x1 := wgt_exact (V := V) hd (i := j) w1
    have x2 := wgt_exact (V := V) hd (i := i) u1
    have p1 := hd _ (getD_mem w1)
    have p2 := hd _ (getD_mem u1)
    exact (cross_eq x1 x2 (by omega) (by omega) (by omega)).mp (by rw [w2, u2])
end Mine
end

section
open PySem PySem.W PyProof.Rows
set_option maxRecDepth 100000
namespace Mine

/-! ## Q1. Largest remainders: what the terms mean -/
def h_own : Nat → Bool := fun i => i == 4
def h_sum : T := (.bi .sum (.cons (.v 4) .nil))
def h_quo : T := (.comp (.tup (.cons (.op .mul (.bi .int (.cons (.v 9) .nil)) (.v 1)) (.cons (.bi .int (.cons (.bi .sum (.cons (.v 0) .nil)) .nil)) .nil))) (.cons (.v 9) (.t (.v 0)) .nil .nil))
def h_rep : T := (.comp (.op .fdiv (.idx (.v 10) (.k (.int 0))) (.idx (.v 10) (.k (.int 1)))) (.cons (.v 10) (.t (.v 3)) .nil .nil))
def h_rem : T := (.comp (.op .sub (.idx (.idx (.v 3) (.v 8)) (.k (.int 0))) (.op .mul (.idx (.v 4) (.v 8)) (.idx (.idx (.v 3) (.v 8)) (.k (.int 1))))) (.cons (.v 8) (.range1 (.bi .len (.cons (.v 0) .nil))) .nil .nil))
def h_cut : T := (.idx (.bi .sorted (.cons (.v 6) .nil)) (.op .sub (.bi .sum (.cons (.v 4) .nil)) (.v 1)))
def h_turn : SL := (.cons (.asg (.v 11) (.bi .sum (.cons (.v 4) .nil))) (.cons (.ite (.bop true (.cons (.cmp .eq (.v 11) (.v 1)) (.cons (.cmp .ge (.idx (.v 6) (.v 8)) (.v 7)) .nil))) (.cons (.ite (.not (.v 5)) (.cons (.asg (.v 5) (.k .tru)) .nil) .nil) .nil) (.cons (.ite (.bop true (.cons (.cmp .lt (.v 11) (.v 1)) (.cons (.cmp .gt (.idx (.v 6) (.v 8)) (.v 7)) .nil))) (.cons (.augI 4 (.v 8) (.k (.int 1))) .nil) (.cons (.ite (.bop true (.cons (.cmp .lt (.v 11) (.v 1)) (.cons (.cmp .eq (.idx (.v 6) (.v 8)) (.v 7)) .nil))) (.cons (.augI 4 (.v 8) (.k (.int 1))) .nil) .nil) .nil)) .nil)) .nil))
def h_core : SL := (.cons (.asg (.v 6) h_rem) (.cons (.asg (.v 7) h_cut) (.cons (.loop (.v 8) (.range1 (.bi .len (.cons (.v 0) .nil))) h_turn) .nil)))
def h_body : SL := .cons (.ite (.cmp .eq (.v 1) (.k (.int 0))) (.cons .dead .nil) .nil) (.cons (.asg (.v 3) h_quo) (.cons (.own1 4 h_rep) (.cons (.asg (.v 5) (.k .fls)) (.cons (.ite (.cmp .lt h_sum (.v 1)) h_core .nil) (.cons (.ite (.bop true (.cons (.v 5) (.cons (.not (.v 2)) .nil))) (.cons .raise .nil) .nil) (.cons (.retO 4) .nil))))))

def hq (V : List Int) (h : Int) : List Int := V.map fun v => v * h / V.sum
def hr (V : List Int) (h : Int) : List Int := V.map fun v => v * h % V.sum
def hleft (V : List Int) (h : Int) : Int := h - (hq V h).sum
def hcut (V : List Int) (h : Int) : Int := (isort (hr V h)).getD (V.length - (hleft V h).toNat) 0
def hW (V : List Int) (h : Int) : List (List Int) := (hr V h).map fun r => if hcut V h ≤ r then [hcut V h] else []
def hD (V : List Int) (h : Int) : List Int × Bool := if (hq V h).sum < h then dfold (hW V h) (hcut V h) h V.length (hq V h, false) else (hq V h, false)

/-- votes as the laws build them -/
structure VOk' (V : List Int) : Prop where
  n1 : 1 ≤ V.length
  n40 : V.length ≤ 40
  lo : ∀ v ∈ V, 1 ≤ v
  hi : ∀ v ∈ V, v ≤ 2 ^ 50
theorem VOk'.sum {V : List Int} (h : VOk' V) : 1 ≤ V.sum ∧ V.sum ≤ 40 * 2 ^ 50 := by
  have a := sum_pos h.lo
  have b := sum_le h.hi
  have c := h.n1
  have d := h.n40
  refine ⟨by omega, ?_⟩
  have : (V.length : Int) * 2 ^ 50 ≤ 40 * 2 ^ 50 := Int.mul_le_mul_of_nonneg_right (by omega) (by decide)
  omega

theorem hW_has {V : List Int} {h : Int} {i : Nat} (hi : i < V.length) : has (hcut V h) ((hW V h).getD i []) = decide (hcut V h ≤ (hr V h).getD i 0) := by
  have hl : (hr V h).length = V.length := by simp [hr]
  have e : (hW V h).getD i [] = if hcut V h ≤ (hr V h).getD i 0 then [hcut V h] else [] := by
    unfold hW
    rw [List.getD_eq_getElem?_getD, List.getElem?_map, List.getElem?_eq_getElem (by rw [hl]; exact hi)]
    simp [List.getD_eq_getElem?_getD, List.getElem?_eq_getElem (show i < (hr V h).length by rw [hl]; exact hi)]
  rw [e]
  split
  · rename_i q; rw [decide_eq_true q]; simp [has]
  · rename_i q; rw [decide_eq_false q]; rfl

theorem hq_hr (V : List Int) (h : Int) (s : Int) : (V.map fun v => v * h / s).sum * s + (V.map fun v => v * h % s).sum = V.sum * h := by
  induction V with
  | nil => simp
  | cons v r ih =>
    simp only [List.map_cons, List.sum_cons]
    have e1 := Int.mul_ediv_add_emod (v * h) s
    rw [Int.mul_comm s] at e1
    rw [Int.add_mul, Int.add_mul]
    omega
theorem hleft_eq {V : List Int} {h : Int} : hleft V h * V.sum = (hr V h).sum := by
  have := hq_hr V h V.sum
  unfold hleft
  rw [Int.sub_mul]
  have e : V.sum * h = h * V.sum := Int.mul_comm _ _
  unfold hq hr
  omega
theorem hr_bd {V : List Int} {h : Int} (hV : 1 ≤ V.sum) : ∀ r ∈ hr V h, 0 ≤ r ∧ r < V.sum := fun r hr' => by
  obtain ⟨v, _, rfl⟩ := List.mem_map.mp hr'
  exact ⟨Int.emod_nonneg _ (by omega), Int.emod_lt_of_pos _ (by omega)⟩
theorem sum_lt_mul {l : List Int} {b : Int} (h : ∀ r ∈ l, r < b) (hn : l ≠ []) : l.sum < l.length * b := by
  induction l with
  | nil => exact absurd rfl hn
  | cons x r ih =>
    have h1 := h x List.mem_cons_self
    simp only [List.length_cons, List.sum_cons]
    have e : ((r.length + 1 : Nat) : Int) * b = r.length * b + b := by rw [Int.natCast_add, Int.add_mul]; simp
    by_cases hr : r = []
    · subst hr; simp; omega
    · have := ih (fun y m => h y (List.mem_cons_of_mem _ m)) hr; omega
theorem hleft_bd {V : List Int} {h : Int} (hV : 1 ≤ V.sum) : 0 ≤ hleft V h ∧ hleft V h < V.length := by
  have e := hleft_eq (V := V) (h := h)
  have b := hr_bd (h := h) hV
  have nn : 0 ≤ (hr V h).sum := sum_nonneg fun r m => (b r m).1
  have hne : hr V h ≠ [] := by
    intro z
    have : V = [] := by simpa [hr] using z
    rw [this] at hV; simp at hV
  have lt := sum_lt_mul (fun r m => (b r m).2) hne
  have hl : (hr V h).length = V.length := by simp [hr]
  rw [hl, ← e] at lt
  rw [← e] at nn
  constructor
  · by_cases z : hleft V h < 0
    · have := Int.mul_neg_of_neg_of_pos z (show (0 : Int) < V.sum by omega); omega
    · omega
  · exact Int.lt_of_mul_lt_mul_right lt (by omega)

section
variable {F : Fn} {mu : Nat → Bool}

theorem ev_v {own : Nat → Bool} {σ : Sg} {i : Nat} {d : D} {bw : Bool} (h : σ i = some d) (ho : own i = false) : ev own F bw (.v i) σ = some d := by
  unfold ev; rw [ho, Bool.false_and, if_neg (by decide), h]
theorem ev_vb {own : Nat → Bool} {σ : Sg} {i : Nat} {d : D} (h : σ i = some d) : ev own F true (.v i) σ = some d := by
  unfold ev; rw [Bool.not_true, Bool.and_false, if_neg (by decide), h]
theorem ev_cmp {own : Nat → Bool} {σ : Sg} {o : Cm} {a b : T} {x y : D} {c : Bool} {bw : Bool} (ha : ev own F true a σ = some x) (hb : ev own F true b σ = some y) (hc : cmD o x y = some c) : ev own F bw (.cmp o a b) σ = some (.bool c) := by
  unfold ev; rw [ha, hb]; simp only [Option.bind_some, hc, Option.map_some]
theorem ev_op {own : Nat → Bool} {σ : Sg} {o : Op2} {a b : T} {x y z : D} {bw : Bool} (ha : ev own F false a σ = some x) (hb : ev own F false b σ = some y) (hc : op2D o x y = some z) : ev own F bw (.op o a b) σ = some z := by
  unfold ev; rw [ha, hb]; simp only [Option.bind_some, hc]
theorem ev_idx {own : Nat → Bool} {σ : Sg} {a b : T} {x y z : D} {bw : Bool} (ha : ev own F true a σ = some x) (hb : ev own F false b σ = some y) (hc : idxD x y = some z) : ev own F bw (.idx a b) σ = some z := by
  unfold ev; rw [ha, hb]; simp only [Option.bind_some, hc]
theorem ev_bi1 {own : Nat → Bool} {σ : Sg} {o : Bi} {a : T} {x z : D} {bw : Bool} (ha : ev own F true a σ = some x) (hc : biD o [x] = some z) : ev own F bw (.bi o (.cons a .nil)) σ = some z := by
  unfold ev evL evL; rw [ha]; simp only [Option.bind_some, hc]
theorem ev_bi2 {own : Nat → Bool} {σ : Sg} {o : Bi} {a b : T} {x y z : D} {bw : Bool} (ha : ev own F true a σ = some x) (hb : ev own F true b σ = some y) (hc : biD o [x, y] = some z) : ev own F bw (.bi o (.cons a (.cons b .nil))) σ = some z := by
  unfold ev evL evL evL; rw [ha, hb]; simp only [Option.bind_some, hc]
theorem ev_k {own : Nat → Bool} {σ : Sg} {c : K} {bw : Bool} : ev own F bw (.k c) σ = some c.d := by unfold ev; rfl
theorem ev_tup2 {own : Nat → Bool} {σ : Sg} {a b : T} {x y : D} {bw : Bool} (ha : ev own F false a σ = some x) (hb : ev own F false b σ = some y) : ev own F bw (.tup (.cons a (.cons b .nil))) σ = some (.tup [x, y]) := by
  unfold ev evL evL evL; rw [ha, hb]; rfl
theorem ev_not {own : Nat → Bool} {σ : Sg} {a : T} {b : Bool} {bw : Bool} (ha : ev own F false a σ = some (.bool b)) : ev own F bw (.not a) σ = some (.bool !b) := by
  unfold ev; rw [ha]; rfl
theorem band {own : Nat → Bool} {a b : T} {σ : Sg} {x y : Bool} {bw : Bool} (ha : ev own F false a σ = some (.bool x)) (hb : x = true → ev own F false b σ = some (.bool y)) : ev own F bw (.bop true (.cons a (.cons b .nil))) σ = some (.bool (x && y)) := bop_and ha hb bw
theorem bor {own : Nat → Bool} {a b : T} {σ : Sg} {x y : Bool} {bw : Bool} (ha : ev own F false a σ = some (.bool x)) (hb : x = false → ev own F false b σ = some (.bool y)) : ev own F bw (.bop false (.cons a (.cons b .nil))) σ = some (.bool (x || y)) := bop_or ha hb bw

theorem h_turn_ev (hm : ∀ i, mu i = true) {W : List (List Int)} {R : List Int} {c h : Int} {r : List Int} {t : Bool} {i : Nat} {σ : Sg} (h1 : σ 1 = some (.int h)) (h4 : σ 4 = some (DI r)) (h5 : σ 5 = some (.bool t)) (h6 : σ 6 = some (DI R)) (h7 : σ 7 = some (.int c)) (h8 : σ 8 = some (.int (i : Int)))
    (hR : i < R.length) (hr : i < r.length) (hw : has c (W.getD i []) = decide (c ≤ R.getD i 0)) :
    ∃ σ', evSL h_own F mu h_turn σ = some (.nxt σ') ∧ σ' 4 = some (DI (dturn W c h (r, t) i).1) ∧ σ' 5 = some (.bool (dturn W c h (r, t) i).2) ∧ ∀ j, j ≠ 4 → j ≠ 5 → j ≠ 11 → σ' j = σ j := by
  unfold h_turn
  rw [evSL_nxt (e_asg (ev_bi1 (ev_vb h4) (bi_sum r)) rfl)]
  generalize hσ : upd σ 11 (.int r.sum) = σ1
  have sj : ∀ j, j ≠ 11 → σ1 j = σ j := fun j hj => by rw [← hσ]; simp [upd, hj]
  have a1 : σ1 1 = some (.int h) := by rw [sj 1 (by decide), h1]
  have a4 : σ1 4 = some (DI r) := by rw [sj 4 (by decide), h4]
  have a5 : σ1 5 = some (.bool t) := by rw [sj 5 (by decide), h5]
  have a6 : σ1 6 = some (DI R) := by rw [sj 6 (by decide), h6]
  have a7 : σ1 7 = some (.int c) := by rw [sj 7 (by decide), h7]
  have a8 : σ1 8 = some (.int (i : Int)) := by rw [sj 8 (by decide), h8]
  have a11 : σ1 11 = some (.int r.sum) := by rw [← hσ]; simp [upd]
  have ri : ∀ {bw}, ev h_own F bw (.idx (.v 6) (.v 8)) σ1 = some (.int (R.getD i 0)) := fun {bw} => ev_idx (ev_vb a6) (ev_v a8 rfl) (idx_DI hR)
  have c1 : ev h_own F false (.bop true (.cons (.cmp .eq (.v 11) (.v 1)) (.cons (.cmp .ge (.idx (.v 6) (.v 8)) (.v 7)) .nil))) σ1 = some (.bool ((r.sum == h) && decide (c ≤ R.getD i 0))) :=
    band (ev_cmp (ev_vb a11) (ev_vb a1) rfl) (fun _ => ev_cmp ri (ev_vb a7) rfl)
  have c2 : ev h_own F false (.bop true (.cons (.cmp .lt (.v 11) (.v 1)) (.cons (.cmp .gt (.idx (.v 6) (.v 8)) (.v 7)) .nil))) σ1 = some (.bool (decide (r.sum < h) && decide (c < R.getD i 0))) :=
    band (ev_cmp (ev_vb a11) (ev_vb a1) rfl) (fun _ => ev_cmp ri (ev_vb a7) rfl)
  have c3 : ev h_own F false (.bop true (.cons (.cmp .lt (.v 11) (.v 1)) (.cons (.cmp .eq (.idx (.v 6) (.v 8)) (.v 7)) .nil))) σ1 = some (.bool (decide (r.sum < h) && (R.getD i 0 == c))) :=
    band (ev_cmp (ev_vb a11) (ev_vb a1) rfl) (fun _ => ev_cmp ri (ev_vb a7) rfl)
  have aug : evS h_own F mu (.augI 4 (.v 8) (.k (.int 1))) σ1 = some (.nxt (upd σ1 4 (DI (r.set i (r.getD i 0 + 1))))) := by
    rw [e_augI (ds := r.map .int) (k := (i : Int)) (y := r.getD i 0) (b := 1) rfl (hm 4) a4 (ev_v a8 rfl) (by omega) (by simpa using hr) (by simp [List.getElem?_eq_getElem hr, List.getD_eq_getElem?_getD]) rfl]
    simp [DI]
  simp only [dturn, hw]
  by_cases g : c ≤ R.getD i 0
  · rw [decide_eq_true g] at c1 ⊢
    simp only [Bool.and_true, and_true] at c1 ⊢
    by_cases e : r.sum = h
    · have nlt : ¬ r.sum < h := by omega
      rw [if_neg nlt, show (r.sum == h) = true from by simpa using e] at *
      rw [evSL_nxt (σ' := upd σ1 5 (.bool true)) (by
        rw [e_ite_t c1]
        cases t with
        | true =>
          rw [evSL_nxt (σ' := σ1) (by rw [e_ite_f (ev_not (ev_v a5 rfl))]; rfl)]
          have : upd σ1 5 (.bool true) = σ1 := by funext j; simp only [upd]; split; { rename_i z; rw [z, a5] }; rfl
          rw [this]; rfl
        | false =>
          rw [evSL_nxt (σ' := upd σ1 5 (.bool true)) (by rw [e_ite_t (ev_not (ev_v a5 rfl)), evSL_nxt (e_asg ev_k rfl)]; rfl)]; rfl)]
      exact ⟨_, rfl, by simp [upd, a4], by simp [upd], fun j z1 z2 z3 => by simp [upd, z2, sj j z3]⟩
    · rw [show (r.sum == h) = false from by simpa using e] at *
      have e1 : evS h_own F mu (.ite (.bop true (.cons (.cmp .eq (.v 11) (.v 1)) (.cons (.cmp .ge (.idx (.v 6) (.v 8)) (.v 7)) .nil))) (.cons (.ite (.not (.v 5)) (.cons (.asg (.v 5) (.k .tru)) .nil) .nil) .nil) (.cons (.ite (.bop true (.cons (.cmp .lt (.v 11) (.v 1)) (.cons (.cmp .gt (.idx (.v 6) (.v 8)) (.v 7)) .nil))) (.cons (.augI 4 (.v 8) (.k (.int 1))) .nil) (.cons (.ite (.bop true (.cons (.cmp .lt (.v 11) (.v 1)) (.cons (.cmp .eq (.idx (.v 6) (.v 8)) (.v 7)) .nil))) (.cons (.augI 4 (.v 8) (.k (.int 1))) .nil) .nil) .nil)) .nil)) σ1
          = some (.nxt (if r.sum < h then upd σ1 4 (DI (r.set i (r.getD i 0 + 1))) else σ1)) := by
        rw [e_ite_f c1]
        by_cases lt : r.sum < h
        · rw [decide_eq_true lt, Bool.true_and] at c2 c3
          rw [if_pos lt]
          by_cases gt : c < R.getD i 0
          · rw [decide_eq_true gt] at c2
            rw [evSL_nxt (σ' := upd σ1 4 (DI (r.set i (r.getD i 0 + 1)))) (by rw [e_ite_t c2, evSL_nxt aug]; rfl)]; rfl
          · rw [decide_eq_false gt] at c2
            rw [show (R.getD i 0 == c) = true from beq_iff_eq.mpr (by omega)] at c3
            rw [evSL_nxt (σ' := upd σ1 4 (DI (r.set i (r.getD i 0 + 1)))) (by rw [e_ite_f c2, evSL_nxt (σ' := upd σ1 4 (DI (r.set i (r.getD i 0 + 1)))) (by rw [e_ite_t c3, evSL_nxt aug]; rfl)]; rfl)]; rfl
        · rw [decide_eq_false lt, Bool.false_and] at c2 c3
          rw [if_neg lt, evSL_nxt (σ' := σ1) (by rw [e_ite_f c2, evSL_nxt (σ' := σ1) (by rw [e_ite_f c3]; rfl)]; rfl)]; rfl
      rw [evSL_nxt e1]
      refine ⟨_, rfl, ?_, ?_, fun j z1 z2 z3 => ?_⟩
      · split <;> simp [upd, a4]
      · rw [Bool.or_false]; split <;> simp [upd, a5]
      · split <;> simp [upd, z1, sj j z3]
  · rw [decide_eq_false g] at c1 ⊢
    rw [decide_eq_false (show ¬ c < R.getD i 0 by omega)] at c2
    rw [show (R.getD i 0 == c) = false from beq_eq_false_iff_ne.mpr (by omega)] at c3
    simp only [Bool.and_false, and_false, Bool.false_eq_true, if_false, Bool.or_false] at c1 c2 c3 ⊢
    rw [evSL_nxt (σ' := σ1) (by rw [e_ite_f c1, evSL_nxt (σ' := σ1) (by rw [e_ite_f c2, evSL_nxt (σ' := σ1) (by rw [e_ite_f c3]; rfl)]; rfl)]; rfl)]
    exact ⟨σ1, rfl, by simp [a4], a5, fun j z1 z2 z3 => sj j z3⟩
end
end Mine
end

section
open PySem PySem.W PyProof.Rows
set_option maxRecDepth 100000
namespace Mine

/-! ## Q2. Largest remainders, whole -/
section
variable {F : Fn} {mu : Nat → Bool}

theorem ev_lenV {own : Nat → Bool} {σ : Sg} {i : Nat} {V : List Int} {bw : Bool} (h : σ i = some (DI V)) : ev own F bw (.bi .len (.cons (.v i) .nil)) σ = some (.int V.length) := ev_bi1 (ev_vb h) (bi_len V)
theorem ev_sumV {own : Nat → Bool} {σ : Sg} {i : Nat} {V : List Int} {bw : Bool} (h : σ i = some (DI V)) : ev own F bw (.bi .sum (.cons (.v i) .nil)) σ = some (.int V.sum) := ev_bi1 (ev_vb h) (bi_sum V)
theorem sr_v {own : Nat → Bool} {σ : Sg} {i : Nat} {ds : List D} (h : σ i = some (.list ds)) (ho : own i = false) : evSr own F (.t (.v i)) σ = some ds := by
  unfold evSr; rw [ev_v h ho]; rfl

theorem h_loop_ev (hm : ∀ i, mu i = true) {V R : List Int} {W : List (List Int)} {c h : Int} {r : List Int} {ta : Bool} {σ : Sg} (h0 : σ 0 = some (DI V)) (h1 : σ 1 = some (.int h)) (h2 : σ 2 = some (.bool ta)) (h4 : σ 4 = some (DI r)) (h5 : σ 5 = some (.bool false)) (h6 : σ 6 = some (DI R)) (h7 : σ 7 = some (.int c))
    (hn : V.length ≤ 1000) (hR : R.length = V.length) (hr : r.length = V.length) (hw : ∀ i, i < V.length → has c (W.getD i []) = decide (c ≤ R.getD i 0)) :
    ∃ σ', evS h_own F mu (.loop (.v 8) (.range1 (.bi .len (.cons (.v 0) .nil))) h_turn) σ = some (.nxt σ') ∧ σ' 2 = some (.bool ta) ∧ σ' 4 = some (DI (dfold W c h V.length (r, false)).1) ∧ σ' 5 = some (.bool (dfold W c h V.length (r, false)).2) := by
  have flen : ∀ k, (dfold W c h k (r, false)).1.length = V.length := fun k => by
    unfold dfold
    induction k with
    | zero => exact hr
    | succ k ih =>
      rw [List.range_succ, List.foldl_append]
      simp only [List.foldl_cons, List.foldl_nil, dturn]
      split
      · simp [ih]
      · exact ih
  have succ : ∀ k, dfold W c h (k + 1) (r, false) = dturn W c h (dfold W c h k (r, false)) k := fun k => by
    unfold dfold
    rw [List.range_succ, List.foldl_append]; rfl
  have inv := loopF_inv (f := fun d σ => (bindP h_own (.v 8) d σ).bind fun σ' => evSL h_own F mu h_turn σ')
    (fun k σ' => σ' 1 = some (.int h) ∧ σ' 2 = some (.bool ta) ∧ σ' 4 = some (DI (dfold W c h k (r, false)).1) ∧ σ' 5 = some (.bool (dfold W c h k (r, false)).2) ∧ σ' 6 = some (DI R) ∧ σ' 7 = some (.int c)) (rng V.length) 0 σ ⟨h1, h2, h4, h5, h6, h7⟩ fun i σ' hi hI => by
      have hi' : i < V.length := by simpa [rng] using hi
      obtain ⟨a1, a2, a4, a5, a6, a7⟩ := hI
      simp only [Nat.zero_add] at a4 a5 ⊢
      obtain ⟨σ2, e, b4, b5, bj⟩ := h_turn_ev (F := F) hm (σ := upd σ' 8 (.int (i : Int))) (W := W) (R := R) (c := c) (h := h) (r := (dfold W c h i (r, false)).1) (t := (dfold W c h i (r, false)).2) (i := i) (by simp [upd, a1]) (by simp [upd, a4]) (by simp [upd, a5]) (by simp [upd, a6]) (by simp [upd, a7]) (by simp [upd]) (by omega) (by rw [flen]; exact hi') (hw i hi')
      refine ⟨σ2, .inl ?_, by rw [bj 1 (by decide) (by decide) (by decide)]; simp [upd, a1], by rw [bj 2 (by decide) (by decide) (by decide)]; simp [upd, a2], ?_, ?_, by rw [bj 6 (by decide) (by decide) (by decide)]; simp [upd, a6], by rw [bj 7 (by decide) (by decide) (by decide)]; simp [upd, a7]⟩
      · have : (rng V.length)[i] = D.int (i : Int) := by simp [rng]
        rw [this]
        simp only [bindP]
        rw [if_neg (by decide), Option.bind_some]
        exact e
      · rw [succ]; exact b4
      · rw [succ]; exact b5
  obtain ⟨σ', e, _, a2, a4, a5, _⟩ := inv
  have hrl : 0 + (rng V.length).length = V.length := by simp [rng]
  rw [hrl] at a4 a5
  refine ⟨σ', ?_, a2, a4, a5⟩
  simp only [evS]
  rw [t_range (ev_lenV h0) hn]
  simp only [Option.bind_some]
  exact e

def DQ (V : List Int) (h : Int) : D := .list (V.map fun v => D.tup [.int (v * h), .int V.sum])

theorem h_body_ev (hm : ∀ i, mu i = true) {V : List Int} {h : Int} {ta : Bool} (hV : VOk' V) (hh : 1 ≤ h) (hh' : h ≤ 1000) {σ : Sg} (h0 : σ 0 = some (DI V)) (h1 : σ 1 = some (.int h)) (h2 : σ 2 = some (.bool ta)) :
    evSL h_own F mu h_body σ = some (if (hD V h).2 && !ta then .ties else .ret (DI (hD V h).1)) := by
  have hs := hV.sum
  have n40 := hV.n40
  have n1 := hV.n1
  obtain ⟨lb1, lb2⟩ := hleft_bd (V := V) (h := h) hs.1
  unfold h_body
  have c0 : ev h_own F false (.cmp .eq (.v 1) (.k (.int 0))) σ = some (.bool false) := by
    refine ev_cmp (ev_vb h1) ev_k ?_
    show some (h == 0) = some false
    rw [beq_eq_false_iff_ne.mpr (by omega)]
  rw [evSL_nxt (σ' := σ) (by rw [e_ite_f c0]; rfl)]
  have e3 : ev h_own F false h_quo σ = some (DQ V h) := by
    unfold h_quo
    rw [t_map (ds := V.map .int) (f := fun d => match d with | .int p => .tup [.int (p * h), .int V.sum] | d => d) rfl (sr_v h0 rfl) (fun d hd => ?_) (by simp [LB]; omega)]
    · simp [DQ]
    · obtain ⟨p, hp, rfl⟩ := List.mem_map.mp hd
      have v1 := hV.lo _ hp
      have v2 := hV.hi _ hp
      refine ev_tup2 (ev_op (x := .int p) (y := .int h) (ev_bi1 (x := .int p) (ev_vb (by simp [upd])) rfl) (ev_v (by simp [upd, h1]) rfl) (op_mul (.inr (small_of (by omega) (by omega))))) (ev_bi1 (x := .int V.sum) (ev_sumV (by simp [upd, h0])) rfl)
  rw [evSL_nxt (e_asg e3 rfl)]
  have e4 : ev h_own F false h_rep (upd σ 3 (DQ V h)) = some (DI (hq V h)) := by
    unfold h_rep
    rw [t_map (ds := V.map fun v => D.tup [.int (v * h), .int V.sum]) (f := fun d => match d with | .tup [.int a, .int b] => .int (a / b) | d => d) rfl (sr_v (by simp [upd, DQ]) rfl) (fun d hd => ?_) (by simp [LB]; omega)]
    · simp [DI, hq]
    · obtain ⟨p, hp, rfl⟩ := List.mem_map.mp hd
      refine ev_op (x := .int (p * h)) (y := .int V.sum) (ev_idx (x := .tup [.int (p * h), .int V.sum]) (ev_vb (by simp [upd])) ev_k (by simp [idxD, seqD, intD, place, K.d])) (ev_idx (x := .tup [.int (p * h), .int V.sum]) (ev_vb (by simp [upd])) ev_k (by simp [idxD, seqD, intD, place, K.d])) (op_fdiv (by omega) (small_of (by omega) (by omega)))
  rw [evSL_nxt (e_own1 e4 rfl (hm 4) rfl), evSL_nxt (e_asg (d := .bool false) ev_k rfl)]
  generalize hσ : upd (upd (upd σ 3 (DQ V h)) 4 (.list ((hq V h).map .int))) 5 (.bool false) = σ1
  have a0 : σ1 0 = some (DI V) := by rw [← hσ]; simp [upd, h0]
  have a1 : σ1 1 = some (.int h) := by rw [← hσ]; simp [upd, h1]
  have a2 : σ1 2 = some (.bool ta) := by rw [← hσ]; simp [upd, h2]
  have a3 : σ1 3 = some (DQ V h) := by rw [← hσ]; simp [upd]
  have a4 : σ1 4 = some (DI (hq V h)) := by rw [← hσ]; simp [upd, DI]
  have a5 : σ1 5 = some (.bool false) := by rw [← hσ]; simp [upd]
  have hql : (hq V h).length = V.length := by simp [hq]
  have hrl : (hr V h).length = V.length := by simp [hr]
  have fin : ∀ {σ : Sg} {t : Bool} {r : List Int}, σ 2 = some (.bool ta) → σ 4 = some (DI r) → σ 5 = some (.bool t) → evSL h_own F mu (.cons (.ite (.bop true (.cons (.v 5) (.cons (.not (.v 2)) .nil))) (.cons .raise .nil) .nil) (.cons (.retO 4) .nil)) σ = some (if t && !ta then .ties else .ret (DI r)) := fun {σ t r} h2 h4 h5 => by
    have c : ev h_own F false (.bop true (.cons (.v 5) (.cons (.not (.v 2)) .nil))) σ = some (.bool (t && !ta)) := band (ev_v h5 rfl) fun _ => ev_not (ev_v h2 rfl)
    cases q : (t && !ta) with
    | true =>
      rw [q] at c
      unfold evSL
      rw [e_ite_t c]; rfl
    | false =>
      rw [q] at c
      rw [evSL_nxt (σ' := σ) (by rw [e_ite_f c]; rfl)]
      exact evSL_ret (e_retO rfl h4)
  have c1 : ev h_own F false (.cmp .lt h_sum (.v 1)) σ1 = some (.bool (decide ((hq V h).sum < h))) := ev_cmp (ev_sumV a4) (ev_vb a1) rfl
  unfold hD
  by_cases lt : (hq V h).sum < h
  · rw [decide_eq_true lt] at c1
    rw [if_pos lt]
    have e6 : ev h_own F false h_rem σ1 = some (DI (hr V h)) := by
      unfold h_rem
      rw [t_rangeMap (f := fun i => D.int ((hr V h).getD i 0)) rfl (ev_lenV a0) (by omega) fun i hi => ?_]
      · have := map_range_getD (hr V h) 0 D.int
        rw [hrl] at this
        rw [this]; rfl
      · have q0 : ∀ {bw}, ev h_own F bw (.idx (.v 3) (.v 8)) (upd σ1 8 (.int (i : Int))) = some (.tup [.int (V.getD i 0 * h), .int V.sum]) := fun {bw} => by
          refine ev_idx (ev_vb (d := DQ V h) (by simp [upd, a3])) (ev_v (d := .int (i : Int)) (by simp [upd]) rfl) ?_
          simp only [idxD, DQ, seqD, Option.bind_some, intD]
          have hp : place (V.map fun v => D.tup [.int (v * h), .int V.sum]).length (i : Int) = some i := by
            unfold place
            rw [if_pos (by omega), if_pos (by simp; omega)]; simp
          rw [hp, Option.bind_some, List.getElem?_map, List.getElem?_eq_getElem hi]
          simp [List.getD_eq_getElem?_getD, List.getElem?_eq_getElem hi]
        have vm := getD_mem hi
        have hx : (hr V h).getD i 0 = V.getD i 0 * h - V.getD i 0 * h / V.sum * V.sum := by
          unfold hr
          rw [getD_map hi, Int.emod_def, Int.mul_comm V.sum]
        rw [hx]
        refine ev_op (x := .int (V.getD i 0 * h)) (y := .int (V.getD i 0 * h / V.sum * V.sum)) (ev_idx q0 ev_k (by simp [idxD, seqD, intD, place, K.d])) (ev_op (x := .int (V.getD i 0 * h / V.sum)) (y := .int V.sum) (ev_idx (ev_vb (d := DI (hq V h)) (by simp [upd, a4])) (ev_v (d := .int (i : Int)) (by simp [upd]) rfl) ?_) (ev_idx q0 ev_k (by simp [idxD, seqD, intD, place, K.d])) (op_mul (.inr (small_of (by omega) (by omega))))) rfl
        rw [idx_DI (by rw [hql]; exact hi)]
        unfold hq
        rw [getD_map hi]
    have e7 : ev h_own F false h_cut (upd σ1 6 (DI (hr V h))) = some (.int (hcut V h)) := by
      unfold h_cut
      refine ev_idx (x := DI (isort (hr V h))) (y := .int ((hq V h).sum - h)) (ev_bi1 (x := DI (hr V h)) (ev_vb (by simp [upd])) ?_) (ev_op (x := .int (hq V h).sum) (y := .int h) (ev_sumV (by simp [upd, a4])) (ev_v (by simp [upd, a1]) rfl) rfl) ?_
      · simp only [biD, DI, listD, Option.bind_some, intsOf_map]
        rw [if_pos (by omega)]
      · unfold idxD
        simp only [DI, seqD, Option.bind_some, intD]
        unfold hleft at lb1 lb2
        have hp : place ((isort (hr V h)).map D.int).length ((hq V h).sum - h) = some (V.length - (h - (hq V h).sum).toNat) := by
          unfold place
          rw [if_neg (by omega), if_pos (by rw [List.length_map, isort_len]; omega), List.length_map, isort_len, hrl]
          congr 2; omega
        rw [hp, Option.bind_some, List.getElem?_map]
        have hlt : V.length - (h - (hq V h).sum).toNat < (isort (hr V h)).length := by rw [isort_len]; omega
        rw [List.getElem?_eq_getElem hlt]
        simp [hcut, hleft, List.getD_eq_getElem?_getD, List.getElem?_eq_getElem hlt]
    generalize hσ2 : upd (upd σ1 6 (DI (hr V h))) 7 (.int (hcut V h)) = σ2
    obtain ⟨σ3, e8, b2, b4, b5⟩ := h_loop_ev (F := F) (mu := mu) hm (V := V) (R := hr V h) (W := hW V h) (c := hcut V h) (h := h) (r := hq V h) (ta := ta) (σ := σ2) (by rw [← hσ2]; simp [upd, a0]) (by rw [← hσ2]; simp [upd, a1]) (by rw [← hσ2]; simp [upd, a2]) (by rw [← hσ2]; simp [upd, a4]) (by rw [← hσ2]; simp [upd, a5]) (by rw [← hσ2]; simp [upd]) (by rw [← hσ2]; simp [upd]) (by omega) hrl hql fun i hi => hW_has hi
    have core : evS h_own F mu (.ite (.cmp .lt h_sum (.v 1)) h_core .nil) σ1 = some (.nxt σ3) := by
      rw [e_ite_t c1]
      unfold h_core
      rw [evSL_nxt (e_asg e6 rfl), evSL_nxt (e_asg e7 rfl), hσ2, evSL_nxt e8]; rfl
    rw [evSL_nxt core, fin b2 b4 b5]
  · rw [decide_eq_false lt] at c1
    rw [if_neg lt, evSL_nxt (σ' := σ1) (by rw [e_ite_f c1]; rfl), fin a2 a4 a5]
end

/-- what largest remainders gives: one and the same round for all -/
structure HSpec (V : List Int) (h : Int) (S : List Int) (d : Int) : Prop where
  len : S.length = V.length
  sum : S.sum = h
  d0 : 0 ≤ d
  d1 : d ≤ V.sum
  val : ∀ i, i < V.length → S.getD i 0 = (V.getD i 0 * h + d) / V.sum

theorem h_spec {V : List Int} {h : Int} (hs : 1 ≤ V.sum) : if (hD V h).2 = true then 0 < hleft V h ∧ (isort (hr V h)).getD (V.length - (hleft V h).toNat) 0 = (isort (hr V h)).getD (V.length - 1 - (hleft V h).toNat) 0 else ∃ d, HSpec V h (hD V h).1 d := by
  obtain ⟨lb1, lb2⟩ := hleft_bd (V := V) (h := h) hs
  have hql : (hq V h).length = V.length := by simp [hq]
  have hrl : (hr V h).length = V.length := by simp [hr]
  unfold hD
  by_cases lt : (hq V h).sum < h
  · rw [if_pos lt]
    have hl : hleft V h = h - (hq V h).sum := rfl
    have hwl : (hW V h).length = V.length := by simp [hW, hr]
    obtain ⟨f1, f2, f3, f4⟩ := dfold_spec (W := hW V h) (M := hcut V h) (h := h) (r := hq V h) lt V.length (by rw [hql]; exact Nat.le_refl _)
    have hb : bsum (hW V h) (hcut V h) V.length = (hr V h).countP (fun w => decide (hcut V h ≤ w)) := by
      unfold bsum
      rw [filter_len_sum, sum_congr_nat (g := fun i => if decide (hcut V h ≤ (hr V h).getD i 0) = true then 1 else 0) fun i hi => by rw [hW_has (List.mem_range.mp hi)]]
      have := map_range_getD (hr V h) 0 fun w => if decide (hcut V h ≤ w) = true then 1 else 0
      rw [hrl] at this
      rw [this, List.countP_eq_length_filter, filter_len_sum]
    have hk := kth (l := hr V h) (k := (hleft V h).toNat) (by omega) (by omega)
    have hc : (isort (hr V h)).getD ((hr V h).length - (hleft V h).toNat) 0 = hcut V h := by rw [hrl]; rfl
    simp only [hc] at hk
    obtain ⟨k1, k2⟩ := hk
    by_cases ht : (dfold (hW V h) (hcut V h) h V.length (hq V h, false)).2 = true
    · rw [if_pos ht]
      refine ⟨by omega, ?_⟩
      obtain ⟨i, hi, hh, hn⟩ := f4.mp ht
      have hm := bsum_mono (W := hW V h) (M := hcut V h) (show i + 1 ≤ V.length by omega)
      rw [bsum_succ, if_pos hh, hb] at hm
      have hlen := isort_len (hr V h)
      have hlt1 : V.length - 1 - (hleft V h).toNat < (isort (hr V h)).length := by omega
      have hlt2 : V.length - (hleft V h).toNat < (isort (hr V h)).length := by omega
      have hso := List.pairwise_iff_getElem.mp (isort_sorted (hr V h))
      have hle := hso _ _ hlt1 hlt2 (by omega)
      have hc2 : hcut V h = (isort (hr V h))[V.length - (hleft V h).toNat] := by
        show (isort (hr V h)).getD (V.length - (hleft V h).toNat) 0 = _
        rw [List.getD_eq_getElem?_getD, List.getElem?_eq_getElem hlt2]; rfl
      rw [List.getD_eq_getElem?_getD, List.getD_eq_getElem?_getD, List.getElem?_eq_getElem hlt1, List.getElem?_eq_getElem hlt2]
      simp only [Option.getD_some]
      by_cases e : (isort (hr V h))[V.length - (hleft V h).toNat] = (isort (hr V h))[V.length - 1 - (hleft V h).toNat]
      · exact e
      · exfalso
        have hlt : (isort (hr V h))[V.length - 1 - (hleft V h).toNat] < hcut V h := by rw [hc2]; clear f4; omega
        have hcnt : (hr V h).countP (fun w => decide (hcut V h ≤ w)) ≤ (hleft V h).toNat := by
          rw [← (isort_perm (hr V h)).countP_eq, ← List.take_append_drop (V.length - (hleft V h).toNat) (isort (hr V h)), List.countP_append]
          have z1 : ((isort (hr V h)).take (V.length - (hleft V h).toNat)).countP (fun w => decide (hcut V h ≤ w)) = 0 := by
            rw [List.countP_eq_zero]
            intro w hw
            obtain ⟨j, hj, e⟩ := List.getElem_of_mem hw
            rw [List.length_take] at hj
            rw [List.getElem_take] at e
            have : w ≤ (isort (hr V h))[V.length - 1 - (hleft V h).toNat] := by
              rw [← e]
              by_cases z : j = V.length - 1 - (hleft V h).toNat
              · subst z; exact Int.le_refl _
              · exact hso j _ (by clear f4; omega) hlt1 (by clear f4; omega)
            simp; clear f4; omega
          have z2 : ((isort (hr V h)).drop (V.length - (hleft V h).toNat)).countP (fun w => decide (hcut V h ≤ w)) ≤ ((isort (hr V h)).drop (V.length - (hleft V h).toNat)).length := List.countP_le_length
          rw [List.length_drop] at z2
          clear f4; omega
        clear f4
        omega
    · rw [if_neg ht]
      have hno : ∀ i, i < V.length → has (hcut V h) ((hW V h).getD i []) = true → (hq V h).sum + bsum (hW V h) (hcut V h) i < h := fun i hi hh => by
        by_cases z : (hq V h).sum + bsum (hW V h) (hcut V h) i < h
        · exact z
        · exact absurd (f4.mpr ⟨i, hi, hh, z⟩) ht
      -- the cutoff
      have hr0 := hr_bd (V := V) (h := h) hs
      have cm : hcut V h ∈ hr V h := by
        have hlt : V.length - (hleft V h).toNat < (isort (hr V h)).length := by rw [isort_len]; clear f4; omega
        rw [← (isort_perm (hr V h)).mem_iff]
        unfold hcut
        exact getD_mem hlt
      have hcb := hr0 _ cm
      refine ⟨V.sum - hcut V h, ⟨by rw [f1, hql], ?_, by omega, by omega, fun i hi => ?_⟩⟩
      · rw [f2, hb]; clear f4; omega
      · rw [f3 i (by rw [hql]; exact hi)]
        have eg : got (hW V h) (hcut V h) h (hq V h).sum i = decide (hcut V h ≤ (hr V h).getD i 0) := by
          unfold got
          rw [hW_has hi]
          by_cases z : hcut V h ≤ (hr V h).getD i 0
          · rw [decide_eq_true z, Bool.true_and]
            exact decide_eq_true (hno i hi (by rw [hW_has hi]; exact decide_eq_true z))
          · rw [decide_eq_false z]; rfl
        rw [eg, decide_eq_true hi, Bool.true_and]
        have hx : (hr V h).getD i 0 = V.getD i 0 * h % V.sum := by unfold hr; rw [getD_map hi]
        have hy : (hq V h).getD i 0 = V.getD i 0 * h / V.sum := by unfold hq; rw [getD_map hi]
        have hb2 := hr0 _ (getD_mem (show i < (hr V h).length by rw [hrl]; exact hi))
        rw [hx] at hb2 ⊢
        rw [hy]
        generalize V.getD i 0 * h = a at hb2 ⊢
        generalize hcut V h = c at hcb ⊢
        have e1 := Int.mul_ediv_add_emod a V.sum
        clear f4
        have : a + (V.sum - c) = (a % V.sum + (V.sum - c)) + a / V.sum * V.sum := by rw [Int.mul_comm] at e1; omega
        rw [this, Int.add_mul_ediv_right _ _ (by omega)]
        split
        · rename_i q
          have q : c ≤ a % V.sum := by simpa using q
          have : (a % V.sum + (V.sum - c)) / V.sum = 1 := by
            have := Int.ediv_emod_unique (a := a % V.sum + (V.sum - c)) (b := V.sum) (r := a % V.sum - c) (q := 1) (by omega)
            exact (this.mpr ⟨by omega, by omega, by omega⟩).1
          omega
        · rename_i q
          have q : ¬ c ≤ a % V.sum := by simpa using q
          have : (a % V.sum + (V.sum - c)) / V.sum = 0 := Int.ediv_eq_zero_of_lt (by omega) (by omega)
          omega
  · rw [if_neg lt, if_neg (by simp)]
    unfold hleft at lb1
    refine ⟨0, hql, by show (hq V h).sum = h; omega, Int.le_refl _, by omega, fun i hi => ?_⟩
    show (hq V h).getD i 0 = _
    unfold hq
    rw [getD_map hi, Int.add_zero]
end Mine
end

section
open PySem PySem.W PyProof.Rows
set_option maxRecDepth 100000
namespace Mine

/-! ## Q3. Two elections by largest remainders -/
theorem div_lt_cross {a b V W : Int} (hV : 0 < V) (hW : 0 < W) (h : a / V < b / W) : a * W < b * V := by
  have e1 := Int.mul_ediv_add_emod a V
  have e2 := Int.mul_ediv_add_emod b W
  have r1 := Int.emod_lt_of_pos a hV
  have r2 := Int.emod_nonneg b (Int.ne_of_gt hW)
  have s1 : a < V * (a / V + 1) := by rw [Int.mul_add]; omega
  have s2 : W * (b / W) ≤ b := by omega
  have s3 : a * W < V * (a / V + 1) * W := Int.mul_lt_mul_of_pos_right s1 hW
  have s4 : W * (b / W) * V ≤ b * V := Int.mul_le_mul_of_nonneg_right s2 (by omega)
  have s5 : V * (a / V + 1) * W ≤ W * (b / W) * V := by
    have : V * (a / V + 1) * W = V * W * (a / V + 1) := by rw [Int.mul_right_comm]
    rw [this]
    have : W * (b / W) * V = V * W * (b / W) := by rw [Int.mul_right_comm, Int.mul_comm W V]
    rw [this]
    exact Int.mul_le_mul_of_nonneg_left (by omega) (Int.le_of_lt (Int.mul_pos hV hW))
  omega

section
variable {v t h h' V V' d d' : Int} (hV : 0 < V) (hV' : 0 < V')
include hV hV'
theorem hw_gain (hg : (v * h + d) / V < (t * v * h' + d') / V') : d * V' - d' * V < v * (t * h' * V - h * V') := by
  have := div_lt_cross hV hV' hg
  grind
theorem hw_loss (hg : (t * v * h' + d') / V' < (v * h + d) / V) : v * (t * h' * V - h * V') < d * V' - d' * V := by
  have := div_lt_cross hV' hV hg
  grind
theorem hw_least (v0 : 0 ≤ v) (g0 : 0 ≤ t * h' * V - h * V') (hd : d ≤ V) (hd' : 0 ≤ d') : -1 ≤ (t * v * h' + d') / V' - (v * h + d) / V := by
  refine Int.not_lt.mp fun z => ?_
  have e : (t * v * h' + d' + 1 * V') / V' = (t * v * h' + d') / V' + 1 := by rw [Int.add_mul_ediv_right _ _ (by omega)]
  have := div_lt_cross hV' hV (a := t * v * h' + d' + 1 * V') (b := v * h + d) (by rw [e]; omega)
  have p1 := Int.mul_nonneg v0 g0
  have p2 := Int.mul_nonneg hd' (Int.le_of_lt hV)
  have p3 := Int.mul_le_mul_of_nonneg_right hd (Int.le_of_lt hV')
  grind
theorem hw_most (v0 : 0 ≤ v) (g0 : t * h' * V - h * V' ≤ 0) (hd : 0 ≤ d) (hd' : d' ≤ V') : (t * v * h' + d') / V' - (v * h + d) / V ≤ 1 := by
  refine Int.not_lt.mp fun z => ?_
  have e : (v * h + d + 1 * V) / V = (v * h + d) / V + 1 := by rw [Int.add_mul_ediv_right _ _ (by omega)]
  have := div_lt_cross hV hV' (a := v * h + d + 1 * V) (b := t * v * h' + d') (by rw [e]; omega)
  have p1 := Int.mul_nonneg v0 (show 0 ≤ -(t * h' * V - h * V') by omega)
  have p2 := Int.mul_nonneg hd (Int.le_of_lt hV')
  have p3 := Int.mul_le_mul_of_nonneg_right hd' (Int.le_of_lt hV)
  grind
end

/-- told anew: who has more votes than before has no fewer seats -/
theorem hw_told_core {h V d d' v w u g : Int} (hh : 0 ≤ h) (hg : 0 ≤ g) (hu : 0 ≤ u) (hv : v ≤ V) (hw : w = v + g)
    (hl : (w * h + d') * V < (v * h + d) * (V + g)) (hi : (u * h + d) * (V + g) < (u * h + d') * V) : False := by
  have p : 0 ≤ h * (g * (V - v + u)) := Int.mul_nonneg hh (Int.mul_nonneg hg (by omega))
  subst hw
  grind

theorem sum_le_sum {l m : List Int} (hl : l.length = m.length) (h : ∀ i, i < l.length → l.getD i 0 ≤ m.getD i 0) : l.sum ≤ m.sum := by
  induction l generalizing m with
  | nil => cases m with
    | nil => exact Int.le_refl _
    | cons y q => simp at hl
  | cons x r ih =>
    cases m with
    | nil => simp at hl
    | cons y q =>
      have h0 := h 0 (by simp)
      simp only [List.getD_cons_zero] at h0
      have := ih (m := q) (by simpa using hl) fun i hi => by
        have := h (i + 1) (by simpa using hi)
        simpa using this
      simp only [List.sum_cons]; omega
theorem some_more {l m : List Int} (hl : l.length = m.length) (hs : l.sum = m.sum) {k : Nat} (hk : k < l.length) (h : m.getD k 0 < l.getD k 0) : ∃ i, i < l.length ∧ i ≠ k ∧ l.getD i 0 < m.getD i 0 := by
  refine Classical.byContradiction fun z => ?_
  have key : ∀ i, i < m.length → m.getD i 0 ≤ l.getD i 0 := fun i hi => by
    by_cases e : i = k
    · subst e; omega
    · refine Int.not_lt.mp fun q => z ⟨i, by omega, e, q⟩
  have s1 := sum_set (l := m) (k := k) (x := l.getD k 0) (by omega)
  have s2 := sum_le_sum (l := m.set k (l.getD k 0)) (m := l) (by simp [hl]) fun i hi => by
    have hi' : i < m.length := by simpa using hi
    by_cases e : i = k
    · subst e
      simp [List.getD_eq_getElem?_getD, hi']
    · have : (m.set k (l.getD k 0)).getD i 0 = m.getD i 0 := by simp [List.getD_eq_getElem?_getD, List.getElem?_set, Ne.symm e]
      rw [this]; exact key i hi'
  omega

theorem hw_told {V W S S' : List Int} {h d d' : Int} {k : Nat} (hh : 0 ≤ h) (s : HSpec V h S d) (s' : HSpec W h S' d') (hk : k < V.length) (hlen : W.length = V.length) (hoth : ∀ i, i < V.length → i ≠ k → W.getD i 0 = V.getD i 0)
    (hVp : ∀ v ∈ V, 1 ≤ v) (hWp : ∀ v ∈ W, 1 ≤ v) : 0 ≤ (S'.getD k 0 - S.getD k 0) * (W.getD k 0 - V.getD k 0) := by
  have sW : W.sum = V.sum + (W.getD k 0 - V.getD k 0) := by
    have e : W = V.set k (W.getD k 0) := by
      apply List.ext_getElem
      · simp [hlen]
      · intro i h1 h2
        have hi : i < V.length := by omega
        by_cases q : i = k
        · subst q
          simp [List.getD_eq_getElem?_getD, h1]
        · have := hoth i hi q
          simp only [List.getD_eq_getElem?_getD, List.getElem?_eq_getElem h1, List.getElem?_eq_getElem hi, Option.getD_some] at this
          rw [List.getElem_set_ne (Ne.symm q)]
          exact this
    have := sum_set (l := V) (k := k) (x := W.getD k 0) hk
    rw [← e] at this; omega
  have vp := hVp _ (getD_mem hk)
  have wp := hWp _ (getD_mem (show k < W.length by omega))
  have vle := le_sum (fun v m => by have := hVp v m; omega) _ (getD_mem hk)
  have wle := le_sum (fun v m => by have := hWp v m; omega) _ (getD_mem (show k < W.length by omega))
  have Vpos : 0 < V.sum := by omega
  have Wpos : 0 < W.sum := by omega
  have lS : S.length = S'.length := by rw [s.len, s'.len, hlen]
  by_cases hg : 0 ≤ W.getD k 0 - V.getD k 0
  · by_cases hx : S'.getD k 0 < S.getD k 0
    · exfalso
      obtain ⟨i, hi, ne, lt⟩ := some_more lS (by rw [s.sum, s'.sum]) (k := k) (by rw [s.len]; exact hk) hx
      have hi' : i < V.length := by rw [← s.len]; exact hi
      rw [s.val k hk, s'.val k (by omega)] at hx
      rw [s.val i hi', s'.val i (by omega), hoth i hi' ne] at lt
      have c1 := div_lt_cross Wpos Vpos hx
      have c2 := div_lt_cross Vpos Wpos lt
      have up := hVp _ (getD_mem hi')
      rw [sW] at c1 c2
      exact hw_told_core hh hg (by omega) vle (by omega) c1 c2
    · exact Int.mul_nonneg (by omega) hg
  · by_cases hx : S.getD k 0 < S'.getD k 0
    · exfalso
      obtain ⟨i, hi, ne, lt⟩ := some_more lS.symm (by rw [s.sum, s'.sum]) (k := k) (by rw [s'.len]; omega) hx
      have hi' : i < V.length := by rw [s'.len] at hi; omega
      rw [s.val k hk, s'.val k (by omega)] at hx
      rw [s.val i hi', s'.val i (by omega), hoth i hi' ne] at lt
      have c1 := div_lt_cross Vpos Wpos hx
      have c2 := div_lt_cross Wpos Vpos lt
      have up := hVp _ (getD_mem hi')
      have sV : V.sum = W.sum + (V.getD k 0 - W.getD k 0) := by omega
      rw [sV] at c1 c2
      exact hw_told_core hh (show 0 ≤ V.getD k 0 - W.getD k 0 by omega) (by omega) wle (by omega) c1 c2
    · have h1 : 0 ≤ S.getD k 0 - S'.getD k 0 := by omega
      have h2 : 0 ≤ V.getD k 0 - W.getD k 0 := by omega
      have := Int.mul_nonneg h1 h2
      have e : (S'.getD k 0 - S.getD k 0) * (W.getD k 0 - V.getD k 0) = (S.getD k 0 - S'.getD k 0) * (V.getD k 0 - W.getD k 0) := by grind
      omega
end Mine
end

section
open PySem PySem.W PyProof.Rows
set_option maxRecDepth 100000
namespace Mine

/-! ## Q4. All transfers go one way: the law's own check -/
def DP (P : List (Int × Int)) : D := .list (P.map fun p => D.tup [.int p.1, .int p.2])
def DSo (so : Option (List Int)) : D := match so with | none => .non | some S => DI S
def DE (P : List (Int × Int)) (h : Int) (so : Option (List Int)) : D := .tup [DP P, .int h, DSo so]
abbrev vts (P : List (Int × Int)) : List Int := P.map (·.2)

structure Elec (P : List (Int × Int)) (h : Int) (so : Option (List Int)) : Prop where
  ok : VOk' (vts P)
  n20 : P.length ≤ 20
  h1 : 1 ≤ h
  h2 : h ≤ 1000
  spec : ∀ S, so = some S → ∃ d, HSpec (vts P) h S d

def w_own : Nat → Bool := fun i => i == 4 || i == 5
def w_pat : PatL := (.cons (.tup (.cons (.v 9) (.cons (.v 10) (.cons (.v 11) .nil)))) (.cons (.tup (.cons (.v 12) (.cons (.v 13) (.cons (.v 14) .nil)))) .nil))
def w_sumP : T := (.bi .sum (.cons (.comp (.v 16) (.cons (.tup (.cons (.v 15) (.cons (.v 16) .nil))) (.t (.v 9)) .nil .nil)) .nil))
def w_sumO : T := (.bi .sum (.cons (.comp (.v 16) (.cons (.tup (.cons (.v 15) (.cons (.v 16) .nil))) (.t (.v 12)) .nil .nil)) .nil))
def w_app : SL := (.cons (.ownN [6, 7] (.cons (.bi .max2 (.cons (.v 6) (.cons (.op .sub (.v 17) (.v 8)) .nil))) (.cons (.bi .min2 (.cons (.v 7) (.cons (.op .sub (.v 17) (.v 8)) .nil))) .nil))) (.cons (.ite (.cmp .gt (.v 17) (.v 8)) (.cons (.app 4 (.v 16)) .nil) .nil) (.cons (.ite (.cmp .lt (.v 17) (.v 8)) (.cons (.app 5 (.v 16)) .nil) .nil) .nil)))
def w_in : SL := (.cons (.ite (.bop true (.cons (.cmp .eq (.v 18) (.v 15)) (.cons (.cmp .eq (.v 19) (.op .mul (.v 2) (.v 16))) .nil))) w_app .nil) .nil)
def w_out : SL := (.cons (.loop (.tup (.cons (.tup (.cons (.v 18) (.cons (.v 19) .nil))) (.cons (.v 17) .nil))) (.zip (.v 12) (.v 14)) w_in) .nil)
def w_bad : T := (.bop false (.cons (.bop true (.cons (.cmp .ge (.v 3) (.k (.int 0))) (.cons (.cmp .lt (.v 7) (.neg (.k (.int 1)))) .nil))) (.cons (.bop true (.cons (.cmp .le (.v 3) (.k (.int 0))) (.cons (.cmp .gt (.v 6) (.k (.int 1))) .nil))) .nil)))
def w_none : T := (.bop false (.cons (.cmp .eq (.v 4) (.list .nil)) (.cons (.cmp .eq (.v 5) (.list .nil)) .nil)))
def w_ans : T := (.bop false (.cons (.bop true (.cons (.cmp .gt (.v 3) (.k (.int 0))) (.cons (.cmp .gt (.bi .minL (.cons (.v 4) .nil)) (.bi .maxL (.cons (.v 5) .nil))) .nil))) (.cons (.bop true (.cons (.cmp .lt (.v 3) (.k (.int 0))) (.cons (.cmp .lt (.bi .maxL (.cons (.v 4) .nil)) (.bi .minL (.cons (.v 5) .nil))) .nil))) .nil)))
def w_body : SL := .cons (.asg (.tup w_pat) (.tup (.cons (.v 0) (.cons (.v 1) .nil)))) (.cons (.ite (.bop false (.cons (.isn true (.v 11)) (.cons (.isn true (.v 14)) .nil))) (.cons (.ret (.k .tru)) .nil) .nil) (.cons (.asg (.v 3) (.op .sub (.op .mul (.op .mul (.v 2) (.v 13)) w_sumP) (.op .mul (.v 10) w_sumO))) (.cons (.ownN [4, 5, 6, 7] (.cons (.list .nil) (.cons (.list .nil) (.cons (.k (.int 0)) (.cons (.k (.int 0)) .nil))))) (.cons (.loop (.tup (.cons (.tup (.cons (.v 15) (.cons (.v 16) .nil))) (.cons (.v 8) .nil))) (.zip (.v 9) (.v 11)) w_out) (.cons (.ite w_bad (.cons (.ret (.k .fls)) .nil) .nil) (.cons (.ite w_none (.cons (.ret (.k .tru)) .nil) .nil) (.cons (.ret w_ans) .nil)))))))

theorem zipD_len : ∀ (xs ys : List D), (zipD xs ys).length = min xs.length ys.length
  | x :: r, y :: q => by simp only [zipD, List.length_cons, zipD_len r q]; omega
  | [], _ => by simp [zipD]
  | _ :: _, [] => by simp [zipD]
theorem zipD_at : ∀ (xs ys : List D) (i : Nat) (h : i < (zipD xs ys).length) (h1 : i < xs.length) (h2 : i < ys.length), (zipD xs ys)[i] = .tup [xs[i], ys[i]]
  | x :: r, y :: q, 0, _, _, _ => rfl
  | x :: r, y :: q, i + 1, h, h1, h2 => zipD_at r q i (by simpa [zipD] using h) (by simpa using h1) (by simpa using h2)

section
variable {F : Fn}

theorem e_appI {own mu : Nat → Bool} {σ : Sg} {x : Nat} {e : T} {l : List Int} {i : Int} (ho : own x = true) (hm : mu x = true) (hx : σ x = some (DI l)) (he : ev own F false e σ = some (.int i)) (hl : l.length + 1 ≤ 1000) : evS own F mu (.app x e) σ = some (.nxt (upd σ x (DI (l ++ [i])))) := by
  have : (l.map D.int).length + 1 ≤ LB := by rw [List.length_map]; exact hl
  unfold evS
  rw [ho, hm, hx, he]
  simp only [Bool.and_true, if_true, Option.bind_some, DI, listD]
  rw [if_pos this]
  simp

/-- what the law keeps of the transfers -/
structure WI (σ : Sg) (g e : Int) (b : Nat) : Prop where
  ex : ∃ (gs ls : List Int) (mo le : Int), σ 4 = some (DI gs) ∧ σ 5 = some (DI ls) ∧ σ 6 = some (.int mo) ∧ σ 7 = some (.int le) ∧ gs.length ≤ b ∧ ls.length ≤ b ∧ (∀ v ∈ gs, e < v * g) ∧ (∀ v ∈ ls, v * g < e) ∧ (g ≤ 0 → mo ≤ 1) ∧ (0 ≤ g → -1 ≤ le)

theorem w_in_ev {σ : Sg} {g e : Int} {b : Nat} {who v had name num hs t : Int} (I : WI σ g e b) (hb : b + 1 ≤ 1000) (h2 : σ 2 = some (.int t)) (h8 : σ 8 = some (.int had)) (h15 : σ 15 = some (.int who)) (h16 : σ 16 = some (.int v)) (h17 : σ 17 = some (.int hs)) (h18 : σ 18 = some (.int name)) (h19 : σ 19 = some (.int num)) (ht : small t = true)
    (mg : num = t * v → had < hs → e < v * g) (ml : num = t * v → hs < had → v * g < e) (mm : num = t * v → g ≤ 0 → hs - had ≤ 1) (mn : num = t * v → 0 ≤ g → -1 ≤ hs - had) :
    ∃ σ', evSL w_own F (fun _ => true) w_in σ = some (.nxt σ') ∧ WI σ' g e (b + 1) ∧ ∀ j, j ≠ 4 → j ≠ 5 → j ≠ 6 → j ≠ 7 → σ' j = σ j := by
  obtain ⟨gs, ls, mo, le, a4, a5, a6, a7, b1, b2, b3, b4, b5, b6⟩ := I.ex
  unfold w_in
  have c : ev w_own F false (.bop true (.cons (.cmp .eq (.v 18) (.v 15)) (.cons (.cmp .eq (.v 19) (.op .mul (.v 2) (.v 16))) .nil))) σ = some (.bool ((name == who) && (num == t * v))) :=
    band (ev_cmp (ev_vb h18) (ev_vb h15) rfl) fun _ => ev_cmp (y := .int (t * v)) (ev_vb h19) (ev_op (ev_v h2 rfl) (ev_v h16 rfl) (op_mul (.inl ht))) rfl
  cases q : ((name == who) && (num == t * v)) with
  | false =>
    rw [q] at c
    rw [evSL_nxt (σ' := σ) (by rw [e_ite_f c]; rfl)]
    exact ⟨σ, rfl, ⟨gs, ls, mo, le, a4, a5, a6, a7, by omega, by omega, b3, b4, b5, b6⟩, fun _ _ _ _ _ => rfl⟩
  | true =>
    rw [q] at c
    have hnum : num = t * v := by
      rw [Bool.and_eq_true] at q
      exact beq_iff_eq.mp q.2
    have mg := mg hnum
    have ml := ml hnum
    have mm := mm hnum
    have mn := mn hnum
    have sub : ∀ {bw}, ev w_own F bw (.op .sub (.v 17) (.v 8)) σ = some (.int (hs - had)) := ev_op (ev_v h17 rfl) (ev_v h8 rfl) rfl
    have e1 : evS w_own F (fun _ => true) (.ownN [6, 7] (.cons (.bi .max2 (.cons (.v 6) (.cons (.op .sub (.v 17) (.v 8)) .nil))) (.cons (.bi .min2 (.cons (.v 7) (.cons (.op .sub (.v 17) (.v 8)) .nil))) .nil))) σ = some (.nxt (upd (upd σ 6 (.int (if hs - had > mo then hs - had else mo))) 7 (.int (if hs - had < le then hs - had else le)))) := by
      have x1 : ev w_own F false (.bi .max2 (.cons (.v 6) (.cons (.op .sub (.v 17) (.v 8)) .nil))) σ = some (.int (if hs - had > mo then hs - had else mo)) := ev_bi2 (ev_vb a6) sub rfl
      have x2 : ev w_own F false (.bi .min2 (.cons (.v 7) (.cons (.op .sub (.v 17) (.v 8)) .nil))) σ = some (.int (if hs - had < le then hs - had else le)) := ev_bi2 (ev_vb a7) sub rfl
      unfold evS
      rw [if_pos (by rfl)]
      simp only [evL, x1, x2, Option.bind_some]
      rfl
    generalize hσ : upd (upd σ 6 (.int (if hs - had > mo then hs - had else mo))) 7 (.int (if hs - had < le then hs - had else le)) = σ1 at e1
    have sj : ∀ j, j ≠ 6 → j ≠ 7 → σ1 j = σ j := fun j p1 p2 => by rw [← hσ]; simp [upd, p1, p2]
    have k6 : σ1 6 = some (.int (if hs - had > mo then hs - had else mo)) := by rw [← hσ]; simp [upd]
    have k7 : σ1 7 = some (.int (if hs - had < le then hs - had else le)) := by rw [← hσ]; simp [upd]
    have k4 : σ1 4 = some (DI gs) := by rw [sj 4 (by decide) (by decide), a4]
    have k5 : σ1 5 = some (DI ls) := by rw [sj 5 (by decide) (by decide), a5]
    have k8 : σ1 8 = some (.int had) := by rw [sj 8 (by decide) (by decide), h8]
    have k16 : σ1 16 = some (.int v) := by rw [sj 16 (by decide) (by decide), h16]
    have k17 : σ1 17 = some (.int hs) := by rw [sj 17 (by decide) (by decide), h17]
    have c1 : ev w_own F false (.cmp .gt (.v 17) (.v 8)) σ1 = some (.bool (decide (had < hs))) := ev_cmp (ev_vb k17) (ev_vb k8) rfl
    have s1 : ∃ σ2 gs', evS w_own F (fun _ => true) (.ite (.cmp .gt (.v 17) (.v 8)) (.cons (.app 4 (.v 16)) .nil) .nil) σ1 = some (.nxt σ2) ∧ σ2 4 = some (DI gs') ∧ gs'.length ≤ b + 1 ∧ (∀ v ∈ gs', e < v * g) ∧ ∀ j, j ≠ 4 → σ2 j = σ1 j := by
      by_cases p : had < hs
      · rw [decide_eq_true p] at c1
        refine ⟨upd σ1 4 (DI (gs ++ [v])), gs ++ [v], by rw [e_ite_t c1, evSL_nxt (e_appI rfl rfl k4 (ev_v k16 rfl) (by omega))]; rfl, by simp [upd], by simp; omega, fun x hx => ?_, fun j hj => by simp [upd, hj]⟩
        rcases List.mem_append.mp hx with m | m
        · exact b3 x m
        · rw [List.mem_singleton] at m; subst m; exact mg p
      · rw [decide_eq_false p] at c1
        exact ⟨σ1, gs, by rw [e_ite_f c1]; rfl, k4, by omega, b3, fun _ _ => rfl⟩
    obtain ⟨σ2, gs', e2, m4, mb, mgs, mj⟩ := s1
    have c2 : ev w_own F false (.cmp .lt (.v 17) (.v 8)) σ2 = some (.bool (decide (hs < had))) := ev_cmp (ev_vb (by rw [mj 17 (by decide)]; exact k17)) (ev_vb (by rw [mj 8 (by decide)]; exact k8)) rfl
    have s2 : ∃ σ3 ls', evS w_own F (fun _ => true) (.ite (.cmp .lt (.v 17) (.v 8)) (.cons (.app 5 (.v 16)) .nil) .nil) σ2 = some (.nxt σ3) ∧ σ3 5 = some (DI ls') ∧ ls'.length ≤ b + 1 ∧ (∀ v ∈ ls', v * g < e) ∧ ∀ j, j ≠ 5 → σ3 j = σ2 j := by
      by_cases p : hs < had
      · rw [decide_eq_true p] at c2
        refine ⟨upd σ2 5 (DI (ls ++ [v])), ls ++ [v], by rw [e_ite_t c2, evSL_nxt (e_appI rfl rfl (by rw [mj 5 (by decide)]; exact k5) (ev_v (by rw [mj 16 (by decide)]; exact k16) rfl) (by omega))]; rfl, by simp [upd], by simp; omega, fun x hx => ?_, fun j hj => by simp [upd, hj]⟩
        rcases List.mem_append.mp hx with m | m
        · exact b4 x m
        · rw [List.mem_singleton] at m; subst m; exact ml p
      · rw [decide_eq_false p] at c2
        exact ⟨σ2, ls, by rw [e_ite_f c2]; rfl, by rw [mj 5 (by decide)]; exact k5, by omega, b4, fun _ _ => rfl⟩
    obtain ⟨σ3, ls', e3, n5, nb, nls, nj⟩ := s2
    have e4 : evS w_own F (fun _ => true) (.ite (.bop true (.cons (.cmp .eq (.v 18) (.v 15)) (.cons (.cmp .eq (.v 19) (.op .mul (.v 2) (.v 16))) .nil))) w_app .nil) σ = some (.nxt σ3) := by
      rw [e_ite_t c]
      unfold w_app
      rw [evSL_nxt e1, evSL_nxt e2, evSL_nxt e3]; rfl
    rw [evSL_nxt e4]
    refine ⟨σ3, rfl, ⟨gs', ls', _, _, by rw [nj 4 (by decide)]; exact m4, n5, by rw [nj 6 (by decide), mj 6 (by decide)]; exact k6, by rw [nj 7 (by decide), mj 7 (by decide)]; exact k7, mb, nb, mgs, nls, fun z => ?_, fun z => ?_⟩, fun j p4 p5 p6 p7 => by rw [nj j p5, mj j p4, sj j p6 p7]⟩
    · have := mm z; have := b5 z; split <;> omega
    · have := mn z; have := b6 z; split <;> omega

theorem DP_len (P : List (Int × Int)) : (P.map fun p => D.tup [.int p.1, .int p.2]).length = P.length := by simp
theorem w_loop_out {P Q : List (Int × Int)} {S S' : List Int} {g e t : Int} {σ : Sg} (hS : S.length = P.length) (hS' : S'.length = Q.length) (hP : P.length ≤ 20) (hQ : Q.length ≤ 20) (ht : small t = true) (I : WI σ g e 0) (h2 : σ 2 = some (.int t))
    (h9 : σ 9 = some (DP P)) (h11 : σ 11 = some (DI S)) (h12 : σ 12 = some (DP Q)) (h14 : σ 14 = some (DI S'))
    (M : ∀ i j, (hi : i < P.length) → (hj : j < Q.length) → (Q[j]).2 = t * (P[i]).2 → (S.getD i 0 < S'.getD j 0 → e < (P[i]).2 * g) ∧ (S'.getD j 0 < S.getD i 0 → (P[i]).2 * g < e) ∧ (g ≤ 0 → S'.getD j 0 - S.getD i 0 ≤ 1) ∧ (0 ≤ g → -1 ≤ S'.getD j 0 - S.getD i 0)) :
    ∃ σ', evS w_own F (fun _ => true) (.loop (.tup (.cons (.tup (.cons (.v 15) (.cons (.v 16) .nil))) (.cons (.v 8) .nil))) (.zip (.v 9) (.v 11)) w_out) σ = some (.nxt σ') ∧ WI σ' g e 400 ∧ σ' 3 = σ 3 := by
  have zl : (zipD (P.map fun p => D.tup [.int p.1, .int p.2]) (S.map .int)).length = P.length := by rw [zipD_len]; simp [hS]
  have zl' : (zipD (Q.map fun p => D.tup [.int p.1, .int p.2]) (S'.map .int)).length = Q.length := by rw [zipD_len]; simp [hS']
  have inv := loopF_inv (f := fun d σ => (bindP w_own (.tup (.cons (.tup (.cons (.v 15) (.cons (.v 16) .nil))) (.cons (.v 8) .nil))) d σ).bind fun σ' => evSL w_own F (fun _ => true) w_out σ')
    (fun k σ' => WI σ' g e (20 * k) ∧ σ' 2 = some (.int t) ∧ σ' 3 = σ 3 ∧ σ' 12 = some (DP Q) ∧ σ' 14 = some (DI S')) (zipD (P.map fun p => D.tup [.int p.1, .int p.2]) (S.map .int)) 0 σ ⟨I, h2, rfl, h12, h14⟩ fun i σ' hi hI => by
      have hi' : i < P.length := by rw [← zl]; exact hi
      obtain ⟨J, j2, j3, j12, j14⟩ := hI
      simp only [Nat.zero_add] at J ⊢
      have hget : (zipD (P.map fun p => D.tup [.int p.1, .int p.2]) (S.map .int))[i] = .tup [.tup [.int (P[i]).1, .int (P[i]).2], .int (S.getD i 0)] := by
        rw [zipD_at _ _ i hi (by simpa using hi') (by simpa [hS] using hi')]
        simp [List.getD_eq_getElem?_getD, List.getElem?_eq_getElem (show i < S.length by omega)]
      rw [hget]
      have hb : bindP w_own (.tup (.cons (.tup (.cons (.v 15) (.cons (.v 16) .nil))) (.cons (.v 8) .nil))) (.tup [.tup [.int (P[i]).1, .int (P[i]).2], .int (S.getD i 0)]) σ' = some (upd (upd (upd σ' 15 (.int (P[i]).1)) 16 (.int (P[i]).2)) 8 (.int (S.getD i 0))) := rfl
      rw [hb, Option.bind_some]
      generalize hσ : upd (upd (upd σ' 15 (.int (P[i]).1)) 16 (.int (P[i]).2)) 8 (.int (S.getD i 0)) = σ1
      have sj : ∀ j, j ≠ 15 → j ≠ 16 → j ≠ 8 → σ1 j = σ' j := fun j a b c => by rw [← hσ]; simp [upd, a, b, c]
      have J1 : WI σ1 g e (20 * i) := by
        obtain ⟨gs, ls, mo, le, a4, a5, a6, a7, r⟩ := J.ex
        exact ⟨gs, ls, mo, le, by rw [sj 4 (by decide) (by decide) (by decide)]; exact a4, by rw [sj 5 (by decide) (by decide) (by decide)]; exact a5, by rw [sj 6 (by decide) (by decide) (by decide)]; exact a6, by rw [sj 7 (by decide) (by decide) (by decide)]; exact a7, r⟩
      have s15 : σ1 15 = some (.int (P[i]).1) := by rw [← hσ]; simp [upd]
      have s16 : σ1 16 = some (.int (P[i]).2) := by rw [← hσ]; simp [upd]
      have s8 : σ1 8 = some (.int (S.getD i 0)) := by rw [← hσ]; simp [upd]
      have inv2 := loopF_inv (f := fun d σ => (bindP w_own (.tup (.cons (.tup (.cons (.v 18) (.cons (.v 19) .nil))) (.cons (.v 17) .nil))) d σ).bind fun σ' => evSL w_own F (fun _ => true) w_in σ')
        (fun k σ'' => WI σ'' g e (20 * i + k) ∧ ∀ j, j ≠ 4 → j ≠ 5 → j ≠ 6 → j ≠ 7 → j ≠ 17 → j ≠ 18 → j ≠ 19 → σ'' j = σ1 j) (zipD (Q.map fun p => D.tup [.int p.1, .int p.2]) (S'.map .int)) 0 σ1 ⟨J1, fun _ _ _ _ _ _ _ _ => rfl⟩ fun j σ2 hj hI => by
          have hj' : j < Q.length := by rw [← zl']; exact hj
          obtain ⟨J2, fr⟩ := hI
          simp only [Nat.zero_add] at J2 ⊢
          have hget : (zipD (Q.map fun p => D.tup [.int p.1, .int p.2]) (S'.map .int))[j] = .tup [.tup [.int (Q[j]).1, .int (Q[j]).2], .int (S'.getD j 0)] := by
            rw [zipD_at _ _ j hj (by simpa using hj') (by simpa [hS'] using hj')]
            simp [List.getD_eq_getElem?_getD, List.getElem?_eq_getElem (show j < S'.length by omega)]
          rw [hget]
          have hb : bindP w_own (.tup (.cons (.tup (.cons (.v 18) (.cons (.v 19) .nil))) (.cons (.v 17) .nil))) (.tup [.tup [.int (Q[j]).1, .int (Q[j]).2], .int (S'.getD j 0)]) σ2 = some (upd (upd (upd σ2 18 (.int (Q[j]).1)) 19 (.int (Q[j]).2)) 17 (.int (S'.getD j 0))) := rfl
          rw [hb, Option.bind_some]
          generalize hσ3 : upd (upd (upd σ2 18 (.int (Q[j]).1)) 19 (.int (Q[j]).2)) 17 (.int (S'.getD j 0)) = σ3
          have tj : ∀ j, j ≠ 18 → j ≠ 19 → j ≠ 17 → σ3 j = σ2 j := fun j a b c => by rw [← hσ3]; simp [upd, a, b, c]
          have J3 : WI σ3 g e (20 * i + j) := by
            obtain ⟨gs, ls, mo, le, a4, a5, a6, a7, r⟩ := J2.ex
            exact ⟨gs, ls, mo, le, by rw [tj 4 (by decide) (by decide) (by decide)]; exact a4, by rw [tj 5 (by decide) (by decide) (by decide)]; exact a5, by rw [tj 6 (by decide) (by decide) (by decide)]; exact a6, by rw [tj 7 (by decide) (by decide) (by decide)]; exact a7, r⟩
          obtain ⟨σ4, e4, J4, f4⟩ := w_in_ev (F := F) (t := t) (who := (P[i]).1) (v := (P[i]).2) (had := S.getD i 0) (name := (Q[j]).1) (num := (Q[j]).2) (hs := S'.getD j 0) J3 (by omega)
            (by rw [tj 2 (by decide) (by decide) (by decide), fr 2 (by decide) (by decide) (by decide) (by decide) (by decide) (by decide) (by decide), sj 2 (by decide) (by decide) (by decide)]; exact j2)
            (by rw [tj 8 (by decide) (by decide) (by decide), fr 8 (by decide) (by decide) (by decide) (by decide) (by decide) (by decide) (by decide)]; exact s8)
            (by rw [tj 15 (by decide) (by decide) (by decide), fr 15 (by decide) (by decide) (by decide) (by decide) (by decide) (by decide) (by decide)]; exact s15)
            (by rw [tj 16 (by decide) (by decide) (by decide), fr 16 (by decide) (by decide) (by decide) (by decide) (by decide) (by decide) (by decide)]; exact s16)
            (by rw [← hσ3]; simp [upd]) (by rw [← hσ3]; simp [upd]) (by rw [← hσ3]; simp [upd]) ht (fun z => (M i j hi' hj' z).1) (fun z => (M i j hi' hj' z).2.1) (fun z => (M i j hi' hj' z).2.2.1) (fun z => (M i j hi' hj' z).2.2.2)
          exact ⟨σ4, .inl e4, J4, fun q q4 q5 q6 q7 q17 q18 q19 => by rw [f4 q q4 q5 q6 q7, tj q q18 q19 q17, fr q q4 q5 q6 q7 q17 q18 q19]⟩
      obtain ⟨σ5, e5, J5, f5⟩ := inv2
      rw [zl'] at J5
      refine ⟨σ5, .inl ?_, ?_, ?_, ?_, ?_, ?_⟩
      · unfold w_out
        have : evS w_own F (fun _ => true) (.loop (.tup (.cons (.tup (.cons (.v 18) (.cons (.v 19) .nil))) (.cons (.v 17) .nil))) (.zip (.v 12) (.v 14)) w_in) σ1 = some (.nxt σ5) := by
          unfold evS
          have : evSr w_own F (.zip (.v 12) (.v 14)) σ1 = some (zipD (Q.map fun p => D.tup [.int p.1, .int p.2]) (S'.map .int)) := by
            unfold evSr
            rw [ev_v (show σ1 12 = some (DP Q) by rw [sj 12 (by decide) (by decide) (by decide)]; exact j12) rfl, ev_v (show σ1 14 = some (DI S') by rw [sj 14 (by decide) (by decide) (by decide)]; exact j14) rfl]
            rfl
          rw [this, Option.bind_some]
          exact e5
        rw [evSL_nxt this]; rfl
      · obtain ⟨gs, ls, mo, le, a4, a5, a6, a7, r1, r2, r3⟩ := J5.ex
        exact ⟨gs, ls, mo, le, a4, a5, a6, a7, by omega, by omega, r3⟩
      · rw [f5 2 (by decide) (by decide) (by decide) (by decide) (by decide) (by decide) (by decide), sj 2 (by decide) (by decide) (by decide)]; exact j2
      · rw [f5 3 (by decide) (by decide) (by decide) (by decide) (by decide) (by decide) (by decide), sj 3 (by decide) (by decide) (by decide)]; exact j3
      · rw [f5 12 (by decide) (by decide) (by decide) (by decide) (by decide) (by decide) (by decide), sj 12 (by decide) (by decide) (by decide)]; exact j12
      · rw [f5 14 (by decide) (by decide) (by decide) (by decide) (by decide) (by decide) (by decide), sj 14 (by decide) (by decide) (by decide)]; exact j14
  obtain ⟨σ5, e5, J5, _, f3, _⟩ := inv
  rw [zl] at J5
  refine ⟨σ5, ?_, ?_, f3⟩
  · unfold evS
    have : evSr w_own F (.zip (.v 9) (.v 11)) σ = some (zipD (P.map fun p => D.tup [.int p.1, .int p.2]) (S.map .int)) := by
      unfold evSr
      rw [ev_v h9 rfl, ev_v h11 rfl]; rfl
    rw [this, Option.bind_some]
    exact e5
  · obtain ⟨gs, ls, mo, le, a4, a5, a6, a7, r1, r2, r3⟩ := J5.ex
    exact ⟨gs, ls, mo, le, a4, a5, a6, a7, by omega, by omega, r3⟩
end
end Mine
end

section
open PySem PySem.W PyProof.Rows
set_option maxRecDepth 100000
namespace Mine

/-! ## Q5. The law's own check, whole -/
section
variable {F : Fn}

/-- the sum of the votes of a list of parties, by a comprehension with a tuple target -/
theorem t_pairs {own : Nat → Bool} {bw : Bool} {a b s : Nat} {P : List (Int × Int)} {σ : Sg} (oa : own a = false) (ob : own b = false) (os : own s = false) (hab : b ≠ a) (hs : σ s = some (DP P)) (hl : P.length ≤ 1000) :
    ev own F bw (.comp (.v b) (.cons (.tup (.cons (.v a) (.cons (.v b) .nil))) (.t (.v s)) .nil .nil)) σ = some (DI (vts P)) := by
  unfold ev
  have hv : (Pat.vars (.tup (.cons (.v a) (.cons (.v b) .nil))) ++ GL.vars .nil) = [a, b] := rfl
  simp only [hv]
  rw [if_neg (by simp [oa, ob]), sr_v (show σ s = some (.list (P.map fun p => D.tup [.int p.1, .int p.2])) from hs) os, Option.bind_some]
  rw [flatM_some (g := fun d => match d with | .tup [_, x] => [x] | _ => []) fun d hd => ?_]
  · have e1 : ((P.map fun p => D.tup [.int p.1, .int p.2]).map fun d => match d with | .tup [_, x] => [x] | _ => []).flatten = (vts P).map D.int := by
      rw [List.map_map]
      clear hs hl
      induction P with
      | nil => rfl
      | cons p r ih => rw [List.map_cons, List.flatten_cons, ih]; rfl
    rw [e1, Option.bind_some, if_pos (by simpa [LB] using hl)]
    rfl
  · obtain ⟨p, _, rfl⟩ := List.mem_map.mp hd
    simp only [bindP, tupD, Option.bind_some, bindPL, oa, ob, Bool.false_eq_true, if_false, evC, if_true, evG]
    have : ev own F false (.v b) (upd (upd (unb [a, b] σ) a (.int p.1)) b (.int p.2)) = some (.int p.2) := ev_v (by simp [upd]) ob
    rw [this]; rfl

theorem w_body_ev {P Q : List (Int × Int)} {h h' t : Int} {so so' : Option (List Int)} (E : Elec P h so) (E' : Elec Q h' so') (ht : 1 ≤ t) (ht' : t ≤ 100) {σ : Sg} (h0 : σ 0 = some (DE P h so)) (h1 : σ 1 = some (DE Q h' so')) (h2 : σ 2 = some (.int t)) :
    evSL w_own F (fun _ => true) w_body σ = some (.ret (.bool true)) := by
  have sm : small t = true := small_of (by omega) (by omega)
  unfold w_body
  have e1 : evS w_own F (fun _ => true) (.asg (.tup w_pat) (.tup (.cons (.v 0) (.cons (.v 1) .nil)))) σ = some (.nxt (upd (upd (upd (upd (upd (upd σ 9 (DP P)) 10 (.int h)) 11 (DSo so)) 12 (DP Q)) 13 (.int h')) 14 (DSo so'))) := by
    unfold evS
    rw [ev_tup2 (ev_v h0 rfl) (ev_v h1 rfl), Option.bind_some]
    rfl
  rw [evSL_nxt e1]
  generalize hσ : upd (upd (upd (upd (upd (upd σ 9 (DP P)) 10 (.int h)) 11 (DSo so)) 12 (DP Q)) 13 (.int h')) 14 (DSo so') = σ1
  have a2 : σ1 2 = some (.int t) := by rw [← hσ]; simp [upd, h2]
  have a9 : σ1 9 = some (DP P) := by rw [← hσ]; simp [upd]
  have a10 : σ1 10 = some (.int h) := by rw [← hσ]; simp [upd]
  have a11 : σ1 11 = some (DSo so) := by rw [← hσ]; simp [upd]
  have a12 : σ1 12 = some (DP Q) := by rw [← hσ]; simp [upd]
  have a13 : σ1 13 = some (.int h') := by rw [← hσ]; simp [upd]
  have a14 : σ1 14 = some (DSo so') := by rw [← hσ]; simp [upd]
  have isn : ∀ (i : Nat) (o : Option (List Int)), w_own i = false → σ1 i = some (DSo o) → ev w_own F false (.isn true (.v i)) σ1 = some (.bool o.isNone) := fun i o ho hi => by
    unfold ev
    rw [ev_v hi ho]
    cases o <;> rfl
  have c1 : ev w_own F false (.bop false (.cons (.isn true (.v 11)) (.cons (.isn true (.v 14)) .nil))) σ1 = some (.bool (so.isNone || so'.isNone)) := bor (isn 11 so rfl a11) fun _ => isn 14 so' rfl a14
  cases hso : so with
  | none =>
    rw [hso] at c1
    exact evSL_ret (by rw [e_ite_t c1]; exact evSL_ret (e_ret ev_k))
  | some S =>
  cases hso' : so' with
  | none =>
    rw [hso, hso'] at c1
    exact evSL_ret (by rw [e_ite_t c1]; exact evSL_ret (e_ret ev_k))
  | some S' =>
  rw [hso, hso'] at c1
  rw [evSL_nxt (σ' := σ1) (by rw [e_ite_f c1]; rfl)]
  have n1 := E.n20
  have n2 := E'.n20
  have hs := E.ok.sum
  have hs' := E'.ok.sum
  have b1 := E.h1
  have b2 := E.h2
  have b1' := E'.h1
  have b2' := E'.h2
  obtain ⟨d, sp⟩ := E.spec S hso
  obtain ⟨d', sp'⟩ := E'.spec S' hso'
  have lS : S.length = P.length := by rw [sp.len]; simp
  have lS' : S'.length = Q.length := by rw [sp'.len]; simp
  obtain ⟨g, hg⟩ : ∃ g, g = t * h' * (vts P).sum - h * (vts Q).sum := ⟨_, rfl⟩
  obtain ⟨e, he⟩ : ∃ e, e = d * (vts Q).sum - d' * (vts P).sum := ⟨_, rfl⟩
  have mth : t * h' ≤ 100 * 1000 := Int.mul_le_mul ht' b2' (by omega) (by decide)
  have mth0 : 0 ≤ t * h' := Int.mul_nonneg (by omega) (by omega)
  have e3 : ev w_own F false (.op .sub (.op .mul (.op .mul (.v 2) (.v 13)) w_sumP) (.op .mul (.v 10) w_sumO)) σ1 = some (.int g) := by
    unfold w_sumP w_sumO
    rw [hg]
    refine ev_op (ev_op (ev_op (ev_v a2 rfl) (ev_v a13 rfl) (op_mul (.inl sm))) (ev_bi1 (t_pairs rfl rfl rfl (by decide) a9 (by omega)) (bi_sum _)) (op_mul (.inl (small_of (by omega) (by omega))))) (ev_op (ev_v a10 rfl) (ev_bi1 (t_pairs rfl rfl rfl (by decide) a12 (by omega)) (bi_sum _)) (op_mul (.inl (small_of (by omega) (by omega))))) rfl
  rw [evSL_nxt (e_asg e3 rfl)]
  have e4 : evS w_own F (fun _ => true) (.ownN [4, 5, 6, 7] (.cons (.list .nil) (.cons (.list .nil) (.cons (.k (.int 0)) (.cons (.k (.int 0)) .nil))))) (upd σ1 3 (.int g)) = some (.nxt (upd (upd (upd (upd (upd σ1 3 (.int g)) 4 (.list [])) 5 (.list [])) 6 (.int 0)) 7 (.int 0))) := by
    unfold evS
    rw [if_pos (by rfl)]
    rfl
  rw [evSL_nxt e4]
  generalize hσ2 : upd (upd (upd (upd (upd σ1 3 (.int g)) 4 (.list [])) 5 (.list [])) 6 (.int 0)) 7 (.int 0) = σ2
  have I : WI σ2 g e 0 := ⟨[], [], 0, 0, by rw [← hσ2]; simp [upd, DI], by rw [← hσ2]; simp [upd, DI], by rw [← hσ2]; simp [upd], by rw [← hσ2]; simp [upd], by simp, by simp, by simp, by simp, fun _ => by omega, fun _ => by omega⟩
  have hw : ∀ i, (hi : i < P.length) → (vts P).getD i 0 = (P[i]).2 := fun i hi => by simp [List.getD_eq_getElem?_getD, hi]
  have hw' : ∀ j, (hj : j < Q.length) → (vts Q).getD j 0 = (Q[j]).2 := fun j hj => by simp [List.getD_eq_getElem?_getD, hj]
  obtain ⟨σ3, e5, J, f3⟩ := w_loop_out (F := F) (P := P) (Q := Q) (S := S) (S' := S') (t := t) (σ := σ2) lS lS' n1 n2 sm I (by rw [← hσ2]; simp [upd, a2]) (by rw [← hσ2]; simp [upd, a9]) (by rw [← hσ2]; simp [upd, a11, hso, DSo]) (by rw [← hσ2]; simp [upd, a12]) (by rw [← hσ2]; simp [upd, a14, hso', DSo]) (fun i j hi hj q => by
    have v1 := sp.val i (by simpa using hi)
    have v2 := sp'.val j (by simpa using hj)
    rw [hw i hi] at v1
    rw [hw' j hj, q] at v2
    have vp := E.ok.lo _ (List.mem_map.mpr ⟨P[i], List.getElem_mem hi, rfl⟩)
    rw [v1, v2, hg, he]
    refine ⟨fun z => hw_gain (by omega) (by omega) z, fun z => hw_loss (by omega) (by omega) z, fun z => hw_most (by omega) (by omega) (by omega) z sp.d0 sp'.d1, fun z => hw_least (by omega) (by omega) (by omega) z sp.d1 sp'.d0⟩)
  rw [evSL_nxt e5]
  obtain ⟨gs, ls, mo, le, k4, k5, k6, k7, _, _, kg, kl, km, kn⟩ := J.ex
  have k3 : σ3 3 = some (.int g) := by rw [f3, ← hσ2]; simp [upd]
  have cb : ev w_own F false w_bad σ3 = some (.bool ((decide (0 ≤ g) && decide (le < -1)) || (decide (g ≤ 0) && decide (1 < mo)))) := by
    unfold w_bad
    refine bor (band (ev_cmp (ev_vb k3) ev_k rfl) fun _ => ev_cmp (ev_vb k7) (y := .int (-1)) ?_ rfl) fun _ => band (ev_cmp (ev_vb k3) ev_k rfl) fun _ => ev_cmp (ev_vb k6) ev_k rfl
    unfold ev
    rw [ev_k]; rfl
  have nb : ((decide (0 ≤ g) && decide (le < -1)) || (decide (g ≤ 0) && decide (1 < mo))) = false := by
    rw [Bool.or_eq_false_iff, Bool.and_eq_false_iff, Bool.and_eq_false_iff]
    constructor
    · by_cases z : 0 ≤ g
      · right; have := kn z; exact decide_eq_false (by omega)
      · left; exact decide_eq_false z
    · by_cases z : g ≤ 0
      · right; have := km z; exact decide_eq_false (by omega)
      · left; exact decide_eq_false z
  rw [nb] at cb
  rw [evSL_nxt (σ' := σ3) (by rw [e_ite_f cb]; rfl)]
  have nl : ∀ {bw}, ev w_own F bw (.list .nil) σ3 = some (DI []) := fun {bw} => by unfold ev; rfl
  have cn : ev w_own F false w_none σ3 = some (.bool ((gs == []) || (ls == []))) := by
    unfold w_none
    exact bor (ev_cmp (ev_vb k4) nl (eq_DI _ _)) fun _ => ev_cmp (ev_vb k5) nl (eq_DI _ _)
  cases gs with
  | nil => exact evSL_ret (by rw [e_ite_t cn]; exact evSL_ret (e_ret ev_k))
  | cons x r =>
  cases ls with
  | nil => exact evSL_ret (by rw [e_ite_t cn]; exact evSL_ret (e_ret ev_k))
  | cons y q =>
  have cn : ev w_own F false w_none σ3 = some (.bool false) := cn
  rw [evSL_nxt (σ' := σ3) (by rw [e_ite_f cn]; rfl)]
  have bmin : ∀ (i : Nat) (a : Int) (l : List Int), σ3 i = some (DI (a :: l)) → ev w_own F true (.bi .minL (.cons (.v i) .nil)) σ3 = some (.int (minI a l)) := fun i a l hi => ev_bi1 (ev_vb hi) (by simp only [biD, DI, listD, Option.bind_some, intsOf_map])
  have bmax : ∀ (i : Nat) (a : Int) (l : List Int), σ3 i = some (DI (a :: l)) → ev w_own F true (.bi .maxL (.cons (.v i) .nil)) σ3 = some (.int (maxI a l)) := fun i a l hi => ev_bi1 (ev_vb hi) (by simp only [biD, DI, listD, Option.bind_some, intsOf_map])
  have ca : ev w_own F false w_ans σ3 = some (.bool ((decide (0 < g) && decide (maxI y q < minI x r)) || (decide (g < 0) && decide (maxI x r < minI y q)))) := by
    unfold w_ans
    exact bor (band (ev_cmp (ev_vb k3) ev_k rfl) fun _ => ev_cmp (bmin 4 x r k4) (bmax 5 y q k5) rfl) fun _ => band (ev_cmp (ev_vb k3) ev_k rfl) fun _ => ev_cmp (bmax 4 x r k4) (bmin 5 y q k5) rfl
  have pr : ∀ a ∈ x :: r, ∀ b ∈ y :: q, 0 < (a - b) * g := fun a ha b hb => by
    have z1 := kg a ha
    have z2 := kl b hb
    rw [Int.sub_mul]; omega
  have yes : ((decide (0 < g) && decide (maxI y q < minI x r)) || (decide (g < 0) && decide (maxI x r < minI y q))) = true := by
    have p1 := pr _ (minI_spec r x).1 _ (maxI_spec q y).1
    have p2 := pr _ (maxI_spec r x).1 _ (minI_spec q y).1
    rw [Bool.or_eq_true, Bool.and_eq_true, Bool.and_eq_true]
    by_cases z : 0 < g
    · left
      refine ⟨decide_eq_true z, decide_eq_true ?_⟩
      refine Int.not_le.mp fun w => ?_
      have := Int.mul_nonneg (show 0 ≤ -(minI x r - maxI y q) by omega) (Int.le_of_lt z)
      rw [Int.neg_mul] at this; omega
    · by_cases z' : g < 0
      · right
        refine ⟨decide_eq_true z', decide_eq_true ?_⟩
        refine Int.not_le.mp fun w => ?_
        have := Int.mul_nonneg (show 0 ≤ maxI x r - minI y q by omega) (show 0 ≤ -g by omega)
        rw [Int.mul_neg] at this; omega
      · exfalso
        have : g = 0 := by omega
        rw [this] at p1; simp at p1
  rw [yes] at ca
  exact evSL_ret (e_ret ca)
end
end Mine
end

section
open PySem PySem.W PyProof.Rows
set_option maxRecDepth 100000
namespace Mine

/-! ## Q6. The law's call of the method -/
def s_own : Nat → Bool := fun _ => false
def s_quo : T := (.comp (.op .fdiv (.op .mul (.v 8) (.v 2)) (.v 4)) (.cons (.v 8) (.t (.v 3)) .nil .nil))
def s_mod : T := (.comp (.op .mod (.op .mul (.v 8) (.v 2)) (.v 4)) (.cons (.v 8) (.t (.v 3)) .nil .nil))
def s_tie : T := (.ite (.bop true (.cons (.cmp .gt (.v 5) (.k (.int 0))) (.cons (.cmp .eq (.idx (.v 6) (.op .sub (.v 5) (.k (.int 1)))) (.idx (.v 6) (.v 5))) .nil))) (.k .non) (.list .nil))
def s_body : SL := .cons (.asg (.v 3) (.comp (.v 8) (.cons (.tup (.cons (.v 7) (.cons (.v 8) .nil))) (.t (.v 1)) .nil .nil))) (.cons (.asg (.v 4) (.bi .sum (.cons (.v 3) .nil))) (.cons (.asg (.v 5) (.op .sub (.v 2) (.bi .sum (.cons s_quo .nil)))) (.cons (.asg (.v 6) (.rev (.bi .sorted (.cons s_mod .nil)))) (.cons (.try (.cons (.retC 0 (.cons (.v 0) (.cons (.v 3) (.cons (.v 2) (.cons (.k .non) (.cons (.k .fls) .nil)))))) .nil) (.cons (.ret s_tie) .nil)) .nil))))
/-- the answer of the law's own call -/
def hso (V : List Int) (h : Int) : Option (List Int) := if (hD V h).2 = true then none else some (hD V h).1
def hres (V : List Int) (h : Int) (ta : Bool) : Except Unit D := if ((hD V h).2 && !ta) = true then .error () else .ok (DI (hD V h).1)

section
variable {F : Fn} {mu : Nat → Bool}

theorem mapV {own : Nat → Bool} {V : List Int} {σ : Sg} {s i : Nat} {e : T} {f : Int → Int} {bw : Bool} (os : own s = false) (oi : own i = false) (hs : σ s = some (DI V)) (hn : V.length ≤ 1000) (he : ∀ p ∈ V, ev own F false e (upd σ i (.int p)) = some (.int (f p))) :
    ev own F bw (.comp e (.cons (.v i) (.t (.v s)) .nil .nil)) σ = some (DI (V.map f)) := by
  rw [t_map (ds := V.map .int) (f := fun d => match d with | .int p => .int (f p) | d => d) oi (sr_v hs os) (fun d hd => ?_) (by simpa [LB] using hn)]
  · simp [DI]
  · obtain ⟨p, hp, rfl⟩ := List.mem_map.mp hd
    exact he p hp

theorem s_body_ev {P : List (Int × Int)} {h : Int} {m : PySem.Str} (hV : VOk' (vts P)) (hn : P.length ≤ 20) (hh : 1 ≤ h) (hh' : h ≤ 1000) (hF : F 0 [.str m, DI (vts P), .int h, .non, .bool false] = some (hres (vts P) h false)) {σ : Sg} (h0 : σ 0 = some (.str m)) (h1 : σ 1 = some (DP P)) (h2 : σ 2 = some (.int h)) :
    evSL s_own F mu s_body σ = some (.ret (DSo (hso (vts P) h))) := by
  obtain ⟨V, hVd⟩ : ∃ V, V = vts P := ⟨_, rfl⟩
  rw [← hVd] at hV hF ⊢
  have hlen : V.length = P.length := by rw [hVd]; simp
  have hs := hV.sum
  have n1 := hV.n1
  obtain ⟨lb1, lb2⟩ := hleft_bd (V := V) (h := h) hs.1
  have hrl : (hr V h).length = V.length := by simp [hr]
  unfold s_body
  rw [evSL_nxt (e_asg (t_pairs (F := F) (bw := false) (P := P) rfl rfl rfl (by decide) h1 (by omega)) rfl), ← hVd]
  generalize hσ : upd σ 3 (DI V) = σ1
  have a0 : σ1 0 = some (.str m) := by rw [← hσ]; simp [upd, h0]
  have a2 : σ1 2 = some (.int h) := by rw [← hσ]; simp [upd, h2]
  have a3 : σ1 3 = some (DI V) := by rw [← hσ]; simp [upd]
  rw [evSL_nxt (e_asg (ev_sumV a3) rfl)]
  generalize hσ2 : upd σ1 4 (.int V.sum) = σ2
  have b0 : σ2 0 = some (.str m) := by rw [← hσ2]; simp [upd, a0]
  have b2 : σ2 2 = some (.int h) := by rw [← hσ2]; simp [upd, a2]
  have b3 : σ2 3 = some (DI V) := by rw [← hσ2]; simp [upd, a3]
  have b4 : σ2 4 = some (.int V.sum) := by rw [← hσ2]; simp [upd]
  have e5 : ev s_own F false (.op .sub (.v 2) (.bi .sum (.cons s_quo .nil))) σ2 = some (.int (hleft V h)) := by
    refine ev_op (ev_v b2 rfl) (ev_bi1 (x := DI (hq V h)) (mapV (V := V) (f := fun v => v * h / V.sum) rfl rfl b3 (by omega) fun p hp => ?_) (bi_sum _)) rfl
    exact ev_op (ev_op (x := .int p) (y := .int h) (ev_v (by simp [upd]) rfl) (ev_v (by simp [upd, b2]) rfl) (op_mul (.inr (small_of (by omega) (by omega))))) (ev_v (d := .int V.sum) (by simp [upd, b4]) rfl) (op_fdiv (by omega) (small_of (by omega) (by omega)))
  rw [evSL_nxt (e_asg e5 rfl)]
  generalize hσ3 : upd σ2 5 (.int (hleft V h)) = σ3
  have c0 : σ3 0 = some (.str m) := by rw [← hσ3]; simp [upd, b0]
  have c2 : σ3 2 = some (.int h) := by rw [← hσ3]; simp [upd, b2]
  have c3 : σ3 3 = some (DI V) := by rw [← hσ3]; simp [upd, b3]
  have c4 : σ3 4 = some (.int V.sum) := by rw [← hσ3]; simp [upd, b4]
  have c5 : σ3 5 = some (.int (hleft V h)) := by rw [← hσ3]; simp [upd]
  have e6 : ev s_own F false (.rev (.bi .sorted (.cons s_mod .nil))) σ3 = some (DI (isort (hr V h)).reverse) := by
    have x : ev s_own F false (.bi .sorted (.cons s_mod .nil)) σ3 = some (DI (isort (hr V h))) := by
      refine ev_bi1 (x := DI (hr V h)) (mapV (V := V) (f := fun v => v * h % V.sum) rfl rfl c3 (by omega) fun p hp => ?_) ?_
      · exact ev_op (ev_op (x := .int p) (y := .int h) (ev_v (by simp [upd]) rfl) (ev_v (by simp [upd, c2]) rfl) (op_mul (.inr (small_of (by omega) (by omega))))) (ev_v (d := .int V.sum) (by simp [upd, c4]) rfl) (op_mod (by omega))
      · simp only [biD, DI, listD, Option.bind_some, intsOf_map]
        rw [if_pos (by omega)]
    unfold ev
    rw [x]
    simp [DI, listD]
  rw [evSL_nxt (e_asg e6 rfl)]
  generalize hσ4 : upd σ3 6 (DI (isort (hr V h)).reverse) = σ4
  have d0 : σ4 0 = some (.str m) := by rw [← hσ4]; simp [upd, c0]
  have d2 : σ4 2 = some (.int h) := by rw [← hσ4]; simp [upd, c2]
  have d3 : σ4 3 = some (DI V) := by rw [← hσ4]; simp [upd, c3]
  have d5 : σ4 5 = some (.int (hleft V h)) := by rw [← hσ4]; simp [upd, c5]
  have d6 : σ4 6 = some (DI (isort (hr V h)).reverse) := by rw [← hσ4]; simp [upd]
  have call : evSL s_own F mu (.cons (.retC 0 (.cons (.v 0) (.cons (.v 3) (.cons (.v 2) (.cons (.k .non) (.cons (.k .fls) .nil)))))) .nil) σ4 = some (if (hD V h).2 = true then .ties else .ret (DI (hD V h).1)) := by
    have ar : evL s_own F false (.cons (.v 0) (.cons (.v 3) (.cons (.v 2) (.cons (.k .non) (.cons (.k .fls) .nil))))) σ4 = some [.str m, DI V, .int h, .non, .bool false] := by
      simp only [evL]
      rw [ev_v d0 rfl, ev_v d3 rfl, ev_v d2 rfl, ev_k, ev_k]; rfl
    unfold evSL evS
    rw [ar, Option.bind_some, hF]
    unfold hres
    cases (hD V h).2 <;> rfl
  have sp := h_spec (V := V) (h := h) hs.1
  unfold hso
  by_cases ht : (hD V h).2 = true
  · rw [if_pos ht] at call sp ⊢
    obtain ⟨lp, eq⟩ := sp
    have st : ev s_own F false s_tie σ4 = some .non := by
      unfold s_tie
      have c : ev s_own F false (.bop true (.cons (.cmp .gt (.v 5) (.k (.int 0))) (.cons (.cmp .eq (.idx (.v 6) (.op .sub (.v 5) (.k (.int 1)))) (.idx (.v 6) (.v 5))) .nil))) σ4 = some (.bool (decide (0 < hleft V h) && true)) := by
        have hl := isort_len (hr V h)
        refine band (ev_cmp (ev_vb d5) ev_k rfl) fun _ => ev_cmp (x := .int ((isort (hr V h)).reverse.getD ((hleft V h).toNat - 1) 0)) (y := .int ((isort (hr V h)).reverse.getD (hleft V h).toNat 0)) (ev_idx (y := .int (((hleft V h).toNat - 1 : Nat) : Int)) (ev_vb d6) (ev_op (ev_v d5 rfl) ev_k ?_) (idx_DI (by rw [List.length_reverse]; omega))) (ev_idx (y := .int ((hleft V h).toNat : Int)) (ev_vb d6) (ev_v (by rw [d5]; congr 2; omega) rfl) (idx_DI (by rw [List.length_reverse]; omega))) ?_
        · show some (D.int (hleft V h - 1)) = _
          congr 2; omega
        · show some (_ == _) = some true
          congr 1
          rw [beq_iff_eq]
          rw [List.getD_eq_getElem?_getD, List.getD_eq_getElem?_getD, List.getElem?_reverse (by omega), List.getElem?_reverse (by omega), ← List.getD_eq_getElem?_getD, ← List.getD_eq_getElem?_getD, hl, hrl]
          rw [show V.length - 1 - ((hleft V h).toNat - 1) = V.length - (hleft V h).toNat from by omega]
          exact eq
      rw [decide_eq_true lp] at c
      unfold ev
      rw [c]; rfl
    unfold evSL evS
    rw [call]
    simp only [Option.bind_some]
    rw [evSL_ret (e_ret st)]
    rfl
  · rw [if_neg ht] at call ⊢
    unfold evSL evS
    rw [call]
    rfl

theorem hso_elec {P : List (Int × Int)} {h : Int} (hV : VOk' (vts P)) (hn : P.length ≤ 20) (hh : 1 ≤ h) (hh' : h ≤ 1000) : Elec P h (hso (vts P) h) := by
  refine ⟨hV, hn, hh, hh', fun S e => ?_⟩
  have sp := h_spec (V := vts P) (h := h) hV.sum.1
  unfold hso at e
  by_cases ht : (hD (vts P) h).2 = true
  · rw [if_pos ht] at e; cases e
  · rw [if_neg ht] at e sp
    cases e
    exact sp
end
end Mine
end

section
open PySem PySem.W PyProof.Rows
set_option maxRecDepth 100000
namespace Mine

/-! ## Q7. The deeds of law 01 -/
def l_own : Nat → Bool := fun _ => false
def l_is (n : Int) : T := (.cmp .eq (.op .mod (.v 6) (.k (.int 7))) (.k (.int n)))
def l_more : T := (.cmp .gt (.bi .len (.cons (.v 4) .nil)) (.k (.int 2)))
def l_new : T := (.op .add (.k (.int 1)) (.op .mod (.op .fdiv (.v 6) (.k (.int 35))) (.op .pow (.k (.int 10)) (.k (.int 6)))))
def l_two (a b : T) : T := .tup (.cons a (.cons b .nil))
def l_one (a : T) : T := .list (.cons a .nil)
def l_0 : SL := (.cons (.aug 7 .add (.op .add (.k (.int 1)) (.op .mod (.op .fdiv (.v 6) (.k (.int 7))) (.k (.int 3))))) .nil)
def l_1 : SL := (.cons (.asg (.v 7) (.bi .max2 (.cons (.k (.int 1)) (.cons (.op .sub (.op .sub (.v 7) (.k (.int 1))) (.op .mod (.op .fdiv (.v 6) (.k (.int 7))) (.k (.int 3)))) .nil)))) .nil)
def l_2 : SL := (.cons (.asg (.v 4) (.op .add (.op .add (.sl (.v 4) .none (.some (.v 11))) (l_one (l_two (.idx (.idx (.v 4) (.v 11)) (.k (.int 0))) l_new))) (.sl (.v 4) (.some (.op .add (.v 11) (.k (.int 1)))) .none))) .nil)
def l_3 : SL := (.cons (.ownN [4, 8] (.cons (.op .add (.v 4) (l_one (l_two (.v 8) l_new))) (.cons (.op .add (.v 8) (.k (.int 1))) .nil))) .nil)
def l_4 : SL := (.cons (.asg (.v 4) (.op .add (.sl (.v 4) .none (.some (.v 11))) (.sl (.v 4) (.some (.op .add (.v 11) (.k (.int 1)))) .none))) .nil)
def l_rest : T := (.comp (.v 18) (.cons (.tup (.cons (.v 10) (.cons (.v 18) .nil))) (.enum (.v 4)) (.cons (.cmp .nin (.v 10) (.tup (.cons (.v 11) (.cons (.v 14) .nil)))) .nil) .nil))
def l_5 : SL := (.cons (.asg (.v 14) (.op .mod (.op .add (.v 11) (.k (.int 1))) (.bi .len (.cons (.v 4) .nil)))) (.cons (.asg (.v 15) (l_two (.v 8) (.op .add (.idx (.idx (.v 4) (.v 11)) (.k (.int 1))) (.idx (.idx (.v 4) (.v 14)) (.k (.int 1)))))) (.cons (.ownN [4, 8] (.cons (.op .add l_rest (l_one (.v 15))) (.cons (.op .add (.v 8) (.k (.int 1))) .nil))) .nil)))
def l_6 : SL := (.cons (.asg (.v 12) (.op .add (.k (.int 2)) (.op .mod (.op .fdiv (.v 6) (.k (.int 7))) (.k (.int 9))))) (.cons (.asg (.v 4) (.comp (l_two (.v 16) (.op .mul (.v 12) (.v 17))) (.cons (.tup (.cons (.v 16) (.cons (.v 17) .nil))) (.t (.v 4)) .nil .nil))) .nil))
def l_deed : TS := (.ite (l_is 0) l_0 (.cons (.ite (l_is 1) l_1 (.cons (.ite (l_is 2) l_2 (.cons (.ite (l_is 3) l_3 (.cons (.ite (.bop true (.cons (l_is 4) (.cons l_more .nil))) l_4 (.cons (.ite (.bop true (.cons (l_is 5) (.cons l_more .nil))) l_5 (.cons (.ite (l_is 6) l_6 .nil) .nil)) .nil)) .nil)) .nil)) .nil)) .nil))

def lB : Nat → Int
  | 0 => 10 ^ 7
  | k + 1 => 12 * lB k
theorem lB_lo : ∀ k, 10 ^ 7 ≤ lB k
  | 0 => by decide
  | k + 1 => by have := lB_lo k; unfold lB; omega
theorem lB_hi {k : Nat} (h : k ≤ 6) : lB k ≤ 2 ^ 50 := by
  match k, h with
  | 0, _ => decide
  | 1, _ => decide
  | 2, _ => decide
  | 3, _ => decide
  | 4, _ => decide
  | 5, _ => decide
  | 6, _ => decide

/-- parties and a house behind k deeds -/
structure LI (k : Nat) (P : List (Int × Int)) (h : Int) : Prop where
  n2 : 2 ≤ P.length
  n : P.length ≤ 5 + k
  lo : ∀ v ∈ vts P, 1 ≤ v
  sum : (vts P).sum ≤ lB k
  h1 : 1 ≤ h
  h2 : h ≤ 30 + 3 * k
theorem LI.ok {k : Nat} {P : List (Int × Int)} {h : Int} (I : LI k P h) (hk : k ≤ 6) : VOk' (vts P) ∧ P.length ≤ 20 ∧ h ≤ 1000 := by
  have b := lB_hi hk
  have n := I.n
  have n2 := I.n2
  have s := I.sum
  have h2 := I.h2
  refine ⟨⟨by simp; omega, by simp; omega, I.lo, fun v hv => ?_⟩, by omega, by omega⟩
  have := le_sum (fun v m => by have := I.lo v m; omega) v hv
  omega

theorem DP_append (P Q : List (Int × Int)) : (P.map fun p => D.tup [.int p.1, .int p.2]) ++ (Q.map fun p => D.tup [.int p.1, .int p.2]) = (P ++ Q).map fun p => D.tup [.int p.1, .int p.2] := by rw [List.map_append]
theorem idx_DP {P : List (Int × Int)} {j : Nat} (h : j < P.length) : idxD (DP P) (.int j) = some (.tup [.int (P.getD j (0, 0)).1, .int (P.getD j (0, 0)).2]) := by
  have h0 : (0 : Int) ≤ (j : Int) := by omega
  simp [idxD, DP, seqD, intD, place, h0, h, List.getD_eq_getElem?_getD]
theorem vts_get {P : List (Int × Int)} (j : Nat) : (vts P).getD j 0 = (P.getD j (0, 0)).2 := by
  rw [List.getD_eq_getElem?_getD, List.getD_eq_getElem?_getD, List.getElem?_map]
  cases P[j]? <;> rfl
theorem idx_t20 {a b : D} : idxD (.tup [a, b]) (.int 0) = some a := by simp [idxD, seqD, intD, place]
theorem idx_t21 {a b : D} : idxD (.tup [a, b]) (.int 1) = some b := by simp [idxD, seqD, intD, place]
theorem op_addDP {P Q : List (Int × Int)} (h : P.length + Q.length ≤ 1000) : op2D .add (DP P) (DP Q) = some (DP (P ++ Q)) := by
  simp only [op2D, DP, DP_append, List.length_map]
  rw [if_pos (show P.length + Q.length ≤ LB from h)]

section
variable {F : Fn} {mu : Nat → Bool}

theorem ev_one {own : Nat → Bool} {σ : Sg} {a : T} {x : D} {bw : Bool} (h : ev own F false a σ = some x) : ev own F bw (l_one a) σ = some (.list [x]) := by
  unfold l_one ev evL evL; rw [h]; rfl
theorem ev_slTo {own : Nat → Bool} {σ : Sg} {i j : Nat} {P : List (Int × Int)} {n : Nat} {bw : Bool} (hi : σ i = some (DP P)) (hj : σ j = some (.int (n : Int))) (oi : own i = false) (oj : own j = false) (hn : n ≤ 1000) : ev own F bw (.sl (.v i) .none (.some (.v j))) σ = some (DP (P.take n)) := by
  unfold ev evO
  rw [ev_v hi oi, ev_v hj oj]
  simp only [Option.bind_some, DP, listD, intD, Option.map_some, slD]
  rw [if_pos ⟨by omega, small_of (by omega) (by omega)⟩, Option.map_some, Int.toNat_natCast, List.map_take]
theorem ev_slFrom {own : Nat → Bool} {σ : Sg} {i : Nat} {e : T} {P : List (Int × Int)} {n : Nat} {bw : Bool} (hi : σ i = some (DP P)) (he : ev own F false e σ = some (.int (n : Int))) (oi : own i = false) (hn : n ≤ 1000) : ev own F bw (.sl (.v i) (.some e) .none) σ = some (DP (P.drop n)) := by
  unfold ev evO
  rw [ev_v hi oi, he]
  simp only [Option.bind_some, DP, listD, intD, Option.map_some, slD]
  rw [if_pos ⟨by omega, small_of (by omega) (by omega)⟩, Option.map_some, Int.toNat_natCast, List.map_drop]
theorem e_aug {own : Nat → Bool} {σ : Sg} {x : Nat} {e : T} {a b : Int} (ho : own x = false) (hx : σ x = some (.int a)) (he : ev own F false e σ = some (.int b)) : evS own F mu (.aug x .add e) σ = some (.nxt (upd σ x (.int (a + b)))) := by
  unfold evS
  rw [ho, hx, he]; rfl
theorem e_own2 {own : Nat → Bool} {σ : Sg} {x y : Nat} {a b : T} {c d : D} (ox : own x = false) (oy : own y = false) (ha : ev own F false a σ = some c) (hb : ev own F false b σ = some d) : evS own F mu (.ownN [x, y] (.cons a (.cons b .nil))) σ = some (.nxt (upd (upd σ x c) y d)) := by
  unfold evS
  rw [if_pos (by simp [okN, ox, oy])]
  simp only [evL, ha, hb, Option.bind_some]
  rw [if_pos (by simp [okND, ox, oy])]
  rfl

theorem pick_ev {σ : Sg} {p : Int} {n m : Int} {bw : Bool} (hp : σ 6 = some (.int p)) (hm : 0 < n) (sm : small n = true) (hm' : 0 < m) : ev l_own F bw (.op .mod (.op .fdiv (.v 6) (.k (.int n))) (.k (.int m))) σ = some (.int (p / n % m)) :=
  ev_op (ev_op (ev_v hp rfl) ev_k (op_fdiv hm sm)) ev_k (op_mod hm')
theorem new_ev {σ : Sg} {p : Int} {bw : Bool} (hp : σ 6 = some (.int p)) : ev l_own F bw l_new σ = some (.int (1 + p / 35 % 10 ^ 6)) :=
  ev_op ev_k (ev_op (ev_op (ev_v hp rfl) ev_k (op_fdiv (by decide) (by decide))) (ev_op (z := .int (10 ^ 6)) ev_k ev_k (by simp only [op2D, K.d]; rw [if_pos (by decide)]; rfl)) (op_mod (by decide))) rfl
theorem is_ev {σ : Sg} {p : Int} (n : Int) (hp : σ 6 = some (.int p)) {bw : Bool} : ev l_own F bw (l_is n) σ = some (.bool (p % 7 == n)) :=
  ev_cmp (ev_op (ev_v hp rfl) ev_k (op_mod (by decide))) ev_k rfl
theorem more_ev {σ : Sg} {P : List (Int × Int)} (h4 : σ 4 = some (DP P)) {bw : Bool} : ev l_own F bw l_more σ = some (.bool (decide (2 < (P.length : Int)))) :=
  ev_cmp (ev_bi1 (ev_vb h4) (x := DP P) (z := .int P.length) (by simp [DP, biD, seqD])) ev_k rfl

/-- what a deed does -/
structure Deed (k : Nat) (P : List (Int × Int)) (h : Int) (pick : Int) (place : Nat) (σ σ' : Sg) : Prop where
  ex : ∃ P' h' c t, σ' 4 = some (DP P') ∧ σ' 7 = some (.int h') ∧ σ' 8 = some (.int c) ∧ σ' 12 = some (.int t) ∧ LI (k + 1) P' h' ∧ 1 ≤ t ∧ t ≤ 100 ∧
    (pick % 7 = 2 → h' = h ∧ P'.length = P.length ∧ ∀ i, i < P.length → i ≠ place → (vts P').getD i 0 = (vts P).getD i 0)
  fr : ∀ j, j ≠ 4 → j ≠ 7 → j ≠ 8 → j ≠ 12 → j ≠ 14 → j ≠ 15 → σ' j = σ j

theorem LI.same {k : Nat} {P : List (Int × Int)} {h h' : Int} (I : LI k P h) (a : 1 ≤ h') (b : h' ≤ 30 + 3 * (k + 1)) : LI (k + 1) P h' := by
  have := lB_lo k
  have s := I.sum
  exact ⟨I.n2, by have := I.n; omega, I.lo, by show _ ≤ 12 * lB k; omega, a, by push_cast; omega⟩
/-- other parties, the same house -/
theorem LI.to {k : Nat} {P P' : List (Int × Int)} {h : Int} (I : LI k P h) (n2 : 2 ≤ P'.length) (n : P'.length ≤ P.length + 1) (lo : ∀ v ∈ vts P', 1 ≤ v) (s : (vts P').sum ≤ 11 * (vts P).sum + 10 ^ 6) : LI (k + 1) P' h := by
  have := lB_lo k
  have s' := I.sum
  have h2 := I.h2
  exact ⟨n2, by have := I.n; omega, lo, by show _ ≤ 12 * lB k; omega, I.h1, by push_cast; omega⟩
end
end Mine
end

section
open PySem PySem.W PyProof.Rows
set_option maxRecDepth 100000
namespace Mine

/-! ## Q8. Each deed -/
theorem sub_sum {l m : List Int} (s : l.Sublist m) (h : ∀ v ∈ m, 0 ≤ v) : l.sum ≤ m.sum := by
  induction s with
  | slnil => exact Int.le_refl _
  | cons a s ih =>
    have := ih fun v x => h v (List.mem_cons_of_mem _ x)
    have := h a List.mem_cons_self
    simp only [List.sum_cons]; omega
  | cons_cons a s ih =>
    have := ih fun v x => h v (List.mem_cons_of_mem _ x)
    simp only [List.sum_cons]; omega
def selP (a b : Nat) : Nat → List (Int × Int) → List (Int × Int)
  | _, [] => []
  | n, p :: r => if n = a ∨ n = b then selP a b (n + 1) r else p :: selP a b (n + 1) r
theorem selP_sub (a b : Nat) : ∀ (n : Nat) (P : List (Int × Int)), (selP a b n P).Sublist P
  | _, [] => .slnil
  | n, p :: r => by
    unfold selP
    split
    · exact (selP_sub a b (n + 1) r).cons p
    · exact (selP_sub a b (n + 1) r).cons_cons p
theorem selP_len (a b : Nat) : ∀ (n : Nat) (P : List (Int × Int)), P.length ≤ (selP a b n P).length + (if n ≤ a then 1 else 0) + (if n ≤ b then 1 else 0)
  | _, [] => by simp
  | n, p :: r => by
    have ih := selP_len a b (n + 1) r
    unfold selP
    simp only [List.length_cons]
    split
    · split at ih <;> split at ih <;> split <;> split <;> omega
    · simp only [List.length_cons]
      split at ih <;> split at ih <;> split <;> split <;> omega
theorem selP_enum (a b : Nat) : ∀ (n : Nat) (P : List (Int × Int)), ((enumD n (P.map fun p => D.tup [.int p.1, .int p.2])).map fun d => match d with | .tup [.int n, x] => if n = (a : Int) ∨ n = (b : Int) then [] else [x] | _ => []).flatten = (selP a b n P).map fun p => D.tup [.int p.1, .int p.2]
  | _, [] => rfl
  | n, p :: r => by
    have ih := selP_enum a b (n + 1) r
    simp only [List.map_cons, enumD, List.flatten_cons]
    rw [ih]
    by_cases h : n = a ∨ n = b
    · rw [if_pos (by omega), show selP a b n (p :: r) = selP a b (n + 1) r by rw [selP, if_pos h]]; rfl
    · rw [if_neg (by omega), show selP a b n (p :: r) = p :: selP a b (n + 1) r by rw [selP, if_neg h]]; rfl
theorem enumD_mem : ∀ (n : Nat) (ds : List D) (d : D), d ∈ enumD n ds → ∃ (m : Nat) (x : D), x ∈ ds ∧ d = .tup [.int m, x]
  | _, [], _, h => by simp [enumD] at h
  | n, y :: r, d, h => by
    simp only [enumD, List.mem_cons] at h
    rcases h with rfl | h
    · exact ⟨n, y, List.mem_cons_self, rfl⟩
    · obtain ⟨m, x, hx, e⟩ := enumD_mem (n + 1) r d h
      exact ⟨m, x, List.mem_cons_of_mem _ hx, e⟩
theorem enumD_len : ∀ (n : Nat) (ds : List D), (enumD n ds).length = ds.length
  | _, [] => rfl
  | n, _ :: r => by simp [enumD, enumD_len (n + 1) r]

section
variable {F : Fn} {mu : Nat → Bool}

theorem l_rest_ev {P : List (Int × Int)} {a b : Nat} {σ : Sg} {bw : Bool} (hn : P.length ≤ 1000) (h4 : σ 4 = some (DP P)) (h11 : σ 11 = some (.int (a : Int))) (h14 : σ 14 = some (.int (b : Int))) : ev l_own F bw l_rest σ = some (DP (selP a b 0 P)) := by
  unfold l_rest ev
  have hv : (Pat.vars (.tup (.cons (.v 10) (.cons (.v 18) .nil))) ++ GL.vars .nil) = [10, 18] := rfl
  have es : evSr l_own F (.enum (.v 4)) σ = some (enumD 0 (P.map fun p => D.tup [.int p.1, .int p.2])) := by
    unfold evSr
    rw [ev_v h4 rfl]; rfl
  simp only [hv]
  rw [if_neg (by decide), es, Option.bind_some]
  rw [flatM_some (g := fun d => match d with | .tup [.int n, x] => if n = (a : Int) ∨ n = (b : Int) then [] else [x] | _ => []) fun d hd => ?_]
  · rw [selP_enum, Option.bind_some]
    have hl := (selP_sub a b 0 P).length_le
    rw [if_pos (by simp [LB]; omega)]
    rfl
  · obtain ⟨m, x, _, rfl⟩ := enumD_mem _ _ _ hd
    have hb : bindP l_own (.tup (.cons (.v 10) (.cons (.v 18) .nil))) (.tup [.int (m : Int), x]) (unb [10, 18] σ) = some (upd (upd (unb [10, 18] σ) 10 (.int (m : Int))) 18 x) := rfl
    rw [hb, Option.bind_some]
    generalize hσ : upd (upd (unb [10, 18] σ) 10 (.int (m : Int))) 18 x = σ1
    have k10 : σ1 10 = some (.int (m : Int)) := by rw [← hσ]; simp [upd]
    have k18 : σ1 18 = some x := by rw [← hσ]; simp [upd]
    have k11 : σ1 11 = some (.int (a : Int)) := by rw [← hσ]; simp [upd, unb, h11]
    have k14 : σ1 14 = some (.int (b : Int)) := by rw [← hσ]; simp [upd, unb, h14]
    have c : ev l_own F false (.cmp .nin (.v 10) (.tup (.cons (.v 11) (.cons (.v 14) .nil)))) σ1 = some (.bool (!((a : Int) == m || ((b : Int) == m || false)))) :=
      ev_cmp (ev_vb k10) (ev_tup2 (ev_v k11 rfl) (ev_v k14 rfl)) rfl
    unfold evC
    rw [c]
    simp only [Option.bind_some, boolD]
    by_cases h : (m : Int) = (a : Int) ∨ (m : Int) = (b : Int)
    · have : (!((a : Int) == m || ((b : Int) == m || false))) = false := by
        rcases h with h | h <;> simp [h]
      rw [this, if_neg (by decide), Option.bind_some, if_neg (by decide), if_pos h]
    · have : (!((a : Int) == m || ((b : Int) == m || false))) = true := by
        rw [not_or] at h
        have h1 : ((a : Int) == m) = false := beq_eq_false_iff_ne.mpr fun z => h.1 z.symm
        have h2 : ((b : Int) == m) = false := beq_eq_false_iff_ne.mpr fun z => h.2 z.symm
        rw [h1, h2]; rfl
      rw [this, if_pos rfl]
      unfold evC
      rw [Option.bind_some, if_pos rfl, if_neg h]
      unfold evG
      show (ev l_own F false (.v 18) σ1).bind _ = _
      rw [ev_v k18 rfl]; rfl

theorem deed_0 {k : Nat} {P : List (Int × Int)} {h c p : Int} {place : Nat} {σ : Sg} (I : LI k P h) (h4 : σ 4 = some (DP P)) (h6 : σ 6 = some (.int p)) (h7 : σ 7 = some (.int h)) (h8 : σ 8 = some (.int c)) (h12 : σ 12 = some (.int 1)) (hp : p % 7 = 0) :
    ∃ σ', evSL l_own F mu l_0 σ = some (.nxt σ') ∧ Deed k P h p place σ σ' := by
  unfold l_0
  rw [evSL_nxt (e_aug rfl h7 (ev_op ev_k (pick_ev h6 (by decide) (by decide) (by decide)) rfl))]
  have i1 := I.h1
  have i2 := I.h2
  refine ⟨_, rfl, ⟨⟨P, h + (1 + p / 7 % 3), c, 1, by simp [upd, h4], by simp [upd], by simp [upd, h8], by simp [upd, h12], I.same (by omega) (by omega), by omega, by omega, fun z => by omega⟩, fun j a b c d e f => by simp [upd, b]⟩⟩
theorem deed_1 {k : Nat} {P : List (Int × Int)} {h c p : Int} {place : Nat} {σ : Sg} (I : LI k P h) (h4 : σ 4 = some (DP P)) (h6 : σ 6 = some (.int p)) (h7 : σ 7 = some (.int h)) (h8 : σ 8 = some (.int c)) (h12 : σ 12 = some (.int 1)) (hp : p % 7 = 1) :
    ∃ σ', evSL l_own F mu l_1 σ = some (.nxt σ') ∧ Deed k P h p place σ σ' := by
  unfold l_1
  have e : ev l_own F false (.bi .max2 (.cons (.k (.int 1)) (.cons (.op .sub (.op .sub (.v 7) (.k (.int 1))) (.op .mod (.op .fdiv (.v 6) (.k (.int 7))) (.k (.int 3)))) .nil))) σ = some (.int (if h - 1 - p / 7 % 3 > 1 then h - 1 - p / 7 % 3 else 1)) :=
    ev_bi2 ev_k (ev_op (ev_op (ev_v h7 rfl) ev_k rfl) (pick_ev h6 (by decide) (by decide) (by decide)) rfl) rfl
  rw [evSL_nxt (e_asg e rfl)]
  have i1 := I.h1
  have i2 := I.h2
  refine ⟨_, rfl, ⟨⟨P, _, c, 1, by simp [upd, h4], upd_same _ _ _, by simp [upd, h8], by simp [upd, h12], I.same (by split <;> omega) (by split <;> omega), by omega, by omega, fun z => by omega⟩, fun j a b c d e f => by simp [upd, b]⟩⟩
theorem deed_2 {k : Nat} {P : List (Int × Int)} {h c p : Int} {place : Nat} {σ : Sg} (I : LI k P h) (hk : k ≤ 6) (hpl : place < P.length) (h4 : σ 4 = some (DP P)) (h6 : σ 6 = some (.int p)) (h7 : σ 7 = some (.int h)) (h8 : σ 8 = some (.int c)) (h11 : σ 11 = some (.int (place : Int))) (h12 : σ 12 = some (.int 1)) :
    ∃ σ', evSL l_own F mu l_2 σ = some (.nxt σ') ∧ Deed k P h p place σ σ' := by
  unfold l_2
  have n := I.n
  have e : ev l_own F false (.op .add (.op .add (.sl (.v 4) .none (.some (.v 11))) (l_one (l_two (.idx (.idx (.v 4) (.v 11)) (.k (.int 0))) l_new))) (.sl (.v 4) (.some (.op .add (.v 11) (.k (.int 1)))) .none)) σ = some (DP (P.take place ++ [((P.getD place (0, 0)).1, 1 + p / 35 % 10 ^ 6)] ++ P.drop (place + 1))) := by
    refine ev_op (ev_op (ev_slTo h4 h11 rfl rfl (by omega)) (ev_one (ev_tup2 (ev_idx (ev_idx (ev_vb h4) (ev_v h11 rfl) (idx_DP hpl)) ev_k idx_t20) (new_ev h6))) (op_addDP (Q := [((P.getD place (0, 0)).1, 1 + p / 35 % 10 ^ 6)]) (by simp; omega))) (ev_slFrom (n := place + 1) h4 (ev_op (ev_v h11 rfl) ev_k rfl) rfl (by omega)) (op_addDP (by simp; omega))
  rw [evSL_nxt (e_asg e rfl)]
  have eq : P.take place ++ [((P.getD place (0, 0)).1, 1 + p / 35 % 10 ^ 6)] ++ P.drop (place + 1) = P.set place ((P.getD place (0, 0)).1, 1 + p / 35 % 10 ^ 6) := by
    rw [List.set_eq_take_append_cons_drop, if_pos hpl]; simp
  rw [eq]
  have vs : vts (P.set place ((P.getD place (0, 0)).1, 1 + p / 35 % 10 ^ 6)) = (vts P).set place (1 + p / 35 % 10 ^ 6) := by unfold vts; rw [List.map_set]
  have lv : place < (vts P).length := by simpa using hpl
  refine ⟨_, rfl, ⟨⟨_, h, c, 1, upd_same _ _ _, by simp [upd, h7], by simp [upd, h8], by simp [upd, h12], I.to (by simp; exact I.n2) (by simp) (fun v hv => ?_) ?_, by omega, by omega, fun _ => ⟨rfl, by simp, fun i hi ne => ?_⟩⟩, fun j a b c d e f => by simp [upd, a]⟩⟩
  · rw [vs] at hv
    rcases List.mem_or_eq_of_mem_set hv with m | m
    · exact I.lo v m
    · omega
  · rw [vs, sum_set lv]
    have := I.lo _ (getD_mem lv)
    have := sum_nonneg (l := vts P) fun v m => by have := I.lo v m; omega
    omega
  · rw [vs]
    simp [List.getD_eq_getElem?_getD, List.getElem?_set, Ne.symm ne]
theorem deed_3 {k : Nat} {P : List (Int × Int)} {h c p : Int} {place : Nat} {σ : Sg} (I : LI k P h) (hk : k ≤ 6) (h4 : σ 4 = some (DP P)) (h6 : σ 6 = some (.int p)) (h7 : σ 7 = some (.int h)) (h8 : σ 8 = some (.int c)) (h12 : σ 12 = some (.int 1)) (hp : p % 7 = 3) :
    ∃ σ', evSL l_own F mu l_3 σ = some (.nxt σ') ∧ Deed k P h p place σ σ' := by
  unfold l_3
  have n := I.n
  have e : ev l_own F false (.op .add (.v 4) (l_one (l_two (.v 8) l_new))) σ = some (DP (P ++ [(c, 1 + p / 35 % 10 ^ 6)])) :=
    ev_op (ev_v h4 rfl) (ev_one (ev_tup2 (ev_v h8 rfl) (new_ev h6))) (op_addDP (Q := [(c, 1 + p / 35 % 10 ^ 6)]) (by simp; omega))
  rw [evSL_nxt (e_own2 rfl rfl e (ev_op (ev_v h8 rfl) ev_k rfl))]
  have s0 := sum_nonneg (l := vts P) fun v m => by have := I.lo v m; omega
  refine ⟨_, rfl, ⟨⟨P ++ [(c, 1 + p / 35 % 10 ^ 6)], h, c + 1, 1, by simp [upd], by simp [upd, h7], by simp [upd, K.d], by simp [upd, h12], I.to (by simp; have := I.n2; omega) (by simp) (fun v hv => ?_) ?_, by omega, by omega, fun z => by omega⟩, fun j a b c d e f => by simp [upd, a, c]⟩⟩
  · unfold vts at hv
    rw [List.map_append] at hv
    rcases List.mem_append.mp hv with m | m
    · exact I.lo v m
    · simp at m; omega
  · unfold vts at s0 ⊢
    rw [List.map_append, List.sum_append]
    simp only [List.map_cons, List.map_nil, List.sum_cons, List.sum_nil]
    omega
theorem deed_4 {k : Nat} {P : List (Int × Int)} {h c p : Int} {place : Nat} {σ : Sg} (I : LI k P h) (hk : k ≤ 6) (hpl : place < P.length) (h3 : 2 < P.length) (h4 : σ 4 = some (DP P)) (h7 : σ 7 = some (.int h)) (h8 : σ 8 = some (.int c)) (h11 : σ 11 = some (.int (place : Int))) (h12 : σ 12 = some (.int 1)) (hp : p % 7 = 4) :
    ∃ σ', evSL l_own F mu l_4 σ = some (.nxt σ') ∧ Deed k P h p place σ σ' := by
  unfold l_4
  have n := I.n
  have e : ev l_own F false (.op .add (.sl (.v 4) .none (.some (.v 11))) (.sl (.v 4) (.some (.op .add (.v 11) (.k (.int 1)))) .none)) σ = some (DP (P.take place ++ P.drop (place + 1))) :=
    ev_op (ev_slTo h4 h11 rfl rfl (by omega)) (ev_slFrom (n := place + 1) h4 (ev_op (ev_v h11 rfl) ev_k rfl) rfl (by omega)) (op_addDP (by simp; omega))
  rw [evSL_nxt (e_asg e rfl)]
  have nn : ∀ v ∈ vts P, 0 ≤ v := fun v m => by have := I.lo v m; omega
  have sub : (P.take place ++ P.drop (place + 1)).Sublist P := by
    rw [← List.eraseIdx_eq_take_drop_succ]; exact List.eraseIdx_sublist _ _
  have s0 := sum_nonneg nn
  have s1 : (vts (P.take place ++ P.drop (place + 1))).sum ≤ (vts P).sum := sub_sum (sub.map (·.2)) nn
  refine ⟨_, rfl, ⟨⟨_, h, c, 1, upd_same _ _ _, by simp [upd, h7], by simp [upd, h8], by simp [upd, h12], I.to (by simp; omega) (by have := sub.length_le; omega) (fun v hv => I.lo v ((sub.map (·.2)).subset hv)) (by omega), by omega, by omega, fun z => by omega⟩, fun j a b c d e f => by simp [upd, a]⟩⟩
theorem deed_5 {k : Nat} {P : List (Int × Int)} {h c p : Int} {place : Nat} {σ : Sg} (I : LI k P h) (hk : k ≤ 6) (hpl : place < P.length) (h3 : 2 < P.length) (h4 : σ 4 = some (DP P)) (h7 : σ 7 = some (.int h)) (h8 : σ 8 = some (.int c)) (h11 : σ 11 = some (.int (place : Int))) (h12 : σ 12 = some (.int 1)) (hp : p % 7 = 5) :
    ∃ σ', evSL l_own F mu l_5 σ = some (.nxt σ') ∧ Deed k P h p place σ σ' := by
  unfold l_5
  have n := I.n
  obtain ⟨ot, hot, eot⟩ : ∃ ot : Nat, ot < P.length ∧ ((place : Int) + 1) % (P.length : Int) = (ot : Int) := ⟨(((place : Int) + 1) % (P.length : Int)).toNat, by
    have := Int.emod_nonneg ((place : Int) + 1) (show (P.length : Int) ≠ 0 by omega)
    have := Int.emod_lt_of_pos ((place : Int) + 1) (show (0 : Int) < (P.length : Int) by omega)
    omega, by
    have := Int.emod_nonneg ((place : Int) + 1) (show (P.length : Int) ≠ 0 by omega)
    omega⟩
  have el : ∀ {σ : Sg} {bw}, σ 4 = some (DP P) → ev l_own F bw (.bi .len (.cons (.v 4) .nil)) σ = some (.int P.length) := fun {σ bw} h4 => ev_bi1 (ev_vb h4) (by simp [DP, biD, seqD])
  have e1 : ev l_own F false (.op .mod (.op .add (.v 11) (.k (.int 1))) (.bi .len (.cons (.v 4) .nil))) σ = some (.int (ot : Int)) := by
    rw [← eot]
    exact ev_op (ev_op (ev_v h11 rfl) ev_k rfl) (el h4) (op_mod (by omega))
  rw [evSL_nxt (e_asg e1 rfl)]
  generalize hσ : upd σ 14 (.int (ot : Int)) = σ1
  have sj : ∀ j, j ≠ 14 → σ1 j = σ j := fun j hj => by rw [← hσ]; simp [upd, hj]
  have k4 : σ1 4 = some (DP P) := by rw [sj 4 (by decide), h4]
  have k8 : σ1 8 = some (.int c) := by rw [sj 8 (by decide), h8]
  have k11 : σ1 11 = some (.int (place : Int)) := by rw [sj 11 (by decide), h11]
  have k14 : σ1 14 = some (.int (ot : Int)) := by rw [← hσ]; simp [upd]
  have e2 : ev l_own F false (l_two (.v 8) (.op .add (.idx (.idx (.v 4) (.v 11)) (.k (.int 1))) (.idx (.idx (.v 4) (.v 14)) (.k (.int 1))))) σ1 = some (.tup [.int c, .int ((P.getD place (0, 0)).2 + (P.getD ot (0, 0)).2)]) :=
    ev_tup2 (ev_v k8 rfl) (ev_op (ev_idx (ev_idx (ev_vb k4) (ev_v k11 rfl) (idx_DP hpl)) ev_k idx_t21) (ev_idx (ev_idx (ev_vb k4) (ev_v k14 rfl) (idx_DP hot)) ev_k idx_t21) rfl)
  rw [evSL_nxt (e_asg e2 rfl)]
  generalize hσ2 : upd σ1 15 (.tup [.int c, .int ((P.getD place (0, 0)).2 + (P.getD ot (0, 0)).2)]) = σ2
  have tj : ∀ j, j ≠ 15 → σ2 j = σ1 j := fun j hj => by rw [← hσ2]; simp [upd, hj]
  have hl := (selP_sub place ot 0 P).length_le
  have e3 : ev l_own F false (.op .add l_rest (l_one (.v 15))) σ2 = some (DP (selP place ot 0 P ++ [(c, (P.getD place (0, 0)).2 + (P.getD ot (0, 0)).2)])) :=
    ev_op (l_rest_ev (by omega) (by rw [tj 4 (by decide)]; exact k4) (by rw [tj 11 (by decide)]; exact k11) (by rw [tj 14 (by decide)]; exact k14)) (ev_one (ev_v (by rw [← hσ2]; exact upd_same _ _ _) rfl)) (op_addDP (Q := [(c, (P.getD place (0, 0)).2 + (P.getD ot (0, 0)).2)]) (by simp; omega))
  have b8 : σ2 8 = some (.int c) := by rw [tj 8 (by decide), k8]
  rw [evSL_nxt (e_own2 rfl rfl e3 (ev_op (ev_v b8 rfl) ev_k rfl))]
  have nn : ∀ v ∈ vts P, 0 ≤ v := fun v m => by have := I.lo v m; omega
  have s0 := sum_nonneg nn
  have s1 := sub_sum ((selP_sub place ot 0 P).map (·.2)) nn
  have ll := selP_len place ot 0 P
  have v1 := I.lo _ (getD_mem (show place < (vts P).length by simpa using hpl))
  have v2 := I.lo _ (getD_mem (show ot < (vts P).length by simpa using hot))
  have w1 := le_sum nn _ (getD_mem (show place < (vts P).length by simpa using hpl))
  have w2 := le_sum nn _ (getD_mem (show ot < (vts P).length by simpa using hot))
  rw [vts_get] at v1 v2 w1 w2
  refine ⟨_, rfl, ⟨⟨selP place ot 0 P ++ [(c, (P.getD place (0, 0)).2 + (P.getD ot (0, 0)).2)], h, c + 1, 1, by simp [upd], ?_, by simp [upd, K.d], ?_, I.to (by simp; split at ll <;> split at ll <;> omega) (by simp; omega) (fun v hv => ?_) ?_, by omega, by omega, fun z => by omega⟩, fun j a b c d e f => by simp [upd, a, c, tj j f, sj j e]⟩⟩
  · simp [upd]; rw [tj 7 (by decide), sj 7 (by decide), h7]
  · simp [upd]; rw [tj 12 (by decide), sj 12 (by decide), h12]
  · unfold vts at hv
    rw [List.map_append] at hv
    rcases List.mem_append.mp hv with m | m
    · exact I.lo v (((selP_sub place ot 0 P).map (·.2)).subset m)
    · simp only [List.map_cons, List.map_nil, List.mem_singleton] at m; omega
  · unfold vts at s0 s1 w1 w2 ⊢
    rw [List.map_append, List.sum_append]
    simp only [List.map_cons, List.map_nil, List.sum_cons, List.sum_nil]
    omega
theorem sum_mul_left (t : Int) (l : List Int) : (l.map fun x => t * x).sum = t * l.sum := by
  induction l with
  | nil => simp
  | cons x r ih => simp only [List.map_cons, List.sum_cons, ih, Int.mul_add]
theorem deed_6 {k : Nat} {P : List (Int × Int)} {h c p : Int} {place : Nat} {σ : Sg} (I : LI k P h) (hk : k ≤ 6) (h4 : σ 4 = some (DP P)) (h6 : σ 6 = some (.int p)) (h7 : σ 7 = some (.int h)) (h8 : σ 8 = some (.int c)) (hp : p % 7 = 6) :
    ∃ σ', evSL l_own F mu l_6 σ = some (.nxt σ') ∧ Deed k P h p place σ σ' := by
  unfold l_6
  have n := I.n
  obtain ⟨t, ht⟩ : ∃ t, t = 2 + p / 7 % 9 := ⟨_, rfl⟩
  have t1 : 2 ≤ t := by omega
  have t2 : t ≤ 10 := by omega
  have e0 : ev l_own F false (.op .add (.k (.int 2)) (.op .mod (.op .fdiv (.v 6) (.k (.int 7))) (.k (.int 9)))) σ = some (.int t) := by
    rw [ht]
    exact ev_op ev_k (pick_ev h6 (by decide) (by decide) (by decide)) rfl
  rw [evSL_nxt (e_asg e0 rfl)]
  have e : ev l_own F false (.comp (l_two (.v 16) (.op .mul (.v 12) (.v 17))) (.cons (.tup (.cons (.v 16) (.cons (.v 17) .nil))) (.t (.v 4)) .nil .nil)) (upd σ 12 (.int t)) = some (DP (P.map fun p => (p.1, t * p.2))) := by
    unfold ev
    have hv : (Pat.vars (.tup (.cons (.v 16) (.cons (.v 17) .nil))) ++ GL.vars .nil) = [16, 17] := rfl
    simp only [hv]
    rw [if_neg (by decide), sr_v (show upd σ 12 (.int t) 4 = some (.list (P.map fun p => D.tup [.int p.1, .int p.2])) by simp [upd, h4, DP]) rfl, Option.bind_some]
    rw [flatM_some (g := fun d => match d with | .tup [a, .int x] => [.tup [a, .int (t * x)]] | _ => []) fun d hd => ?_]
    · have e1 : ((P.map fun p => D.tup [.int p.1, .int p.2]).map fun d => match d with | .tup [a, .int x] => [D.tup [a, .int (t * x)]] | _ => []).flatten = (P.map fun p => (p.1, t * p.2)).map fun p => D.tup [.int p.1, .int p.2] := by
        rw [List.map_map, List.map_map]
        clear I n h4
        induction P with
        | nil => rfl
        | cons p r ih => rw [List.map_cons, List.flatten_cons, ih]; rfl
      rw [e1, Option.bind_some, if_pos (by simp [LB]; omega)]
      rfl
    · obtain ⟨q, _, rfl⟩ := List.mem_map.mp hd
      have hb : bindP l_own (.tup (.cons (.v 16) (.cons (.v 17) .nil))) (.tup [.int q.1, .int q.2]) (unb [16, 17] (upd σ 12 (.int t))) = some (upd (upd (unb [16, 17] (upd σ 12 (.int t))) 16 (.int q.1)) 17 (.int q.2)) := rfl
      rw [hb, Option.bind_some]
      unfold evC
      rw [Option.bind_some, if_pos rfl]
      unfold evG
      show (ev l_own F false (l_two (.v 16) (.op .mul (.v 12) (.v 17))) _).bind _ = _
      unfold l_two
      rw [ev_tup2 (x := .int q.1) (y := .int (t * q.2)) (ev_v (by simp [upd]) rfl) (ev_op (x := .int t) (y := .int q.2) (ev_v (by simp [upd, unb]) rfl) (ev_v (by simp [upd]) rfl) (op_mul (.inl (small_of (by omega) (by omega)))))]
      rfl
  rw [evSL_nxt (e_asg e rfl)]
  have nn : ∀ v ∈ vts P, 0 ≤ v := fun v m => by have := I.lo v m; omega
  have s0 := sum_nonneg nn
  have vs : vts (P.map fun p => (p.1, t * p.2)) = (vts P).map fun x => t * x := by unfold vts; rw [List.map_map, List.map_map]; rfl
  refine ⟨_, rfl, ⟨⟨_, h, c, t, upd_same _ _ _, by simp [upd, h7], by simp [upd, h8], by simp [upd], I.to (by simp; exact I.n2) (by simp) (fun v hv => ?_) ?_, by omega, by omega, fun z => by omega⟩, fun j a b c d e f => by simp [upd, a, d]⟩⟩
  · rw [vs] at hv
    obtain ⟨x, hx, rfl⟩ := List.mem_map.mp hv
    have := I.lo x hx
    have : 1 * 1 ≤ t * x := Int.mul_le_mul (by omega) this (by decide) (by omega)
    omega
  · rw [vs, sum_mul_left]
    have := Int.mul_le_mul_of_nonneg_right t2 s0
    omega

theorem deed_ev {k : Nat} {P : List (Int × Int)} {h c p : Int} {place : Nat} {σ : Sg} (I : LI k P h) (hk : k ≤ 6) (hpl : place < P.length) (h4 : σ 4 = some (DP P)) (h6 : σ 6 = some (.int p)) (h7 : σ 7 = some (.int h)) (h8 : σ 8 = some (.int c)) (h11 : σ 11 = some (.int (place : Int))) (h12 : σ 12 = some (.int 1)) :
    ∃ σ', evS l_own F mu l_deed σ = some (.nxt σ') ∧ Deed k P h p place σ σ' := by
  have one : ∀ {s : TS} {σ' : Sg}, evS l_own F mu s σ = some (.nxt σ') → evSL l_own F mu (.cons s .nil) σ = some (.nxt σ') := fun {s σ'} e => by rw [evSL_nxt e]; rfl
  have t : ∀ {n : Int}, p % 7 = n → ∀ {bw}, ev l_own F bw (l_is n) σ = some (.bool true) := fun {n} e {bw} => by rw [is_ev n h6, beq_iff_eq.mpr e]
  have f : ∀ {n : Int}, p % 7 ≠ n → ∀ {bw}, ev l_own F bw (l_is n) σ = some (.bool false) := fun {n} e {bw} => by rw [is_ev n h6, beq_eq_false_iff_ne.mpr e]
  have af : ∀ {n : Int}, p % 7 ≠ n → ev l_own F false (.bop true (.cons (l_is n) (.cons l_more .nil))) σ = some (.bool (false && false)) := fun {n} e => band (f e) fun z => by cases z
  have at_ : ∀ {n : Int}, p % 7 = n → ev l_own F false (.bop true (.cons (l_is n) (.cons l_more .nil))) σ = some (.bool (true && decide (2 < (P.length : Int)))) := fun {n} e => band (t e) fun _ => more_ev h4
  have stay : p % 7 ≠ 2 → Deed k P h p place σ σ := fun ne => ⟨⟨P, h, c, 1, h4, h7, h8, h12, I.same I.h1 (by have := I.h2; omega), by omega, by omega, fun z => absurd z ne⟩, fun _ _ _ _ _ _ _ => rfl⟩
  have cases7 : p % 7 = 0 ∨ p % 7 = 1 ∨ p % 7 = 2 ∨ p % 7 = 3 ∨ p % 7 = 4 ∨ p % 7 = 5 ∨ p % 7 = 6 := by omega
  unfold l_deed
  rcases cases7 with q | q | q | q | q | q | q
  · obtain ⟨σ', e, d⟩ := deed_0 (F := F) (mu := mu) (place := place) I h4 h6 h7 h8 h12 q
    exact ⟨σ', by rw [e_ite_t (t q)]; exact e, d⟩
  · obtain ⟨σ', e, d⟩ := deed_1 (F := F) (mu := mu) (place := place) I h4 h6 h7 h8 h12 q
    exact ⟨σ', by rw [e_ite_f (f (by omega))]; refine one ?_; rw [e_ite_t (t q)]; exact e, d⟩
  · obtain ⟨σ', e, d⟩ := deed_2 (F := F) (mu := mu) (place := place) I hk hpl h4 h6 h7 h8 h11 h12
    exact ⟨σ', by rw [e_ite_f (f (by omega))]; refine one ?_; rw [e_ite_f (f (by omega))]; refine one ?_; rw [e_ite_t (t q)]; exact e, d⟩
  · obtain ⟨σ', e, d⟩ := deed_3 (F := F) (mu := mu) (place := place) I hk h4 h6 h7 h8 h12 q
    exact ⟨σ', by rw [e_ite_f (f (by omega))]; refine one ?_; rw [e_ite_f (f (by omega))]; refine one ?_; rw [e_ite_f (f (by omega))]; refine one ?_; rw [e_ite_t (t q)]; exact e, d⟩
  · by_cases h3 : 2 < P.length
    · obtain ⟨σ', e, d⟩ := deed_4 (F := F) (mu := mu) (place := place) I hk hpl h3 h4 h7 h8 h11 h12 q
      have c4 := at_ q
      rw [decide_eq_true (by omega)] at c4
      exact ⟨σ', by rw [e_ite_f (f (by omega))]; refine one ?_; rw [e_ite_f (f (by omega))]; refine one ?_; rw [e_ite_f (f (by omega))]; refine one ?_; rw [e_ite_f (f (by omega))]; refine one ?_; rw [e_ite_t c4]; exact e, d⟩
    · have c4 := at_ q
      rw [decide_eq_false (by omega)] at c4
      refine ⟨σ, ?_, stay (by omega)⟩
      rw [e_ite_f (f (by omega))]; refine one ?_; rw [e_ite_f (f (by omega))]; refine one ?_; rw [e_ite_f (f (by omega))]; refine one ?_; rw [e_ite_f (f (by omega))]; refine one ?_; rw [e_ite_f c4]; refine one ?_
      rw [e_ite_f (af (by omega))]; refine one ?_; rw [e_ite_f (f (by omega))]; rfl
  · by_cases h3 : 2 < P.length
    · obtain ⟨σ', e, d⟩ := deed_5 (F := F) (mu := mu) (place := place) I hk hpl h3 h4 h7 h8 h11 h12 q
      have c4 := at_ q
      rw [decide_eq_true (by omega)] at c4
      exact ⟨σ', by rw [e_ite_f (f (by omega))]; refine one ?_; rw [e_ite_f (f (by omega))]; refine one ?_; rw [e_ite_f (f (by omega))]; refine one ?_; rw [e_ite_f (f (by omega))]; refine one ?_; rw [e_ite_f (af (by omega))]; refine one ?_; rw [e_ite_t c4]; exact e, d⟩
    · have c4 := at_ q
      rw [decide_eq_false (by omega)] at c4
      refine ⟨σ, ?_, stay (by omega)⟩
      rw [e_ite_f (f (by omega))]; refine one ?_; rw [e_ite_f (f (by omega))]; refine one ?_; rw [e_ite_f (f (by omega))]; refine one ?_; rw [e_ite_f (f (by omega))]; refine one ?_; rw [e_ite_f (af (by omega))]; refine one ?_
      rw [e_ite_f c4]; refine one ?_; rw [e_ite_f (f (by omega))]; rfl
  · obtain ⟨σ', e, d⟩ := deed_6 (F := F) (mu := mu) (place := place) I hk h4 h6 h7 h8 q
    refine ⟨σ', ?_, d⟩
    rw [e_ite_f (f (by omega))]; refine one ?_; rw [e_ite_f (f (by omega))]; refine one ?_; rw [e_ite_f (f (by omega))]; refine one ?_; rw [e_ite_f (f (by omega))]; refine one ?_; rw [e_ite_f (af (by omega))]; refine one ?_
    rw [e_ite_f (af (by omega))]; refine one ?_; rw [e_ite_t (t q)]; exact e
end
end Mine
end

section
open PySem PySem.W PyProof.Rows
set_option maxRecDepth 100000
namespace Mine

/-! ## Q9. Law 01, whole -/
def l_third (x : Nat) : T := (.idx (.v x) (.k (.int 2)))
def l_wrong (x : Nat) : T := (.bop true (.cons (.isn false (l_third x)) (.cons (.bop false (.cons (.cmp .ne (.bi .len (.cons (l_third x) .nil)) (.bi .len (.cons (.v 4) .nil))) (.cons (.cmp .ne (.bi .sum (.cons (l_third x) .nil)) (.v 7)) .nil))) .nil)))
def l_elec : T := (.tup (.cons (.v 4) (.cons (.v 7) (.cons (.call 6 (.cons (.v 3) (.cons (.v 4) (.cons (.v 7) .nil)))) .nil))))
def l_told : T := (.bop true (.cons (.isn false (l_third 5)) (.cons (.isn false (l_third 9)) (.cons (l_is 2) .nil))))
def l_grew : T := (.op .sub (.idx (.idx (.v 4) (.v 11)) (.k (.int 1))) (.idx (.idx (.idx (.v 5) (.k (.int 0))) (.v 11)) (.k (.int 1))))
def l_back : T := (.cmp .lt (.op .mul (.op .sub (.idx (l_third 9) (.v 11)) (.idx (l_third 5) (.v 11))) (.v 13)) (.k (.int 0)))
def l_loop : SL := (.cons (.ownN [11, 12] (.cons (.op .mod (.op .fdiv (.v 6) (.k (.int 7))) (.bi .len (.cons (.v 4) .nil))) (.cons (.k (.int 1)) .nil))) (.cons l_deed (.cons (.asg (.v 9) l_elec) (.cons (.ite (l_wrong 9) (.cons (.ret (.k .fls)) .nil) .nil) (.cons (.ite (.not (.call 7 (.cons (.v 5) (.cons (.v 9) (.cons (.v 12) .nil))))) (.cons (.ret (.k .fls)) .nil) .nil) (.cons (.ite l_told (.cons (.asg (.v 13) l_grew) (.cons (.ite l_back (.cons (.ret (.k .fls)) .nil) .nil) .nil)) .nil) (.cons (.asg (.v 5) (.v 9)) .nil)))))))

/-- what the law asks of the functions it calls -/
structure Told1 (F : Fn) (m : PySem.Str) : Prop where
  c6 : ∀ (P : List (Int × Int)) (h : Int), VOk' (vts P) → P.length ≤ 20 → 1 ≤ h → h ≤ 1000 → F 6 [.str m, DP P, .int h] = some (.ok (DSo (hso (vts P) h)))
  c7 : ∀ (P Q : List (Int × Int)) (h h' t : Int) (so so' : Option (List Int)), Elec P h so → Elec Q h' so' → 1 ≤ t → t ≤ 100 → F 7 [DE P h so, DE Q h' so', .int t] = some (.ok (.bool true))

section
variable {F : Fn} {mu : Nat → Bool}

theorem idx_t2 {P : List (Int × Int)} {h : Int} {so : Option (List Int)} : idxD (DE P h so) (.int 2) = some (DSo so) := by simp [idxD, DE, seqD, intD, place]
theorem idx_t0 {P : List (Int × Int)} {h : Int} {so : Option (List Int)} : idxD (DE P h so) (.int 0) = some (DP P) := by simp [idxD, DE, seqD, intD, place]
theorem third_ev {σ : Sg} {x : Nat} {P : List (Int × Int)} {h : Int} {so : Option (List Int)} (hx : σ x = some (DE P h so)) {bw : Bool} : ev l_own F bw (l_third x) σ = some (DSo so) := ev_idx (ev_vb hx) ev_k idx_t2
theorem isn_ev {σ : Sg} {x : Nat} {P : List (Int × Int)} {h : Int} {so : Option (List Int)} (hx : σ x = some (DE P h so)) {bw : Bool} : ev l_own F bw (.isn false (l_third x)) σ = some (.bool so.isSome) := by
  unfold ev
  rw [third_ev hx]
  cases so <;> rfl
theorem band3 {own : Nat → Bool} {a b c : T} {σ : Sg} {x y z : Bool} {bw : Bool} (ha : ev own F false a σ = some (.bool x)) (hb : ev own F false b σ = some (.bool y)) (hc : ev own F false c σ = some (.bool z)) : ev own F bw (.bop true (.cons a (.cons b (.cons c .nil)))) σ = some (.bool (x && y && z)) := by
  unfold ev evBop
  rw [ha]
  cases x with
  | false => rfl
  | true =>
    simp only [Option.bind_some, boolD, beq_self_eq_true, if_true]
    unfold evBop
    rw [hb]
    cases y with
    | false => rfl
    | true =>
      simp only [Option.bind_some, boolD, beq_self_eq_true, if_true]
      unfold evBop
      rw [hc]; rfl
theorem call_ev {own : Nat → Bool} {σ : Sg} {f : Nat} {l : TL} {ds : List D} {d : D} {bw : Bool} (hl : evL own F false l σ = some ds) (hF : F f ds = some (.ok d)) : ev own F bw (.call f l) σ = some d := by
  unfold ev; rw [hl, Option.bind_some, hF]; rfl
theorem evL_3 {own : Nat → Bool} {σ : Sg} {a b c : T} {x y z : D} {bw : Bool} (ha : ev own F bw a σ = some x) (hb : ev own F bw b σ = some y) (hc : ev own F bw c σ = some z) : evL own F bw (.cons a (.cons b (.cons c .nil))) σ = some [x, y, z] := by
  unfold evL evL evL evL; rw [ha, hb, hc]; rfl

theorem elec_ev {σ : Sg} {m : PySem.Str} {P : List (Int × Int)} {h : Int} {bw : Bool} (T1 : Told1 F m) (h3 : σ 3 = some (.str m)) (h4 : σ 4 = some (DP P)) (h7 : σ 7 = some (.int h)) (hV : VOk' (vts P)) (hn : P.length ≤ 20) (h1 : 1 ≤ h) (h2 : h ≤ 1000) : ev l_own F bw l_elec σ = some (DE P h (hso (vts P) h)) := by
  unfold l_elec ev
  rw [evL_3 (ev_v h4 rfl) (ev_v h7 rfl) (call_ev (evL_3 (ev_v h3 rfl) (ev_v h4 rfl) (ev_v h7 rfl)) (T1.c6 P h hV hn h1 h2))]
  rfl
theorem wrong_ev {σ : Sg} {x : Nat} {P : List (Int × Int)} {h : Int} {so : Option (List Int)} (E : Elec P h so) (hx : σ x = some (DE P h so)) (h4 : σ 4 = some (DP P)) (h7 : σ 7 = some (.int h)) : evS l_own F mu (.ite (l_wrong x) (.cons (.ret (.k .fls)) .nil) .nil) σ = some (.nxt σ) := by
  have c : ev l_own F false (l_wrong x) σ = some (.bool false) := by
    unfold l_wrong
    cases hso : so with
    | none =>
      rw [hso] at hx
      exact band (y := false) (isn_ev hx) fun z => by cases z
    | some S =>
      obtain ⟨d, sp⟩ := E.spec S hso
      rw [hso] at hx
      have e1 : ev l_own F true (.bi .len (.cons (l_third x) .nil)) σ = some (.int P.length) := by
        have := ev_bi1 (F := F) (own := l_own) (bw := true) (third_ev hx) (bi_len S)
        rw [sp.len] at this
        simpa using this
      have e2 : ev l_own F true (.bi .len (.cons (.v 4) .nil)) σ = some (.int P.length) := ev_bi1 (ev_vb h4) (by simp [DP, biD, seqD])
      have e3 : ev l_own F true (.bi .sum (.cons (l_third x) .nil)) σ = some (.int h) := by
        have := ev_bi1 (F := F) (own := l_own) (bw := true) (third_ev hx) (bi_sum S)
        rw [sp.sum] at this
        exact this
      refine band (x := true) (y := false || false) (isn_ev hx) fun _ => bor (ev_cmp e1 e2 ?_) fun _ => ev_cmp e3 (ev_vb h7) ?_
      · show some (!(_ == _)) = _
        rw [beq_self_eq_true]; rfl
      · show some (!(_ == _)) = _
        rw [beq_self_eq_true]; rfl
  rw [e_ite_f c]; rfl

/-- what holds ahead of the k-th deed -/
structure LS (k : Nat) (m : PySem.Str) (σ : Sg) : Prop where
  ex : ∃ P h c, σ 3 = some (.str m) ∧ σ 4 = some (DP P) ∧ σ 7 = some (.int h) ∧ σ 8 = some (.int c) ∧ σ 5 = some (DE P h (hso (vts P) h)) ∧ LI k P h

theorem l_turn_ev {k : Nat} {m : PySem.Str} {p : Int} {σ : Sg} (T1 : Told1 F m) (I : LS k m σ) (hk : k < 6) (h6 : σ 6 = some (.int p)) : ∃ σ', evSL l_own F mu l_loop σ = some (.nxt σ') ∧ LS (k + 1) m σ' := by
  obtain ⟨P, h, c, h3, h4, h7, h8, h5, I⟩ := I.ex
  have n2 := I.n2
  obtain ⟨vok, pn, h2⟩ := I.ok (by omega)
  have h1 := I.h1
  have E := hso_elec (h := h) vok pn h1 h2
  unfold l_loop
  obtain ⟨pl, hpl, epl⟩ : ∃ pl : Nat, pl < P.length ∧ p / 7 % (P.length : Int) = (pl : Int) := ⟨(p / 7 % (P.length : Int)).toNat, by
    have := Int.emod_nonneg (p / 7) (show (P.length : Int) ≠ 0 by omega)
    have := Int.emod_lt_of_pos (p / 7) (show (0 : Int) < (P.length : Int) by omega)
    omega, by
    have := Int.emod_nonneg (p / 7) (show (P.length : Int) ≠ 0 by omega)
    omega⟩
  have e1 : ev l_own F false (.op .mod (.op .fdiv (.v 6) (.k (.int 7))) (.bi .len (.cons (.v 4) .nil))) σ = some (.int (pl : Int)) := by
    rw [← epl]
    exact ev_op (ev_op (ev_v h6 rfl) ev_k (op_fdiv (by decide) (by decide))) (ev_bi1 (ev_vb h4) (z := .int P.length) (by simp [DP, biD, seqD])) (op_mod (by omega))
  rw [evSL_nxt (e_own2 rfl rfl e1 ev_k)]
  generalize hσ : upd (upd σ 11 (.int (pl : Int))) 12 (K.int 1).d = σ1
  have sj : ∀ j, j ≠ 11 → j ≠ 12 → σ1 j = σ j := fun j a b => by rw [← hσ]; simp [upd, a, b]
  have k11 : σ1 11 = some (.int (pl : Int)) := by rw [← hσ]; simp [upd]
  have k12 : σ1 12 = some (.int 1) := by rw [← hσ]; simp [upd, K.d]
  obtain ⟨σ2, e2, Dd⟩ := deed_ev (F := F) (mu := mu) I (by omega) hpl (σ := σ1) (by rw [sj 4 (by decide) (by decide)]; exact h4) (by rw [sj 6 (by decide) (by decide)]; exact h6) (by rw [sj 7 (by decide) (by decide)]; exact h7) (by rw [sj 8 (by decide) (by decide)]; exact h8) k11 k12
  rw [evSL_nxt e2]
  obtain ⟨P', h', c', t, a4, a7, a8, a12, I', t1, t2, told⟩ := Dd.ex
  have fr : ∀ j, j ≠ 4 → j ≠ 7 → j ≠ 8 → j ≠ 11 → j ≠ 12 → j ≠ 14 → j ≠ 15 → σ2 j = σ j := fun j x1 x2 x3 x4 x5 x6 x7 => by rw [Dd.fr j x1 x2 x3 x5 x6 x7, sj j x4 x5]
  have a3 : σ2 3 = some (.str m) := by rw [fr 3 (by decide) (by decide) (by decide) (by decide) (by decide) (by decide) (by decide)]; exact h3
  have a5 : σ2 5 = some (DE P h (hso (vts P) h)) := by rw [fr 5 (by decide) (by decide) (by decide) (by decide) (by decide) (by decide) (by decide)]; exact h5
  have a6 : σ2 6 = some (.int p) := by rw [fr 6 (by decide) (by decide) (by decide) (by decide) (by decide) (by decide) (by decide)]; exact h6
  have a11 : σ2 11 = some (.int (pl : Int)) := by rw [Dd.fr 11 (by decide) (by decide) (by decide) (by decide) (by decide) (by decide)]; exact k11
  obtain ⟨vok', pn', h2'⟩ := I'.ok (by omega)
  have E' := hso_elec (h := h') vok' pn' I'.h1 h2'
  rw [evSL_nxt (e_asg (elec_ev T1 a3 a4 a7 vok' pn' I'.h1 h2') rfl)]
  generalize hso1 : hso (vts P) h = so at E a5
  generalize hso2 : hso (vts P') h' = so' at E'
  generalize hσ3 : upd σ2 9 (DE P' h' so') = σ3
  have tj : ∀ j, j ≠ 9 → σ3 j = σ2 j := fun j a => by rw [← hσ3]; simp [upd, a]
  have b9 : σ3 9 = some (DE P' h' so') := by rw [← hσ3]; exact upd_same _ _ _
  have b3 : σ3 3 = some (.str m) := by rw [tj 3 (by decide)]; exact a3
  have b4 : σ3 4 = some (DP P') := by rw [tj 4 (by decide)]; exact a4
  have b5 : σ3 5 = some (DE P h so) := by rw [tj 5 (by decide)]; exact a5
  have b6 : σ3 6 = some (.int p) := by rw [tj 6 (by decide)]; exact a6
  have b7 : σ3 7 = some (.int h') := by rw [tj 7 (by decide)]; exact a7
  have b8 : σ3 8 = some (.int c') := by rw [tj 8 (by decide)]; exact a8
  have b11 : σ3 11 = some (.int (pl : Int)) := by rw [tj 11 (by decide)]; exact a11
  have b12 : σ3 12 = some (.int t) := by rw [tj 12 (by decide)]; exact a12
  rw [evSL_nxt (wrong_ev E' b9 b4 b7)]
  have c5 : ev l_own F false (.not (.call 7 (.cons (.v 5) (.cons (.v 9) (.cons (.v 12) .nil))))) σ3 = some (.bool false) := ev_not (call_ev (evL_3 (ev_v b5 rfl) (ev_v b9 rfl) (ev_v b12 rfl)) (T1.c7 P P' h h' t so so' E E' t1 t2))
  rw [evSL_nxt (σ' := σ3) (by rw [e_ite_f c5]; rfl)]
  have ct : ev l_own F false l_told σ3 = some (.bool (so.isSome && so'.isSome && (p % 7 == 2))) := band3 (isn_ev b5) (isn_ev b9) (is_ev 2 b6)
  have last : ∃ σ4, evS l_own F mu (.ite l_told (.cons (.asg (.v 13) l_grew) (.cons (.ite l_back (.cons (.ret (.k .fls)) .nil) .nil) .nil)) .nil) σ3 = some (.nxt σ4) ∧ ∀ j, j ≠ 13 → σ4 j = σ3 j := by
    cases q : (so.isSome && so'.isSome && (p % 7 == 2)) with
    | false =>
      rw [q] at ct
      exact ⟨σ3, by rw [e_ite_f ct]; rfl, fun _ _ => rfl⟩
    | true =>
      rw [q] at ct
      simp only [Bool.and_eq_true, beq_iff_eq] at q
      obtain ⟨⟨q1, q2⟩, q3⟩ := q
      obtain ⟨S, hS⟩ := Option.isSome_iff_exists.mp q1
      obtain ⟨S', hS'⟩ := Option.isSome_iff_exists.mp q2
      subst hS hS'
      obtain ⟨eh, el, eo⟩ := told q3
      subst eh
      obtain ⟨d, sp⟩ := E.spec S rfl
      obtain ⟨d', sp'⟩ := E'.spec S' rfl
      have key := hw_told (k := pl) (by omega) sp sp' (by simpa using hpl) (by simpa using el) (fun i hi ne => eo i (by simpa using hi) ne) I.lo I'.lo
      have g1 : ev l_own F false l_grew σ3 = some (.int ((vts P').getD pl 0 - (vts P).getD pl 0)) := by
        rw [vts_get, vts_get]
        exact ev_op (ev_idx (ev_idx (ev_vb b4) (ev_v b11 rfl) (idx_DP (by omega))) ev_k idx_t21) (ev_idx (ev_idx (ev_idx (ev_vb b5) ev_k idx_t0) (ev_v b11 rfl) (idx_DP hpl)) ev_k idx_t21) rfl
      rw [e_ite_t ct, evSL_nxt (e_asg g1 rfl)]
      generalize hσ4 : upd σ3 13 (.int ((vts P').getD pl 0 - (vts P).getD pl 0)) = σ4
      have uj : ∀ j, j ≠ 13 → σ4 j = σ3 j := fun j a => by rw [← hσ4]; simp [upd, a]
      have lp : pl < (vts P).length := by simpa using hpl
      have lp' : pl < (vts P').length := by simpa [el] using hpl
      have v1 := vok.lo _ (getD_mem lp)
      have v2 := vok.hi _ (getD_mem lp)
      have v3 := vok'.lo _ (getD_mem lp')
      have v4 := vok'.hi _ (getD_mem lp')
      have f9 : σ4 9 = some (DE P' h' (some S')) := by rw [uj 9 (by decide)]; exact b9
      have f5 : σ4 5 = some (DE P h' (some S)) := by rw [uj 5 (by decide)]; exact b5
      have f11 : σ4 11 = some (.int (pl : Int)) := by rw [uj 11 (by decide)]; exact b11
      have cb : ev l_own F false l_back σ4 = some (.bool false) := by
        have : ev l_own F true (.op .mul (.op .sub (.idx (l_third 9) (.v 11)) (.idx (l_third 5) (.v 11))) (.v 13)) σ4 = some (.int ((S'.getD pl 0 - S.getD pl 0) * ((vts P').getD pl 0 - (vts P).getD pl 0))) :=
          ev_op (ev_op (ev_idx (third_ev f9) (ev_v f11 rfl) (idx_DI (by rw [sp'.len]; exact lp'))) (ev_idx (third_ev f5) (ev_v f11 rfl) (idx_DI (by rw [sp.len]; exact lp))) rfl) (ev_v (by rw [← hσ4]; exact upd_same _ _ _) rfl) (op_mul (.inr (small_of (by omega) (by omega))))
        refine ev_cmp this ev_k ?_
        show some (decide (_ < (0 : Int))) = _
        rw [decide_eq_false (by omega)]
      rw [evSL_nxt (σ' := σ4) (by rw [e_ite_f cb]; rfl)]
      exact ⟨σ4, rfl, uj⟩
  obtain ⟨σ4, e4, fj⟩ := last
  rw [evSL_nxt e4, evSL_nxt (e_asg (ev_v (by rw [fj 9 (by decide)]; exact b9) rfl) rfl)]
  refine ⟨_, rfl, ⟨P', h', c', ?_, ?_, ?_, ?_, by rw [hso2]; exact upd_same _ _ _, I'⟩⟩
  · simp [upd]; rw [fj 3 (by decide)]; exact b3
  · simp [upd]; rw [fj 4 (by decide)]; exact b4
  · simp [upd]; rw [fj 7 (by decide)]; exact b7
  · simp [upd]; rw [fj 8 (by decide)]; exact b8

def l_rs : List Int := [1, 4, 7, 500, 340, 160, 90, 21, 0, 12, 9, 3, 44, 5]
def l_cs (ks : List Int) : List Int := ks.take 14 ++ l_rs.drop (ks.take 14).length
theorem l_cs_len (ks : List Int) : (l_cs ks).length = 14 := by
  unfold l_cs
  rw [List.length_append, List.length_drop]
  have : (ks.take 14).length ≤ 14 := by rw [List.length_take]; omega
  have : l_rs.length = 14 := rfl
  omega
def hNames : List PySem.Str := [PySem.Str.ofString "lrm", PySem.Str.ofString "hamilton", PySem.Str.ofString "largest_remainder"]
def l_name_of (ks : List Int) : PySem.Str := hNames.getD ((l_cs ks).getD 0 0 % 3).toNat (PySem.Str.ofString "lrm")
theorem name3_mem (x : Int) : hNames.getD (x % 3).toNat (PySem.Str.ofString "lrm") ∈ hNames := by
  have h3 : (x % 3).toNat < hNames.length := by show _ < 3; omega
  rw [List.getD_eq_getElem?_getD, List.getElem?_eq_getElem h3]
  exact List.getElem_mem h3
def l_n (ks : List Int) : Nat := (2 + (l_cs ks).getD 1 0 % 4).toNat
def l_P (ks : List Int) : List (Int × Int) := (List.range (l_n ks)).map fun (k : Nat) => ((k : Int), 1 + (l_cs ks).getD (3 + k) 0 % 10 ^ 6)

def l_cells : T := (.op .add (.sl (.v 0) .none (.some (.k (.int 14)))) (.sl (.v 1) (.some (.bi .len (.cons (.sl (.v 0) .none (.some (.k (.int 14)))) .nil))) .none))
def l_list : T := (.list (.cons (.k (.int 1)) (.cons (.k (.int 4)) (.cons (.k (.int 7)) (.cons (.k (.int 500)) (.cons (.k (.int 340)) (.cons (.k (.int 160)) (.cons (.k (.int 90)) (.cons (.k (.int 21)) (.cons (.k (.int 0)) (.cons (.k (.int 12)) (.cons (.k (.int 9)) (.cons (.k (.int 3)) (.cons (.k (.int 44)) (.cons (.k (.int 5)) .nil)))))))))))))))
def l_nameT : T := (.idx (.list (.cons (.k (.str (PySem.Str.ofString "lrm"))) (.cons (.k (.str (PySem.Str.ofString "hamilton"))) (.cons (.k (.str (PySem.Str.ofString "largest_remainder"))) .nil)))) (.op .mod (.idx (.v 2) (.k (.int 0))) (.k (.int 3))))
def l_parties : T := (.comp (l_two (.v 10) (.op .add (.k (.int 1)) (.op .mod (.idx (.v 2) (.op .add (.k (.int 3)) (.v 10))) (.op .pow (.k (.int 10)) (.k (.int 6)))))) (.cons (.v 10) (.range1 (.op .add (.k (.int 2)) (.op .mod (.idx (.v 2) (.k (.int 1))) (.k (.int 4))))) .nil .nil))
def l_law : SL := .cons (.asg (.v 1) l_list) (.cons (.asg (.v 2) l_cells) (.cons (.asg (.v 3) l_nameT) (.cons (.asg (.v 4) l_parties) (.cons (.ownN [7, 8] (.cons (.op .add (.k (.int 1)) (.op .mod (.idx (.v 2) (.k (.int 2))) (.k (.int 30)))) (.cons (.k (.int 9)) .nil))) (.cons (.asg (.v 5) l_elec) (.cons (.ite (l_wrong 5) (.cons (.ret (.k .fls)) .nil) .nil) (.cons (.loop (.v 6) (.t (.sl (.v 2) (.some (.k (.int 8))) (.some (.k (.int 14))))) l_loop) (.cons (.ret (.k .tru)) .nil))))))))

/-- script[:n] + rest[len(script[:n]):] -/
theorem cells_ev {own : Nat → Bool} {σ : Sg} {ks rs : List Int} {n : Nat} {bw : Bool} (o0 : own 0 = false) (o1 : own 1 = false) (hn : n ≤ 100) (hr : rs.length = n) (h0 : σ 0 = some (DI ks)) (h1 : σ 1 = some (DI rs)) :
    ev own F bw (.op .add (.sl (.v 0) .none (.some (.k (.int (n : Int))))) (.sl (.v 1) (.some (.bi .len (.cons (.sl (.v 0) .none (.some (.k (.int (n : Int))))) .nil))) .none)) σ = some (DI (ks.take n ++ rs.drop (ks.take n).length)) := by
  have s1 : ∀ {bw}, ev own F bw (.sl (.v 0) .none (.some (.k (.int (n : Int))))) σ = some (DI (ks.take n)) := fun {bw} => by
    unfold ev evO
    rw [ev_v h0 o0, ev_k]
    simp only [Option.bind_some, DI, listD, intD, K.d, Option.map_some, slD]
    rw [if_pos ⟨by omega, small_of (by omega) (by omega)⟩]
    simp [List.map_take]
  have ltt : (ks.take n).length ≤ n := by rw [List.length_take]; omega
  have sl : ∀ {bw}, ev own F bw (.bi .len (.cons (.sl (.v 0) .none (.some (.k (.int (n : Int))))) .nil)) σ = some (.int (ks.take n).length) := ev_bi1 s1 (bi_len _)
  have s2 : ev own F false (.sl (.v 1) (.some (.bi .len (.cons (.sl (.v 0) .none (.some (.k (.int (n : Int))))) .nil))) .none) σ = some (DI (rs.drop (ks.take n).length)) := by
    unfold ev evO
    rw [ev_v h1 o1, sl]
    simp only [Option.bind_some, DI, listD, intD, Option.map_some, slD]
    rw [if_pos ⟨by omega, small_of (by omega) (by omega)⟩]
    rw [Option.map_some, Int.toNat_natCast, List.map_drop]
  refine ev_op s1 s2 ?_
  simp only [DI, op2D, List.length_map]
  rw [if_pos (by show _ ≤ 1000; rw [List.length_drop]; omega)]
  simp

theorem l_law_ev {ks : List Int} (T1 : Told1 F (l_name_of ks)) {σ : Sg} (h0 : σ 0 = some (DI ks)) : evSL l_own F mu l_law σ = some (.ret (.bool true)) := by
  have hcl := l_cs_len ks
  unfold l_law
  rw [evSL_nxt (e_asg (d := DI l_rs) rfl rfl)]
  generalize hσ1 : upd σ 1 (DI l_rs) = σ1
  have a0 : σ1 0 = some (DI ks) := by rw [← hσ1]; simp [upd, h0]
  have a1 : σ1 1 = some (DI l_rs) := by rw [← hσ1]; simp [upd]
  have ec : ev l_own F false l_cells σ1 = some (DI (l_cs ks)) := cells_ev (n := 14) rfl rfl (by decide) rfl a0 a1
  rw [evSL_nxt (e_asg ec rfl)]
  generalize hσ2 : upd σ1 2 (DI (l_cs ks)) = σ2
  have b2 : σ2 2 = some (DI (l_cs ks)) := by rw [← hσ2]; simp [upd]
  have cell : ∀ {σ : Sg} {bw} (j : Nat), j < 14 → σ 2 = some (DI (l_cs ks)) → ev l_own F bw (.idx (.v 2) (.k (.int (j : Int)))) σ = some (.int ((l_cs ks).getD j 0)) := fun {σ bw} j hj h2 => ev_idx (ev_vb h2) ev_k (idx_DI (by omega))
  have en : ev l_own F false l_nameT σ2 = some (.str (l_name_of ks)) := by
    refine ev_idx (x := .list (hNames.map .str)) (y := .int ((l_cs ks).getD 0 0 % 3)) (by simp only [ev, evL, Option.bind_some, K.d]; rw [if_pos (by decide)]; rfl) (ev_op (cell 0 (by decide) b2) ev_k (op_mod (by decide))) ?_
    simp only [idxD, seqD, Option.bind_some, intD]
    have h3 : ((l_cs ks).getD 0 0 % 3).toNat < hNames.length := by show _ < 3; omega
    have hp : place (hNames.map D.str).length ((l_cs ks).getD 0 0 % 3) = some ((l_cs ks).getD 0 0 % 3).toNat := by
      unfold place
      rw [if_pos (by omega), if_pos (by rw [List.length_map]; exact h3)]
    rw [hp, Option.bind_some]
    unfold l_name_of
    generalize ((l_cs ks).getD 0 0 % 3).toNat = q at h3 ⊢
    rw [List.getElem?_map, List.getElem?_eq_getElem h3, List.getD_eq_getElem?_getD, List.getElem?_eq_getElem h3]; rfl
  rw [evSL_nxt (e_asg en rfl)]
  generalize hσ3 : upd σ2 3 (.str (l_name_of ks)) = σ3
  have c2 : σ3 2 = some (DI (l_cs ks)) := by rw [← hσ3]; simp [upd, b2]
  have c3 : σ3 3 = some (.str (l_name_of ks)) := by rw [← hσ3]; simp [upd]
  have hn : ev l_own F false (.op .add (.k (.int 2)) (.op .mod (.idx (.v 2) (.k (.int 1))) (.k (.int 4)))) σ3 = some (.int (l_n ks : Int)) := by
    have : ((l_n ks : Nat) : Int) = 2 + (l_cs ks).getD 1 0 % 4 := by unfold l_n; omega
    rw [this]
    exact ev_op ev_k (ev_op (cell 1 (by decide) c2) ev_k (op_mod (by decide))) rfl
  have ln : 2 ≤ l_n ks ∧ l_n ks ≤ 5 := by unfold l_n; omega
  have ep : ev l_own F false l_parties σ3 = some (DP (l_P ks)) := by
    unfold l_parties
    rw [t_rangeMap (f := fun k => D.tup [.int (k : Int), .int (1 + (l_cs ks).getD (3 + k) 0 % 10 ^ 6)]) rfl hn (by omega) fun k hk => ?_]
    · simp [DP, l_P]
    · refine ev_tup2 (ev_v (by simp [upd]) rfl) (ev_op ev_k (ev_op (ev_idx (y := .int ((3 + k : Nat) : Int)) (ev_vb (d := DI (l_cs ks)) (by simp [upd, c2])) (ev_op (y := .int (k : Int)) ev_k (ev_v (by simp [upd]) rfl) (by show some (D.int (3 + (k : Int))) = _; congr 2)) (idx_DI (by omega))) (ev_op (z := .int (10 ^ 6)) ev_k ev_k (by simp only [op2D, K.d]; rw [if_pos (by decide)]; rfl)) (op_mod (by decide))) rfl)
  rw [evSL_nxt (e_asg ep rfl)]
  generalize hσ4 : upd σ3 4 (DP (l_P ks)) = σ4
  have d2 : σ4 2 = some (DI (l_cs ks)) := by rw [← hσ4]; simp [upd, c2]
  have d3 : σ4 3 = some (.str (l_name_of ks)) := by rw [← hσ4]; simp [upd, c3]
  have d4 : σ4 4 = some (DP (l_P ks)) := by rw [← hσ4]; simp [upd]
  obtain ⟨h, hh⟩ : ∃ h, h = 1 + (l_cs ks).getD 2 0 % 30 := ⟨_, rfl⟩
  have eh : ev l_own F false (.op .add (.k (.int 1)) (.op .mod (.idx (.v 2) (.k (.int 2))) (.k (.int 30)))) σ4 = some (.int h) := by
    rw [hh]
    exact ev_op ev_k (ev_op (cell 2 (by decide) d2) ev_k (op_mod (by decide))) rfl
  rw [evSL_nxt (e_own2 rfl rfl eh ev_k)]
  generalize hσ5 : upd (upd σ4 7 (.int h)) 8 (K.int 9).d = σ5
  have f2 : σ5 2 = some (DI (l_cs ks)) := by rw [← hσ5]; simp [upd, d2]
  have f3 : σ5 3 = some (.str (l_name_of ks)) := by rw [← hσ5]; simp [upd, d3]
  have f4 : σ5 4 = some (DP (l_P ks)) := by rw [← hσ5]; simp [upd, d4]
  have f7 : σ5 7 = some (.int h) := by rw [← hσ5]; simp [upd]
  have f8 : σ5 8 = some (.int 9) := by rw [← hσ5]; simp [upd, K.d]
  have L0 : LI 0 (l_P ks) h := by
    have lo : ∀ v ∈ vts (l_P ks), 1 ≤ v ∧ v ≤ 10 ^ 6 := fun v hv => by
      unfold vts l_P at hv
      rw [List.map_map] at hv
      obtain ⟨k, _, rfl⟩ := List.mem_map.mp hv
      simp only [Function.comp]
      omega
    have hl : (l_P ks).length = l_n ks := by simp [l_P]
    refine ⟨by omega, by omega, fun v hv => (lo v hv).1, ?_, by omega, by omega⟩
    have := sum_le fun v hv => (lo v hv).2
    have hl2 : (vts (l_P ks)).length = l_n ks := by simp [hl]
    rw [hl2] at this
    show _ ≤ (10 : Int) ^ 7
    omega
  obtain ⟨vok, pn, h2⟩ := L0.ok (by decide)
  have E := hso_elec (h := h) vok pn L0.h1 h2
  rw [evSL_nxt (e_asg (elec_ev T1 f3 f4 f7 vok pn L0.h1 h2) rfl)]
  generalize hσ6 : upd σ5 5 (DE (l_P ks) h (hso (vts (l_P ks)) h)) = σ6
  have g2 : σ6 2 = some (DI (l_cs ks)) := by rw [← hσ6]; simp [upd, f2]
  have g3 : σ6 3 = some (.str (l_name_of ks)) := by rw [← hσ6]; simp [upd, f3]
  have g4 : σ6 4 = some (DP (l_P ks)) := by rw [← hσ6]; simp [upd, f4]
  have g5 : σ6 5 = some (DE (l_P ks) h (hso (vts (l_P ks)) h)) := by rw [← hσ6]; simp [upd]
  have g7 : σ6 7 = some (.int h) := by rw [← hσ6]; simp [upd, f7]
  have g8 : σ6 8 = some (.int 9) := by rw [← hσ6]; simp [upd, f8]
  rw [evSL_nxt (wrong_ev E g5 g4 g7)]
  obtain ⟨ps, hps, hpl⟩ : ∃ ps : List Int, evSr l_own F (.t (.sl (.v 2) (.some (.k (.int 8))) (.some (.k (.int 14))))) σ6 = some (ps.map .int) ∧ ps.length = 6 := by
    refine ⟨((l_cs ks).take 14).drop 8, ?_, by rw [List.length_drop, List.length_take]; omega⟩
    unfold evSr ev evO
    rw [ev_v g2 rfl, ev_k, ev_k]
    simp only [Option.bind_some, DI, listD, intD, K.d, Option.map_some, slD]
    rw [if_pos (by decide)]
    simp [listD]
  have inv := loopF_inv (f := fun d σ => (bindP l_own (.v 6) d σ).bind fun σ' => evSL l_own F mu l_loop σ') (fun k σ' => LS k (l_name_of ks) σ') (ps.map .int) 0 σ6 ⟨l_P ks, h, 9, g3, g4, g7, g8, g5, L0⟩ fun i σ' hi hI => by
    have hi' : i < 6 := by rw [← hpl]; simpa using hi
    simp only [Nat.zero_add] at hI ⊢
    obtain ⟨P, h, c, x3, x4, x7, x8, x5, x⟩ := hI.ex
    obtain ⟨σ2, e, J⟩ := l_turn_ev (F := F) (mu := mu) T1 (σ := upd σ' 6 (.int (ps[i]'(by omega)))) (k := i) ⟨P, h, c, by simp [upd, x3], by simp [upd, x4], by simp [upd, x7], by simp [upd, x8], by simp [upd, x5], x⟩ hi' (upd_same _ _ _)
    refine ⟨σ2, .inl ?_, J⟩
    rw [List.getElem_map]
    simp only [bindP]
    rw [if_neg (by decide), Option.bind_some]
    exact e
  obtain ⟨σ7, e7, _⟩ := inv
  have el : evS l_own F mu (.loop (.v 6) (.t (.sl (.v 2) (.some (.k (.int 8))) (.some (.k (.int 14))))) l_loop) σ6 = some (.nxt σ7) := by
    unfold evS
    rw [hps, Option.bind_some]
    exact e7
  rw [evSL_nxt el]
  exact evSL_ret (e_ret ev_k)
end
end Mine
end

section
open PySem PySem.W PyProof.Rows PySem.SeqAt PySem.MeetsSeq PySem.MeetsSeq2 PySem.MeetsSeq3
set_option maxRecDepth 100000
namespace Mine

/-! ## 20. Statements: the checker, the state -/

def tiesN : PySem.Str := PySem.Str.ofString "TiesException"
/-! terms that no iterator serves -/
mutual
def lite : T → Bool
  | .k _ => true
  | .v _ => true
  | .op _ a b => lite a && lite b
  | .neg a => lite a
  | .cmp _ a b => lite a && lite b
  | .isn _ a => lite a
  | .bop _ l => liteL l
  | .not a => lite a
  | .ite c a b => lite c && lite a && lite b
  | .list l => liteL l
  | .idx a i => lite a && lite i
  | _ => false
def liteL : TL → Bool
  | .nil => true
  | .cons a l => lite a && liteL l
end
/-- the names that are only ever bound to [] and appended to -/
def plN : List PySem.Str := ["gains", "losses"].map PySem.Str.ofString
def isPl (tab : List PySem.Str) (i : Nat) : Bool := match tab[i]? with
  | some x => plN.contains x
  | none => false
def nil1 : T → Bool
  | .list .nil => true
  | e => !e.fresh
def nilOnly : TL → Bool
  | .nil => true
  | .cons e l => nil1 e && nilOnly l
section
variable (tab fnm : List PySem.Str) (xs : Bool)

def chkNs : List Nat → Scope → List PySem.Expr → Bool
  | [], _, [] => true
  | i :: r, sc, .Name x _ :: es => tab[i]? == some x && isW sc x && chkNs r sc es
  | _, _, _ => false
def swNone (ts : List PySem.Expr) (value : PySem.Expr) : Bool := !isTuple value || ts.any fun t => !isName t

mutual
def chkS : TS → Scope → PySem.Stmt → Bool
  | .dead, _, _ => true
  | .asg (.v i) e, sc, .Assign [.Name x p] value _ => chkP tab (.v i) sc (.Name x p) && chk tab fnm e sc value
  | .asg (.tup ps) e, sc, .Assign [.Tuple ts _ _] value _ => chkPL tab ps sc ts && chk tab fnm e sc value && swNone ts value
  | .own1 i e, sc, .Assign [.Name x _] value _ => tab[i]? == some x && isW sc x && chk tab fnm e sc value && !isPl tab i
  | .ownN is es, sc, .Assign [.Tuple ts _ _] (.Tuple vs _ _) _ => chkNs tab is sc ts && decide is.Nodup && decide (is.length ≤ LB) && chkL tab fnm es sc vs && !(vs.all (constantsAlone 8)) && (nilOnly es || !(is.any (isPl tab)))
  | .aug i o e, sc, .AugAssign (.Name x _) .Add value _ => tab[i]? == some x && isW sc x && x != clsdN && (match o with | .add => true | _ => false) && chk tab fnm e sc value
  | .setI x i e, sc, .Assign [.Subscript o idx _] value _ => chk tab fnm (.v x) sc o && chk tab fnm i sc idx && chk tab fnm e sc value && !isSlice idx && !isPl tab x
  | .augI x i e, sc, .AugAssign (.Subscript o idx _) .Add value _ => chk tab fnm (.v x) sc o && chk tab fnm i sc idx && chk tab fnm e sc value && !isSlice idx && !isPl tab x
  | .app x e, sc, .Expr (.Call (.Attribute (.Name y q) m ap) [e'] [] cp) _ => m == PySem.Str.ofString "append" && isPl tab x && chk tab fnm (.v x) sc (.Name y q) && isW sc y && chk tab fnm e sc e' && lite e && !isStar e' && ap.endLine == cp.line
  | .ite c a b, sc, .If t x y _ => chk tab fnm c sc t && chkSL a sc x && chkSL b sc y
  | .loop p s b, sc, .For target iter body [] _ => chkP tab p sc target && chkSr tab fnm s sc target iter && chkSL b sc body
  | .loopB p x b, sc, .For target iter body [] _ => chkP tab p sc target && (isName target || isTuple target) && chk tab fnm (.v x) sc iter && chkSL b sc body
  | .whil _ c b, sc, .While t body [] _ => chk tab fnm c sc t && chkSL b sc body
  | .ret e, sc, .Return (some e') _ => chk tab fnm e sc e'
  | .retO x, sc, .Return (some e') _ => chk tab fnm (.v x) sc e'
  | .retC f l, sc, .Return (some e') _ => xs && chk tab fnm (.call f l) sc e'
  | .cont, _, .Continue _ => true
  | .raise, sc, .Raise (some (.Call (.Name x _) [.Constant (.str _) _ _] [] _)) none _ => xs && x == tiesN && isG sc x
  | .try (.cons (.retC f l) .nil) (.cons (.ret e) .nil), sc, .Try [.Return (some e') _] [.ExceptHandler (some (.Name x _)) none [.Return (some e'') _] _] [] [] _ => xs && x == tiesN && isG sc x && chk tab fnm (.call f l) sc e' && lite e && chk tab fnm e sc e''
  | _, _, _ => false
def chkSL : SL → Scope → List PySem.Stmt → Bool
  | .nil, _, [] => true
  | .cons s l, sc, e :: es => chkS s sc e && chkSL l sc es
  | _, _, _ => false
end
end

/-- a is no owned list's address among the names that may change -/
def NotM (own mu : Nat → Bool) (σ : Sg) (vals : Nat → Value) (a : Addr) : Prop := ∀ j, own j = true → mu j = true → (σ j).isSome = true → vals j ≠ .ref a
theorem NotO.notM {own mu : Nat → Bool} {σ : Sg} {vals : Nat → Value} {a : Addr} (n : NotO own σ vals a) : NotM own mu σ vals a := fun j o _ s => n j o s

/-- an object without a dict -/
def Plain (h : Heap) (a : Addr) : Prop := ∃ o, h.get? a = some o ∧ o.dict = none ∧ (∀ es k, o.data ≠ .dict es k) ∧ ∀ u, o.data ≠ .cell u
def PlOk (own : Nat → Bool) (tab : List PySem.Str) (σ : Sg) (vals : Nat → Value) (h : Heap) : Prop := ∀ i a, own i = true → isPl tab i = true → (σ i).isSome = true → vals i = .ref a → Plain h a
theorem Plain.ext {h h' : Heap} {a : Addr} (x : Plain h a) (e : Ext h h') : Plain h' a := by
  obtain ⟨o, q, r⟩ := x
  obtain ⟨sl, q'⟩ := e a o q
  exact ⟨_, q', r⟩
theorem Plain.kq {h h' : Heap} {a : Addr} (x : Plain h a) (e : Kq [] h h') : Plain h' a := by
  obtain ⟨o, q, d, n1, n2⟩ := x
  exact ⟨o, e a o q n1 n2 (by simp), d, n1, n2⟩
theorem PlOk.ext {own : Nat → Bool} {tab : List PySem.Str} {σ : Sg} {vals : Nat → Value} {h h' : Heap} (p : PlOk own tab σ vals h) (e : Ext h h') : PlOk own tab σ vals h' := fun i a o q s v => (p i a o q s v).ext e
theorem PlOk.kq {own : Nat → Bool} {tab : List PySem.Str} {σ : Sg} {vals : Nat → Value} {h h' : Heap} (p : PlOk own tab σ vals h) (e : Kq [] h h') : PlOk own tab σ vals h' := fun i a o q s v => (p i a o q s v).kq e
theorem PlOk.ag {own : Nat → Bool} {tab : List PySem.Str} {l : List Nat} {σ σ' : Sg} {vals vals' : Nat → Value} {h : Heap} (p : PlOk own tab σ vals h) (x : Ag own l σ σ' vals vals') : PlOk own tab σ' vals' h := fun i a o q s v => by
  obtain ⟨e1, e2⟩ := x.ow i o
  rw [e1] at s; rw [e2] at v
  exact p i a o q s v
theorem PlOk.upd {own : Nat → Bool} {tab : List PySem.Str} {σ : Sg} {vals : Nat → Value} {h : Heap} {i : Nat} {d : D} {v : Value} (p : PlOk own tab σ vals h) (n : own i = false ∨ isPl tab i = false) : PlOk own tab (upd σ i d) (updv vals i v) h := fun j a o q s e => by
  by_cases hj : j = i
  · subst hj
    rcases n with n | n
    · rw [n] at o; cases o
    · rw [n] at q; cases q
  · rw [upd_ne _ _ hj] at s; rw [updv_ne _ _ hj] at e
    exact p j a o q s e

structure StI (C : Cx) (S : Addr → Prop) (sc : Scope) (env : Env) (σ : Sg) (vals : Nat → Value) (h : Heap) : Prop where
  V : StV (C.w S) sc C.g₀ env σ vals h
  ex : Exact C.P C.g₀ h
  pl : PlOk C.own C.tab σ vals h

structure Ks (own mu : Nat → Bool) (σ : Sg) (vals : Nat → Value) (h : Heap) (σ' : Sg) (vals' : Nat → Value) (h' : Heap) : Prop where
  big : ∀ b o, h.get? b = some o → (∀ es k, o.data ≠ .dict es k) → (∀ u, o.data ≠ .cell u) → NotM own mu σ vals b → h'.get? b = some o ∧ NotM own mu σ' vals' b
  fix : ∀ j, own j = true → mu j = false → σ' j = σ j ∧ vals' j = vals j
theorem Ks.refl {own mu : Nat → Bool} {σ : Sg} {vals : Nat → Value} {h : Heap} : Ks own mu σ vals h σ vals h := ⟨fun _ _ e _ _ n => ⟨e, n⟩, fun _ _ _ => ⟨rfl, rfl⟩⟩
theorem Ks.trans {own mu : Nat → Bool} {σ σ' σ'' : Sg} {vals vals' vals'' : Nat → Value} {h h' h'' : Heap} (x : Ks own mu σ vals h σ' vals' h') (y : Ks own mu σ' vals' h' σ'' vals'' h'') : Ks own mu σ vals h σ'' vals'' h'' :=
  ⟨fun b o e n1 n2 n => let ⟨e', n'⟩ := x.big b o e n1 n2 n; y.big b o e' n1 n2 n', fun j o m => let ⟨a, b⟩ := x.fix j o m; let ⟨c, d⟩ := y.fix j o m; ⟨c.trans a, d.trans b⟩⟩
theorem Ks.kq {own mu : Nat → Bool} {σ : Sg} {vals : Nat → Value} {h h' : Heap} (x : Kq [] h h') : Ks own mu σ vals h σ vals h' := ⟨fun b o e n1 n2 n => ⟨x b o e n1 n2 (by simp), n⟩, fun _ _ _ => ⟨rfl, rfl⟩⟩
theorem Ag.notM {own mu : Nat → Bool} {l : List Nat} {σ σ' : Sg} {vals vals' : Nat → Value} (a : Ag own l σ σ' vals vals') {ad : Addr} (n : NotM own mu σ vals ad) : NotM own mu σ' vals' ad := fun j o m s => by
  obtain ⟨e1, e2⟩ := a.ow j o; rw [e1] at s; rw [e2]; exact n j o m s
theorem Ks.bind {own mu : Nat → Bool} {l : List Nat} {σ σ' : Sg} {vals vals' : Nat → Value} {h h' : Heap} (x : Kq [] h h') (a : Ag own l σ σ' vals vals') : Ks own mu σ vals h σ' vals' h' :=
  ⟨fun b o e n1 n2 n => ⟨x b o e n1 n2 (by simp), a.notM n⟩, fun j o _ => a.ow j o⟩

def EndOk (C : Cx) (h' : Heap) : Prop := Ext C.g₀ h' ∧ Exact C.P C.g₀ h' ∧ ∀ b o, C.base.get? b = some o → h'.get? b = some o
theorem StI.done {C : Cx} {S : Addr → Prop} {sc : Scope} {env : Env} {σ : Sg} {vals : Nat → Value} {h : Heap} (I : StI C S sc env σ vals h) : EndOk C h := ⟨I.V.ext, I.ex, I.V.stay⟩
theorem StI.le {C : Cx} {S : Addr → Prop} {sc : Scope} {env : Env} {σ : Sg} {vals : Nat → Value} {s s' : Shared} (I : StI C S sc env σ vals s.heap) (L : Le C.base C.P s s') : StI C S sc env σ vals s'.heap :=
  ⟨StV.Le (C := C.w S) I.V L, fun b o p e => L.exact b o p (I.ex b o p e), I.pl.ext L.ext⟩

/-- one state goes on from another -/
def Same (s s' : Shared) : Prop := ∃ h tk, s' = { s with heap := h, toks := tk }
theorem Same.refl (s : Shared) : Same s s := ⟨s.heap, s.toks, rfl⟩
theorem Same.trans {a b c : Shared} (x : Same a b) (y : Same b c) : Same a c := by
  obtain ⟨h, t, rfl⟩ := x
  obtain ⟨h', t', rfl⟩ := y
  exact ⟨h', t', rfl⟩
theorem Same.le {base : Heap} {P : Addr → Prop} {s s' : Shared} (L : Le base P s s') : Same s s' := by
  obtain ⟨h, t, rfl, _⟩ := L
  exact ⟨h, t, rfl⟩
/-- what the way on needs, for each outcome -/
def Pst (C : Cx) (S : Addr → Prop) (sc : Scope) (env : Env) (mu : Nat → Bool) (Xc : Value → Shared → Prop) (σ : Sg) (vals : Nat → Value) (s : Shared) (Q : Flow → Shared → Prop) (E : Value → Shared → Prop) : R → Prop
  | .nxt σ' => ∀ h' tk vals', StI C S sc env σ' vals' h' → Ks C.own mu σ vals s.heap σ' vals' h' → Q .next { s with heap := h', toks := tk }
  | .cnt σ' => ∀ h' tk vals', StI C S sc env σ' vals' h' → Ks C.own mu σ vals s.heap σ' vals' h' → Q .cont { s with heap := h', toks := tk }
  | .ret d => ∀ h' tk v, EndOk C h' → Rep h' (fun b => S b ∨ C.g₀.get? b = none) v d → Q (.ret v) { s with heap := h', toks := tk }
  | .ties => ∀ x s', Same s s' → Xc x s' → E x s'

section
variable (prog : Program) (w : World) (A : Around) (C : Cx) (fnm : List PySem.Str) (F : Fn) (fa : Nat → Addr) (xs : Bool) (sc : Scope) (env : Env) (Xc : Value → Shared → Prop)

def SoS (ts : TS) : Prop := ∀ {mu : Nat → Bool} {σ : Sg} {r : R} {S : Addr → Prop} {stmt : PySem.Stmt} {vals : Nat → Value} {s : Shared} {Q : Flow → Shared → Prop} {E : Value → Shared → Prop},
  evS C.own F mu ts σ = some r → chkS C.tab fnm xs ts sc stmt = true → StI C S sc env σ vals s.heap → Pst C S sc env mu Xc σ vals s Q E r → wpAny (model prog w) A (exec stmt env) Q E s
def SoSL (l : SL) : Prop := ∀ {mu : Nat → Bool} {σ : Sg} {r : R} {S : Addr → Prop} {stmts : List PySem.Stmt} {vals : Nat → Value} {s : Shared} {Q : Flow → Shared → Prop} {E : Value → Shared → Prop},
  evSL C.own F mu l σ = some r → chkSL C.tab fnm xs l sc stmts = true → StI C S sc env σ vals s.heap → Pst C S sc env mu Xc σ vals s Q E r → wpAny (model prog w) A (execs stmts env) Q E s

/-- what is asked of the exception that may fly -/
structure ExOk (Xh : Value → Shared → Prop) (Xf : Shared → Value → Shared → Prop) : Prop where
  toXc : ∀ (s s' : Shared) (S' : Addr → Prop) (σ : Sg) (vals : Nat → Value) (x : Value), StI C S' sc env σ vals s.heap → Same s s' → Xf s x s' → Xc x s'
  note : ∀ x s Q E, Xc x s → (∀ s', Same s s' → Xh x s' → Q () s') → wpAny (model prog w) A (noteFrame x env) Q E s
  back : ∀ x s E, Xh x s → (∀ s', Same s s' → Xc x s' → E x s') → cameBackBy (model prog w) A env E x s
  callx : xs = true → ∀ f ds, F f ds = some (.error ()) → ∀ (s : Shared) (vs : List Value) (S S' : Addr → Prop) (σ : Sg) (vals : Nat → Value), RepL s.heap S vs ds → (∀ a, s.heap.get? a = none → S a) → StI C S' sc env σ vals s.heap →
    ∀ (Q E : Value → Shared → Prop), (∀ x s', Same s s' → Xf s x s' → E x s') → wpAny (model prog w) A (call (.ref (fa f)) vs) Q E s
  raise : xs = true → ∀ (np cpos pos : Pos) (msg : PySem.Str) (k : Nat) (q : Pos) (s : Shared) (S' : Addr → Prop) (σ : Sg) (vals : Nat → Value), isG sc tiesN = true → StI C S' sc env σ vals s.heap →
    ∀ (Q : Flow → Shared → Prop) (E : Value → Shared → Prop), (∀ x s', Same s s' → Xc x s' → E x s') → wpAny (model prog w) A (exec (.Raise (some (.Call (.Name tiesN np) [.Constant (.str msg) k q] [] cpos)) none pos) env) Q E s
  catch_ : xs = true → ∀ (np hp : Pos) (b₀ : PySem.Stmt) (suite : List PySem.Stmt) (s₀ s : Shared) (S' : Addr → Prop) (σ : Sg) (vals : Nat → Value) (x : Value), isG sc tiesN = true → StI C S' sc env σ vals s₀.heap → Same s₀ s → Xf s₀ x s →
    ∀ (Q : Flow → Shared → Prop) (E : Value → Shared → Prop), (∀ e s', Same s₀ s' → StI C S' sc env σ vals s'.heap → Ks C.own (fun _ => false) σ vals s₀.heap σ vals s'.heap → ∀ E', wpAny (model prog w) (A.mark (some (.ref e))) (execs (b₀ :: suite) env) Q E' s') →
      wpAny (model prog w) A (noteFrame x env) (fun _ s₂ => wpAny (model prog w) A (setFlight x none) (fun _ s₃ => wpAny (model prog w) A (handleBy x env [.ExceptHandler (some (.Name tiesN np)) none (b₀ :: suite) hp]) Q E s₃) E s₂) E s
end

mutual
theorem Rep.avoid {h : Heap} {S : Addr → Prop} {a : Addr} {n : Nat} (hd : ∀ S' d, Rep h S' (.ref a) d → n ≤ sizeOf d) : ∀ {v : Value} {d : D}, Rep h S v d → sizeOf d < n → Rep h (fun b => S b ∧ b ≠ a) v d
  | _, _, .non, _ => .non
  | _, _, .bool b, _ => .bool b
  | _, _, .int i t, _ => .int i t
  | _, _, .str s t, _ => .str s t
  | _, _, .list (a := b) hs hl hb hr, hn => .list ⟨hs, fun z => by subst z; have := hd S _ (.list hs hl hb hr); omega⟩ hl hb (RepL.avoid hd hr (by simp at hn; omega))
  | _, _, .tup (a := b) hs hl hb hr, hn => .tup ⟨hs, fun z => by subst z; have := hd S _ (.tup hs hl hb hr); omega⟩ hl hb (RepL.avoid hd hr (by simp at hn; omega))
theorem RepL.avoid {h : Heap} {S : Addr → Prop} {a : Addr} {n : Nat} (hd : ∀ S' d, Rep h S' (.ref a) d → n ≤ sizeOf d) : ∀ {vs : List Value} {ds : List D}, RepL h S vs ds → sizeOf ds < n → RepL h (fun b => S b ∧ b ≠ a) vs ds
  | _, _, .nil, _ => .nil
  | _, _, .cons hv hr, hn => .cons (Rep.avoid hd hv (by simp at hn; omega)) (RepL.avoid hd hr (by simp at hn; omega))
end
/-- a list is none of its own items -/
theorem Rep.items_avoid {h : Heap} {S : Addr → Prop} {a : Addr} {ds : List D} (r : Rep h S (.ref a) (.list ds)) : ∃ vs, h.IsList a vs.toArray ∧ RepL h (fun b => S b ∧ b ≠ a) vs ds ∧ ds.length ≤ LB := by
  obtain ⟨b, vs, e, hs, hl, hz, hr⟩ := r.list_inv
  cases e
  exact ⟨vs, hl, hr.avoid (n := sizeOf (D.list ds)) (fun S' d r' => by rw [Rep.uniq r' r]; exact Nat.le_refl _) (by simp), hz⟩

section
variable {C : Cx} {sc : Scope} {h₀ h h' : Heap} {env : Env} {σ : Sg} {vals : Nat → Value}
/-- the namespace of a comprehension that has gone -/
theorem StV.chgD (V : StV C sc h₀ env σ vals h) {cl : Addr} {m : PySem.Str → Option Value} (hn : h.Ns cl m) (hl : cl ≠ env.locals) (hp : ¬ C.P cl) (h0 : h₀.get? cl = none) (hS : C.S cl) (hs : Heap.SameBut cl h h') : StV C sc h₀ env σ vals h' := by
  obtain ⟨o, es, ep, q, dd, _⟩ := hn
  have on : On h h' (Sx C σ vals) (Sx C σ vals) := fun a ha o' ho ⟨xs, n, hd⟩ => ⟨ha, o'.slots, (hs.2 a fun z => by rw [z, q] at ho; cases ho; rw [dd] at hd; cases hd).trans ho⟩
  have ic : ∀ c v, h.IsCell c v → h'.IsCell c v := fun c v n => n.sameBut hs fun z => by obtain ⟨o', q', d'⟩ := n; rw [z, q] at q'; cases q'; rw [dd] at d'; cases d'
  refine ⟨⟨V.fr.kind, V.fr.glob, V.fr.bi, let ⟨m, n⟩ := V.fr.ns; ⟨m, n.sameBut hs (Ne.symm hl)⟩, V.fr.newL, V.fr.kL, V.fr.kC, V.fr.kF, V.fr.kG, fun x c hc => let ⟨v, n⟩ := V.fr.cell x c hc; ⟨v, ic c v n⟩, V.fr.inj⟩,
    V.g, fun b o e => ?_, fun b o e => ?_, fun a n => ?_, V.bg, fun a p => ?_, V.bP, V.nodup, fun i d x a b c => ?_, fun i d a b => (V.rep i d a b).on on, fun i d a b => ?_, V.dist⟩
  · obtain ⟨sl, w⟩ := V.ext b o e
    exact ⟨sl, (hs.2 b fun z => by rw [z, h0] at e; cases e).trans w⟩
  · exact (hs.2 b fun z => V.bg b o e (V.g.none (z ▸ h0))).trans (V.stay b o e)
  · by_cases z : a = cl
    · rw [z]; exact hS
    · exact V.newS a ((hs.2 a z).symm.trans n)
  · obtain ⟨o, es, n, q, d⟩ := V.pf a p
    exact ⟨o, es, n, (hs.2 a fun z => hp (z ▸ p)).trans q, d⟩
  · rcases V.val i d x a b c with ⟨q1, m, q2, q3⟩ | ⟨q1, c', q2, q3⟩
    · exact .inl ⟨q1, m, q2.sameBut hs (Ne.symm hl), q3⟩
    · exact .inr ⟨q1, c', q2, ic c' _ q3⟩
  · obtain ⟨ad, ds, vs, q1, q2, ⟨o', g1, g2, n, g3⟩, q4, q5⟩ := V.owned i d a b
    exact ⟨ad, ds, vs, q1, q2, ⟨o', (hs.2 ad fun z => by rw [z, q] at g1; cases g1; rw [dd] at g3; cases g3).trans g1, g2, n, g3⟩, q4.on on, q5⟩

/-- an owned list takes other items -/
theorem StV.ownChg (V : StV C sc C.g₀ env σ vals h) {x : Nat} {a : Addr} {d0 : D} {vs' : List Value} {ds' : List D} (ho : C.own x = true) (hx : σ x = some d0) (hv : vals x = .ref a) (hl : h'.IsList a vs'.toArray) (hs : Heap.SameBut a h h')
    (hr : RepL h (Sx C σ vals) vs' ds') (hz : ds'.length ≤ LB) : StV C sc C.g₀ env (upd σ x (.list ds')) vals h' := by
  obtain ⟨a', ds, vs, _, e2, ⟨o, q, c, n, d⟩, _, _, hg⟩ := V.owned x d0 hx ho
  rw [hv] at e2
  obtain rfl : a = a' := by injection e2
  have nO : ∀ b, NotO C.own σ vals b → NotO C.own (upd σ x (.list ds')) vals b := fun b n j o s => by
    by_cases hj : j = x
    · subst hj; exact n j o (by rw [hx]; rfl)
    · rw [upd_ne _ _ hj] at s; exact n j o s
  have on : On h h' (Sx C σ vals) (Sx C (upd σ x (.list ds')) vals) := fun b hb o' ho' _ => ⟨⟨hb.1, nO b hb.2⟩, o'.slots, (hs.2 b fun z => hb.2 x ho (by rw [hx]; rfl) (z ▸ hv)).trans ho'⟩
  have ic : ∀ c v, h.IsCell c v → h'.IsCell c v := fun c v n => n.sameBut hs fun z => by obtain ⟨o', q', d'⟩ := n; rw [z, q] at q'; cases q'; rw [d] at d'; cases d'
  have hne : a ≠ env.locals := fun z => by obtain ⟨m, o', es, ep, q', d', _⟩ := V.fr.ns; rw [← z, q] at q'; cases q'; rw [d] at d'; cases d'
  refine ⟨⟨V.fr.kind, V.fr.glob, V.fr.bi, let ⟨m, n⟩ := V.fr.ns; ⟨m, n.sameBut hs (Ne.symm hne)⟩, V.fr.newL, V.fr.kL, V.fr.kC, V.fr.kF, V.fr.kG, fun x c hc => let ⟨v, n⟩ := V.fr.cell x c hc; ⟨v, ic c v n⟩, V.fr.inj⟩,
    V.g, fun b o e => ?_, fun b o e => ?_, fun b nb => ?_, V.bg, fun b p => ?_, V.bP, V.nodup, fun i di y hi b c => ?_, fun i di hi b => ?_, fun i di hi b => ?_, fun i j b oi oj si sj ei ej => ?_⟩
  · obtain ⟨sl, w⟩ := V.ext b o e
    exact ⟨sl, (hs.2 b fun z => by rw [z, hg] at e; cases e).trans w⟩
  · exact (hs.2 b fun z => V.bg b o e (z ▸ hg)).trans (V.stay b o e)
  · refine V.newS b ((hs.2 b fun z => ?_).symm.trans nb)
    obtain ⟨o', q', _⟩ := hl
    rw [z, q'] at nb; cases nb
  · obtain ⟨o', es, n', q', d'⟩ := V.pf b p
    exact ⟨o', es, n', (hs.2 b fun z => by rw [z, q] at q'; cases q'; rw [d] at d'; cases d').trans q', d'⟩
  · have hv' : ValAt env h y (vals i) := by
      by_cases hj : i = x
      · subst hj; exact V.val i d0 y hx b c
      · rw [upd_ne _ _ hj] at hi; exact V.val i di y hi b c
    rcases hv' with ⟨q1, m, q2, q3⟩ | ⟨q1, c', q2, q3⟩
    · exact .inl ⟨q1, m, q2.sameBut hs (Ne.symm hne), q3⟩
    · exact .inr ⟨q1, c', q2, ic c' _ q3⟩
  · have hj : i ≠ x := fun z => by subst z; rw [ho] at b; cases b
    rw [upd_ne _ _ hj] at hi
    exact (V.rep i di hi b).on on
  · by_cases hj : i = x
    · subst hj
      rw [upd_same] at hi; cases hi
      exact ⟨a, ds', vs', rfl, hv, hl, hr.on on, hz, hg⟩
    · rw [upd_ne _ _ hj] at hi
      obtain ⟨ad, es, ws, q1, q2, ⟨o', g1, g2⟩, q4, q5⟩ := V.owned i di hi b
      refine ⟨ad, es, ws, q1, q2, ⟨o', (hs.2 ad fun z => hj ?_).trans g1, g2⟩, q4.on on, q5⟩
      exact V.dist i x a b ho (by rw [hi]; rfl) (by rw [hx]; rfl) (z ▸ q2) hv
  · have up : ∀ k, ((upd σ x (.list ds')) k).isSome = true → (σ k).isSome = true := fun k s => by
      by_cases hk : k = x
      · subst hk; rw [hx]; rfl
      · rwa [upd_ne _ _ hk] at s
    exact V.dist i j b oi oj (up i si) (up j sj) ei ej
end
end Mine
end

section
open PySem PySem.W PyProof.Rows PySem.SeqAt PySem.MeetsSeq PySem.MeetsSeq2 PySem.MeetsSeq3
set_option maxRecDepth 100000
namespace Mine

/-! ## 21. Plain statements -/
section
variable {prog : Program} {w : World} {A : Around} {C : Cx} {fnm : List PySem.Str} {F : Fn} {fa : Nat → Addr} {mg mb : PySem.Str → Option Value} {xs : Bool} {sc : Scope} {env : Env} {Xc : Value → Shared → Prop}

theorem Pst.step {S : Addr → Prop} {mu : Nat → Bool} {σ σ₁ : Sg} {vals vals₁ : Nat → Value} {s s₁ : Shared} {Q : Flow → Shared → Prop} {E : Value → Shared → Prop} {r : R} (hs : ∃ h1 tk1, s₁ = { s with heap := h1, toks := tk1 }) (ks : Ks C.own mu σ vals s.heap σ₁ vals₁ s₁.heap)
    (hP : Pst C S sc env mu Xc σ vals s Q E r) : Pst C S sc env mu Xc σ₁ vals₁ s₁ Q E r := by
  obtain ⟨h1, tk1, rfl⟩ := hs
  cases r with
  | nxt σ' => exact fun h' tk vals' I' k => hP h' tk vals' I' (ks.trans k)
  | cnt σ' => exact fun h' tk vals' I' k => hP h' tk vals' I' (ks.trans k)
  | ret d => exact fun h' tk v e r => hP h' tk v e r
  | ties => exact fun x s' hs hx => hP x s' (Same.trans ⟨h1, tk1, rfl⟩ hs) hx
theorem Pst.le {S : Addr → Prop} {mu : Nat → Bool} {σ : Sg} {vals : Nat → Value} {s s₁ : Shared} {Q : Flow → Shared → Prop} {E : Value → Shared → Prop} {r : R} (I : StI C S sc env σ vals s.heap) (L : Le C.base C.P s s₁)
    (hP : Pst C S sc env mu Xc σ vals s Q E r) : Pst C S sc env mu Xc σ vals s₁ Q E r :=
  hP.step (by obtain ⟨h1, tk1, rfl, _⟩ := L; exact ⟨h1, tk1, rfl⟩) (.kq (Kq.le (C := C.w S) I.V L []))

theorem swaps_cases {t : T} {value : PySem.Expr} {tab : List PySem.Str} {sc' : Scope} {x : PySem.Str} {p : Pos} {line : Nat} (hc : chk tab fnm t sc' value = true) :
    swapsWith value (some (.Name x p)) line env = pure false ∨ (∃ elt gens isc q, value = .ListComp elt gens isc q ∧ swapsWith value (some (.Name x p)) line env = pure true) := by
  cases value with
  | ListComp elt gens isc q =>
    cases h : (env.blockKind == .function && env.kindOf x == some .local && p.line == (PySem.Expr.ListComp elt gens isc q).pos.line && !(isc.names.any fun (n, k) => n == x && (k == .local || k == .cell))) with
    | false => left; show pure _ = _; rw [h]
    | true => right; exact ⟨elt, gens, isc, q, rfl, by show pure _ = _; rw [h]⟩
  | SetComp => unfold chk at hc; split at hc <;> first | cases hc | (rename_i hh; cases hh)
  | DictComp => unfold chk at hc; split at hc <;> first | cases hc | (rename_i hh; cases hh)
  | _ => left; rfl

theorem chk_comp {t : T} {tab : List PySem.Str} {sc' : Scope} {elt : PySem.Expr} {gens : List Comprehension} {isc : Scope} {q : Pos} (hc : chk tab fnm t sc' (.ListComp elt gens isc q) = true) : ∃ u g, t = .comp u g := by
  cases t with
  | comp u g => exact ⟨_, _, rfl⟩
  | _ => simp [chk] at hc

/-- x = e, the way of storing given -/
theorem asg_one (hA : AOk A) (G : Gl C fnm fa mg mb) (K : CallOk prog w A C fa F) {S : Addr → Prop} {σ σ' : Sg} {vals : Nat → Value} {s : Shared} {Q : Flow → Shared → Prop} {E : Value → Shared → Prop} {i : Nat} {x : PySem.Str} {pos' pos : Pos} {value : PySem.Expr} {e : T} {d : D}
    (he : ev C.own F false e σ = some d) (hc : chk C.tab fnm e sc value = true) (I : StI C S sc env σ vals s.heap)
    (hpl : ∀ v h', PlOk C.own C.tab σ vals h' → PlOk C.own C.tab σ' (updv vals i v) h')
    (hst : ∀ v s₁, Le C.base C.P s s₁ → Rep s₁.heap (Sx (C.w S) σ vals) v d → (e.fresh = true → ∀ a, v = .ref a → s.heap.get? a = none) → ∀ {Q2 : Unit → Shared → Prop},
      (∀ h' tk, StV (C.w S) sc C.g₀ env σ' (updv vals i v) h' → (∀ b o, s₁.heap.get? b = some o → b ≠ env.locals → (∀ u, o.data ≠ .cell u) → h'.get? b = some o) → (∀ b, C.g₀.get? b ≠ none → h'.get? b = s₁.heap.get? b) →
        Q2 () { s₁ with heap := h', toks := tk }) → wpAny (model prog w) A (storeName env x v) Q2 E s₁)
    (hQ : ∀ h' tk v, StI C S sc env σ' (updv vals i v) h' → Kq [] s.heap h' → (∀ a, v = .ref a → e.fresh = true → s.heap.get? a = none) → Q .next { s with heap := h', toks := tk }) :
    wpAny (model prog w) A (exec (.Assign [.Name x pos'] value pos) env) Q E s := by
  rcases swaps_cases (env := env) (x := x) (p := pos') (line := pos.line) hc with hs | ⟨elt, gens, isc, q, rfl, hs⟩
  · refine wpAny_Assign_Name ?_ hs
    refine (all_T hA G K e S).1 he hc I.V fun v s₁ L₁ r fr => hst v s₁ L₁ r.plain fr fun h' tk V' k1 k2 => ?_
    have kq : Kq [] s.heap h' := (Kq.le (C := C.w S) I.V L₁ _).trans fun b o e n1 n2 _ => k1 b o e (fun z => by
      have I₁ := I.le L₁
      obtain ⟨m, o', es, ep, q, d, _⟩ := I₁.V.fr.ns
      rw [← z, e] at q; cases q; exact n1 _ _ d) n2
    have ex : Exact C.P C.g₀ h' := fun b o p e => by rw [k2 b (by rw [e]; simp)]; exact L₁.exact b o p (I.ex b o p e)
    obtain ⟨h1, tk1, rfl, _⟩ := L₁
    exact hQ h' tk v ⟨V', ex, hpl _ _ (I.pl.kq kq)⟩ kq fun a e1 e2 => fr e2 a e1
  · obtain ⟨u, g, rfl⟩ := chk_comp hc
    cases g with
    | nil => simp [ev] at he
    | cons p sr c g' =>
      have kk := all_G hA G K (.cons p sr c g') S
      obtain ⟨elt', gens', isc', q', e', hw⟩ := comp_core (C := C.w S) (use := some (assign (.Name x pos') env)) (Q := fun _ s' => Q .next s') (E := E) hA (fun S' => (all_T hA G K u S').1) kk.1.1 kk.1.2.1 kk.1.2.2 he hc I.V
        fun Dl cl m h' tk L hns hcl hr hd hDl => by
          refine wpAny_assign_Name (hst _ _ L hr (fun _ a e => by cases e; exact hDl) fun h2 tk2 V2 k1 k2 => ?_)
          have I₁ := I.le L
          have hlc : cl ≠ env.locals := fun z => by
            obtain ⟨m', o', es, ep, q, d, _⟩ := I.V.fr.ns
            rw [z, q] at hcl; cases hcl
          have hns2 : h2.Ns cl m := by
            obtain ⟨o, es, ep, q, d, r⟩ := hns
            exact ⟨o, es, ep, k1 cl o q hlc (fun u => by rw [d]; simp), d, r⟩
          refine ⟨m, hns2, fun h3 hs3 => ?_⟩
          have hgcl : C.g₀.get? cl = none := I.V.ext.none hcl
          have hPcl : ¬ C.P cl := I.V.offP_new hcl
          have V3 := V2.chgD hns2 hlc hPcl hgcl (I.V.newS cl hcl) hs3
          have kq : Kq [] s.heap h3 := (Kq.le (C := C.w S) I.V L _).trans fun b o e n1 n2 _ => by
            have e2 := k1 b o e (fun z => by
              obtain ⟨m', o', es, ep, q, d, _⟩ := I₁.V.fr.ns
              rw [← z, e] at q; cases q; exact n1 _ _ d) n2
            refine (hs3.2 b fun z => ?_).trans e2
            obtain ⟨o', es, ep, q, d, _⟩ := hns2
            rw [← z, e2] at q; cases q; exact n1 _ _ d
          have ex : Exact C.P C.g₀ h3 := fun b o p e => by
            rw [hs3.2 b (fun z => by rw [z, hgcl] at e; cases e), k2 b (by rw [e]; simp)]
            exact L.exact b o p (I.ex b o p e)
          exact hQ h3 tk2 (.ref Dl) ⟨V3, ex, hpl _ _ (I.pl.kq kq)⟩ kq fun a e1 _ => by cases e1; exact hDl
      cases e'
      rw [exec_Assign_Name_used _ _ _ _ hs]
      refine wpAny_bind (wpAny_standAt (wpAny_bind ?_))
      show wpAny _ A (do let _ ← comprehension (.ListComp elt gens isc q) isc env (firstIterPos gens q) (newList []) (firstAsync gens) (firstIter gens env) (some (assign (.Name x pos') env))) _ _ s
      exact wpAny_bind (wpAny_mono hw (fun _ s' hq => wpAny_pure (wpAny_pure hq)) fun _ _ e => e)

theorem ss_asgv (hA : AOk A) (G : Gl C fnm fa mg mb) (K : CallOk prog w A C fa F) {i : Nat} {e : T} : SoS prog w A C fnm F xs sc env Xc (.asg (.v i) e) := by
  intro mu σ r S stmt vals s Q E he hc I hP
  unfold chkS at hc
  split at hc <;> try (first | (rename_i hh; cases hh; done) | (rename_i hh _; cases hh; done) | cases hc)
  rename_i hh
  cases hh
  simp only [chkP, Bool.and_eq_true, beq_iff_eq] at hc
  simp only [evS, Option.bind_eq_some_iff, Option.map_eq_some_iff, bindP] at he
  obtain ⟨d, hd, σ', hσ, rfl⟩ := he
  split at hσ
  · cases hσ
  · rename_i ho
    have ho : C.own i = false := by simpa using ho
    cases hσ
    refine asg_one hA G K (i := i) hd hc.2 I (fun v h' p => p.upd (.inl ho)) (fun v s₁ L₁ r _ Q2 hq => store_ok (C := C.w S) (StV.Le (C := C.w S) I.V L₁) hc.1.1 hc.1.2 ho r hq) fun h' tk v I' kq _ => hP h' tk _ I' (.bind (l := [i]) kq ⟨fun j n => ?_, fun j oj => ?_⟩)
    · have : j ≠ i := fun z => n (by simp [z])
      exact ⟨upd_ne _ _ this, updv_ne _ _ this⟩
    · have : j ≠ i := fun z => by rw [z, ho] at oj; cases oj
      exact ⟨upd_ne _ _ this, updv_ne _ _ this⟩

theorem ss_own1 (hA : AOk A) (G : Gl C fnm fa mg mb) (K : CallOk prog w A C fa F) {i : Nat} {e : T} : SoS prog w A C fnm F xs sc env Xc (.own1 i e) := by
  intro mu σ r S stmt vals s Q E he hc I hP
  unfold chkS at hc
  split at hc <;> try (first | (rename_i hh; cases hh; done) | (rename_i hh _; cases hh; done) | cases hc)
  rename_i hh
  cases hh
  simp only [Bool.and_eq_true, beq_iff_eq, Bool.not_eq_true'] at hc
  obtain ⟨hc, hnp⟩ := hc
  simp only [evS] at he
  have hg : (C.own i && mu i && e.fresh) = true := by
    by_cases hg : (C.own i && mu i && e.fresh) = true
    · exact hg
    · rw [if_neg hg] at he; cases he
  rw [if_pos hg] at he
  simp only [Option.bind_eq_some_iff, Option.map_eq_some_iff] at he
  obtain ⟨d, hd, ds, hds, rfl⟩ := he
  obtain rfl := listD_some hds
  simp only [Bool.and_eq_true] at hg
  obtain ⟨⟨ho, hm⟩, hf⟩ := hg
  refine asg_one hA G K (i := i) hd hc.2 I (fun v h' p => p.upd (.inr hnp)) (fun v s₁ L₁ r fr Q2 hq => ?_) fun h' tk v I' kq hfr => hP h' tk _ I' ⟨fun b o e n1 n2 n => ⟨kq b o e n1 n2 (by simp), fun j oj mj sj ej => ?_⟩, fun j oj mj => ?_⟩
  · obtain ⟨a, _, rfl, _, _, _, _⟩ := r.list_inv
    have hn := fr hf a rfl
    obtain ⟨vs, hl, hr', hz⟩ := r.items_avoid
    have V₂ := I.V.shun (StV.Le (C := C.w S) I.V L₁) L₁.ext [a] (fun b m => by obtain rfl := List.mem_singleton.mp m; exact hn) (fun b m => by
      obtain rfl := List.mem_singleton.mp m
      obtain ⟨o, q, _⟩ := hl; rw [q]; simp)
    refine store_any (C := C.w fun b => S b ∧ b ∉ [a]) V₂ hc.1.1 hc.1.2 (.inr ⟨ho, a, ds, vs, rfl, rfl, fun z => z.2 (by simp), (I.V.new hn).2, hl, hr'.mono fun b z => ⟨⟨z.1.1, by simpa using z.2⟩, z.1.2⟩, hz, I.V.ext.none hn⟩) fun h' tk V' k1 k2 => hq h' tk (V'.wide fun _ z => z.1) k1 k2
  · by_cases hj : j = i
    · subst hj
      rw [updv_same] at ej
      have := hfr b ej hf
      rw [e] at this; cases this
    · rw [upd_ne _ _ hj] at sj; rw [updv_ne _ _ hj] at ej
      exact n j oj mj sj ej
  · have hj : j ≠ i := fun z => by subst z; rw [hm] at mj; cases mj
    exact ⟨upd_ne _ _ hj, updv_ne _ _ hj⟩

theorem ss_aug (hA : AOk A) (G : Gl C fnm fa mg mb) (K : CallOk prog w A C fa F) {i : Nat} {o : Op2} {e : T} : SoS prog w A C fnm F xs sc env Xc (.aug i o e) := by
  intro mu σ r S stmt vals s Q E he hc I hP
  unfold chkS at hc
  split at hc <;> try (first | (rename_i hh; cases hh; done) | (rename_i hh _; cases hh; done) | cases hc)
  rename_i hh
  cases hh
  simp only [Bool.and_eq_true, beq_iff_eq] at hc
  obtain ⟨⟨⟨⟨h1, h2⟩, h3⟩, h4⟩, h5⟩ := hc
  have h4 : o = .add := by cases o <;> first | rfl | cases h4
  subst h4
  simp only [evS] at he
  by_cases ho : C.own i = true
  · rw [if_pos ho] at he; cases he
  rw [if_neg ho] at he
  have ho : C.own i = false := by simpa using ho
  simp only [Option.bind_eq_some_iff, Option.map_eq_some_iff, op2D] at he
  obtain ⟨a, ha, a', ha', b, hb, b', hb', d, hd, rfl⟩ := he
  obtain rfl := intD_some ha'
  obtain rfl := intD_some hb'
  cases hd
  refine wpAny_AugAssign_Name (load_ok I.V.fr (I.V.val i _ _ ha h1 (isW_isV h2)) (ne_beq h3) ?_)
  refine (all_T hA G K e S).1 hb h5 I.V fun v s₁ L₁ r _ => ?_
  obtain ⟨t, q⟩ := (I.V.rep i _ ha ho).int_inv
  obtain ⟨t', rfl⟩ := r.plain.int_inv
  rw [q]
  refine PySem.P.iadd_int ?_
  have L₂ := L₁.trans (Le.tok C.base C.P s₁ (s₁.toks + 1))
  refine store_ok (C := C.w S) (StV.Le (C := C.w S) I.V L₂) h1 h2 ho (.int _ _) fun h' tk V' k1 k2 => ?_
  have kq : Kq [] s.heap h' := (Kq.le (C := C.w S) I.V L₁ _).trans fun b o e n1 n2 _ => k1 b o e (fun z => by
      have I₁ := I.le L₁
      obtain ⟨m, o', es, ep, q, d, _⟩ := I₁.V.fr.ns
      rw [← z, e] at q; cases q; exact n1 _ _ d) n2
  have ex : Exact C.P C.g₀ h' := fun b o p e => by rw [k2 b (by rw [e]; simp)]; exact L₁.exact b o p (I.ex b o p e)
  obtain ⟨h1', tk1, rfl, _⟩ := L₁
  refine hP h' tk _ ⟨V', ex, (I.pl.kq kq).upd (.inl ho)⟩ (.bind (l := [i]) kq ⟨fun j n => ?_, fun j oj => ?_⟩)
  · have : j ≠ i := fun z => n (by simp [z])
    exact ⟨upd_ne _ _ this, updv_ne _ _ this⟩
  · have : j ≠ i := fun z => by rw [z, ho] at oj; cases oj
    exact ⟨upd_ne _ _ this, updv_ne _ _ this⟩

theorem placeN_some {n : Nat} {k : Int} {j : Nat} (h : placeN n k = some j) : 0 ≤ k ∧ k.toNat < n ∧ j = k.toNat := by
  unfold placeN at h
  split at h
  · rename_i hk; cases h; exact ⟨hk.1, hk.2, rfl⟩
  · cases h
theorem augStore_plain {i : PySem.Expr} (h : isSlice i = false) (ov iv new : Value) : augStore i ov iv new = (do holding [new, ov, iv] (setItem ov iv new); release [new, ov, iv] []; pure .next) := by
  cases i <;> first | rfl | (simp [isSlice] at h)
theorem swaps_sub {o i value : PySem.Expr} {p : Pos} {line : Nat} : swapsWith value (some (.Subscript o i p)) line env = pure false := by
  cases value <;> rfl

/-- the owned list of name x -/
theorem own_list {S : Addr → Prop} {σ : Sg} {vals : Nat → Value} {h : Heap} (V : StV (C.w S) sc C.g₀ env σ vals h) {x : Nat} {xs : List D} (ho : C.own x = true) (hx : σ x = some (.list xs)) :
    ∃ a vs, vals x = .ref a ∧ h.IsList a vs.toArray ∧ RepL h (Sx (C.w S) σ vals) vs xs ∧ xs.length ≤ LB := by
  obtain ⟨a, ds, vs, e1, e2, h1, h2, h3, _⟩ := V.owned x _ hx ho
  cases e1
  exact ⟨a, vs, e2, h1, h2, h3⟩
theorem so_own {t : Nat} {S : Addr → Prop} {σ : Sg} {vals : Nat → Value} {s : Shared} {e : PySem.Expr} {d : D} {Q E : Value → Shared → Prop} (I : StI C S sc env σ vals s.heap) (hx : σ t = some d) (hc : chk C.tab fnm (.v t) sc e = true)
    (h : Q (vals t) s) : wpAny (model prog w) A (eval e env) Q E s := by
  cases e with
  | Name x pos =>
    simp only [chk, Bool.and_eq_true, beq_iff_eq] at hc
    obtain ⟨⟨⟨h1, h2⟩, h3⟩, h4⟩ := hc
    exact wpAny_Name (load_ok I.V.fr (I.V.val t d x hx h1 h2) (ne_beq h4) h) (ne_beq h3)
  | _ => simp [chk] at hc

theorem setItem_list_ok {S : Addr → Prop} {σ : Sg} {vals : Nat → Value} {s : Shared} {mu : Nat → Bool} {x : Nat} {l : List D} {k : Int} {t : Tok} {j : Nat} {v : Value} {d : D} {Q : Unit → Shared → Prop} {E : Value → Shared → Prop}
    (I : StI C S sc env σ vals s.heap) (hnp : isPl C.tab x = false) (ho : C.own x = true) (hm : mu x = true) (hx : σ x = some (.list l)) (hj : placeN l.length k = some j) (hv : Rep s.heap (Sx (C.w S) σ vals) v d)
    (hQ : ∀ h', StI C S sc env (upd σ x (.list (l.set j d))) vals h' → Ks C.own mu σ vals s.heap (upd σ x (.list (l.set j d))) vals h' → Q () { s with heap := h' }) :
    wpAny (model prog w) A (setItem (vals x) (.int k t) v) Q E s := by
  obtain ⟨a, vs, e, hl, hr, hz⟩ := own_list I.V ho hx
  rw [e]
  obtain ⟨hk1, hk2, rfl⟩ := placeN_some hj
  have hk := And.intro hk1 hk2
  have hz' : (l.length : Int) ≤ 1000 := by have : l.length ≤ 1000 := hz; omega
  have hlen := hr.length
  refine wpAny_setItem_list hl hk.1 (by omega) (by simp; omega) fun h' hl' hs => ?_
  have e2 : vs.toArray.setIfInBounds k.toNat v = (vs.set k.toNat v).toArray := by simp
  rw [e2] at hl'
  have V' := StV.ownChg (C := C.w S) I.V ho hx e hl' hs (hr.set hv k.toNat) (by simpa using hz)
  obtain ⟨a', _, _, _, e3, _, _, _, hg⟩ := I.V.owned x _ hx ho
  rw [e] at e3
  obtain rfl : a = a' := by injection e3
  refine hQ h' ⟨V', fun b o p q => (hs.2 b fun z => by rw [z, hg] at q; cases q).trans (I.ex b o p q), fun i b oi pi si vi => ?_⟩ ⟨fun b o q _ _ n => ⟨(hs.2 b fun z => n x ho hm (by rw [hx]; rfl) (z ▸ e)).trans q, fun i oi mi si => ?_⟩, fun i oi mi => ?_⟩
  · have hi : i ≠ x := fun z => by subst z; rw [hnp] at pi; cases pi
    rw [upd_ne _ _ hi] at si
    obtain ⟨o, q, r⟩ := I.pl i b oi pi si vi
    exact ⟨o, (hs.2 b fun z => hi (I.V.dist i x a oi ho si (by rw [hx]; rfl) (z ▸ vi) e)).trans q, r⟩
  · by_cases hi : i = x
    · subst hi; exact n i oi mi (by rw [hx]; rfl)
    · rw [upd_ne _ _ hi] at si; exact n i oi mi si
  · have hi : i ≠ x := fun z => by subst z; rw [hm] at mi; cases mi
    exact ⟨upd_ne _ _ hi, rfl⟩

theorem ss_setI (hA : AOk A) (G : Gl C fnm fa mg mb) (K : CallOk prog w A C fa F) {x : Nat} {i e : T} : SoS prog w A C fnm F xs sc env Xc (.setI x i e) := by
  intro mu σ r S stmt vals s Q E he hc I hP
  unfold chkS at hc
  split at hc <;> try (first | (rename_i hh; cases hh; done) | (rename_i hh _; cases hh; done) | cases hc)
  rename_i hh
  cases hh
  simp only [Bool.and_eq_true, Bool.not_eq_true'] at hc
  obtain ⟨⟨⟨⟨h1, h2⟩, h3⟩, h4⟩, hnp⟩ := hc
  simp only [evS] at he
  have hg : (C.own x && mu x) = true := by
    by_cases hg : (C.own x && mu x) = true
    · exact hg
    · rw [if_neg hg] at he; cases he
  rw [if_pos hg] at he
  simp only [Bool.and_eq_true] at hg
  simp only [Option.bind_eq_some_iff, Option.map_eq_some_iff] at he
  obtain ⟨d, hd, a, ha, l, hl, k, hk, k', hk', j, hj, rfl⟩ := he
  obtain rfl := listD_some hl
  obtain rfl := intD_some hk'
  refine wpAny_Assign_Subscript ?_ swaps_sub
  refine (all_T hA G K e S).1 hd h3 I.V fun v s₁ L₁ r _ => ?_
  have I₁ := I.le L₁
  refine so_own I₁ ha h1 ?_
  refine (all_T hA G K i S).1 hk h2 I₁.V fun u s₂ L₂ r₂ _ => ?_
  obtain ⟨t, rfl⟩ := r₂.plain.int_inv
  have L := L₁.trans L₂
  have I₂ := I.le L
  have kq : Ks C.own mu σ vals s.heap σ vals s₂.heap := .kq (Kq.le (C := C.w S) I.V L [])
  obtain ⟨h2', tk2, rfl, _⟩ := L
  exact setItem_list_ok (s := { s with heap := h2', toks := tk2 }) I₂ hnp hg.1 hg.2 ha hj (r.plain.ext L₂.ext) fun h' I' ks => hP h' tk2 vals I' (kq.trans ks)

theorem ss_augI (hA : AOk A) (G : Gl C fnm fa mg mb) (K : CallOk prog w A C fa F) {x : Nat} {i e : T} : SoS prog w A C fnm F xs sc env Xc (.augI x i e) := by
  intro mu σ r S stmt vals s Q E he hc I hP
  unfold chkS at hc
  split at hc <;> try (first | (rename_i hh; cases hh; done) | (rename_i hh _; cases hh; done) | cases hc)
  rename_i hh
  cases hh
  simp only [Bool.and_eq_true, Bool.not_eq_true'] at hc
  obtain ⟨⟨⟨⟨h1, h2⟩, h3⟩, h4⟩, hnp⟩ := hc
  simp only [evS] at he
  have hg : (C.own x && mu x) = true := by
    by_cases hg : (C.own x && mu x) = true
    · exact hg
    · rw [if_neg hg] at he; cases he
  rw [if_pos hg] at he
  simp only [Bool.and_eq_true] at hg
  simp only [Option.bind_eq_some_iff, Option.map_eq_some_iff] at he
  obtain ⟨a, ha, l, hl, k, hk, k', hk', j, hj, y, hy, y', hy', b, hb, b', hb', rfl⟩ := he
  obtain rfl := listD_some hl
  obtain rfl := intD_some hk'
  obtain rfl := intD_some hy'
  obtain rfl := intD_some hb'
  refine wpAny_AugAssign_SubscriptAny ?_ (augStore_plain h4)
  refine so_own I ha h1 ?_
  refine (all_T hA G K i S).1 hk h2 I.V fun u s₁ L₁ r₁ _ => ?_
  obtain ⟨t, rfl⟩ := r₁.plain.int_inv
  have I₁ := I.le L₁
  obtain ⟨ad, vs, e1, hls, hr, hz⟩ := own_list I₁.V hg.1 ha
  obtain ⟨hkk1, hkk2, rfl⟩ := placeN_some hj
  have hkk := And.intro hkk1 hkk2
  have hz' : (l.length : Int) ≤ 1000 := by have : l.length ≤ 1000 := hz; omega
  obtain ⟨yv, hyv, ry⟩ := hr.get hy
  obtain ⟨ty, rfl⟩ := ry.int_inv
  refine wpAny_mono (Q := fun v s' => v = .int y' ty ∧ s' = s₁) ?_ ?_ fun _ _ z => z
  · rw [e1]
    exact wpAny_getItem_list hls hkk.1 (by omega) (by simpa using hyv) ⟨rfl, rfl⟩
  · rintro v s' ⟨rfl, rfl⟩
    refine (all_T hA G K e S).1 hb h3 I₁.V fun v s₂ L₂ r₂ _ => ?_
    obtain ⟨t', rfl⟩ := r₂.plain.int_inv
    refine PySem.P.iadd_int ?_
    have L := (L₁.trans L₂).trans (Le.tok C.base C.P s₂ (s₂.toks + 1))
    have I₂ := I.le L
    have kq : Ks C.own mu σ vals s.heap σ vals s₂.heap := .kq (Kq.le (C := C.w S) I.V L [])
    obtain ⟨h2', tk2, hs2, _⟩ := L
    have hP' : ∀ h', StI C S _ env (upd σ x (.list (l.set k'.toNat (.int (y' + b'))))) vals h' → Ks C.own mu σ vals s₂.heap (upd σ x (.list (l.set k'.toNat (.int (y' + b'))))) vals h' → Q .next { s₂ with heap := h', toks := s₂.toks + 1 } := fun h' I' ks => by
      have := hP h' tk2 vals I' (kq.trans ks)
      have e3 : ({ s₂ with heap := h', toks := s₂.toks + 1 } : Shared) = { s with heap := h', toks := tk2 } := by
        have := congrArg (fun z : Shared => ({ z with heap := h' } : Shared)) hs2
        simpa using this
      rw [e3]; exact this
    exact setItem_list_ok (s := { s₂ with toks := s₂.toks + 1 }) I₂ hnp hg.1 hg.2 ha hj (.int _ _) hP'

theorem ss_cont : SoS prog w A C fnm F xs sc env Xc .cont := by
  intro mu σ r S stmt vals s Q E he hc I hP
  cases stmt with
  | Continue pos => cases he; exact wpAny_Continue (hP s.heap s.toks vals I .refl)
  | _ => simp [chkS] at hc
theorem ss_dead : SoS prog w A C fnm F xs sc env Xc .dead := by
  intro mu σ r S stmt vals s Q E he hc I hP
  simp [evS] at he

theorem ss_ret (hA : AOk A) (G : Gl C fnm fa mg mb) (K : CallOk prog w A C fa F) {e : T} : SoS prog w A C fnm F xs sc env Xc (.ret e) := by
  intro mu σ r S stmt vals s Q E he hc I hP
  unfold chkS at hc
  split at hc <;> try (first | (rename_i hh; cases hh; done) | (rename_i hh _; cases hh; done) | cases hc)
  rename_i hh
  cases hh
  simp only [evS, Option.map_eq_some_iff] at he
  obtain ⟨d, hd, rfl⟩ := he
  refine wpAny_Return_some ((all_T hA G K e S).1 hd hc I.V fun v s₁ L₁ r _ => ?_)
  have I₁ := I.le L₁
  obtain ⟨h1, tk1, rfl, _⟩ := L₁
  exact hP h1 tk1 v I₁.done (r.plain.mono fun _ z => .inl z.1)
theorem ss_retO {x : Nat} : SoS prog w A C fnm F xs sc env Xc (.retO x) := by
  intro mu σ r S stmt vals s Q E he hc I hP
  unfold chkS at hc
  split at hc <;> try (first | (rename_i hh; cases hh; done) | (rename_i hh _; cases hh; done) | cases hc)
  rename_i hh
  cases hh
  simp only [evS] at he
  have ho : C.own x = true := by
    by_cases ho : C.own x = true
    · exact ho
    · rw [if_neg ho] at he; cases he
  rw [if_pos ho] at he
  simp only [Option.bind_eq_some_iff, Option.map_eq_some_iff] at he
  obtain ⟨a, ha, l, hl, rfl⟩ := he
  obtain rfl := listD_some hl
  refine wpAny_Return_some (so_own I ha hc ?_)
  obtain ⟨ad, ds, vs, e1, e2, h1, h2, h3, hg⟩ := I.V.owned x _ ha ho
  cases e1
  rw [e2]
  exact hP s.heap s.toks _ I.done (.list (.inr hg) h1 h3 (h2.mono fun _ z => .inl z.1))
theorem ss_ite (hA : AOk A) (G : Gl C fnm fa mg mb) (K : CallOk prog w A C fa F) {c : T} {a b : SL} (ha : SoSL prog w A C fnm F xs sc env Xc a) (hb : SoSL prog w A C fnm F xs sc env Xc b) : SoS prog w A C fnm F xs sc env Xc (.ite c a b) := by
  intro mu σ r S stmt vals s Q E he hc I hP
  unfold chkS at hc
  split at hc <;> try (first | (rename_i hh; cases hh; done) | (rename_i hh _; cases hh; done) | cases hc)
  rename_i hh
  cases hh
  simp only [Bool.and_eq_true] at hc
  obtain ⟨⟨h1, h2⟩, h3⟩ := hc
  simp only [evS, Option.bind_eq_some_iff] at he
  obtain ⟨x, hx, q, hq, he⟩ := he
  obtain rfl := boolD_some hq
  refine wpAny_If ((all_T hA G K c S).2 hx h1 I.V fun s₁ L₁ => ?_)
  have hP' := Pst.le I L₁ hP
  have I₁ := I.le L₁
  cases q with
  | true => exact ha he h2 I₁ hP'
  | false => exact hb he h3 I₁ hP'
theorem ssl_nil : SoSL prog w A C fnm F xs sc env Xc .nil := by
  intro mu σ r S stmts vals s Q E he hc I hP
  cases stmts with
  | nil => cases he; exact wpAny_pure (hP s.heap s.toks vals I .refl)
  | cons => simp [chkSL] at hc
theorem ssl_cons {t : TS} {l : SL} (ht : SoS prog w A C fnm F xs sc env Xc t) (hl : SoSL prog w A C fnm F xs sc env Xc l) : SoSL prog w A C fnm F xs sc env Xc (.cons t l) := by
  intro mu σ r S stmts vals s Q E he hc I hP
  cases stmts with
  | nil => simp [chkSL] at hc
  | cons e es =>
    simp only [chkSL, Bool.and_eq_true] at hc
    simp only [evSL, Option.bind_eq_some_iff] at he
    obtain ⟨r1, h1, he⟩ := he
    show wpAny _ _ (do match ← exec e env with | .next => execs es env | f => pure f) _ _ _
    refine wpAny_bind (ht h1 hc.1 I ?_)
    cases r1 with
    | nxt σ1 => exact fun h' tk vals' I' ks => hl he hc.2 (s := { s with heap := h', toks := tk }) I' (Pst.step ⟨h', tk, rfl⟩ ks hP)
    | cnt σ1 => cases he; exact fun h' tk vals' I' ks => wpAny_pure (hP h' tk vals' I' ks)
    | ret d => cases he; exact fun h' tk v e r => wpAny_pure (hP h' tk v e r)
    | ties => cases he; exact hP
end
end Mine
end

section
open PySem PySem.W PyProof.Rows PySem.SeqAt PySem.MeetsSeq PySem.MeetsSeq2 PySem.MeetsSeq3
set_option maxRecDepth 100000
namespace Mine

/-! ## 22. Assignments to tuples -/

abbrev It3 := Nat × Value × D
def updI : List It3 → Sg → Sg
  | [], σ => σ
  | x :: r, σ => updI r (upd σ x.1 x.2.2)
theorem updI_off : ∀ {l : List It3} {σ : Sg} {j : Nat}, j ∉ l.map (·.1) → updI l σ j = σ j
  | [], _, _, _ => rfl
  | x :: r, σ, j, h => by
    simp only [List.map_cons, List.mem_cons, not_or] at h
    show updI r (upd σ x.1 x.2.2) j = _
    rw [updI_off h.2, upd_ne _ _ h.1]
theorem updI_on : ∀ {l : List It3} {σ : Sg} {x : It3}, (l.map (·.1)).Nodup → x ∈ l → updI l σ x.1 = some x.2.2
  | y :: r, σ, x, nd, h => by
    simp only [List.map_cons, List.nodup_cons] at nd
    show updI r (upd σ y.1 y.2.2) x.1 = _
    rcases List.mem_cons.mp h with rfl | h
    · rw [updI_off nd.1, upd_same]
    · exact updI_on nd.2 h
theorem updI_rev {l : List It3} {σ : Sg} (nd : (l.map (·.1)).Nodup) : updI l.reverse σ = updI l σ := by
  funext j
  by_cases h : j ∈ l.map (·.1)
  · obtain ⟨x, hx, rfl⟩ := List.mem_map.mp h
    rw [updI_on nd hx, updI_on (by rw [List.map_reverse]; exact (List.reverse_perm _).nodup_iff.mpr nd) (List.mem_reverse.mpr hx)]
  · rw [updI_off h, updI_off (by rw [List.map_reverse]; simpa using h)]

def refsI (own : Nat → Bool) : List It3 → List Addr
  | [] => []
  | x :: r => (match x.2.1 with | .ref a => if own x.1 then [a] else [] | _ => []) ++ refsI own r
theorem refsI_mem {own : Nat → Bool} {a : Addr} : ∀ {l : List It3}, a ∈ refsI own l ↔ ∃ x ∈ l, own x.1 = true ∧ x.2.1 = .ref a
  | [] => by simp [refsI]
  | x :: r => by
    rw [refsI, List.mem_append, refsI_mem (l := r)]
    constructor
    · rintro (h | ⟨y, h1, h2⟩)
      · obtain ⟨i, v, d⟩ := x
        cases v <;> simp at h
        obtain ⟨h1, rfl⟩ := h
        exact ⟨_, List.mem_cons_self, h1, rfl⟩
      · exact ⟨y, List.mem_cons_of_mem _ h1, h2⟩
    · rintro ⟨y, h1, h2, h3⟩
      rcases List.mem_cons.mp h1 with rfl | h1
      · left; rw [h3]; simp [h2]
      · exact .inr ⟨y, h1, h2, h3⟩
theorem refsI_app {own : Nat → Bool} : ∀ {l r : List It3}, refsI own (l ++ r) = refsI own l ++ refsI own r
  | [], _ => rfl
  | x :: l, r => by simp [refsI, refsI_app (l := l) (r := r)]
theorem refsI_rev {own : Nat → Bool} : ∀ {l : List It3}, (refsI own l.reverse).Perm (refsI own l)
  | [] => .refl _
  | x :: l => by
    rw [List.reverse_cons, refsI_app]
    have : refsI own (x :: l) = refsI own [x] ++ refsI own l := by simp [refsI]
    rw [this]
    exact (List.perm_append_comm).trans (List.Perm.append_left _ refsI_rev)

section
variable {prog : Program} {w : World} {A : Around} {C : Cx} {fnm : List PySem.Str} {F : Fn} {fa : Nat → Addr} {mg mb : PySem.Str → Option Value} {xs : Bool} {sc : Scope} {env : Env} {Xc : Value → Shared → Prop}

variable (prog w A C sc env) in
inductive Acts : List It3 → List (Value → Sem Unit) → Prop where
  | nil : Acts [] []
  | cons {i : Nat} {v : Value} {d : D} {its : List It3} {as : List (Value → Sem Unit)} {act : Value → Sem Unit} (x : PySem.Str) : C.tab[i]? = some x → isW sc x = true →
      (∀ (v : Value) (s : Shared) (Q : Unit → Shared → Prop) (E : Value → Shared → Prop), wpAny (model prog w) A (storeName env x v) Q E s → wpAny (model prog w) A (act v) Q E s) → Acts its as → Acts ((i, v, d) :: its) (act :: as)
theorem Acts.append : ∀ {a b : List It3} {x y : List (Value → Sem Unit)}, Acts prog w A C sc env a x → Acts prog w A C sc env b y → Acts prog w A C sc env (a ++ b) (x ++ y)
  | _, _, _, _, .nil, h => h
  | _, _, _, _, .cons x h1 h2 h3 r, h => .cons x h1 h2 h3 (r.append h)
theorem Acts.rev : ∀ {a : List It3} {x : List (Value → Sem Unit)}, Acts prog w A C sc env a x → Acts prog w A C sc env a.reverse x.reverse
  | _, _, .nil => .nil
  | _, _, .cons x h1 h2 h3 r => by rw [List.reverse_cons, List.reverse_cons]; exact r.rev.append (.cons x h1 h2 h3 .nil)

theorem ItemOk.le {C : Cx} {σ : Sg} {vals : Nat → Value} {h h' : Heap} {i : Nat} {v : Value} {d : D} (x : ItemOk C σ vals h i v d) (e : Ext h h') : ItemOk C σ vals h' i v d := by
  rcases x with ⟨a, r⟩ | ⟨a, ad, ds, vs, q1, q2, q3, q4, q5, q6, q7⟩
  · exact .inl ⟨a, r.ext e⟩
  · exact .inr ⟨a, ad, ds, vs, q1, q2, q3, q4, e.isList q5, q6.ext e, q7⟩

theorem seqStore {C : Cx} {h₀ : Heap} : ∀ (its : List It3) {as : List (Value → Sem Unit)} {σ : Sg} {vals : Nat → Value} {s : Shared} {Q : Unit → Shared → Prop} {E : Value → Shared → Prop}, Acts prog w A C sc env its as → StV C sc h₀ env σ vals s.heap →
    (∀ x ∈ its, ItemOk C σ vals s.heap x.1 x.2.1 x.2.2) → (refsI C.own its).Nodup →
    (∀ h' tk vals', StV C sc h₀ env (updI its σ) vals' h' → Kp h₀ env s.heap h' → (∀ j, j ∉ its.map (·.1) → vals' j = vals j) → (∀ j, j ∈ its.map (·.1) → C.own j = true → ∃ a ∈ refsI C.own its, vals' j = .ref a) → Q () { s with heap := h', toks := tk }) →
    wpAny (model prog w) A (assignInOrder as (its.map (·.2.1))) Q E s
  | [], as, σ, vals, s, Q, E, ha, V, hi, hn, h => by
    cases ha
    exact wpAny_pure (h s.heap s.toks vals V (.of fun _ _ e => e) (fun _ _ => rfl) (fun _ m => by simp at m))
  | (i, v, d) :: its, as, σ, vals, s, Q, E, ha, V, hi, hn, h => by
    cases ha with
    | cons x h1 h2 h3 ha =>
      rename_i as act
      show wpAny _ _ (do holding (its.map (·.2.1)) (act v); assignInOrder as (its.map (·.2.1))) _ _ _
      have h0 := hi _ List.mem_cons_self
      have hsplit : refsI C.own ((i, v, d) :: its) = refsI C.own [(i, v, d)] ++ refsI C.own its := by simp [refsI]
      rw [hsplit] at hn
      refine wpAny_bind (wpAny_holding (h3 v s _ _ (store_any V h1 h2 h0 fun h' tk V' k1 k2 => ?_)))
      have kp : Kp h₀ env s.heap h' := ⟨k1, fun b o n e => by rw [k2 b n]; exact e⟩
      have nN : ∀ b, C.S b → NotO C.own σ vals b → NotO C.own (upd σ i d) (updv vals i v) b := fun b sb n j oj sj ej => by
        by_cases hj : j = i
        · subst hj
          rw [updv_same] at ej
          rcases h0 with ⟨q, _⟩ | ⟨_, a, _, _, q1, _, q3, _⟩
          · rw [q] at oj; cases oj
          · have q1 : v = .ref a := q1
            rw [q1] at ej; cases ej; exact q3 sb
        · rw [upd_ne _ _ hj] at sj; rw [updv_ne _ _ hj] at ej; exact n j oj sj ej
      have on : On s.heap h' (Sx C σ vals) (Sx C (upd σ i d) (updv vals i v)) := kp.on V fun b hb => ⟨hb.1, nN b hb.1 hb.2⟩
      refine seqStore its (s := { s with heap := h', toks := tk }) ha V' (fun y hy => ?_) (List.nodup_append.mp hn).2.1 fun h'' tk' vals' V'' kp' f1 f2 => h h'' tk' vals' V'' (kp.trans kp') (fun j nj => ?_) fun j mj oj => ?_
      · rcases hi y (List.mem_cons_of_mem _ hy) with ⟨q, r⟩ | ⟨q, a, ds, vs, q1, q2, q3, q4, ⟨o, g1, g2, n, g3⟩, q6, q7⟩
        · exact .inl ⟨q, r.on on⟩
        · refine .inr ⟨q, a, ds, vs, q1, q2, q3, fun j oj sj ej => ?_, ⟨o, ?_, g2, n, g3⟩, q6.on on, q7⟩
          · by_cases hj : j = i
            · subst hj
              rw [updv_same] at ej
              have m1 : a ∈ refsI C.own [(j, v, d)] := refsI_mem.mpr ⟨_, List.mem_cons_self, oj, ej⟩
              have m2 : a ∈ refsI C.own its := refsI_mem.mpr ⟨y, hy, q, q1⟩
              exact (List.nodup_append.mp hn).2.2 a m1 a m2 rfl
            · rw [upd_ne _ _ hj] at sj; rw [updv_ne _ _ hj] at ej; exact q4 j oj sj ej
          · refine k1 a o g1 (fun z => ?_) fun u => by rw [g3]; simp
            obtain ⟨m, o', es, ep, q', d', _⟩ := V.fr.ns
            rw [← z, g1] at q'; cases q'; rw [g3] at d'; cases d'
      · simp only [List.map_cons, List.mem_cons, not_or] at nj
        rw [f1 j nj.2, updv_ne _ _ nj.1]
      · by_cases hm : j ∈ its.map (·.1)
        · obtain ⟨a, m, e⟩ := f2 j hm oj
          exact ⟨a, by rw [hsplit]; simp [m], e⟩
        · have hj : j = i := by simp only [List.map_cons, List.mem_cons] at mj; exact mj.resolve_right hm
          subst hj
          rw [f1 j hm, updv_same]
          rcases h0 with ⟨q, _⟩ | ⟨_, a, _, _, q1, _⟩
          · rw [q] at oj; cases oj
          · exact ⟨a, by rw [hsplit]; exact List.mem_append.mpr (.inl (refsI_mem.mpr ⟨_, List.mem_cons_self, oj, q1⟩)), q1⟩

theorem okN_len {own : Nat → Bool} : ∀ {is : List Nat} {es : TL} {ds : List D} {σ : Sg}, okN own is es = true → evL own F false es σ = some ds → is.length = ds.length
  | [], .nil, ds, σ, _, h => by simp [evL] at h; subst h; rfl
  | [], .cons _ _, _, _, h, _ => by simp [okN] at h
  | _ :: _, .nil, _, _, h, _ => by simp [okN] at h
  | i :: is, .cons e es, ds, σ, h, he => by
    simp only [okN, Bool.and_eq_true] at h
    simp only [evL, Option.bind_eq_some_iff] at he
    obtain ⟨d, _, ds', h2, he⟩ := he
    cases he
    simp [okN_len h.2 h2]

def zip3 : List Nat → List Value → List D → List It3
  | i :: is, v :: vs, d :: ds => (i, v, d) :: zip3 is vs ds
  | _, _, _ => []
theorem zip3_1 : ∀ {is : List Nat} {vs : List Value} {ds : List D}, is.length = ds.length → vs.length = ds.length → (zip3 is vs ds).map (·.1) = is ∧ (zip3 is vs ds).map (·.2.1) = vs
  | [], [], [], _, _ => ⟨rfl, rfl⟩
  | i :: is, v :: vs, d :: ds, h1, h2 => by
    obtain ⟨e1, e2⟩ := zip3_1 (is := is) (vs := vs) (ds := ds) (by simpa using h1) (by simpa using h2)
    exact ⟨by simp [zip3, e1], by simp [zip3, e2]⟩
  | [], _ :: _, [], _, h => by simp at h
  | _ :: _, _, [], h, _ => by simp at h
  | [], _, _ :: _, h, _ => by simp at h
  | _ :: _, [], _ :: _, _, h => by simp at h
theorem zip3_upd : ∀ {is : List Nat} {vs : List Value} {ds : List D} {σ : Sg}, is.length = ds.length → vs.length = ds.length → updI (zip3 is vs ds) σ = updN is ds σ
  | [], [], [], _, _, _ => rfl
  | i :: is, v :: vs, d :: ds, σ, h1, h2 => zip3_upd (is := is) (vs := vs) (ds := ds) (σ := upd σ i d) (by simpa using h1) (by simpa using h2)
  | [], _ :: _, [], _, _, h => by simp at h
  | _ :: _, _, [], _, h, _ => by simp at h
  | [], _, _ :: _, _, h, _ => by simp at h
  | _ :: _, [], _ :: _, _, _, h => by simp at h

theorem T_plain {S : Addr → Prop} {e : T} (hT : SoT prog w A (C.w S) fnm F e) {σ : Sg} {d : D} {e' : PySem.Expr} {h₀ : Heap} {vals : Nat → Value} {s : Shared} {Q E : Value → Shared → Prop} (he : ev C.own F false e σ = some d) (hc : chk C.tab fnm e sc e' = true) (V : StV (C.w S) sc h₀ env σ vals s.heap)
    (h : ∀ v s₁, Le C.base C.P s s₁ → RepB false s₁.heap (Sx (C.w S) σ vals) v d → (e.fresh = true → ∀ a, v = .ref a → s.heap.get? a = none) → (nil1 e = true → e.fresh = true → ∀ a, v = .ref a → Plain s₁.heap a) → Q v s₁) : wpAny (model prog w) A (eval e' env) Q E s := by
  by_cases hn : nil1 e = true ∧ e.fresh = true
  · obtain ⟨h1, h2⟩ := hn
    cases e with
    | list l =>
      cases l with
      | nil =>
        cases e' with
        | List es pos =>
          simp only [chk] at hc
          cases es with
          | cons => simp [chkL] at hc
          | nil =>
            simp [ev, evL] at he
            obtain ⟨_, rfl⟩ := he
            rw [arm_eval_List]
            refine wpAny_bind (wpAny_standAt (wpAny_bind (Calls.spliced_nil (p_newList (by decide) ?_))))
            refine h _ _ (.push ..) (.inl (.list (V.new fresh_size) ⟨_, Heap.get?_push_size _ rfl, rfl, _, rfl⟩ (by decide) .nil)) (fun _ a e => ?_) fun _ _ a e => ?_
            · cases e; exact fresh_size
            · cases e
              exact ⟨_, Heap.get?_push_size _ rfl, rfl, (fun _ _ z => by cases z), (fun _ z => by cases z)⟩
        | _ => simp [chk] at hc
      | cons => simp [nil1, T.fresh] at h1
    | _ => simp [nil1] at h1; simp [h1] at h2
  · exact hT he hc V fun v s₁ L r fr => h v s₁ L r fr fun a b => absurd ⟨a, b⟩ hn

theorem evalN (hA : AOk A) (G : Gl C fnm fa mg mb) (K : CallOk prog w A C fa F) {σ : Sg} {vals : Nat → Value} {h₀ : Heap} (h0g : Ext C.g₀ h₀) : ∀ (is : List Nat) (es : TL) {S : Addr → Prop} {ds : List D} {es' : List PySem.Expr} {pos : Pos} {s : Shared} {Q : List Value → Shared → Prop} {E : Value → Shared → Prop},
    okN C.own is es = true → okND C.own is ds = true → evL C.own F false es σ = some ds → chkL C.tab fnm es sc es' = true → StV (C.w S) sc h₀ env σ vals s.heap →
    (∀ vs s', Le C.base C.P s s' → vs.length = ds.length → StV (C.w fun b => S b ∧ b ∉ refsI C.own (zip3 is vs ds)) sc h₀ env σ vals s'.heap → (∀ a ∈ refsI C.own (zip3 is vs ds), s.heap.get? a = none) → (refsI C.own (zip3 is vs ds)).Nodup →
      (∀ x ∈ zip3 is vs ds, ItemOk (C.w fun b => S b ∧ b ∉ refsI C.own (zip3 is vs ds)) σ vals s'.heap x.1 x.2.1 x.2.2) → (nilOnly es = true → ∀ a ∈ refsI C.own (zip3 is vs ds), Plain s'.heap a) → Q vs s') → wpAny (model prog w) A (spliced (backTo pos (starEach es' env))) Q E s
  | [], .nil, S, ds, es', pos, s, Q, E, _, _, he, hc, V, h => by
    simp [evL] at he; subst he
    cases es' with
    | cons => simp [chkL] at hc
    | nil =>
      refine Calls.spliced_nil (h [] s (.refl ..) rfl (V.wide fun _ z => ⟨z, by simp [zip3, refsI]⟩) (by simp [zip3, refsI]) (by simp [zip3, refsI]) (by simp [zip3]) (by simp [zip3, refsI]))
  | [], .cons _ _, _, _, _, _, _, _, _, h, _, _, _, _, _ => by simp [okN] at h
  | _ :: _, .nil, _, _, _, _, _, _, _, h, _, _, _, _, _ => by simp [okN] at h
  | i :: is, .cons e es, S, ds, es', pos, s, Q, E, hn, hd, he, hc, V, h => by
    simp only [okN, Bool.and_eq_true] at hn
    simp only [evL, Option.bind_eq_some_iff] at he
    obtain ⟨d, he1, ds', he2, he⟩ := he
    cases he
    simp only [okND, Bool.and_eq_true] at hd
    cases es' with
    | nil => simp [chkL] at hc
    | cons e' es' =>
      simp only [chkL, Bool.and_eq_true, Bool.not_eq_true'] at hc
      rw [star_cons hc.1.1]
      refine Calls.spliced_cons (T_plain (all_T hA G K e S).1 he1 hc.1.2 V fun v s₁ L₁ r fr plain => ?_)
      have V₁ := StV.Le (C := C.w S) V L₁
      by_cases ho : C.own i = true
      · have hf : e.fresh = true := by simpa [ho] using hn.1
        have hld : ∃ xs, d = .list xs := by
          have := hd.1
          simp [ho] at this
          cases d <;> simp [listD] at this
          exact ⟨_, rfl⟩
        obtain ⟨xs, rfl⟩ := hld
        obtain ⟨a, _, rfl, _, _, _, _⟩ := r.plain.list_inv
        have hnew := fr hf a rfl
        obtain ⟨vs0, hl, hr', hz⟩ := r.plain.items_avoid
        have hex : s₁.heap.get? a ≠ none := by obtain ⟨o, q, _⟩ := hl; rw [q]; simp
        have V₂ := V.shun V₁ L₁.ext [a] (fun b m => by obtain rfl := List.mem_singleton.mp m; exact hnew) (fun b m => by obtain rfl := List.mem_singleton.mp m; exact hex)
        refine evalN hA G K h0g is es hn.2 hd.2 he2 hc.2 V₂ fun vs s' L hlen V' nX nd ok plr => ?_
        have e1 : refsI C.own (zip3 (i :: is) (.ref a :: vs) (.list xs :: ds')) = a :: refsI C.own (zip3 is vs ds') := by simp [zip3, refsI, ho]
        have e2 : (fun b => S b ∧ b ∉ a :: refsI C.own (zip3 is vs ds')) = (fun b => (S b ∧ b ∉ [a]) ∧ b ∉ refsI C.own (zip3 is vs ds')) := by
          funext b; simp [and_assoc]
        refine h (.ref a :: vs) s' (L₁.trans L) (by simp [hlen]) ?_ ?_ ?_ ?_ (fun hno => ?_)
        · rw [e1, e2]; exact V'
        · rw [e1]
          intro b m
          rcases List.mem_cons.mp m with rfl | m
          · exact hnew
          · exact L₁.ext.none (nX b m)
        · rw [e1]
          exact List.nodup_cons.mpr ⟨fun m => hex (nX a m), nd⟩
        · rw [e1]
          intro x hx
          rcases List.mem_cons.mp hx with rfl | hx
          · refine .inr ⟨ho, a, xs, vs0, rfl, rfl, fun z => z.2 (by simp), (V.new hnew).2, L.ext.isList hl, hr'.on fun b hb o hbo _ => ⟨⟨⟨hb.1.1, fun m => ?_⟩, hb.1.2⟩, L.ext b o hbo⟩, hz, h0g.none (V.ext.none hnew)⟩
            rcases List.mem_cons.mp m with z | m
            · exact hb.2 z
            · rw [nX b m] at hbo; cases hbo
          · rw [e2]; exact ok x hx
        · rw [e1]
          simp only [nilOnly, Bool.and_eq_true] at hno
          intro b m
          rcases List.mem_cons.mp m with rfl | m
          · exact (plain hno.1 hf b rfl).ext L.ext
          · exact plr hno.2 b m
      · have ho : C.own i = false := by simpa using ho
        refine evalN hA G K h0g is es hn.2 hd.2 he2 hc.2 V₁ fun vs s' L hlen V' nX nd ok plr => ?_
        have e1 : refsI C.own (zip3 (i :: is) (v :: vs) (d :: ds')) = refsI C.own (zip3 is vs ds') := by
          simp only [zip3, refsI, ho]
          cases v <;> simp
        refine h (v :: vs) s' (L₁.trans L) (by simp [hlen]) ?_ ?_ ?_ ?_ (fun hno => ?_)
        · rw [e1]; exact V'
        · rw [e1]; exact fun b m => L₁.ext.none (nX b m)
        · rw [e1]; exact nd
        · rw [e1]
          intro x hx
          rcases List.mem_cons.mp hx with rfl | hx
          · exact .inl ⟨ho, r.plain.on fun b hb o hbo _ => ⟨⟨⟨hb.1, fun m => by rw [nX b m] at hbo; cases hbo⟩, hb.2⟩, L.ext b o hbo⟩⟩
          · exact ok x hx
        · rw [e1]
          simp only [nilOnly, Bool.and_eq_true] at hno
          exact plr hno.2
end
end Mine
end

section
open PySem PySem.W PyProof.Rows PySem.SeqAt PySem.MeetsSeq PySem.MeetsSeq2 PySem.MeetsSeq3
set_option maxRecDepth 100000
namespace Mine

/-! ## 23. Assignments to tuples, whole -/
def namesOf : List PySem.Expr → List PySem.Str
  | .Name x _ :: r => x :: namesOf r
  | _ :: r => namesOf r
  | [] => []

section
variable {prog : Program} {w : World} {A : Around} {C : Cx} {fnm : List PySem.Str} {F : Fn} {fa : Nat → Addr} {mg mb : PySem.Str → Option Value} {xs : Bool} {sc : Scope} {env : Env} {Xc : Value → Shared → Prop}

theorem chkNs_len {tab : List PySem.Str} : ∀ {is : List Nat} {ts : List PySem.Expr}, chkNs tab is sc ts = true → ts.length = is.length
  | [], [], _ => rfl
  | [], _ :: _, h => by simp [chkNs] at h
  | _ :: _, [], h => by simp [chkNs] at h
  | i :: is, t :: ts, h => by
    cases t with
    | Name x p => simp only [chkNs, Bool.and_eq_true] at h; simp [chkNs_len h.2]
    | _ => simp [chkNs] at h
theorem chkNs_each {tab : List PySem.Str} : ∀ {is : List Nat} {ts : List PySem.Expr}, chkNs tab is sc ts = true → (assignEach ts env).findIdx? (·.1) = none ∧ (assignEach ts env).length = ts.length
  | [], [], _ => ⟨rfl, rfl⟩
  | [], _ :: _, h => by simp [chkNs] at h
  | _ :: _, [], h => by simp [chkNs] at h
  | i :: is, t :: ts, h => by
    cases t with
    | Name x p =>
      simp only [chkNs, Bool.and_eq_true] at h
      obtain ⟨i1, i2⟩ := chkNs_each h.2
      rw [each_cons rfl]
      exact ⟨by simp [List.findIdx?_cons, i1], by simp [i2]⟩
    | _ => simp [chkNs] at h
theorem acts_fwd : ∀ {is : List Nat} {ts : List PySem.Expr} {vs : List Value} {ds : List D}, chkNs C.tab is sc ts = true → is.length = ds.length → vs.length = ds.length → Acts prog w A C sc env (zip3 is vs ds) ((assignEach ts env).map (·.2))
  | [], [], [], [], _, _, _ => .nil
  | [], _ :: _, _, _, h, _, _ => by simp [chkNs] at h
  | _ :: _, [], _, _, h, _, _ => by simp [chkNs] at h
  | i :: is, t :: ts, v :: vs, d :: ds, h, h1, h2 => by
    cases t with
    | Name x p =>
      simp only [chkNs, Bool.and_eq_true, beq_iff_eq] at h
      rw [each_cons rfl]
      exact .cons x h.1.1 h.1.2 (fun v s Q E hs => wpAny_assign_Name hs) (acts_fwd h.2 (by simpa using h1) (by simpa using h2))
    | _ => simp [chkNs] at h
  | [], [], _, _ :: _, _, h, _ => by simp at h
  | _ :: _, _, _, [], _, h, _ => by simp at h
  | _, _, [], _ :: _, _, _, h => by simp at h
  | _, _, _ :: _, [], _, _, h => by simp at h
theorem acts_names : ∀ {is : List Nat} {ts : List PySem.Expr} {vs : List Value} {ds : List D}, chkNs C.tab is sc ts = true → is.length = ds.length → vs.length = ds.length → Acts prog w A C sc env (zip3 is vs ds) ((namesOf ts).map fun n => bindName env n)
  | [], [], [], [], _, _, _ => .nil
  | [], _ :: _, _, _, h, _, _ => by simp [chkNs] at h
  | _ :: _, [], _, _, h, _, _ => by simp [chkNs] at h
  | i :: is, t :: ts, v :: vs, d :: ds, h, h1, h2 => by
    cases t with
    | Name x p =>
      simp only [chkNs, Bool.and_eq_true, beq_iff_eq] at h
      exact .cons x h.1.1 h.1.2 (fun v s Q E hs => wpAny_bindName hs) (acts_names h.2 (by simpa using h1) (by simpa using h2))
    | _ => simp [chkNs] at h
  | [], [], _, _ :: _, _, h, _ => by simp at h
  | _ :: _, _, _, [], _, h, _ => by simp at h
  | _, _, [], _ :: _, _, _, h => by simp at h
  | _, _, _ :: _, [], _, _, h => by simp at h

theorem namesOf_filterMap {tab : List PySem.Str} (f : PySem.Expr → Option PySem.Str) (hf : ∀ x p y, f (.Name x p) = some y → y = x) : ∀ {is : List Nat} {ts : List PySem.Expr}, chkNs tab is sc ts = true → (ts.filterMap f).length = ts.length → ts.filterMap f = namesOf ts
  | [], [], _, _ => rfl
  | [], _ :: _, h, _ => by simp [chkNs] at h
  | _ :: _, [], h, _ => by simp [chkNs] at h
  | i :: is, t :: ts, h, hl => by
    cases t with
    | Name x p =>
      simp only [chkNs, Bool.and_eq_true] at h
      rw [List.filterMap_cons] at hl ⊢
      cases q : f (.Name x p) with
      | none =>
        rw [q] at hl
        have := List.length_filterMap_le f ts
        simp at hl; omega
      | some y =>
        rw [q] at hl
        obtain rfl := hf x p y q
        simp only [namesOf]
        rw [namesOf_filterMap f hf h.2 (by simpa using hl)]
    | _ => simp [chkNs] at h

theorem sw_cases {tab : List PySem.Str} {is : List Nat} {ts vs : List PySem.Expr} {k k' : Nat} {p p' : Pos} (h : chkNs tab is sc ts = true) (hc : (vs.all (constantsAlone 8)) = false) :
    swappedStores [.Tuple ts k p] (.Tuple vs k' p') env = pure none ∨ swappedStores [.Tuple ts k p] (.Tuple vs k' p') env = pure (some (namesOf ts)) := by
  unfold swappedStores
  simp only []
  split
  · exact .inl rfl
  split
  · exact .inl rfl
  split
  · exact .inl rfl
  rename_i hl
  split
  · exact .inl rfl
  rw [hc]
  right
  simp only [Bool.false_eq_true, if_false]
  have hl' := hl
  simp only [Bool.or_eq_true, bne_iff_ne, ne_eq, not_or, Decidable.not_not] at hl'
  rw [namesOf_filterMap _ (fun x p y e => by
    dsimp only at e
    split at e
    · cases e; rfl
    · cases e) h hl'.1]

theorem filterMap_lt {α β : Type} (f : α → Option β) : ∀ {l : List α} {a : α}, a ∈ l → f a = none → (l.filterMap f).length < l.length
  | x :: r, a, h, e => by
    rw [List.filterMap_cons]
    rcases List.mem_cons.mp h with rfl | h
    · rw [e]; have := List.length_filterMap_le f r; simp; omega
    · have := filterMap_lt f h e
      split
      · exact Nat.lt_succ_of_lt this
      · exact Nat.succ_lt_succ this
theorem sw_none {ts : List PySem.Expr} {value : PySem.Expr} {k : Nat} {p : Pos} (h : swNone ts value = true) : swappedStores [.Tuple ts k p] value env = pure none := by
  unfold swappedStores
  cases value with
  | Tuple vs k' p' =>
    simp only []
    split
    · rfl
    split
    · rfl
    split
    · rfl
    rename_i hl
    exfalso
    simp only [Bool.or_eq_true, bne_iff_ne, ne_eq, not_or, Decidable.not_not] at hl
    simp only [swNone, isTuple, Bool.not_true, Bool.false_or, List.any_eq_true, Bool.not_eq_true'] at h
    obtain ⟨t, ht, hn⟩ := h
    have := filterMap_lt (f := fun (x : PySem.Expr) => match x with
      | .Name id pos => if (env.kindOf id == some .local && pos.line == (ts.head?.map (·.pos.line)).getD 0) = true then some id else none
      | _ => none) ht (by cases t <;> first | rfl | (simp [isName] at hn))
    have e := hl.1
    exact absurd e (Nat.ne_of_lt this)
  | _ => rfl

theorem ss_asgT (hA : AOk A) (G : Gl C fnm fa mg mb) (K : CallOk prog w A C fa F) {ps : PatL} {e : T} : SoS prog w A C fnm F xs sc env Xc (.asg (.tup ps) e) := by
  intro mu σ r S stmt vals s Q E he hc I hP
  unfold chkS at hc
  split at hc <;> try (first | (rename_i hh; cases hh; done) | (rename_i hh _; cases hh; done) | cases hc)
  rename_i hh
  cases hh
  rename_i ts k p value pos
  simp only [Bool.and_eq_true] at hc
  obtain ⟨⟨h1, h2⟩, h3⟩ := hc
  simp only [evS, Option.bind_eq_some_iff, Option.map_eq_some_iff] at he
  obtain ⟨d, hd, σ', hb, rfl⟩ := he
  refine wpAny_Assign_stores ?_ (by cases value <;> rfl) (sw_none h3)
  refine (all_T hA G K e S).1 hd h2 I.V fun v s₁ L₁ r _ => ?_
  have I₁ := I.le L₁
  show wpAny _ _ (assign (.Tuple ts k p) env v) _ _ _
  refine so_bind (C := C.w S) hA.hh (.tup ps) hb h1 I₁.V r.plain fun h' tk vals' V' ag kp => ?_
  have kq : Kq [] s.heap h' := (Kq.le (C := C.w S) I.V L₁ _).trans (Kq.kp I₁.V kp _)
  have ex : Exact C.P C.g₀ h' := fun b o p e => kp.old b o (by rw [e]; simp) (I₁.ex b o p e)
  obtain ⟨h1', tk1, rfl, _⟩ := L₁
  exact hP h' tk vals' ⟨V', ex, (I.pl.kq kq).ag ag⟩ (.bind kq ag)

theorem ss_ownN (hA : AOk A) (G : Gl C fnm fa mg mb) (K : CallOk prog w A C fa F) {is : List Nat} {es : TL} : SoS prog w A C fnm F xs sc env Xc (.ownN is es) := by
  intro mu σ r S stmt vals s Q E he hc I hP
  obtain ⟨sc', hsc'⟩ : ∃ sc', sc' = sc := ⟨_, rfl⟩
  unfold chkS at hc
  split at hc <;> try (first | (rename_i hh; cases hh; done) | (rename_i hh _; cases hh; done) | cases hc)
  rename_i hh
  cases hh
  rename_i ts k p vs' k' p' pos
  subst hsc'
  simp only [Bool.and_eq_true, Bool.not_eq_true', decide_eq_true_eq] at hc
  obtain ⟨⟨⟨⟨⟨h1, h2⟩, h2'⟩, h3⟩, h4⟩, h5⟩ := hc
  simp only [evS] at he
  have hg : (okN C.own is es && is.all (fun x => !C.own x || mu x)) = true := by
    by_cases hg : (okN C.own is es && is.all (fun x => !C.own x || mu x)) = true
    · exact hg
    · rw [if_neg hg] at he; cases he
  rw [if_pos hg] at he
  simp only [Bool.and_eq_true, List.all_eq_true, Bool.or_eq_true, Bool.not_eq_true'] at hg
  simp only [Option.bind_eq_some_iff] at he
  obtain ⟨ds, hds, he⟩ := he
  have hd : okND C.own is ds = true := by
    by_cases hd : okND C.own is ds = true
    · exact hd
    · rw [if_neg hd] at he; cases he
  rw [if_pos hd] at he
  cases he
  have hil := okN_len (F := F) hg.1 hds
  rw [exec_Assign_arm]
  refine wpAny_bind (wpAny_standAt ?_)
  rw [show swapsWithSole [.Tuple ts k p] (.Tuple vs' k' p') pos.line env = pure false from rfl]
  refine wpAny_bind (wpAny_pure ?_)
  rw [if_neg (by decide), arm_eval_Tuple]
  refine wpAny_bind (wpAny_bind (wpAny_standAt (wpAny_bind (evalN hA G K (.refl _) is es hg.1 hd hds h3 I.V fun vs s₁ L₁ hlen V₁ nX nd ok plr => p_newTuple (by rw [hlen, ← hil]; exact h2') ?_))))
  obtain ⟨z1, z2⟩ := zip3_1 hil hlen
  have hT : IsTup (s₁.heap.push (newT vs)) s₁.heap.objs.size vs.toArray := ⟨_, Heap.get?_push_size _ rfl, rfl, _, rfl⟩
  -- the way out, from any heap that goes on from s₁'s
  have fin : ∀ (h₁ : Heap) (its : List It3), (∀ b o, s₁.heap.get? b = some o → h₁.get? b = some o) → updI its σ = updN is ds σ → (∀ j, j ∈ its.map (·.1) ↔ j ∈ is) → (∀ a, a ∈ refsI C.own its → a ∈ refsI C.own (zip3 is vs ds)) → ∀ h' tk vals',
      StV (C.w fun b => S b ∧ b ∉ refsI C.own (zip3 is vs ds)) sc' C.g₀ env (updI its σ) vals' h' → Kp C.g₀ env h₁ h' → (∀ j, j ∉ its.map (·.1) → vals' j = vals j) → (∀ j, j ∈ its.map (·.1) → C.own j = true → ∃ a ∈ refsI C.own its, vals' j = .ref a) →
      Q .next { s₁ with heap := h', toks := tk } := fun h₁ its k eσ ei er h' tk vals' V' kp f1 f2 => by
    have I₁ := I.le L₁
    have ex : Exact C.P C.g₀ h' := fun b o p e => kp.old b o (by rw [e]; simp) (k b o (I₁.ex b o p e))
    have big : ∀ b o, s.heap.get? b = some o → (∀ es k, o.data ≠ .dict es k) → (∀ u, o.data ≠ .cell u) → h'.get? b = some o := fun b o e n1 n2 => by
      have e1 := L₁.exact b o (I.V.offP e n1) e
      refine kp.big b o (k b o e1) (fun z => ?_) n2
      obtain ⟨m, o', es, ep, q, d, _⟩ := I₁.V.fr.ns
      rw [← z, e1] at q; cases q; exact n1 _ _ d
    have same : ∀ j, j ∉ is → updN is ds σ j = σ j := fun j nj => by rw [← eσ]; exact updI_off fun m => nj ((ei j).mp m)
    rw [eσ] at V'
    have pl : PlOk C.own C.tab (updN is ds σ) vals' h' := fun j a oj pj sj ej => by
      by_cases hj : j ∈ is
      · obtain ⟨a', ma, ea⟩ := f2 j ((ei j).mpr hj) oj
        rw [ea] at ej; cases ej
        have hno : nilOnly es = true := by
          rcases Bool.or_eq_true _ _ ▸ h5 with z | z
          · exact z
          · have : is.any (isPl C.tab) = true := List.any_eq_true.mpr ⟨j, hj, pj⟩
            rw [this] at z; cases z
        obtain ⟨o, q, r1, r2, r3⟩ := plr hno a (er _ ma)
        refine ⟨o, kp.big a o (k a o q) (fun z => ?_) r3, r1, r2, r3⟩
        obtain ⟨m, o', es, ep, q', d, _⟩ := I₁.V.fr.ns
        rw [← z, q] at q'; cases q'; exact r2 _ _ d
      · rw [same j hj] at sj
        rw [f1 j fun m => hj ((ei j).mp m)] at ej
        obtain ⟨o, q, r1, r2, r3⟩ := I.pl j a oj pj sj ej
        exact ⟨o, big a o q r2 r3, r1, r2, r3⟩
    obtain ⟨h1', tk1, rfl, _⟩ := L₁
    refine hP h' tk vals' ⟨V'.wide fun _ z => z.1, ex, pl⟩ ⟨fun b o e n1 n2 n => ⟨big b o e n1 n2, fun j oj mj sj ej => ?_⟩, fun j oj mj => ?_⟩
    · by_cases hj : j ∈ is
      · obtain ⟨a, ma, ea⟩ := f2 j ((ei j).mpr hj) oj
        rw [ea] at ej; cases ej
        have := nX _ (er _ ma)
        rw [e] at this; cases this
      · rw [same j hj] at sj
        rw [f1 j fun m => hj ((ei j).mp m)] at ej
        exact n j oj mj sj ej
    · have hj : j ∉ is := fun m => by
        rcases hg.2 j m with z | z
        · rw [oj] at z; cases z
        · rw [mj] at z; cases z
      exact ⟨same j hj, f1 j fun m => hj ((ei j).mp m)⟩
  rcases sw_cases (env := env) (k := k) (k' := k') (p := p) (p' := p') h1 h4 with hsw | hsw
  · rw [hsw]
    refine wpAny_bind (wpAny_pure ?_)
    show wpAny _ _ (do assign (.Tuple ts k p) env (.ref s₁.heap.objs.size); pure Flow.next) _ _ _
    obtain ⟨e1, e2⟩ := chkNs_each (env := env) h1
    refine wpAny_bind (PyProof.Rows.assign_Tuple_tuple hA.hh hT (by rw [e2, chkNs_len h1, List.size_toArray, hlen, hil]) e1 fun h₁ hx => ?_)
    have k01 : ∀ b o, s₁.heap.get? b = some o → h₁.get? b = some o := fun b o e => by
      have e' := Heap.get?_push_of_some (newT vs) e
      exact hx b o (Nat.ne_of_lt (Heap.lt_size e')) e'
    have V₂ := V₁.le (h' := h₁) (.of k01) fun b o _ e => k01 b o e
    show wpAny _ _ (assignInOrder ((assignEach ts env).map (·.2)) vs.toArray.toList) _ _ _
    rw [show vs.toArray.toList = (zip3 is vs ds).map (·.2.1) from by rw [z2]]
    exact seqStore (zip3 is vs ds) (s := { s₁ with heap := h₁ }) (acts_fwd (C := C.w fun b => S b ∧ b ∉ refsI C.own (zip3 is vs ds)) h1 hil hlen) V₂ (fun x hx => (ok x hx).le (.of k01)) nd fun h' tk vals' V' kp f1 f2 =>
      wpAny_pure (fin h₁ _ k01 (zip3_upd hil hlen) (fun j => by rw [z1]) (fun _ m => m) h' tk vals' V' kp f1 f2)
  · rw [hsw]
    refine wpAny_bind (wpAny_pure ?_)
    show wpAny _ _ (do rule "assign.swapped-stores"; let items ← unpackItems (.ref s₁.heap.objs.size) (namesOf ts).length none; assignInOrder ((namesOf ts).reverse.map fun n => bindName env n) items.reverse; pure Flow.next) _ _ _
    have hnl : (namesOf ts).length = vs.toArray.size := by
      have a1 := acts_names (prog := prog) (w := w) (A := A) (C := C) (env := env) h1 hil hlen
      have : ∀ {its : List It3} {as : List (Value → Sem Unit)}, Acts prog w A C sc' env its as → as.length = its.length := fun a => by
        induction a with
        | nil => rfl
        | cons x _ _ _ _ ih => simp [ih]
      have h5 := this a1
      have h6 := congrArg List.length z2
      simp at h5 h6 ⊢
      omega
    rw [hnl]
    refine wpAny_bind (wpAny_rule (wpAny_bind (PyProof.Rows.unpackItems_tuple hA.hh hT fun h₁ hx => ?_)))
    have k01 : ∀ b o, s₁.heap.get? b = some o → h₁.get? b = some o := fun b o e => by
      have e' := Heap.get?_push_of_some (newT vs) e
      exact hx b o (Nat.ne_of_lt (Heap.lt_size e')) e'
    have V₂ := V₁.le (h' := h₁) (.of k01) fun b o _ e => k01 b o e
    rw [show vs.toArray.toList.reverse = (zip3 is vs ds).reverse.map (·.2.1) from by rw [List.map_reverse, z2], List.map_reverse]
    refine wpAny_bind (seqStore (zip3 is vs ds).reverse (s := { s₁ with heap := h₁ }) (acts_names (C := C.w fun b => S b ∧ b ∉ refsI C.own (zip3 is vs ds)) h1 hil hlen).rev V₂ (fun x hx => (ok x (List.mem_reverse.mp hx)).le (.of k01)) (refsI_rev.nodup_iff.mpr nd) fun h' tk vals' V' kp f1 f2 =>
      wpAny_pure (fin h₁ _ k01 ?_ (fun j => ?_) (fun a m => (refsI_rev.mem_iff).mp m) h' tk vals' V' kp f1 f2))
    · rw [updI_rev (by rw [z1]; exact h2)]; exact zip3_upd hil hlen
    · rw [List.map_reverse, List.mem_reverse, z1]
end
end Mine
end

section
open PySem PySem.W PyProof.Rows PySem.SeqAt PySem.MeetsSeq PySem.MeetsSeq2 PySem.MeetsSeq3
set_option maxRecDepth 100000
namespace Mine

/-! ## 24. Loops -/
theorem NotM.toO {own mu : Nat → Bool} {σ σ' : Sg} {vals vals' : Nat → Value} {b : Addr} (m : NotM own mu σ' vals' b) (fix : ∀ j, own j = true → mu j = false → σ' j = σ j ∧ vals' j = vals j) (n : NotO own σ vals b) : NotO own σ' vals' b := fun j o s e => by
  cases q : mu j with
  | true => exact m j o q s e
  | false =>
    obtain ⟨e1, e2⟩ := fix j o q
    rw [e1] at s; rw [e2] at e; exact n j o s e
theorem Ks.on {C : Cx} {S : Addr → Prop} {mu : Nat → Bool} {σ σ' : Sg} {vals vals' : Nat → Value} {h h' : Heap} (k : Ks C.own mu σ vals h σ' vals' h') : On h h' (Sx (C.w S) σ vals) (Sx (C.w S) σ' vals') := fun a ha o ho ⟨xs, n, hd⟩ => by
  obtain ⟨e, m⟩ := k.big a o ho (fun _ _ => by rw [hd]; simp) (fun _ => by rw [hd]; simp) (NotO.notM ha.2)
  exact ⟨⟨ha.1, m.toO k.fix ha.2⟩, o.slots, e⟩
theorem Ks.weak {own mu : Nat → Bool} {σ σ' : Sg} {vals vals' : Nat → Value} {h h' : Heap} (k : Ks own (fun _ => false) σ vals h σ' vals' h') : Ks own mu σ vals h σ' vals' h' :=
  ⟨fun b o e n1 n2 n => ⟨(k.big b o e n1 n2 fun _ _ z => by cases z).1, fun j oj mj sj ej => by
    obtain ⟨e1, e2⟩ := k.fix j oj rfl
    rw [e1] at sj; rw [e2] at ej; exact n j oj mj sj ej⟩, fun j oj _ => k.fix j oj rfl⟩

section
variable {prog : Program} {w : World} {A : Around} {C : Cx} {fnm : List PySem.Str} {F : Fn} {fa : Nat → Addr} {mg mb : PySem.Str → Option Value} {xs : Bool} {sc : Scope} {env : Env} {Xc Xh : Value → Shared → Prop} {Xf : Shared → Value → Shared → Prop}

theorem Pst.weak {S : Addr → Prop} {mu : Nat → Bool} {σ : Sg} {vals : Nat → Value} {s : Shared} {Q : Flow → Shared → Prop} {E : Value → Shared → Prop} {r : R} (hP : Pst C S sc env mu Xc σ vals s Q E r) : Pst C S sc env (fun _ => false) Xc σ vals s Q E r := by
  cases r with
  | nxt σ' => exact fun h' tk vals' I' k => hP h' tk vals' I' k.weak
  | cnt σ' => exact fun h' tk vals' I' k => hP h' tk vals' I' k.weak
  | ret d => exact hP
  | ties => exact hP

def ownPost (prog : Program) (w : World) (A : Around) (env : Env) (Q : Flow → Shared → Prop) (E : Value → Shared → Prop) (r : Result) (s' : Shared) : Prop := match r with | .ok f => Q f s' | .error e => cameBackBy (model prog w) A env E e s'

theorem noted_ok (X : ExOk prog w A C F fa xs sc env Xc Xh Xf) {s₀ : Shared} {Q : Flow → Shared → Prop} {E : Value → Shared → Prop} (hE : ∀ x s', Same s₀ s' → Xc x s' → E x s') : ∀ x s', Same s₀ s' → Xc x s' → notedBy (model prog w) A env (fun e s' => ownPost prog w A env Q E (.error e) s') x s' := fun x s' hs hx => by
  unfold notedBy
  exact X.note x s' _ _ hx fun s'' hs' hx' => X.back x s'' E hx' fun s3 hs3 h3 => hE x s3 ((hs.trans hs').trans hs3) h3

theorem for_core (hA : AOk A) (X : ExOk prog w A C F fa xs sc env Xc Xh Xf) {mu : Nat → Bool} {b : SL} {p : Pat} (hb : SoSL prog w A C fnm F xs sc env Xc b) {target : PySem.Expr} {body : List PySem.Stmt} (hp : chkP C.tab p sc target = true) (hcb : chkSL C.tab fnm xs b sc body = true)
    {S S2 : Addr → Prop} {σ₀ : Sg} {vals₀ : Nat → Value} {s₀ s : Shared} {r : R} {Q : Flow → Shared → Prop} {E : Value → Shared → Prop} {I : Addr} {fp wr : List Addr} {ds : List D} {Src : Heap → (Addr → Prop) → Prop} {St : Nat → Heap → Prop}
    (W : It prog w A target I fp wr ds Src St) (hs : ∃ h1 tk1, s = { s₀ with heap := h1, toks := tk1 })
    (he : loopF (fun d σ => (bindP C.own p d σ).bind fun σ' => evSL C.own F mu b σ') ds σ₀ = some r)
    (hI : StI C S2 sc env σ₀ vals₀ s.heap) (ks : Ks C.own mu σ₀ vals₀ s₀.heap σ₀ vals₀ s.heap) (hst : St 0 s.heap) (hsrc : Src s.heap (Sx (C.w S2) σ₀ vals₀))
    (hf : ∀ a ∈ fp, NotM C.own mu σ₀ vals₀ a) (hwS : ∀ a, S2 a → a ∉ wr) (hwO : ∀ a ∈ wr, NotO C.own σ₀ vals₀ a) (hwn : ∀ a ∈ wr, s₀.heap.get? a = none) (hwg : ∀ a ∈ wr, C.g₀.get? a = none) (hS : ∀ a, S2 a → S a) (hSw : ∀ a ∈ wr, S a)
    (hP : Pst C S sc env mu Xc σ₀ vals₀ s₀ Q E r) : codeAny (model prog w) A (.forLoop target (.ref I) body [] env) (ownPost prog w A env Q E) s := by
  obtain ⟨h0, tk0, rfl⟩ := hs
  refine codeAny_forLoop_any (fun n s' => ∃ i h tk σ vals, s' = { s₀ with heap := h, toks := tk } ∧ n = ds.length + 1 - i ∧ i ≤ ds.length ∧ loopF (fun d σ => (bindP C.own p d σ).bind fun σ' => evSL C.own F mu b σ') (ds.drop i) σ = some r ∧
    StI C S2 sc env σ vals h ∧ Ks C.own mu σ₀ vals₀ s₀.heap σ vals h ∧ St i h ∧ Src h (Sx (C.w S2) σ vals) ∧ (∀ a ∈ fp, NotM C.own mu σ vals a) ∧ (∀ a ∈ wr, NotO C.own σ vals a)) ?_ (ds.length + 1) ⟨0, h0, tk0, σ₀, vals₀, rfl, rfl, Nat.zero_le _, by simpa using he, hI, ks, hst, hsrc, hf, hwO⟩
  rintro n s' ⟨i, h, tk, σ, vals, rfl, rfl, hi, hl, hI, ks, hst, hsrc, hf, hwO⟩
  have hwf : ∀ {i h'}, St i h' → ∀ a ∈ wr, ∃ o, h'.get? a = some o ∧ (∀ es n, o.data ≠ .dict es n) ∧ ∀ u, o.data ≠ .cell u := fun st a m => W.obj _ _ st a (W.sub a m)
  by_cases hlt : i < ds.length
  · have hd : ds[i]? = some ds[i] := List.getElem?_eq_getElem hlt
    rw [List.drop_eq_getElem_cons hlt] at hl
    simp only [loopF, Option.bind_eq_some_iff] at hl
    obtain ⟨x, ⟨σ1, hb1, hx⟩, hl⟩ := hl
    refine W.item i { s₀ with heap := h, toks := tk } (Sx (C.w S2) σ vals) ds[i] _ _ hd hst hsrc (fun a n => hI.V.new n) fun v h1 tk1 k1 hgo => ?_
    refine hgo _ _ _ rfl fun h2 st2 rv k2 => ?_
    have k12 : ∀ b o, b ∉ wr → h.get? b = some o → h2.get? b = some o := fun b o n e => k2 b o n (k1 b o n e)
    have V2 : StV (C.w S2) sc C.g₀ env σ vals h2 := hI.V.chg wr k12 (hwf hst) (fun a m => by obtain ⟨o, q, _⟩ := hwf st2 a m; rw [q]; simp) hwg (fun a m z => hwS a z m) hwO
    have pl2 : PlOk C.own C.tab σ vals h2 := fun i a oi pi si vi => by
      obtain ⟨o, q, r⟩ := hI.pl i a oi pi si vi
      exact ⟨o, k12 a o (fun m => hwO a m i oi si vi) q, r⟩
    have I2 : StI C S2 sc env σ vals h2 := ⟨V2, fun b o p e => k12 b o (fun m => by rw [hwg b m] at e; cases e) (hI.ex b o p e), pl2⟩
    refine so_bind (C := C.w S2) hA.hh p hb1 hp V2 rv fun h3 tk3 vals1 V3 ag kp => ?_
    have I3 : StI C S2 sc env σ1 vals1 h3 := ⟨V3, fun b o p e => kp.old b o (by rw [e]; simp) (I2.ex b o p e), (I2.pl.kq (Kq.kp V2 kp _)).ag ag⟩
    have ks23 : Ks C.own mu σ vals h2 σ1 vals1 h3 := .bind (Kq.kp V2 kp _) ag
    have next : ∀ σ' h' tk' vals', StI C S2 sc env σ' vals' h' → Ks C.own mu σ1 vals1 h3 σ' vals' h' → loopF (fun d σ => (bindP C.own p d σ).bind fun σ' => evSL C.own F mu b σ') (ds.drop (i + 1)) σ' = some r →
        ∃ m, m < ds.length + 1 - i ∧ ∃ i h tk σ vals, ({ s₀ with heap := h', toks := tk' } : Shared) = { s₀ with heap := h, toks := tk } ∧ m = ds.length + 1 - i ∧ i ≤ ds.length ∧ loopF (fun d σ => (bindP C.own p d σ).bind fun σ' => evSL C.own F mu b σ') (ds.drop i) σ = some r ∧
          StI C S2 sc env σ vals h ∧ Ks C.own mu σ₀ vals₀ s₀.heap σ vals h ∧ St i h ∧ Src h (Sx (C.w S2) σ vals) ∧ (∀ a ∈ fp, NotM C.own mu σ vals a) ∧ (∀ a ∈ wr, NotO C.own σ vals a) := fun σ' h' tk' vals' I' k' hl' => by
      have k2' := ks23.trans k'
      have fpk : ∀ a ∈ fp, ∀ o, h2.get? a = some o → h'.get? a = some o ∧ NotM C.own mu σ' vals' a := fun a m o e => by
        obtain ⟨o', q, n1, n2⟩ := W.obj _ _ st2 a m
        rw [q] at e; cases e
        exact k2'.big a _ q n1 n2 (hf a m)
      refine ⟨ds.length + 1 - (i + 1), by omega, i + 1, h', tk', σ', vals', rfl, rfl, hlt, hl', I', ⟨fun b o e n1 n2 n => ?_, fun j oj mj => ?_⟩, ?_, ?_, ?_, ?_⟩
      · obtain ⟨e1, m1⟩ := ks.big b o e n1 n2 n
        exact k2'.big b o (k12 b o (fun m => by rw [hwn b m] at e; cases e) e1) n1 n2 m1
      · obtain ⟨a1, a2⟩ := ks.fix j oj mj
        obtain ⟨b1, b2⟩ := k2'.fix j oj mj
        exact ⟨b1.trans a1, b2.trans a2⟩
      · exact W.frame _ _ _ st2 fun a m o e => (fpk a m o e).1
      · refine W.src h h' _ _ (fun a ha o ho hx => ?_) hsrc
        exact k2'.on a ha o (k12 a o (hwS a ha.1) ho) hx
      · intro a m
        obtain ⟨o, q, _⟩ := W.obj _ _ st2 a m
        exact (fpk a m o q).2
      · intro a m
        obtain ⟨o, q, _⟩ := W.obj _ _ st2 a (W.sub a m)
        exact (fpk a (W.sub a m) o q).2.toO k2'.fix (hwO a m)
    refine hb hx hcb I3 ?_
    cases x with
    | nxt σ' => exact fun h' tk' vals' I' k' => next σ' h' tk' vals' I' k' hl
    | cnt σ' => exact fun h' tk' vals' I' k' => next σ' h' tk' vals' I' k' hl
    | ret d =>
      cases hl
      exact fun h' tk' v e rr => hP h' tk' v e (rr.mono fun a z => z.elim (fun z => .inl (hS a z)) .inr)
    | ties =>
      cases hl
      exact fun x s' hs hx => noted_ok X hP x s' (Same.trans ⟨h3, tk3, rfl⟩ hs) hx
  · have hi' : i = ds.length := by omega
    subst hi'
    simp [loopF] at hl
    subst hl
    refine W.done { s₀ with heap := h, toks := tk } _ _ hst fun h1 tk1 k1 => ?_
    refine wpAny_pure (hP h1 tk1 vals ⟨hI.V.chg' S hS wr k1 (hwf hst) (fun a m _ => hSw a m) hwg (fun a m z => hwS a z m) hwO, fun b o p e => k1 b o (fun m => by rw [hwg b m] at e; cases e) (hI.ex b o p e), fun i a oi pi si vi => by
      obtain ⟨o, q, r⟩ := hI.pl i a oi pi si vi
      exact ⟨o, k1 a o (fun m => hwO a m i oi si vi) q, r⟩⟩ ⟨fun b o e n1 n2 n => ?_, ks.fix⟩)
    obtain ⟨e1, m1⟩ := ks.big b o e n1 n2 n
    exact ⟨k1 b o (fun m => by rw [hwn b m] at e; cases e) e1, m1⟩

theorem ss_loop (hA : AOk A) (G : Gl C fnm fa mg mb) (K : CallOk prog w A C fa F) (X : ExOk prog w A C F fa xs sc env Xc Xh Xf) {p : Pat} {sr : Sr} {b : SL} (hb : SoSL prog w A C fnm F xs sc env Xc b) : SoS prog w A C fnm F xs sc env Xc (.loop p sr b) := by
  intro mu σ r S stmt vals s Q E he hc I hP
  obtain ⟨sc', hsc'⟩ : ∃ sc', sc' = sc := ⟨_, rfl⟩
  unfold chkS at hc
  split at hc <;> try (first | (rename_i hh; cases hh; done) | (rename_i hh _; cases hh; done) | cases hc)
  rename_i hh
  cases hh
  rename_i target iter body pos
  subst hsc'
  simp only [Bool.and_eq_true] at hc
  obtain ⟨⟨h1, h2⟩, h3⟩ := hc
  simp only [evS, Option.bind_eq_some_iff] at he
  obtain ⟨ds, hds, he⟩ := he
  refine wpAny_For ?_ (fold_pure (chkSr_set h2) env)
  refine all_Sr hA G K sr S hds h2 I.V fun Ia fp wr Src St s₂ L W n1 n2 st src hlen => ?_
  have I₂ := I.le L
  have hwx : ∀ a ∈ wr, s₂.heap.get? a ≠ none := fun a m => by obtain ⟨o, q, _⟩ := W.obj _ _ st a (W.sub a m); rw [q]; simp
  have V2 := I.V.shun I₂.V L.ext wr n1 hwx
  refine for_core hA X hb h1 h3 (S2 := fun a => S a ∧ a ∉ wr) W (by obtain ⟨h1, tk1, rfl, _⟩ := L; exact ⟨h1, tk1, rfl⟩) he ⟨V2, I₂.ex, I₂.pl⟩ (.kq (Kq.le (C := C.w S) I.V L [])) st (W.src _ _ _ _ (.of (.refl _) fun a ha => ⟨⟨ha.1.1, ha.2⟩, ha.1.2⟩) src)
    (fun a m => ?_) (fun a ha => ha.2) (fun a m => (I.V.new (n1 a m)).2) n1 (fun a m => I.V.ext.none (n1 a m)) (fun a ha => ha.1) (fun a m => (I.V.new (n1 a m)).1) hP
  rcases n2 a m with z | z
  · exact NotO.notM z.2
  · exact NotO.notM (I.V.new z).2

theorem ss_loopB (hA : AOk A) (X : ExOk prog w A C F fa xs sc env Xc Xh Xf) {p : Pat} {x : Nat} {b : SL} (hb : SoSL prog w A C fnm F xs sc env Xc b) : SoS prog w A C fnm F xs sc env Xc (.loopB p x b) := by
  intro mu σ r S stmt vals s Q E he hc I hP
  obtain ⟨sc', hsc'⟩ : ∃ sc', sc' = sc := ⟨_, rfl⟩
  unfold chkS at hc
  split at hc <;> try (first | (rename_i hh; cases hh; done) | (rename_i hh _; cases hh; done) | cases hc)
  rename_i hh
  cases hh
  rename_i target iter body pos
  subst hsc'
  simp only [Bool.and_eq_true, Bool.or_eq_true] at hc
  obtain ⟨⟨⟨h1, h2⟩, h3⟩, h4⟩ := hc
  simp only [evS] at he
  have ho : C.own x = true := by
    by_cases ho : C.own x = true
    · exact ho
    · rw [if_neg ho] at he; cases he
  rw [if_pos ho] at he
  simp only [Option.bind_eq_some_iff] at he
  obtain ⟨a, ha, ds, hds, he⟩ := he
  obtain rfl := listD_some hds
  refine wpAny_For ?_ (fold_pure (by cases iter <;> first | rfl | (simp [chk] at h3)) env)
  refine so_own I ha h3 ?_
  obtain ⟨ad, vs, e1, hl, hr, hz⟩ := own_list I.V ho ha
  rw [e1]
  have hlt : ad < s.heap.objs.size := by obtain ⟨_, q, _⟩ := hl; exact Heap.lt_size q
  refine wpAny_pyIter_list hl ?_
  have L := Le.push C.base C.P s { cls := .type "list_iterator", data := .fields #[.ref ad, .int 0 0] }
  have I₂ := I.le L
  have hn : s.heap.get? s.heap.objs.size = none := fresh_size
  have V2 := I.V.shun I₂.V L.ext [s.heap.objs.size] (fun a m => by obtain rfl := List.mem_singleton.mp m; exact hn) (fun a m => by
    obtain rfl := List.mem_singleton.mp m
    have := Heap.get?_push_size (o := { cls := .type "list_iterator", data := .fields #[.ref ad, .int 0 0] }) s.heap rfl
    show Heap.get? (s.heap.push _) _ ≠ none
    rw [this]; simp)
  refine for_core hA X hb h1 h4 (mu := fun _ => false) (S2 := fun a => S a ∧ a ∉ [s.heap.objs.size]) (It.list h2 hA.hh s.heap.objs.size ad (Nat.ne_of_lt hlt) hr.length) ⟨_, _, rfl⟩ he ⟨V2, I₂.ex, I₂.pl⟩ (.kq (Kq.le (C := C.w S) I.V L [])) ⟨⟨_, Heap.get?_push_size _ rfl, rfl, rfl⟩, hl.push _⟩
    (hr.on fun a ha o ho _ => ⟨⟨⟨ha.1, fun m => by obtain rfl := List.mem_singleton.mp m; rw [hn] at ho; cases ho⟩, ha.2⟩, L.ext a o ho⟩)
    (fun a m => fun _ _ z => by cases z) (fun a ha => ha.2) (fun a m => ?_) (fun a m => ?_) (fun a m => ?_) (fun a ha => ha.1) (fun a m => ?_) hP.weak
  · obtain rfl := List.mem_singleton.mp m; exact (I.V.new hn).2
  · obtain rfl := List.mem_singleton.mp m; exact hn
  · obtain rfl := List.mem_singleton.mp m; exact I.V.ext.none hn
  · obtain rfl := List.mem_singleton.mp m; exact (I.V.new hn).1

theorem ss_whil (hA : AOk A) (G : Gl C fnm fa mg mb) (K : CallOk prog w A C fa F) (X : ExOk prog w A C F fa xs sc env Xc Xh Xf) {n : Nat} {c : T} {b : SL} (hb : SoSL prog w A C fnm F xs sc env Xc b) : SoS prog w A C fnm F xs sc env Xc (.whil n c b) := by
  intro mu σ₀ r S stmt vals₀ s Q E he hc I hP
  obtain ⟨sc', hsc'⟩ : ∃ sc', sc' = sc := ⟨_, rfl⟩
  unfold chkS at hc
  split at hc <;> try (first | (rename_i hh; cases hh; done) | (rename_i hh _; cases hh; done) | cases hc)
  rename_i hh
  cases hh
  rename_i test body pos
  subst hsc'
  simp only [Bool.and_eq_true] at hc
  simp only [evS] at he
  refine wpAny_While ?_
  refine codeAny_whileLoop (R := ownPost prog w A env Q E) (fun k s' => ∃ h tk σ vals, s' = { s with heap := h, toks := tk } ∧ whileF (fun σ => (ev C.own F false c σ).bind boolD) (fun σ => evSL C.own F mu b σ) k σ = some r ∧ StI C S sc' env σ vals h ∧ Ks C.own mu σ₀ vals₀ s.heap σ vals h) ?_ n ⟨s.heap, s.toks, σ₀, vals₀, rfl, he, I, .refl⟩
  rintro k s' ⟨h, tk, σ, vals, rfl, hw, I', ks⟩
  cases k with
  | zero => simp [whileF] at hw
  | succ k =>
    simp only [whileF, Option.bind_eq_some_iff] at hw
    obtain ⟨q, ⟨d, hd, hq⟩, hw⟩ := hw
    obtain rfl := boolD_some hq
    refine (all_T hA G K c S).2 hd hc.1 I'.V fun s₁ L₁ => ?_
    have I₁ : StI C S sc' env σ vals s₁.heap := I'.le (s := { s with heap := h, toks := tk }) L₁
    have ks₁ : Ks C.own mu σ₀ vals₀ s.heap σ vals s₁.heap := ks.trans (.kq (Kq.le (C := C.w S) (s := { s with heap := h, toks := tk }) I'.V L₁ []))
    obtain ⟨h1, tk1, rfl, _⟩ := L₁
    cases q with
    | true =>
      simp only [if_true, Option.bind_eq_some_iff] at hw ⊢
      obtain ⟨x, hx, hw⟩ := hw
      refine hb hx hc.2 I₁ ?_
      cases x with
      | nxt σ' => exact fun h' tk' vals' I2 k' => ⟨k, Nat.lt_succ_self _, h', tk', σ', vals', rfl, hw, I2, ks₁.trans k'⟩
      | cnt σ' => exact fun h' tk' vals' I2 k' => ⟨k, Nat.lt_succ_self _, h', tk', σ', vals', rfl, hw, I2, ks₁.trans k'⟩
      | ret d => cases hw; exact fun h' tk' v e rr => hP h' tk' v e rr
      | ties => cases hw; exact fun x s' hs hx => noted_ok X hP x s' (Same.trans ⟨h1, tk1, rfl⟩ hs) hx
    | false =>
      simp only [Bool.false_eq_true, if_false] at hw ⊢
      cases hw
      exact wpAny_pure (hP h1 tk1 vals I₁ ks₁)

theorem retC_err (hA : AOk A) (G : Gl C fnm fa mg mb) (K : CallOk prog w A C fa F) (X : ExOk prog w A C F fa xs sc env Xc Xh Xf) (hxs : xs = true) {f : Nat} {l : TL} {S : Addr → Prop} {σ : Sg} {vals : Nat → Value} {s : Shared} {ds : List D} {e' : PySem.Expr} {pos : Pos} {Q : Flow → Shared → Prop} {E : Value → Shared → Prop}
    (hds : evL C.own F false l σ = some ds) (hq : F f ds = some (.error ())) (hc : chk C.tab fnm (.call f l) sc e' = true) (I : StI C S sc env σ vals s.heap)
    (hE : ∀ s₁ x s', Le C.base C.P s s₁ → StI C S sc env σ vals s₁.heap → Same s₁ s' → Xf s₁ x s' → E x s') : wpAny (model prog w) A (exec (.Return (some e') pos) env) Q E s := by
  obtain ⟨sc', hsc'⟩ : ∃ sc', sc' = sc := ⟨_, rfl⟩
  unfold chk at hc
  split at hc <;> try (first | (rename_i hh; cases hh; done) | (rename_i hh _; cases hh; done) | cases hc)
  rename_i f' l' sc'' x p es pos hh
  cases hh
  subst hsc'
  simp only [Bool.and_eq_true, beq_iff_eq, Bool.not_eq_true'] at hc
  obtain ⟨⟨⟨⟨h1, h2⟩, h3⟩, h4⟩, h5⟩ := hc
  obtain ⟨g1, o, fd, g2, g3⟩ := G.fn f x h1
  refine wpAny_Return_some (PyProof.Rows.Call_Name rfl (glob_name (C := C.w S) (G.at S) I.V h2 (ne_beq h3) g1 ?_))
  refine Calls.callWith_function (o := o) (fd := fd) (evalArgs_of h4 h5 ((all_L hA G K l S).1 hds h5 I.V fun vs s₁ L₁ hlen hS _ => ⟨⟨(I.le L₁).V.stay _ _ g2, g3⟩, ?_⟩))
  have I₁ := I.le L₁
  exact X.callx hxs f ds hq s₁ vs S S σ vals (hS _ (fun _ y => y.1) rfl) (fun a n => (I₁.V.new n).1) I₁ _ _ fun x s' hs hx => hE s₁ x s' L₁ I₁ hs hx

theorem ss_retC (hA : AOk A) (G : Gl C fnm fa mg mb) (K : CallOk prog w A C fa F) (X : ExOk prog w A C F fa xs sc env Xc Xh Xf) {f : Nat} {l : TL} : SoS prog w A C fnm F xs sc env Xc (.retC f l) := by
  intro mu σ r S stmt vals s Q E he hc I hP
  obtain ⟨sc', hsc'⟩ : ∃ sc', sc' = sc := ⟨_, rfl⟩
  unfold chkS at hc
  split at hc <;> try (first | (rename_i hh; cases hh; done) | (rename_i hh _; cases hh; done) | cases hc)
  rename_i hh
  cases hh
  rename_i e' pos
  subst hsc'
  simp only [Bool.and_eq_true] at hc
  obtain ⟨hxs, hc⟩ := hc
  simp only [evS, Option.bind_eq_some_iff, Option.map_eq_some_iff] at he
  obtain ⟨ds, hds, q, hq, rfl⟩ := he
  cases q with
  | ok d =>
    refine wpAny_Return_some ((all_T hA G K (.call f l) S).1 (bw := false) (d := d) ?_ hc I.V fun v s₁ L₁ r _ => ?_)
    · simp only [ev, Option.bind_eq_some_iff]
      exact ⟨ds, hds, by rw [hq]; rfl⟩
    · have I₁ := I.le L₁
      obtain ⟨h1, tk1, rfl, _⟩ := L₁
      exact hP h1 tk1 v I₁.done (r.plain.mono fun _ z => .inl z.1)
  | error u => exact retC_err hA G K X hxs hds hq hc I fun s₁ x s' L₁ I₁ hs hx => hP x s' ((Same.le L₁).trans hs) (X.toXc s₁ s' S σ vals x I₁ hs hx)

mutual
theorem lite_T {S : Addr → Prop} (hu : A.units + 50 < cLine) : ∀ t : T, lite t = true → SoT prog w A (C.w S) fnm F t ∧ SoB prog w A (C.w S) fnm F t
  | .k c, _ => both rfl (so_k c)
  | .v i, _ => both rfl (so_v i)
  | .op o a b, h => by
    simp only [lite, Bool.and_eq_true] at h
    exact both rfl (so_op (lite_T hu a h.1).1 (lite_T hu b h.2).1)
  | .neg a, h => both rfl (so_neg (lite_T hu a h).1)
  | .cmp o a b, h => by
    simp only [lite, Bool.and_eq_true] at h
    exact ⟨so_cmp hu (lite_T hu a h.1).1 (lite_T hu b h.2).1, sb_cmp hu (lite_T hu a h.1).1 (lite_T hu b h.2).1⟩
  | .isn yes a, h => ⟨so_isn (lite_T hu a h).1, sb_isn (lite_T hu a h).1⟩
  | .bop isAnd l, h => ⟨so_bop (lite_L hu l h).2, sb_bop (lite_L hu l h).2⟩
  | .not a, h => ⟨so_not (lite_T hu a h).1, sb_not (lite_T hu a h).2⟩
  | .ite c a b, h => by
    simp only [lite, Bool.and_eq_true] at h
    exact ⟨so_ite (lite_T hu c h.1.1).2 (lite_T hu a h.1.2).1 (lite_T hu b h.2).1, sb_ite (lite_T hu c h.1.1).2 (lite_T hu a h.1.2).2 (lite_T hu b h.2).2⟩
  | .list l, h => both rfl (so_list (lite_L hu l h).1)
  | .idx a i, h => by
    simp only [lite, Bool.and_eq_true] at h
    exact both rfl (so_idx (lite_T hu a h.1).1 (lite_T hu i h.2).1)
  | .rep _ _, h => by simp [lite] at h
  | .tup _, h => by simp [lite] at h
  | .sl _ _ _, h => by simp [lite] at h
  | .rev _, h => by simp [lite] at h
  | .call _ _, h => by simp [lite] at h
  | .bi _ _, h => by simp [lite] at h
  | .comp _ _, h => by simp [lite] at h
theorem lite_L {S : Addr → Prop} (hu : A.units + 50 < cLine) : ∀ l : TL, liteL l = true → SoL prog w A (C.w S) fnm F l ∧ SoBo prog w A (C.w S) fnm F l
  | .nil, _ => ⟨sl_nil, sbo_nil⟩
  | .cons a l, h => by
    simp only [liteL, Bool.and_eq_true] at h
    exact ⟨sl_cons (lite_T hu a h.1).1 (lite_L hu l h.2).1, sbo_cons (lite_T hu a h.1).1 (lite_T hu a h.1).2 (lite_L hu l h.2).2⟩
end

theorem ss_raise (X : ExOk prog w A C F fa xs sc env Xc Xh Xf) : SoS prog w A C fnm F xs sc env Xc .raise := by
  intro mu σ r S stmt vals s Q E he hc I hP
  obtain ⟨sc', hsc'⟩ : ∃ sc', sc' = sc := ⟨_, rfl⟩
  unfold chkS at hc
  split at hc <;> try (first | (rename_i hh; cases hh; done) | (rename_i hh _; cases hh; done) | cases hc)
  subst hsc'
  rename_i x np msg k q cpos pos _
  simp only [Bool.and_eq_true, beq_iff_eq] at hc
  obtain ⟨⟨h1, rfl⟩, h3⟩ := hc
  cases he
  exact X.raise h1 np cpos pos msg k q s S σ vals h3 I Q E hP

theorem ss_try (hA : AOk A) (G : Gl C fnm fa mg mb) (K : CallOk prog w A C fa F) (X : ExOk prog w A C F fa xs sc env Xc Xh Xf) {b h : SL} : SoS prog w A C fnm F xs sc env Xc (.try b h) := by
  intro mu σ r S stmt vals s Q E he hc I hP
  obtain ⟨sc', hsc'⟩ : ∃ sc', sc' = sc := ⟨_, rfl⟩
  unfold chkS at hc
  split at hc <;> try (first | (rename_i hh; cases hh; done) | (rename_i hh _; cases hh; done) | cases hc)
  rename_i f l e e' p1 x np e'' p2 hp pos hh
  cases hh
  subst hsc'
  simp only [Bool.and_eq_true, beq_iff_eq] at hc
  obtain ⟨⟨⟨⟨⟨h1, rfl⟩, h3⟩, h4⟩, h5⟩, h6⟩ := hc
  show wpAny _ _ (do standAt pos; tryStmt false (execs [.Return (some e') p1] env) [.ExceptHandler (some (.Name tiesN np)) none [.Return (some e'') p2] hp] (execs [] env) [] env) _ _ _
  refine wpAny_bind (wpAny_standAt (wpAny_tryStmt_except ?_))
  simp only [evS, Option.bind_eq_some_iff] at he
  obtain ⟨r1, hr1, he⟩ := he
  simp only [evSL, evS, Option.bind_eq_some_iff, Option.map_eq_some_iff] at hr1
  obtain ⟨r2, ⟨ds, hds, q, hq, hq2⟩, hr2⟩ := hr1
  cases q with
  | ok d =>
    subst hq2
    cases hr2
    cases he
    show wpAny _ _ (do match ← exec (.Return (some e') p1) env with | .next => execs [] env | f => pure f) _ _ _
    refine wpAny_bind (wpAny_Return_some ((all_T hA G K (.call f l) S).1 (bw := false) (d := d) ?_ h4 I.V fun v s₁ L₁ r _ => wpAny_pure ?_))
    · simp only [ev, Option.bind_eq_some_iff]
      exact ⟨ds, hds, by rw [hq]; rfl⟩
    · have I₁ := I.le L₁
      obtain ⟨h1, tk1, rfl, _⟩ := L₁
      exact hP h1 tk1 v I₁.done (r.plain.mono fun _ z => .inl z.1)
  | error u =>
    subst hq2
    cases hr2
    show wpAny _ _ (do match ← exec (.Return (some e') p1) env with | .next => execs [] env | f => pure f) _ _ _
    refine wpAny_bind (retC_err hA G K X h1 hds hq h4 I fun s₁ x s' L₁ I₁ hs hx => ?_)
    refine X.catch_ h1 np hp _ [] s₁ s' S σ vals x h3 I₁ hs hx Q E fun ea s'' hs'' I'' ks E' => ?_
    simp only [evSL, evS, Option.bind_eq_some_iff, Option.map_eq_some_iff] at he
    obtain ⟨r2, ⟨d, hd, rfl⟩, he⟩ := he
    cases he
    show wpAny _ _ (do match ← exec (.Return (some e'') p2) env with | .next => execs [] env | f => pure f) _ _ _
    refine wpAny_bind (wpAny_Return_some ((lite_T (A := A.mark (some (.ref ea))) (S := S) hA.units e h5).1 hd h6 I''.V fun v s₂ L₂ r _ => wpAny_pure ?_))
    have I₂ := I''.le L₂
    obtain ⟨hb', tb, rfl⟩ := ((Same.le L₁).trans hs'').trans (Same.le L₂)
    exact hP hb' tb v I₂.done (r.plain.mono fun _ z => .inl z.1)

theorem ss_no_own {t : TS} (h : ∀ tab stmt, chkS tab fnm xs t sc stmt = false) : SoS prog w A C fnm F xs sc env Xc t := by
  intro mu σ r S stmt vals s Q E he hc I hP
  rw [h] at hc; cases hc

theorem ss_app (hA : AOk A) (G : Gl C fnm fa mg mb) (K : CallOk prog w A C fa F) {x : Nat} {e : T} : SoS prog w A C fnm F xs sc env Xc (.app x e) := by
  intro mu σ r S stmt vals s Q E he hc I hP
  obtain ⟨sc', hsc'⟩ : ∃ sc', sc' = sc := ⟨_, rfl⟩
  unfold chkS at hc
  split at hc <;> try (first | (rename_i hh; cases hh; done) | (rename_i hh _; cases hh; done) | cases hc)
  rename_i hh
  cases hh
  rename_i y q m ap e' cp p
  subst hsc'
  simp only [Bool.and_eq_true, Bool.not_eq_true', beq_iff_eq] at hc
  obtain ⟨⟨⟨⟨⟨⟨⟨rfl, hpx⟩, h1⟩, h2⟩, h3⟩, h4⟩, h5⟩, h6⟩ := hc
  simp only [evS] at he
  have hg : (C.own x && mu x) = true := by
    by_cases hg : (C.own x && mu x) = true
    · exact hg
    · rw [if_neg hg] at he; cases he
  rw [if_pos hg] at he
  simp only [Bool.and_eq_true] at hg
  obtain ⟨ho, hm⟩ := hg
  simp only [Option.bind_eq_some_iff] at he
  obtain ⟨a, ha, l, hl, d, hd, he⟩ := he
  obtain rfl := listD_some hl
  have hz1 : l.length + 1 ≤ LB := by
    by_cases hz1 : l.length + 1 ≤ LB
    · exact hz1
    · rw [if_neg hz1] at he; cases he
  rw [if_pos hz1] at he
  cases he
  have tr : backTo cp (starEach [e'] env) = [(false, eval e' env)] := star_cons h5
  refine wpAny_Expr (wpAny_Call_append rfl (by rw [tr]; rfl) (by rw [beq_iff_eq]; exact h6) tr (so_own I ha h1 ?_)) (by unfold interactive; rw [I.V.fr.kind]; rfl)
  have plL : ∀ {s' : Shared}, StI C S sc' env σ vals s'.heap → ∃ ad vs, vals x = .ref ad ∧ PlainL s'.heap ad vs.toArray ∧ RepL s'.heap (Sx (C.w S) σ vals) vs l := fun I' => by
    obtain ⟨ad, vs, e1, ⟨o, g1, g2, n, g3⟩, hr, _⟩ := own_list I'.V ho ha
    obtain ⟨o', q1, q2, _⟩ := I'.pl x ad ho hpx (by rw [ha]; rfl) e1
    rw [g1] at q1; cases q1
    exact ⟨ad, vs, e1, ⟨o, n, g1, g2, q2, g3⟩, hr⟩
  obtain ⟨ad, vs, e1, hpl, _⟩ := plL I
  refine ⟨ad, _, e1, hpl, ?_⟩
  refine (all_T hA G K e S).1 hd h3 I.V fun v s₁ L₁ rv _ => ?_
  have I₁ := I.le L₁
  obtain ⟨ad', vs₁, e1', hpl₁, hr₁⟩ := plL I₁
  rw [e1] at e1'; cases e1'
  have hlen := hr₁.length
  have kq : Ks C.own mu σ vals s.heap σ vals s₁.heap := .kq (Kq.le (C := C.w S) I.V L₁ [])
  obtain ⟨h1', tk1, rfl, _⟩ := L₁
  refine list_append_plainL hpl₁ (fun h' hp' hs => ?_) (by rw [List.size_toArray, hlen]; exact Nat.le_trans (Nat.le_of_succ_le hz1) LBs)
  have e2 : vs₁.toArray.push v = (vs₁ ++ [v]).toArray := by simp
  rw [e2] at hp'
  have V' := StV.ownChg (C := C.w S) I₁.V ho ha e1 hp'.isList hs (hr₁.append (.cons rv.plain .nil)) (by simpa using hz1)
  obtain ⟨a', _, _, _, e3, _, _, _, hg⟩ := I₁.V.owned x _ ha ho
  rw [e1] at e3
  obtain rfl : ad = a' := by injection e3
  refine hP h' tk1 vals ⟨V', fun b o p q => (hs.2 b fun z => by rw [z, hg] at q; cases q).trans (I₁.ex b o p q), fun i b oi pi si vi => ?_⟩ (kq.trans ⟨fun b o q _ _ n => ⟨(hs.2 b fun z => n x ho hm (by rw [ha]; rfl) (z ▸ e1)).trans q, fun i oi mi si => ?_⟩, fun i oi mi => ?_⟩)
  · by_cases hi : i = x
    · subst hi
      rw [e1] at vi; cases vi
      obtain ⟨o, n, g1, g2, g3, g4⟩ := hp'
      exact ⟨o, g1, g3, (fun es k z => by rw [g4] at z; cases z), (fun u z => by rw [g4] at z; cases z)⟩
    · rw [upd_ne _ _ hi] at si
      obtain ⟨o, q, r⟩ := I₁.pl i b oi pi si vi
      exact ⟨o, (hs.2 b fun z => hi (I₁.V.dist i x ad oi ho si (by rw [ha]; rfl) (z ▸ vi) e1)).trans q, r⟩
  · by_cases hi : i = x
    · subst hi; exact n i oi mi (by rw [ha]; rfl)
    · rw [upd_ne _ _ hi] at si; exact n i oi mi si
  · have hi : i ≠ x := fun z => by subst z; rw [hm] at mi; cases mi
    exact ⟨upd_ne _ _ hi, rfl⟩

mutual
theorem all_S (hA : AOk A) (G : Gl C fnm fa mg mb) (K : CallOk prog w A C fa F) (X : ExOk prog w A C F fa xs sc env Xc Xh Xf) : ∀ t : TS, SoS prog w A C fnm F xs sc env Xc t
  | .asg (.v i) e => ss_asgv hA G K
  | .asg (.tup ps) e => ss_asgT hA G K
  | .own1 x e => ss_own1 hA G K
  | .ownN is es => ss_ownN hA G K
  | .aug x o e => ss_aug hA G K
  | .setI x i e => ss_setI hA G K
  | .augI x i e => ss_augI hA G K
  | .app x e => ss_app hA G K
  | .ite c a b => ss_ite hA G K (all_SL hA G K X a) (all_SL hA G K X b)
  | .loop p s b => ss_loop hA G K X (all_SL hA G K X b)
  | .loopB p x b => ss_loopB hA X (all_SL hA G K X b)
  | .whil n c b => ss_whil hA G K X (all_SL hA G K X b)
  | .ret e => ss_ret hA G K
  | .retO x => ss_retO
  | .retC f l => ss_retC hA G K X
  | .raise => ss_raise X
  | .try b h => ss_try hA G K X
  | .cont => ss_cont
  | .dead => ss_dead
theorem all_SL (hA : AOk A) (G : Gl C fnm fa mg mb) (K : CallOk prog w A C fa F) (X : ExOk prog w A C F fa xs sc env Xc Xh Xf) : ∀ l : SL, SoSL prog w A C fnm F xs sc env Xc l
  | .nil => ssl_nil
  | .cons t l => ssl_cons (all_S hA G K X t) (all_SL hA G K X l)
end
end
end Mine
end

section
open PySem PySem.W PyProof.Rows PySem.SeqAt PySem.MeetsSeq PySem.MeetsSeq2 PySem.MeetsSeq3
set_option maxRecDepth 100000
namespace Mine

/-! ## 25a. The exception on its way, with the frames outside -/
def fr (l : List Env) : List Addr := l.filterMap (·.frame)
def hid (h : Heap) (l : List Env) : Heap := hideAll h (fr l)
theorem hid_stays (h : Heap) (l : List Env) : (hid h l).StaysIn h := fun _ _ e => of_hideAll _ e
theorem hid_none {h : Heap} {l : List Env} {a : Addr} (m : a ∈ fr l) : (hid h l).get? a = none := hideAll_none _ m
theorem hid_get {h : Heap} {l : List Env} {b : Addr} {o : Obj} (e : h.get? b = some o) (n : b ∉ fr l) : (hid h l).get? b = some o := hideAll_get _ e n
theorem hid_new {h : Heap} {l : List Env} {b : Addr} (e : h.get? b = none) : (hid h l).get? b = none := by
  cases q : (hid h l).get? b with
  | none => rfl
  | some o => rw [hid_stays h l b o q] at e; cases e
theorem fr_cons {env : Env} {l : List Env} {L : Addr} (h : env.frame = some L) : fr (env :: l) = L :: fr l := by simp [fr, h]

/-- the frames are functions' frames -/
def Fst (l : List Env) : Prop := ∀ env ∈ l, env.scope.kind ≠ .module ∧ ∃ L, env.frame = some L
theorem Fst.ff {base h : Heap} : ∀ {l : List Env}, Fst l → (∀ a ∈ fr l, base.get? a = none ∧ ∃ o, h.get? a = some o ∧ ∀ vs, o.data ≠ .fields vs) → h.FunFrames base l
  | [], _, _ => trivial
  | env :: l, f, k => by
    obtain ⟨hk, L, hf⟩ := f env (.head _)
    obtain ⟨h1, o, h2, h3⟩ := k L (by rw [fr_cons hf]; exact .head _)
    exact ⟨hk, ⟨L, o, hf, h1, h2, h3⟩, Fst.ff (fun e m => f e (.tail _ m)) fun a m => k a (by rw [fr_cons hf]; exact .tail _ m)⟩

section
variable {M : Model} {A : Around} {E : Value → Shared → Prop} {s : Shared}
theorem note_made {B hm : Heap} {env : Env} {outer : List Env} {L e : Addr} {cls : Value} {args : List Value} {Q : Unit → Shared → Prop} (hfr : A.frames = some (env :: outer)) (hf : env.frame = some L)
    (hkb : B.StaysIn hm) (hl : hm.FunFrames B (env :: outer)) (hx : Heap.MadeExcOf hm s.heap e cls args)
    (hQ : ∀ h' t, Heap.HeldW B (env :: outer) e cls (.ref t) L h' → s.heap.UpToSlots h' → Q () { s with heap := h' }) : wpAny M A (noteFrame (.ref e) env) Q E s := by
  obtain ⟨t, he, htn, ht⟩ := hx.there
  have fresh : ∀ b, hm.get? b = none → B.get? b = none := fun b hb => by
    cases hq : B.get? b with
    | none => rfl
    | some o' => have := hkb b o' hq; rw [hb] at this; cases this
  unfold noteFrame
  simp only [hf]
  refine wpAny_bind (wpAny_field he rfl (x := .none) rfl ?_)
  rw [if_neg (by decide)]
  refine wpAny_entryW (a0 := .ref t) hfr (hl.of_keeps fun b o hb _ => ⟨o, hx.keeps b o hb, rfl⟩) hf he (fun b o hb => hx.keeps b o (hkb b o hb)) (fresh e hx.new) rfl (Nat.lt_of_lt_of_le (by decide : 1 < 6) (Nat.le_refl _)) rfl fun h' hN => ?_
  obtain ⟨k1, k2, k3, k4⟩ := hN
  exact hQ h' t ⟨k1, fresh e hx.new, k2, k3⟩ k4

theorem back_held {B : Heap} {l : List Env} {env : Env} {e L : Addr} {cls a0 : Value} {E' : Value → Shared → Prop} (hf : env.frame = some L) (hh : Heap.HeldW B l e cls a0 L s.heap)
    (hQ : ∀ h', Heap.HeldW B l e cls a0 L h' → s.heap.UpToSlots h' → E' (.ref e) { s with heap := h' }) : cameBackBy M A env E' (.ref e) s := by
  obtain ⟨hkb, hen, hl, oe, vs, T, oT, ts, he, hcls, hd, h1, hnT, hTe, hT, hdT, h3⟩ := hh
  have hsz3 : 3 < ts.size := (Array.getElem?_eq_some_iff.mp h3).1
  have other : ∀ b, b ≠ T → (s.heap.update T (Obj.mapFields (·.setIfInBounds 3 ((some L : Option Addr).elim Value.none fun f => rawInt f)))).get? b = s.heap.get? b :=
    fun b hb => Heap.get?_update_other _ _ (Ne.symm hb)
  have noRecord : ∀ b o, s.heap.get? b = some o → (∀ vs, o.data ≠ .fields vs) → b ≠ T := fun b o hb hnf q => by
    rw [q, hT] at hb; injection hb with hb; subst hb; exact hnf ts hdT
  unfold cameBackBy
  refine wpAny_bind (wpAny_field he hd h1 ?_)
  rw [if_neg (show ¬ ((Value.ref T == Value.none) = true) from by simp)]
  unfold setFlight
  refine wpAny_bind (wpAny_field he hd h1 ?_)
  rw [if_pos (show (Value.ref T != Value.none) = true from by simp), hf]
  refine wpAny_setField hT hdT hsz3 (hQ _ ⟨fun b o hbo => (other b fun q => by rw [q, hnT] at hbo; cases hbo).trans (hkb b o hbo), hen,
    (hl.of_keeps fun b o hb hnf => ⟨o, (other b (noRecord b o hb hnf)).trans hb, rfl⟩), ?_⟩ fun b o hb hnf => ⟨o.slots, (other b (noRecord b o hb hnf)).trans hb⟩)
  exact ⟨oe, vs, T, _, _, (other e (Ne.symm hTe)).trans he, hcls, hd, h1, hnT, hTe, Heap.get?_update_self _ hT (Obj.isFreed_of_fields (Obj.data_mapFields hdT _)), Obj.data_mapFields hdT _, by simp [hsz3]⟩
end

section
variable (g : Heap) (env : Env) (outer : List Env) (kls : Addr)
/-- raised in this frame, or come here from a call, or held here -/
inductive Way (e : Addr) (h : Heap) : Prop
  | made (hm : Heap) (args : List Value) (k : (hid g outer).StaysIn hm) (l : hm.FunFrames (hid g outer) (env :: outer)) (x : Heap.MadeExcOf hm h e (.ref kls) args)
  | flying (a0 : Value) (x : Heap.FlyingW (hid g outer) (env :: outer) e (.ref kls) a0 h)
  | held (a0 : Value) (x : Heap.HeldW (hid g outer) (env :: outer) e (.ref kls) a0 env.locals h)
def XcD (x : Value) (s' : Shared) : Prop := ∃ e, x = .ref e ∧ g.UpToSlots s'.heap ∧ Way g env outer kls e s'.heap
def XhD (x : Value) (s' : Shared) : Prop := ∃ e a0, x = .ref e ∧ g.UpToSlots s'.heap ∧ Heap.HeldW (hid g outer) (env :: outer) e (.ref kls) a0 env.locals s'.heap
end
/-- an exception has come out of a call that was begun at s -/
def XfD (l : List Env) (kls : Addr) (s : Shared) (x : Value) (s' : Shared) : Prop := ∃ e a0, x = .ref e ∧ s.heap.UpToSlots s'.heap ∧ Heap.FlyingW (hid s.heap l) l e (.ref kls) a0 s'.heap

section
variable {prog : Program} {w : World} {A : Around}
theorem xc_note {g : Heap} {env : Env} {outer : List Env} {kls : Addr} (hfr : A.frames = some (env :: outer)) (hf : env.frame = some env.locals) (x : Value) (s : Shared) (Q : Unit → Shared → Prop) (E : Value → Shared → Prop) (hx : XcD g env outer kls x s)
    (hQ : ∀ s', Same s s' → XhD g env outer kls x s' → Q () s') : wpAny (model prog w) A (noteFrame x env) Q E s := by
  obtain ⟨e, rfl, hu, hw⟩ := hx
  cases hw with
  | made hm args k l x => exact note_made hfr hf k l x fun h' t hh hs => hQ _ ⟨h', s.toks, rfl⟩ ⟨e, _, rfl, hu.trans hs, hh⟩
  | flying a0 x => exact wpAny_looks_onW hfr hf x fun h' hh hs => hQ _ ⟨h', s.toks, rfl⟩ ⟨e, _, rfl, hu.trans hs, hh⟩
  | held a0 x => exact wpAny_noteFrame_againW hf x.2.2.2 (hQ _ (.refl s) ⟨e, _, rfl, hu, x⟩)
theorem xc_back {g : Heap} {env : Env} {outer : List Env} {kls : Addr} (hf : env.frame = some env.locals) (x : Value) (s : Shared) (E : Value → Shared → Prop) (hx : XhD g env outer kls x s)
    (hQ : ∀ s', Same s s' → XcD g env outer kls x s' → E x s') : cameBackBy (model prog w) A env E x s := by
  obtain ⟨e, a0, rfl, hu, hh⟩ := hx
  exact back_held hf hh fun h' h1 hs => hQ _ ⟨h', s.toks, rfl⟩ ⟨e, rfl, hu.trans hs, .held a0 h1⟩
/-- the way out of the frame -/
theorem xc_leave {g : Heap} {env : Env} {outer : List Env} {kls : Addr} (hfr : A.frames = some (env :: outer)) (hf : env.frame = some env.locals) (x : Value) (s : Shared) (R : Unit → Shared → Prop) (E : Value → Shared → Prop) (hx : XcD g env outer kls x s)
    (hQ : ∀ e a0 h', x = .ref e → g.UpToSlots h' → Heap.FlyingW (hid g outer) outer e (.ref kls) a0 h' → R () { s with heap := h' }) : wpAny (model prog w) A (leaving env x) R E s := by
  obtain ⟨e, rfl, hu, hw⟩ := hx
  cases hw with
  | made hm args k l x => exact wpAny_leaves_madeW hfr hf k l x fun h' t hh _ _ hs => hQ e _ h' rfl (hu.trans hs) hh
  | flying a0 x => exact wpAny_leaves_onW hfr hf x fun h' hh hs => hQ e _ h' rfl (hu.trans hs) hh
  | held a0 x =>
    unfold leaving
    refine wpAny_bind (wpAny_noteFrame_againW hf x.2.2.2 ?_)
    refine wpAny_landsW x fun h' hfl hs => ?_
    obtain ⟨k1, k2, ⟨_, _, k3⟩, k4⟩ := hfl
    exact hQ e _ h' rfl (hu.trans hs) ⟨k1, k2, k3, k4⟩
end
end Mine
end

section
open PySem PySem.W PyProof.Rows PySem.SeqAt PySem.MeetsSeq PySem.MeetsSeq2 PySem.MeetsSeq3
set_option maxRecDepth 100000
namespace Mine

/-! ## 25b. What the statements ask of the exception -/
section
variable {prog : Program} {w : World} {A : Around} {C : Cx} {fnm : List PySem.Str} {F : Fn} {fa : Nat → Addr} {mg mb : PySem.Str → Option Value} {sc : Scope} {env : Env} {outer : List Env} {kls : Addr} {newId initId B : String} {bmB : List Value}

variable (prog w A C fa) in
/-- a call that raises -/
structure CodeX (F : Fn) (l : List Env) (kls : Addr) : Prop where
  codex : ∀ f ds, F f ds = some (.error ()) → ∀ (s : Shared) (vs : List Value) (S : Addr → Prop), RepL s.heap S vs ds → (∀ a, s.heap.get? a = none → S a) → (∀ b o, C.base.get? b = some o → s.heap.get? b = some o) →
    (∀ a, C.P a → ∃ o es n, s.heap.get? a = some o ∧ o.data = .dict es n) → ∀ (R : Result → Shared → Prop), (∀ x s', Same s s' → XfD l kls s x s' → R (.error x) s') → codeAny (model prog w) A (.call (.ref (fa f)) ⟨vs, []⟩) R s

theorem sti_back {S : Addr → Prop} {σ : Sg} {vals : Nat → Value} {h h' : Heap} {l : List Env} (hP : ∀ a, C.P a ↔ a ∈ fr l) (I : StI C S sc env σ vals h) (st : (hid h l).StaysIn h') (up : h.UpToSlots h') :
    StI C S sc env σ vals h' ∧ Ks C.own (fun _ => false) σ vals h σ vals h' := by
  have ext : Ext h h' := fun b o e => by
    by_cases m : b ∈ fr l
    · obtain ⟨o', es, n, q, d⟩ := I.V.pf b ((hP b).2 m)
      rw [e] at q; cases q
      exact up b o e fun vs z => by rw [d] at z; cases z
    · exact ⟨o.slots, st b o (hid_get e m)⟩
  refine ⟨⟨I.V.le ext fun b o eb e => ?_, fun b o p e => st b o (hid_get (I.ex b o p e) fun m => p ((hP b).2 m)), I.pl.ext ext⟩, fun b o e n1 n2 n => ⟨st b o (hid_get e fun m => ?_), n⟩, fun _ _ _ => ⟨rfl, rfl⟩⟩
  · refine st b o (hid_get e fun m => ?_)
    have := I.V.bP b ((hP b).2 m)
    rw [eb] at this; cases this
  · obtain ⟨o', es, k, q, d⟩ := I.V.pf b ((hP b).2 m)
    rw [e] at q; cases q
    exact n1 _ _ d

theorem exOk_of (hA : AOk A) (G : Gl C fnm fa mg mb) (FB : ExcBaseFacts B newId initId bmB) (O : OwnCls tiesN kls bmB newId mg C.base) (hfr : A.frames = some (env :: outer)) (hf : env.frame = some env.locals) (fst : Fst (env :: outer))
    (hP : ∀ a, C.P a ↔ a ∈ fr (env :: outer)) (K : CodeX prog w A C fa F (env :: outer) kls) :
    ExOk prog w A C F fa true sc env (XcD C.g₀ env outer kls) (XhD C.g₀ env outer kls) (XfD (env :: outer) kls) where
  toXc s s' S' σ vals x I hs hx := by
    obtain ⟨e, a0, rfl, hu, hfl⟩ := hx
    refine ⟨e, rfl, Heap.UpToSlots.trans (fun b o q _ => I.V.ext b o q) hu, .flying a0 (flyingW_base (fun b o q => ?_) hfl)⟩
    have q' := hid_stays _ _ b o q
    have m : b ∉ fr (env :: outer) := fun m => by
      rw [fr_cons hf] at m
      rcases List.mem_cons.mp m with rfl | m
      · rw [I.V.fr.newL] at q'; cases q'
      · rw [hid_none m] at q; cases q
    exact hid_get (I.ex b o (fun p => m ((hP b).1 p)) q') m
  note := fun x s Q E => xc_note hfr hf x s Q E
  back := fun x s E => xc_back hf x s E
  callx _ f ds he s vs S S' σ vals hr hn I Q E hE := wpAny_call (K.codex f ds he s vs S hr hn I.V.stay I.V.pf _ hE)
  raise _ np cpos pos msg k q s S' σ vals hg I Q E hE := by
    have O' := O
    obtain ⟨tl, N, nm, qn, bs, hdct, sn, sub, ab, col, dd, k0, k1, k2, k3, k5, mN, hC, hN, hni, T⟩ := O'.obj
    have st := I.V.stay
    refine wpAny_Raise_call_subT (C := kls) (nm := nm) (q := qn) (N := N) (bs := bs) (bm := tl) (hdct := hdct) (sn := sn) (sub := sub) (ab := ab) (col := col) (dd := dd) (k0 := k0) (k1 := k1) (k2 := k2) (k3 := k3) (k5 := k5)
      FB (mN := mN) (T.hasType FB.hasBase) hA.hh rfl hni (glob_name (C := C.w S') ⟨G.g, G.b, G.bi, G.src, G.fn⟩ I.V hg (by decide +kernel) O.bound ⟨rfl, ?_⟩)
    refine Calls.evalArgs_plain (Calls.spliced_cons (Calls.Constant_str (k := k) (pos := q) (Calls.spliced_nil ?_)))
    refine ⟨rfl, (show 1 ≤ sizeLine from by decide), st _ _ hC, hN.keeps st, T.keeps st, fun h' e hm => hE _ _ ⟨h', s.toks + 1, rfl⟩ ⟨e, rfl, Heap.UpToSlots.trans (fun b o q _ => I.V.ext b o q) (.of_keeps hm.keeps), .made s.heap _ (fun b o q => ?_) ?_ hm⟩⟩
    · have q' := hid_stays _ _ b o q
      refine I.ex b o (fun p => ?_) q'
      have m := (hP b).1 p
      rw [fr_cons hf] at m
      rcases List.mem_cons.mp m with rfl | m
      · rw [I.V.fr.newL] at q'; cases q'
      · rw [hid_none m] at q; cases q
    · refine fst.ff fun a m => ⟨?_, ?_⟩
      · rw [fr_cons hf] at m
        rcases List.mem_cons.mp m with rfl | m
        · exact hid_new I.V.fr.newL
        · exact hid_none m
      · obtain ⟨o, es, n, q, d⟩ := I.V.pf a ((hP a).2 m)
        exact ⟨o, q, fun vs z => by rw [d] at z; cases z⟩
  catch_ _ np hp b₀ suite s₀ s S' σ vals x hg I hs hx Q E k := by
    obtain ⟨e, a0, rfl, hu, hfl⟩ := hx
    refine wpAny_looks_onW hfr hf hfl fun h₄ hh₄ hs₄ => ?_
    refine wpAny_landsW hh₄ fun h₅ hfl₅ hs₅ => ?_
    obtain ⟨I₅, _⟩ := sti_back hP I hfl₅.1 ((hu.trans hs₄).trans hs₅)
    obtain ⟨ob, hob, hobc⟩ := hfl₅.there
    obtain ⟨tl, N, nm, qn, bs, hdct, sn, sub, ab, col, dd, k0, k1, k2, k3, k5, mN, hC, hN, hni, T⟩ := (O.keeps I₅.V.stay).obj
    refine wpAny_handleBy_cons (codeAny_handlers_test (glob_name (C := C.w S') ⟨G.g, G.b, G.bi, G.src, G.fn⟩ I₅.V hg (by decide +kernel) O.bound ?_)) (by intro q; cases q)
    refine wpAny_excMatches_sub_self hC hob hobc (T.hasType FB.hasBase) (codeAny_handlers_suite ?_)
    refine lands_againW hfl₅ fun h₆ hfl₆ hs₆ => ?_
    obtain ⟨I₆, ks⟩ := sti_back hP I hfl₆.1 (((hu.trans hs₄).trans hs₅).trans hs₆)
    obtain ⟨hb, tk, rfl⟩ := hs
    exact k e _ ⟨h₆, tk, rfl⟩ I₆ ks _
end
end Mine
end

section
open PySem PySem.W PyProof.Rows PySem.SeqAt PySem.MeetsSeq PySem.MeetsSeq2 PySem.MeetsSeq3
set_option maxRecDepth 100000
namespace Mine

/-! ## 25. Calls of the program's functions -/
structure FnD where
  tab : List PySem.Str
  owns : List Nat
  body : SL
  sc : Scope
  stmts : List PySem.Stmt
  np : Nat
  dfl : List D

def FnD.own (fd : FnD) (i : Nat) : Bool := fd.owns.contains i
def dval : D → Value
  | .bool b => .bool b
  | _ => .none
def dplain : D → Bool
  | .non => true
  | .bool _ => true
  | _ => false
def FnD.full (fd : FnD) (ds : List D) : Option (List D) := if fd.np ≤ ds.length + fd.dfl.length ∧ ds.length ≤ fd.np then some (ds ++ fd.dfl.drop (ds.length + fd.dfl.length - fd.np)) else none
def FnD.fullV (fd : FnD) (vs : List Value) : List Value := vs ++ (fd.dfl.drop (vs.length + fd.dfl.length - fd.np)).map dval
def FnD.start (fd : FnD) (args : List D) : Sg := fun i => if i < fd.np then args[i]? else none
def resOf : R → Except Unit D
  | .ret d => .ok d
  | .ties => .error ()
  | _ => .ok .non
def FF (fns : List FnD) : Nat → Fn
  | 0, _, _ => none
  | n + 1, f, ds => (fns[f]?).bind fun fd => (fd.full ds).bind fun args => (evSL fd.own (FF fns n) (fun _ => true) fd.body (fd.start args)).map resOf

def noFree (sc : Scope) : Bool := sc.names.all fun x => match x.2 with | .free => false | _ => true

/-- what a look at the texts shows -/
def FnD.good (fnm : List PySem.Str) (xs : Bool) (fd : FnD) : Bool :=
  chkSL fd.tab fnm xs fd.body fd.sc fd.stmts && decide fd.tab.Nodup && keysOk fd.sc && noFree fd.sc && fd.sc.kind == .function && decide (fd.np ≤ fd.tab.length) && fd.dfl.all dplain &&
    (List.range fd.np).all (fun i => !fd.own i && (match fd.tab[i]? with | some x => isW fd.sc x | none => false))

/-- the function in the heap -/
structure FnAt (base : Heap) (a : Addr) (fd : FnD) : Prop where
  at_ : ∃ o FD, base.get? a = some o ∧ o.data = .func FD ∧ FD.body = .stmts fd.stmts ∧ FD.scope = fd.sc ∧ FD.globals = mainGlobals ∧ FD.builtins = builtinsNs ∧ FD.closure = [] ∧ base.CodeRec FD.code FD.qualname ∧
    FD.scope.isCoroutine = false ∧ FD.scope.isGenerator = false ∧
    ∀ (vs : List Value) (s : Shared), (∀ b o, base.get? b = some o → s.heap.get? b = some o) → fd.np ≤ vs.length + fd.dfl.length → vs.length ≤ fd.np → BindsTo s FD ⟨vs, []⟩ ((fd.tab.take fd.np).zip (fd.fullV vs))

theorem bindL_off {kindOf : PySem.Str → Option NameKind} {x : PySem.Str} : ∀ {bs : List (PySem.Str × Value)} {m : PySem.Str → Option Value}, x ∉ bs.map (·.1) → bindL kindOf bs m x = m x
  | [], _, _ => rfl
  | (n, v) :: r, m, h => by
    simp only [List.map_cons, List.mem_cons, not_or] at h
    unfold bindL
    rw [bindL_off h.2]
    split
    · exact if_neg h.1
    · rfl
theorem bindL_on {kindOf : PySem.Str → Option NameKind} {x : PySem.Str} {v : Value} (hk : kindOf x = some .local) : ∀ {bs : List (PySem.Str × Value)} {m : PySem.Str → Option Value}, (bs.map (·.1)).Nodup → (x, v) ∈ bs → bindL kindOf bs m x = some v
  | (n, u) :: r, m, nd, h => by
    simp only [List.map_cons, List.nodup_cons] at nd
    unfold bindL
    rcases List.mem_cons.mp h with e | h
    · cases e
      rw [bindL_off nd.1, if_pos hk]
      simp
    · exact bindL_on hk nd.2 h
theorem bindC_off {kindOf : PySem.Str → Option NameKind} {x : PySem.Str} : ∀ {bs : List (PySem.Str × Value)} {m : PySem.Str → Option Value}, x ∉ bs.map (·.1) → bindC kindOf bs m x = m x
  | [], _, _ => rfl
  | (n, v) :: r, m, h => by
    simp only [List.map_cons, List.mem_cons, not_or] at h
    unfold bindC
    rw [bindC_off h.2]
    split
    · rfl
    · exact if_neg h.1
theorem bindC_on {kindOf : PySem.Str → Option NameKind} {x : PySem.Str} {v : Value} (hk : kindOf x ≠ some .local) : ∀ {bs : List (PySem.Str × Value)} {m : PySem.Str → Option Value}, (bs.map (·.1)).Nodup → (x, v) ∈ bs → bindC kindOf bs m x = some v
  | (n, u) :: r, m, nd, h => by
    simp only [List.map_cons, List.nodup_cons] at nd
    unfold bindC
    rcases List.mem_cons.mp h with e | h
    · cases e
      rw [bindC_off nd.1, if_neg hk]
      simp
    · exact bindC_on hk nd.2 h

theorem dval_rep {h : Heap} {S : Addr → Prop} {d : D} (hp : dplain d = true) : Rep h S (dval d) d := by
  cases d <;> first | exact .non | exact .bool _ | (simp [dplain] at hp)
theorem dvals_rep {h : Heap} {S : Addr → Prop} : ∀ {l : List D}, l.all dplain = true → RepL h S (l.map dval) l
  | [], _ => .nil
  | d :: r, hp => by
    simp only [List.all_cons, Bool.and_eq_true] at hp
    exact .cons (dval_rep hp.1) (dvals_rep hp.2)

section
variable {prog : Program} {w : World} {A : Around} {C : Cx} {fnm : List PySem.Str} {fa : Nat → Addr} {mg mb : PySem.Str → Option Value} {xs : Bool}

structure Good (fd : FnD) (fnm : List PySem.Str) (xs : Bool) : Prop where
  chk : chkSL fd.tab fnm xs fd.body fd.sc fd.stmts = true
  nd : fd.tab.Nodup
  keys : (fd.sc.names.map (·.1)).Nodup
  free : ∀ x, (x, NameKind.free) ∉ fd.sc.names
  kind : fd.sc.kind = .function
  np : fd.np ≤ fd.tab.length
  dfl : fd.dfl.all dplain = true
  par : ∀ i, i < fd.np → fd.own i = false ∧ ∃ x, fd.tab[i]? = some x ∧ isW fd.sc x = true
theorem good_of {fd : FnD} (h : fd.good fnm xs = true) : Good fd fnm xs := by
  unfold FnD.good at h
  simp only [Bool.and_eq_true, decide_eq_true_eq] at h
  obtain ⟨⟨⟨⟨⟨⟨⟨h1, h2⟩, h3⟩, h4⟩, h5⟩, h6⟩, h7⟩, h8⟩ := h
  refine ⟨h1, h2, by simpa [keysOk] using h3, fun x hx => ?_, ?_, h6, h7, fun i hi => ?_⟩
  · unfold noFree at h4
    rw [List.all_eq_true] at h4
    exact absurd (h4 _ hx) (by simp)
  · cases q : fd.sc.kind <;> first | rfl | (rw [q] at h5; cases h5)
  · rw [List.all_eq_true] at h8
    have := h8 i (List.mem_range.mpr hi)
    simp only [Bool.and_eq_true, Bool.not_eq_true'] at this
    refine ⟨this.1, ?_⟩
    cases q : fd.tab[i]? with
    | none => rw [q] at this; cases this.2
    | some x => rw [q] at this; exact ⟨x, rfl, this.2⟩

/-- the context of a call -/
abbrev calleeCx (C : Cx) (fd : FnD) (S : Addr → Prop) (h : Heap) (P' : Addr → Prop) : Cx := { base := C.base, P := P', tab := fd.tab, own := fd.own, S := S, g₀ := h }
abbrev cxP (base : Heap) (P : Addr → Prop) : Cx := { base := base, P := P, tab := [], own := fun _ => false, S := fun _ => True, g₀ := base }

theorem enter {fd : FnD} (g : Good fd fnm xs) {s s₁ : Shared} {vs : List Value} {ds args : List D} {S P' : Addr → Prop} {env : Env} (hP' : ∀ a, P' a → C.P a ∨ a = env.locals) (hf : fd.full ds = some args) (hr : RepL s.heap S vs ds) (hnew : ∀ a, s.heap.get? a = none → S a)
    (hst : ∀ b o, C.base.get? b = some o → s.heap.get? b = some o) (hP : ∀ a, C.P a → ∃ o es n, s.heap.get? a = some o ∧ o.data = .dict es n) (hbP : ∀ a, C.P a → C.base.get? a = none)
    (hsc : env.scope = fd.sc) (hgl : env.globals = mainGlobals) (hbu : env.builtins = builtinsNs) (hL : env.locals = s.heap.objs.size) (hcs : env.cells = cellsFrom (s.heap.objs.size + 1) fd.sc.names [])
    (x : InCallC s env.locals (bindL env.kindOf ((fd.tab.take fd.np).zip (fd.fullV vs)) fun _ => none) env.cells (bindC env.kindOf ((fd.tab.take fd.np).zip (fd.fullV vs)) fun _ => none) s₁) :
    StI (calleeCx C fd S s.heap P') S fd.sc env (fd.start args) (fun i => (fd.fullV vs).getD i .none) s₁.heap := by
  have kindOf : ∀ y, env.kindOf y = fd.sc.names.lookup y := fun y => by unfold Env.kindOf; rw [hsc]
  have keep := x.toInCall.keep
  unfold FnD.full at hf
  split at hf
  case isFalse => cases hf
  rename_i hlen
  cases hf
  have hvl := hr.length
  have hfull : RepL s₁.heap S (fd.fullV vs) (ds ++ fd.dfl.drop (ds.length + fd.dfl.length - fd.np)) := by
    unfold FnD.fullV
    rw [hvl]
    refine (hr.ext (.of keep)).append (dvals_rep ?_)
    rw [List.all_eq_true]
    intro d hd
    exact List.all_eq_true.mp g.dfl d (List.mem_of_mem_drop hd)
  have hfl : (fd.fullV vs).length = fd.np := by
    rw [hfull.length, List.length_append, List.length_drop]; omega
  have own0 : ∀ i d, fd.start (ds ++ fd.dfl.drop (ds.length + fd.dfl.length - fd.np)) i = some d → i < fd.np ∧ (ds ++ fd.dfl.drop (ds.length + fd.dfl.length - fd.np))[i]? = some d := fun i d e => by
    unfold FnD.start at e
    split at e
    · rename_i h; exact ⟨h, e⟩
    · cases e
  have keysz : (((fd.tab.take fd.np).zip (fd.fullV vs)).map (·.1)).Nodup := by
    have : ((fd.tab.take fd.np).zip (fd.fullV vs)).map (·.1) = fd.tab.take fd.np := by
      rw [List.map_fst_zip]
      rw [hfl, List.length_take]; omega
    rw [this]; exact g.nd.sublist (List.take_sublist _ _)
  have cin : ∀ y c, env.cells.lookup y = some c → ∃ v, s₁.heap.IsCell c v := fun y c e => ⟨_, x.cell y c e⟩
  refine ⟨⟨⟨by rw [hsc]; exact g.kind, hgl, hbu, ⟨_, x.toInCall.ns⟩, by rw [hL]; exact fresh_size, fun y e => by rw [kindOf]; exact e, fun y e => ?_, fun y e => absurd (mem_of_lookup e) (g.free y), fun y e => by rw [kindOf]; exact e, cin, fun y z c ey ez => ?_⟩,
    .refl _, .of keep, fun b o e => keep b o (hst b o e), fun a n => hnew a ?_, fun b o e => by rw [hst b o e]; simp, fun a p => ?_, fun a p => ?_, g.nd, fun i d y hi hy hv => ?_, fun i d hi ho => ?_, fun i d hi ho => ?_, fun i j a oi _ si => ?_⟩, fun b o _ e => keep b o e, fun i a (oi : fd.own i = true) _ si _ => ?_⟩
  · refine ⟨by rw [kindOf]; exact e, ?_⟩
    obtain ⟨c, e1, l⟩ := (cellsFrom_lookup fd.sc.names (s.heap.objs.size + 1) [] y g.keys).2 (mem_of_lookup e)
    exact ⟨c, by rw [hcs]; exact e1, none_of_le (h := s.heap) (by omega)⟩
  · exact name_of_addr x.apart (mem_of_lookup ey) (mem_of_lookup ez)
  · cases q : s.heap.get? a with
    | none => rfl
    | some o => rw [keep a o q] at n; cases n
  · rcases hP' a p with p | rfl
    · obtain ⟨o, es, n, q, d⟩ := hP a p
      exact ⟨o, es, n, keep a o q, d⟩
    · obtain ⟨o, es, ep, q, d, _⟩ := x.toInCall.ns
      exact ⟨o, es, ep, q, d⟩
  · rcases hP' a p with p | rfl
    · exact hbP a p
    · cases q : C.base.get? env.locals with
      | none => rfl
      | some o => have := hst _ _ q; rw [hL, fresh_size] at this; cases this
  · obtain ⟨hi1, hi2⟩ := own0 i d hi
    obtain ⟨v, hv1, _⟩ := hfull.get hi2
    have hmem : (y, v) ∈ (fd.tab.take fd.np).zip (fd.fullV vs) := by
      refine List.mem_of_getElem? (i := i) ?_
      rw [List.getElem?_zip_eq_some]
      exact ⟨by rw [List.getElem?_take, if_pos hi1]; exact hy, hv1⟩
    have e1 : (fd.fullV vs).getD i .none = v := by rw [List.getD_eq_getElem?_getD, hv1]; rfl
    show ValAt env s₁.heap y ((fd.fullV vs).getD i .none)
    rw [e1]
    obtain ⟨_, x', hx', hw⟩ := g.par i hi1
    have hy' : fd.tab[i]? = some y := hy
    rw [hx'] at hy'; cases hy'
    rcases isW_cases hw with q | q
    · have hk : env.kindOf y = some .local := by rw [kindOf]; exact q
      exact .inl ⟨hk, _, x.toInCall.ns, bindL_on hk keysz hmem⟩
    · have hk : env.kindOf y = some .cell := by rw [kindOf]; exact q
      obtain ⟨c, e2, _⟩ := (cellsFrom_lookup fd.sc.names (s.heap.objs.size + 1) [] y g.keys).2 (mem_of_lookup q)
      have e3 : env.cells.lookup y = some c := by rw [hcs]; exact e2
      have := x.cell y c e3
      rw [bindC_on (by rw [hk]; simp) keysz hmem] at this
      exact .inr ⟨.inl hk, c, e3, this⟩
  · obtain ⟨hi1, hi2⟩ := own0 i d hi
    obtain ⟨v, hv1, hv2⟩ := hfull.get hi2
    have e1 : (fd.fullV vs).getD i .none = v := by rw [List.getD_eq_getElem?_getD, hv1]; rfl
    show Rep s₁.heap _ ((fd.fullV vs).getD i .none) d
    rw [e1]
    refine hv2.mono fun a ha => ⟨ha, fun j oj sj _ => ?_⟩
    obtain ⟨dj, hj⟩ := Option.isSome_iff_exists.mp sj
    have := (g.par j (own0 j dj hj).1).1
    have oj' : fd.own j = true := oj
    rw [this] at oj'; cases oj'
  · have := (g.par i (own0 i d hi).1).1
    have ho' : fd.own i = true := ho
    rw [this] at ho'; cases ho'
  · obtain ⟨di, hi⟩ := Option.isSome_iff_exists.mp si
    have := (g.par i (own0 i di hi).1).1
    have ho' : fd.own i = true := oi
    rw [this] at ho'; cases ho'
  · obtain ⟨di, hi⟩ := Option.isSome_iff_exists.mp si
    have := (g.par i (own0 i di hi).1).1
    have ho' : fd.own i = true := oi
    rw [this] at ho'; cases ho'

variable (prog w A C fa) in
/-- a call of a function, as code -/
structure CodeOk (F : Fn) : Prop where
  code : ∀ f ds d, F f ds = some (.ok d) → ∀ (s : Shared) (vs : List Value) (S : Addr → Prop), RepL s.heap S vs ds → (∀ a, s.heap.get? a = none → S a) → (∀ b o, C.base.get? b = some o → s.heap.get? b = some o) →
    (∀ a, C.P a → ∃ o es n, s.heap.get? a = some o ∧ o.data = .dict es n) → ∀ (R : Result → Shared → Prop), (∀ v s', Le C.base C.P s s' → Rep s'.heap S v d → R (.ok (.ret v)) s') → codeAny (model prog w) A (.call (.ref (fa f)) ⟨vs, []⟩) R s
theorem CodeOk.call {F : Fn} (K : CodeOk prog w A C fa F) : CallOk prog w A C fa F := ⟨fun f ds d he s vs S hr hn hs hp Q E hQ => wpAny_call (K.code f ds d he s vs S hr hn hs hp _ hQ)⟩

theorem fns_code {base : Heap} {fns : List FnD} {kls : Addr} {newId initId B : String} {bmB : List Value} (G : Gl (cxP base fun _ => False) fnm fa mg mb) (hlim : base.NoLimit) (hg : ∀ fd ∈ fns, fd.good fnm true = true)
    (hat : ∀ f fd, fns[f]? = some fd → FnAt base (fa f) fd) (FB : ExcBaseFacts B newId initId bmB) (O : OwnCls tiesN kls bmB newId mg base) :
    ∀ (n : Nat) (A : Around) (l : List Env) (P : Addr → Prop), HOk A → A.frames = some l → Fst l → (∀ a, P a ↔ a ∈ fr l) → (∀ a ∈ fr l, base.get? a = none) → A.depth + n < recursionLimit → A.units + 3 * n + 50 < cLine →
      ∀ f ds res, FF fns n f ds = some res → ∀ (s : Shared) (vs : List Value) (S : Addr → Prop), RepL s.heap S vs ds → (∀ a, s.heap.get? a = none → S a) → (∀ b o, base.get? b = some o → s.heap.get? b = some o) →
        (∀ a, P a → ∃ o es n, s.heap.get? a = some o ∧ o.data = .dict es n) → ∀ (R : Result → Shared → Prop),
        (match res with
          | .ok d => ∀ v s', Le base P s s' → Rep s'.heap S v d → R (.ok (.ret v)) s'
          | .error _ => ∀ x s', Same s s' → XfD l kls s x s' → R (.error x) s') → codeAny (model prog w) A (.call (.ref (fa f)) ⟨vs, []⟩) R s
  | 0, A, _, _, _, _, _, _, _, _, _ => fun f ds d he => by simp [FF] at he
  | n + 1, A, l, P, hh, hfr, hst0, hPl, hbl, hd, hu => fun f ds res he s vs S hr hnew hst hP R0 hQ => by
    simp only [FF, Option.bind_eq_some_iff, Option.map_eq_some_iff] at he
    obtain ⟨fd, hfd, args, hfull, r, hr', hres⟩ := he
    have g := good_of (hg fd (List.mem_of_getElem? hfd))
    obtain ⟨o, FD, h1, h2, h3, h4, h5, h6, h7, h8, h9, h10, h11⟩ := (hat f fd hfd).at_
    have hvl := hr.length
    have hlen : fd.np ≤ vs.length + fd.dfl.length ∧ vs.length ≤ fd.np := by
      unfold FnD.full at hfull
      split at hfull
      · rename_i h; rw [hvl]; exact h
      · cases hfull
    have hroom : A.depth < recursionLimit := by omega
    refine codeAny_call_function hroom (hst _ _ h1) h2 h9 h10 h3 (Ext.codeRec (.of hst) h8) ?_
    refine h11 vs s hst hlen.1 hlen.2 _ _ _ _ ?_
    rw [h7]
    refine wpAny_newFunctionEnv_cells (by rw [h4]; exact g.kind) (fun y hy => ?_) fun env he s₁ x => ⟨Ext.noLimit (.of fun b o e => x.toInCall.keep b o (hst b o e)) hlim, codeAny_func ?_⟩
    · obtain ⟨y, v⟩ := y
      have hy' := (List.of_mem_zip hy).1
      obtain ⟨i, hi, e⟩ := List.getElem_of_mem hy'
      rw [List.length_take] at hi
      rw [List.getElem_take] at e
      obtain ⟨_, x', hx', hw⟩ := g.par i (by omega)
      rw [List.getElem?_eq_getElem (by omega), e] at hx'
      cases hx'
      rw [h4]
      rcases isW_cases hw with q | q
      · exact .inl q
      · obtain ⟨c, e2, _⟩ := (cellsFrom_lookup fd.sc.names (s.heap.objs.size + 1) [] y g.keys).2 (mem_of_lookup q)
        exact .inr ⟨q, by rw [e2]; rfl⟩
    · have hA' : AOk (A.deeper env) := ⟨hh, by simp; omega⟩
      have e1 : env.scope = fd.sc := by rw [he]; exact h4
      have e2 : env.globals = mainGlobals := by rw [he]; exact h5
      have e3 : env.builtins = builtinsNs := by rw [he]; exact h6
      have e4 : env.locals = s.heap.objs.size := by rw [he]; rfl
      have e5 : env.cells = cellsFrom (s.heap.objs.size + 1) fd.sc.names [] := by rw [he, h4]; rfl
      have e6 : env.frame = some env.locals := by rw [he]; rfl
      have hnl : s.heap.get? env.locals = none := by rw [e4]; exact fresh_size
      have hfr' : (A.deeper env).frames = some (env :: l) := Around.frames_deeper hfr
      have hst1 : Fst (env :: l) := fun e m => by
        rcases List.mem_cons.mp m with rfl | m
        · exact ⟨by rw [e1, g.kind]; simp, _, e6⟩
        · exact hst0 e m
      have hbl1 : ∀ a ∈ fr (env :: l), base.get? a = none := fun a m => by
        rw [fr_cons e6] at m
        rcases List.mem_cons.mp m with rfl | m
        · cases q : base.get? env.locals with
          | none => rfl
          | some o => have := hst _ _ q; rw [hnl] at this; cases this
        · exact hbl a m
      have hPs : ∀ a, a ∈ fr (env :: l) → P a ∨ a = env.locals := fun a m => by
        rw [fr_cons e6] at m
        rcases List.mem_cons.mp m with rfl | m
        · exact .inr rfl
        · exact .inl ((hPl a).2 m)
      have I := enter (C := cxP base P) (P' := (· ∈ fr (env :: l))) g hPs hfull hr hnew hst hP (fun a p => hbl a ((hPl a).1 p)) e1 e2 e3 e4 e5 x
      have G' : Gl (calleeCx (cxP base P) fd S s.heap (· ∈ fr (env :: l))) fnm fa mg mb := ⟨G.g, G.b, G.bi, G.src, G.fn⟩
      have rec_ := fns_code G hlim hg hat FB O n (A.deeper env) (env :: l) (· ∈ fr (env :: l)) hh hfr' hst1 (fun _ => .rfl) hbl1 (by show A.depth + 1 + n < _; omega) (by simp; omega)
      have K' : CallOk prog w (A.deeper env) (calleeCx (cxP base P) fd S s.heap (· ∈ fr (env :: l))) fa (FF fns n) :=
        ⟨fun f ds d he s vs S hr hn hs hp Q E hQ => wpAny_call (rec_ f ds (.ok d) he s vs S hr hn hs hp _ hQ)⟩
      have KX : CodeX prog w (A.deeper env) (calleeCx (cxP base P) fd S s.heap (· ∈ fr (env :: l))) fa (FF fns n) (env :: l) kls :=
        ⟨fun f ds he s vs S hr hn hs hp R hQ => rec_ f ds (.error ()) he s vs S hr hn hs hp R hQ⟩
      have X' := exOk_of (sc := fd.sc) hA' G' FB O hfr' e6 hst1 (fun _ => .rfl) KX
      obtain ⟨h₁, tk₁, rfl⟩ := x.toInCall.same
      have hex : ∀ h', Exact (· ∈ fr (env :: l)) s.heap h' → Exact P s.heap h' := fun h' k b o p q => k b o (fun m => (hPs b m).elim p fun z => by rw [z, hnl] at q; cases q) q
      refine all_SL hA' G' K' X' fd.body hr' g.chk I ?_
      cases r with
      | nxt σ' =>
        cases hres
        exact fun h' tk vals' I' _ => hQ .none _ ⟨h', tk, rfl, I'.V.ext, hex _ I'.ex, fun b o q _ => I'.V.stay b o q⟩ .non
      | cnt σ' =>
        cases hres
        exact fun h' tk vals' I' _ => hQ .none _ ⟨h', tk, rfl, I'.V.ext, hex _ I'.ex, fun b o q _ => I'.V.stay b o q⟩ .non
      | ret d' =>
        cases hres
        exact fun h' tk v e rr => hQ v _ ⟨h', tk, rfl, e.1, hex _ e.2.1, fun b o q _ => e.2.2 b o q⟩ (rr.mono fun a z => z.elim id fun z => hnew a z)
      | ties =>
        cases hres
        intro x s' hs hx
        refine xc_leave hfr' e6 x s' _ _ hx fun e a0 h' ex hu hfl => ?_
        subst ex
        obtain ⟨h2, tk2, rfl⟩ := hs
        exact hQ _ _ ⟨h', tk2, rfl⟩ ⟨e, a0, rfl, hu, hfl⟩
end
end Mine
end

section
open PySem PySem.W PyProof.Rows PySem.SeqAt PySem.MeetsSeq PySem.MeetsSeq2 PySem.MeetsSeq3
set_option maxRecDepth 100000
namespace Mine

/-! ## 26. The code of a call, whole -/
def bodyOf (p : Program) (n : String) : List PySem.Stmt := match p.theDef (PySem.Str.ofString n) with | some (_, b, _) => b | none => []
def scOf (p : Program) (n : String) : Scope := match p.theDef (PySem.Str.ofString n) with | some (_, _, s) => s | none => { kind := .module, names := [], isGenerator := false, isCoroutine := false }
end Mine
end

section
open PySem PySem.W PyProof.Rows
set_option maxRecDepth 100000
set_option maxHeartbeats 8000000
namespace Mine
open_top hd for PySem.Challenge.rw_br0001_01
end Mine
end

section
open PySem PySem.W PyProof.Rows
set_option maxRecDepth 100000
namespace Mine
abbrev l1_p : Program := PySem.Challenge.pw_br0001_01
def l1_compute_b : SL :=
  .cons (.asg (.v 5) (.call 1 (.cons (.v 1) (.cons (.v 3) .nil)))) (.cons (.ite (.cmp .eq (.v 0) (.k (.str (PySem.Str.ofString "quota")))) (.cons (.retC 5 (.cons (.v 5) (.cons (.v 2) (.cons (.v 4) .nil)))) .nil) (.cons (.ite (.cmp .inn (.v 0) (.list (.cons (.k (.str (PySem.Str.ofString "lrm"))) (.cons (.k (.str (PySem.Str.ofString "hamilton"))) (.cons (.k (.str (PySem.Str.ofString "largest_remainder"))) .nil))))) (.cons (.retC 2 (.cons (.v 5) (.cons (.v 2) (.cons (.v 4) .nil)))) .nil) (.cons (.ite (.cmp .inn (.v 0) (.list (.cons (.k (.str (PySem.Str.ofString "dhondt"))) (.cons (.k (.str (PySem.Str.ofString "jefferson"))) (.cons (.k (.str (PySem.Str.ofString "saintelague"))) (.cons (.k (.str (PySem.Str.ofString "webster"))) (.cons (.k (.str (PySem.Str.ofString "modified_saintelague"))) (.cons (.k (.str (PySem.Str.ofString "huntington"))) (.cons (.k (.str (PySem.Str.ofString "hill"))) (.cons (.k (.str (PySem.Str.ofString "adams"))) (.cons (.k (.str (PySem.Str.ofString "dean"))) (.cons (.k (.str (PySem.Str.ofString "smallestdivisor"))) (.cons (.k (.str (PySem.Str.ofString "harmonicmean"))) (.cons (.k (.str (PySem.Str.ofString "equalproportions"))) (.cons (.k (.str (PySem.Str.ofString "majorfractions"))) (.cons (.k (.str (PySem.Str.ofString "greatestdivisors"))) .nil)))))))))))))))) (.cons (.retC 3 (.cons (.v 5) (.cons (.v 2) (.cons (.v 0) (.cons (.v 4) .nil))))) .nil) (.cons .dead .nil)) .nil)) .nil)) .nil)
def l1_compute : FnD := { tab := ["method", "votes", "seats", "threshold", "tiesallowed", "filtered_votes"].map PySem.Str.ofString, owns := [], body := l1_compute_b, sc := scOf l1_p "compute", stmts := bodyOf l1_p "compute", np := 5, dfl := [.non, .bool true] }
def l1_apply_threshold_b : SL :=
  .cons (.ite (.isn false (.v 1)) (.cons (.own1 2 (.list .nil)) (.cons (.asg (.v 3) (.bi .sum (.cons (.v 0) .nil))) (.cons (.asg (.v 4) (.op .mul (.v 3) (.idx (.v 1) (.k (.int 0))))) (.cons (.loop (.v 5) (.t (.v 0)) (.cons (.ite (.cmp .lt (.op .mul (.v 5) (.idx (.v 1) (.k (.int 1)))) (.v 4)) (.cons .dead .nil) (.cons .dead .nil)) .nil)) (.cons (.retO 2) .nil))))) (.cons (.ret (.v 0)) .nil)) .nil
def l1_apply_threshold : FnD := { tab := ["votes", "threshold", "v", "combined_votes", "min_votes", "vote"].map PySem.Str.ofString, owns := [2], body := l1_apply_threshold_b, sc := scOf l1_p "apply_threshold", stmts := bodyOf l1_p "apply_threshold", np := 2, dfl := [] }
def l1_largest_remainder_b : SL :=
  .cons (.ite (.cmp .eq (.v 1) (.k (.int 0))) (.cons .dead .nil) .nil) (.cons (.asg (.v 3) (.comp (.tup (.cons (.op .mul (.bi .int (.cons (.v 9) .nil)) (.v 1)) (.cons (.bi .int (.cons (.bi .sum (.cons (.v 0) .nil)) .nil)) .nil))) (.cons (.v 9) (.t (.v 0)) .nil .nil))) (.cons (.own1 4 (.comp (.op .fdiv (.idx (.v 10) (.k (.int 0))) (.idx (.v 10) (.k (.int 1)))) (.cons (.v 10) (.t (.v 3)) .nil .nil))) (.cons (.asg (.v 5) (.k .fls)) (.cons (.ite (.cmp .lt (.bi .sum (.cons (.v 4) .nil)) (.v 1)) (.cons (.asg (.v 6) (.comp (.op .sub (.idx (.idx (.v 3) (.v 8)) (.k (.int 0))) (.op .mul (.idx (.v 4) (.v 8)) (.idx (.idx (.v 3) (.v 8)) (.k (.int 1))))) (.cons (.v 8) (.range1 (.bi .len (.cons (.v 0) .nil))) .nil .nil))) (.cons (.asg (.v 7) (.idx (.bi .sorted (.cons (.v 6) .nil)) (.op .sub (.bi .sum (.cons (.v 4) .nil)) (.v 1)))) (.cons (.loop (.v 8) (.range1 (.bi .len (.cons (.v 0) .nil))) (.cons (.asg (.v 11) (.bi .sum (.cons (.v 4) .nil))) (.cons (.ite (.bop true (.cons (.cmp .eq (.v 11) (.v 1)) (.cons (.cmp .ge (.idx (.v 6) (.v 8)) (.v 7)) .nil))) (.cons (.ite (.not (.v 5)) (.cons (.asg (.v 5) (.k .tru)) .nil) .nil) .nil) (.cons (.ite (.bop true (.cons (.cmp .lt (.v 11) (.v 1)) (.cons (.cmp .gt (.idx (.v 6) (.v 8)) (.v 7)) .nil))) (.cons (.augI 4 (.v 8) (.k (.int 1))) .nil) (.cons (.ite (.bop true (.cons (.cmp .lt (.v 11) (.v 1)) (.cons (.cmp .eq (.idx (.v 6) (.v 8)) (.v 7)) .nil))) (.cons (.augI 4 (.v 8) (.k (.int 1))) .nil) .nil) .nil)) .nil)) .nil))) .nil))) .nil) (.cons (.ite (.bop true (.cons (.v 5) (.cons (.not (.v 2)) .nil))) (.cons .raise .nil) .nil) (.cons (.retO 4) .nil))))))
def l1_largest_remainder : FnD := { tab := ["votes", "seats", "tiesallowed", "quotas", "representatives", "ties", "remainders", "cutoff", "i", "p", "qu", "reps_sum"].map PySem.Str.ofString, owns := [4], body := l1_largest_remainder_b, sc := scOf l1_p "largest_remainder", stmts := bodyOf l1_p "largest_remainder", np := 3, dfl := [.bool true] }
def l1_divisor_b : SL :=
  .cons (.own1 4 (.rep (.k (.int 0)) (.bi .len (.cons (.v 0) .nil)))) (.cons (.ite (.cmp .inn (.v 2) (.list (.cons (.k (.str (PySem.Str.ofString "dhondt"))) (.cons (.k (.str (PySem.Str.ofString "jefferson"))) (.cons (.k (.str (PySem.Str.ofString "greatestdivisors"))) .nil))))) (.cons (.asg (.v 6) (.comp (.tup (.cons (.op .add (.v 11) (.k (.int 1))) (.cons (.k (.int 1)) .nil))) (.cons (.v 11) (.range1 (.v 1)) .nil .nil))) .nil) (.cons (.ite (.cmp .inn (.v 2) (.list (.cons (.k (.str (PySem.Str.ofString "saintelague"))) (.cons (.k (.str (PySem.Str.ofString "webster"))) (.cons (.k (.str (PySem.Str.ofString "majorfractions"))) .nil))))) (.cons (.asg (.v 6) (.comp (.tup (.cons (.op .add (.op .mul (.k (.int 2)) (.v 11)) (.k (.int 1))) (.cons (.k (.int 1)) .nil))) (.cons (.v 11) (.range1 (.v 1)) .nil .nil))) .nil) (.cons (.ite (.cmp .inn (.v 2) (.list (.cons (.k (.str (PySem.Str.ofString "modified_saintelague"))) .nil))) (.cons (.asg (.v 6) (.op .add (.list (.cons (.tup (.cons (.k (.int 7)) (.cons (.k (.int 5)) .nil))) .nil)) (.comp (.tup (.cons (.op .add (.op .mul (.k (.int 2)) (.v 11)) (.k (.int 1))) (.cons (.k (.int 1)) .nil))) (.cons (.v 11) (.range2 (.k (.int 1)) (.v 1)) .nil .nil)))) .nil) (.cons (.ite (.cmp .inn (.v 2) (.list (.cons (.k (.str (PySem.Str.ofString "huntington"))) (.cons (.k (.str (PySem.Str.ofString "hill"))) (.cons (.k (.str (PySem.Str.ofString "equalproportions"))) .nil))))) (.cons (.ite (.cmp .lt (.v 1) (.bi .len (.cons (.v 0) .nil))) (.cons (.own1 4 (.call 4 (.cons (.v 0) (.cons (.v 1) (.cons (.v 3) .nil))))) .nil) (.cons (.own1 4 (.comp (.ite (.cmp .gt (.v 13) (.k (.int 0))) (.k (.int 1)) (.k (.int 0))) (.cons (.v 13) (.t (.v 0)) .nil .nil))) (.cons (.asg (.v 6) (.comp (.tup (.cons (.op .mul (.op .add (.v 11) (.k (.int 1))) (.op .add (.v 11) (.k (.int 2)))) (.cons (.k (.int 1)) .nil))) (.cons (.v 11) (.range1 (.v 1)) .nil .nil))) .nil))) .nil) (.cons (.ite (.cmp .inn (.v 2) (.list (.cons (.k (.str (PySem.Str.ofString "adams"))) (.cons (.k (.str (PySem.Str.ofString "smallestdivisor"))) .nil)))) (.cons (.ite (.cmp .lt (.v 1) (.bi .len (.cons (.v 0) .nil))) (.cons (.own1 4 (.call 4 (.cons (.v 0) (.cons (.v 1) (.cons (.v 3) .nil))))) .nil) (.cons (.own1 4 (.comp (.ite (.cmp .gt (.v 13) (.k (.int 0))) (.k (.int 1)) (.k (.int 0))) (.cons (.v 13) (.t (.v 0)) .nil .nil))) (.cons (.asg (.v 6) (.comp (.tup (.cons (.op .add (.v 11) (.k (.int 1))) (.cons (.k (.int 1)) .nil))) (.cons (.v 11) (.range1 (.v 1)) .nil .nil))) .nil))) .nil) (.cons (.ite (.cmp .inn (.v 2) (.list (.cons (.k (.str (PySem.Str.ofString "dean"))) (.cons (.k (.str (PySem.Str.ofString "harmonicmean"))) .nil)))) (.cons (.ite (.cmp .lt (.v 1) (.bi .len (.cons (.v 0) .nil))) (.cons (.own1 4 (.call 4 (.cons (.v 0) (.cons (.v 1) (.cons (.v 3) .nil))))) .nil) (.cons (.own1 4 (.comp (.ite (.cmp .gt (.v 13) (.k (.int 0))) (.k (.int 1)) (.k (.int 0))) (.cons (.v 13) (.t (.v 0)) .nil .nil))) (.cons (.asg (.v 6) (.comp (.tup (.cons (.op .mul (.op .mul (.k (.int 2)) (.op .add (.v 11) (.k (.int 1)))) (.op .add (.v 11) (.k (.int 2)))) (.cons (.op .add (.op .mul (.k (.int 2)) (.op .add (.v 11) (.k (.int 1)))) (.k (.int 1))) .nil))) (.cons (.v 11) (.range1 (.v 1)) .nil .nil))) .nil))) .nil) (.cons .dead .nil)) .nil)) .nil)) .nil)) .nil)) .nil)) (.cons (.ite (.cmp .gt (.v 1) (.bi .sum (.cons (.v 4) .nil))) (.cons (.asg (.v 7) (.k (.int 1))) (.cons (.loop (.v 8) (.t (.v 6)) (.cons (.asg (.v 7) (.op .mul (.v 7) (.idx (.v 8) (.k (.int 0))))) .nil)) (.cons (.ite (.cmp .inn (.v 2) (.list (.cons (.k (.str (PySem.Str.ofString "huntington"))) (.cons (.k (.str (PySem.Str.ofString "hill"))) (.cons (.k (.str (PySem.Str.ofString "equalproportions"))) .nil))))) (.cons (.asg (.v 12) (.comp (.comp (.op .fdiv (.op .mul (.op .mul (.op .mul (.bi .int (.cons (.v 13) .nil)) (.bi .int (.cons (.v 13) .nil))) (.idx (.v 8) (.k (.int 1)))) (.v 7)) (.idx (.v 8) (.k (.int 0)))) (.cons (.v 8) (.t (.v 6)) .nil .nil)) (.cons (.v 13) (.t (.v 0)) .nil .nil))) .nil) (.cons (.asg (.v 12) (.comp (.comp (.op .fdiv (.op .mul (.op .mul (.bi .int (.cons (.v 13) .nil)) (.idx (.v 8) (.k (.int 1)))) (.v 7)) (.idx (.v 8) (.k (.int 0)))) (.cons (.v 8) (.t (.v 6)) .nil .nil)) (.cons (.v 13) (.t (.v 0)) .nil .nil))) .nil)) (.cons (.asg (.v 9) (.bi .sorted (.cons (.comp (.v 15) (.cons (.v 14) (.t (.v 12)) .nil (.cons (.v 15) (.t (.v 14)) .nil .nil))) .nil))) (.cons (.asg (.v 10) (.idx (.v 9) (.op .add (.neg (.v 1)) (.bi .sum (.cons (.v 4) .nil))))) (.cons (.own1 4 (.comp (.op .add (.idx (.v 4) (.v 11)) (.bi .len (.cons (.comp (.v 15) (.cons (.v 15) (.t (.idx (.v 12) (.v 11))) (.cons (.cmp .gt (.v 15) (.v 10)) .nil) .nil)) .nil))) (.cons (.v 11) (.range1 (.bi .len (.cons (.v 0) .nil))) .nil .nil))) .nil)))))) .nil) (.cons (.asg (.v 5) (.k .fls)) (.cons (.ite (.cmp .gt (.v 1) (.bi .sum (.cons (.v 4) .nil))) (.cons (.loop (.v 11) (.range1 (.bi .len (.cons (.v 0) .nil))) (.cons (.ite (.bop true (.cons (.cmp .eq (.bi .sum (.cons (.v 4) .nil)) (.v 1)) (.cons (.cmp .inn (.v 10) (.idx (.v 12) (.v 11))) .nil))) (.cons (.ite (.not (.v 5)) (.cons (.ite (.not (.v 3)) (.cons .raise .nil) .nil) (.cons (.asg (.v 5) (.k .tru)) .nil)) .nil) .nil) .nil) (.cons (.ite (.bop true (.cons (.cmp .lt (.bi .sum (.cons (.v 4) .nil)) (.v 1)) (.cons (.cmp .inn (.v 10) (.idx (.v 12) (.v 11))) .nil))) (.cons (.augI 4 (.v 11) (.k (.int 1))) .nil) .nil) .nil))) .nil) .nil) (.cons (.ite (.bop true (.cons (.v 5) (.cons (.not (.v 3)) .nil))) (.cons .raise .nil) .nil) (.cons (.retO 4) .nil))))))
def l1_divisor : FnD := { tab := ["votes", "seats", "method", "tiesallowed", "representatives", "ties", "divisors", "common", "d", "flatweights", "minweight", "i", "weights", "p", "l", "w"].map PySem.Str.ofString, owns := [4], body := l1_divisor_b, sc := scOf l1_p "divisor", stmts := bodyOf l1_p "divisor", np := 4, dfl := [.bool true] }
def l1_divzero_fewerseatsthanparties_b : SL :=
  .cons (.own1 3 (.rep (.k (.int 0)) (.bi .len (.cons (.v 0) .nil)))) (.cons (.asg (.v 4) (.k .fls)) (.cons (.asg (.v 5) (.idx (.bi .sorted (.cons (.v 0) .nil)) (.neg (.v 1)))) (.cons (.loop (.v 6) (.range1 (.bi .len (.cons (.v 0) .nil))) (.cons (.ite (.bop true (.cons (.cmp .lt (.bi .sum (.cons (.v 3) .nil)) (.v 1)) (.cons (.cmp .ge (.idx (.v 0) (.v 6)) (.v 5)) .nil))) (.cons (.setI 3 (.v 6) (.k (.int 1))) .nil) (.cons (.ite (.bop true (.cons (.cmp .eq (.bi .sum (.cons (.v 3) .nil)) (.v 1)) (.cons (.cmp .ge (.idx (.v 0) (.v 6)) (.v 5)) .nil))) (.cons (.ite (.not (.v 4)) (.cons (.asg (.v 4) (.k .tru)) .nil) .nil) .nil) .nil) .nil)) .nil)) (.cons (.ite (.bop true (.cons (.v 4) (.cons (.not (.v 2)) .nil))) (.cons .raise .nil) .nil) (.cons (.retO 3) .nil)))))
def l1_divzero_fewerseatsthanparties : FnD := { tab := ["votes", "seats", "tiesallowed", "representatives", "ties", "mincount", "i"].map PySem.Str.ofString, owns := [3], body := l1_divzero_fewerseatsthanparties_b, sc := scOf l1_p "_divzero_fewerseatsthanparties", stmts := bodyOf l1_p "_divzero_fewerseatsthanparties", np := 3, dfl := [] }
def l1_quota_b : SL :=
  .cons (.ite (.not (.v 2)) (.cons .dead .nil) .nil) (.cons (.own1 3 (.rep (.k (.int 0)) (.bi .len (.cons (.v 0) .nil)))) (.cons (.whil 20 (.cmp .lt (.bi .sum (.cons (.v 3) .nil)) (.v 1)) (.cons (.asg (.v 4) (.k (.int 1))) (.cons (.loopB (.v 5) 3 (.cons (.asg (.v 4) (.op .mul (.v 4) (.op .add (.v 5) (.k (.int 1))))) .nil)) (.cons (.asg (.v 6) (.comp (.op .fdiv (.op .mul (.bi .int (.cons (.idx (.v 0) (.v 11)) .nil)) (.v 4)) (.op .add (.bi .int (.cons (.idx (.v 3) (.v 11)) .nil)) (.k (.int 1)))) (.cons (.v 11) (.range1 (.bi .len (.cons (.v 0) .nil))) .nil .nil))) (.cons (.ite (.cmp .ne (.bi .sum (.cons (.v 0) .nil)) (.k (.int 0))) (.cons (.asg (.v 10) (.comp (.neg (.op .fdiv (.op .mul (.neg (.v 12)) (.op .add (.bi .sum (.cons (.v 3) .nil)) (.k (.int 1)))) (.bi .sum (.cons (.v 0) .nil)))) (.cons (.v 12) (.t (.v 0)) .nil .nil))) (.cons (.asg (.v 6) (.comp (.ite (.cmp .ge (.idx (.v 3) (.v 11)) (.idx (.v 10) (.v 11))) (.k (.int 0)) (.idx (.v 6) (.v 11))) (.cons (.v 11) (.range1 (.bi .len (.cons (.v 0) .nil))) .nil .nil))) .nil)) .nil) (.cons (.asg (.v 7) (.bi .maxL (.cons (.v 6) .nil))) (.cons (.asg (.v 8) (.comp (.v 11) (.cons (.v 11) (.range1 (.bi .len (.cons (.v 0) .nil))) (.cons (.cmp .eq (.idx (.v 6) (.v 11)) (.v 7)) .nil) .nil))) (.cons (.asg (.v 9) (.idx (.v 8) (.k (.int 0)))) (.cons (.augI 3 (.v 9) (.k (.int 1))) .nil))))))))) (.cons (.retO 3) .nil)))
def l1_quota : FnD := { tab := ["votes", "seats", "tiesallowed", "representatives", "common", "r", "quotas", "maxquota", "maxquotas", "nextrep", "upperquota", "i", "p"].map PySem.Str.ofString, owns := [3], body := l1_quota_b, sc := scOf l1_p "quota", stmts := bodyOf l1_p "quota", np := 3, dfl := [.bool true] }
def l1_law_seats_b : SL :=
  .cons (.asg (.v 3) (.comp (.v 8) (.cons (.tup (.cons (.v 7) (.cons (.v 8) .nil))) (.t (.v 1)) .nil .nil))) (.cons (.asg (.v 4) (.bi .sum (.cons (.v 3) .nil))) (.cons (.asg (.v 5) (.op .sub (.v 2) (.bi .sum (.cons (.comp (.op .fdiv (.op .mul (.v 8) (.v 2)) (.v 4)) (.cons (.v 8) (.t (.v 3)) .nil .nil)) .nil)))) (.cons (.asg (.v 6) (.rev (.bi .sorted (.cons (.comp (.op .mod (.op .mul (.v 8) (.v 2)) (.v 4)) (.cons (.v 8) (.t (.v 3)) .nil .nil)) .nil)))) (.cons (.try (.cons (.retC 0 (.cons (.v 0) (.cons (.v 3) (.cons (.v 2) (.cons (.k .non) (.cons (.k .fls) .nil)))))) .nil) (.cons (.ret (.ite (.bop true (.cons (.cmp .gt (.v 5) (.k (.int 0))) (.cons (.cmp .eq (.idx (.v 6) (.op .sub (.v 5) (.k (.int 1)))) (.idx (.v 6) (.v 5))) .nil))) (.k .non) (.list .nil))) .nil)) .nil))))
def l1_law_seats : FnD := { tab := ["name", "parties", "house", "numbers", "total", "left", "rests", "who", "votes"].map PySem.Str.ofString, owns := [], body := l1_law_seats_b, sc := scOf l1_p "_law_seats", stmts := bodyOf l1_p "_law_seats", np := 3, dfl := [] }
def l1_law_one_way_b : SL :=
  .cons (.asg (.tup (.cons (.tup (.cons (.v 9) (.cons (.v 10) (.cons (.v 11) .nil)))) (.cons (.tup (.cons (.v 12) (.cons (.v 13) (.cons (.v 14) .nil)))) .nil))) (.tup (.cons (.v 0) (.cons (.v 1) .nil)))) (.cons (.ite (.bop false (.cons (.isn true (.v 11)) (.cons (.isn true (.v 14)) .nil))) (.cons (.ret (.k .tru)) .nil) .nil) (.cons (.asg (.v 3) (.op .sub (.op .mul (.op .mul (.v 2) (.v 13)) (.bi .sum (.cons (.comp (.v 16) (.cons (.tup (.cons (.v 15) (.cons (.v 16) .nil))) (.t (.v 9)) .nil .nil)) .nil))) (.op .mul (.v 10) (.bi .sum (.cons (.comp (.v 16) (.cons (.tup (.cons (.v 15) (.cons (.v 16) .nil))) (.t (.v 12)) .nil .nil)) .nil))))) (.cons (.ownN [4, 5, 6, 7] (.cons (.list .nil) (.cons (.list .nil) (.cons (.k (.int 0)) (.cons (.k (.int 0)) .nil))))) (.cons (.loop (.tup (.cons (.tup (.cons (.v 15) (.cons (.v 16) .nil))) (.cons (.v 8) .nil))) (.zip (.v 9) (.v 11)) (.cons (.loop (.tup (.cons (.tup (.cons (.v 18) (.cons (.v 19) .nil))) (.cons (.v 17) .nil))) (.zip (.v 12) (.v 14)) (.cons (.ite (.bop true (.cons (.cmp .eq (.v 18) (.v 15)) (.cons (.cmp .eq (.v 19) (.op .mul (.v 2) (.v 16))) .nil))) (.cons (.ownN [6, 7] (.cons (.bi .max2 (.cons (.v 6) (.cons (.op .sub (.v 17) (.v 8)) .nil))) (.cons (.bi .min2 (.cons (.v 7) (.cons (.op .sub (.v 17) (.v 8)) .nil))) .nil))) (.cons (.ite (.cmp .gt (.v 17) (.v 8)) (.cons (.app 4 (.v 16)) .nil) .nil) (.cons (.ite (.cmp .lt (.v 17) (.v 8)) (.cons (.app 5 (.v 16)) .nil) .nil) .nil))) .nil) .nil)) .nil)) (.cons (.ite (.bop false (.cons (.bop true (.cons (.cmp .ge (.v 3) (.k (.int 0))) (.cons (.cmp .lt (.v 7) (.neg (.k (.int 1)))) .nil))) (.cons (.bop true (.cons (.cmp .le (.v 3) (.k (.int 0))) (.cons (.cmp .gt (.v 6) (.k (.int 1))) .nil))) .nil))) (.cons (.ret (.k .fls)) .nil) .nil) (.cons (.ite (.bop false (.cons (.cmp .eq (.v 4) (.list .nil)) (.cons (.cmp .eq (.v 5) (.list .nil)) .nil))) (.cons (.ret (.k .tru)) .nil) .nil) (.cons (.ret (.bop false (.cons (.bop true (.cons (.cmp .gt (.v 3) (.k (.int 0))) (.cons (.cmp .gt (.bi .minL (.cons (.v 4) .nil)) (.bi .maxL (.cons (.v 5) .nil))) .nil))) (.cons (.bop true (.cons (.cmp .lt (.v 3) (.k (.int 0))) (.cons (.cmp .lt (.bi .maxL (.cons (.v 4) .nil)) (.bi .minL (.cons (.v 5) .nil))) .nil))) .nil)))) .nil)))))))
def l1_law_one_way : FnD := { tab := ["first", "second", "times", "grown", "gains", "losses", "most", "least", "had", "parties", "house", "seats", "others", "room", "places", "who", "votes", "has", "name", "number"].map PySem.Str.ofString, owns := [4, 5], body := l1_law_one_way_b, sc := scOf l1_p "_law_one_way", stmts := bodyOf l1_p "_law_one_way", np := 3, dfl := [] }
def l1_law_b : SL :=
  .cons (.asg (.v 1) (.list (.cons (.k (.int 1)) (.cons (.k (.int 4)) (.cons (.k (.int 7)) (.cons (.k (.int 500)) (.cons (.k (.int 340)) (.cons (.k (.int 160)) (.cons (.k (.int 90)) (.cons (.k (.int 21)) (.cons (.k (.int 0)) (.cons (.k (.int 12)) (.cons (.k (.int 9)) (.cons (.k (.int 3)) (.cons (.k (.int 44)) (.cons (.k (.int 5)) .nil)))))))))))))))) (.cons (.asg (.v 2) (.op .add (.sl (.v 0) .none (.some (.k (.int 14)))) (.sl (.v 1) (.some (.bi .len (.cons (.sl (.v 0) .none (.some (.k (.int 14)))) .nil))) .none))) (.cons (.asg (.v 3) (.idx (.list (.cons (.k (.str (PySem.Str.ofString "lrm"))) (.cons (.k (.str (PySem.Str.ofString "hamilton"))) (.cons (.k (.str (PySem.Str.ofString "largest_remainder"))) .nil)))) (.op .mod (.idx (.v 2) (.k (.int 0))) (.k (.int 3))))) (.cons (.asg (.v 4) (.comp (.tup (.cons (.v 10) (.cons (.op .add (.k (.int 1)) (.op .mod (.idx (.v 2) (.op .add (.k (.int 3)) (.v 10))) (.op .pow (.k (.int 10)) (.k (.int 6))))) .nil))) (.cons (.v 10) (.range1 (.op .add (.k (.int 2)) (.op .mod (.idx (.v 2) (.k (.int 1))) (.k (.int 4))))) .nil .nil))) (.cons (.ownN [7, 8] (.cons (.op .add (.k (.int 1)) (.op .mod (.idx (.v 2) (.k (.int 2))) (.k (.int 30)))) (.cons (.k (.int 9)) .nil))) (.cons (.asg (.v 5) (.tup (.cons (.v 4) (.cons (.v 7) (.cons (.call 6 (.cons (.v 3) (.cons (.v 4) (.cons (.v 7) .nil)))) .nil))))) (.cons (.ite (.bop true (.cons (.isn false (.idx (.v 5) (.k (.int 2)))) (.cons (.bop false (.cons (.cmp .ne (.bi .len (.cons (.idx (.v 5) (.k (.int 2))) .nil)) (.bi .len (.cons (.v 4) .nil))) (.cons (.cmp .ne (.bi .sum (.cons (.idx (.v 5) (.k (.int 2))) .nil)) (.v 7)) .nil))) .nil))) (.cons (.ret (.k .fls)) .nil) .nil) (.cons (.loop (.v 6) (.t (.sl (.v 2) (.some (.k (.int 8))) (.some (.k (.int 14))))) (.cons (.ownN [11, 12] (.cons (.op .mod (.op .fdiv (.v 6) (.k (.int 7))) (.bi .len (.cons (.v 4) .nil))) (.cons (.k (.int 1)) .nil))) (.cons (.ite (.cmp .eq (.op .mod (.v 6) (.k (.int 7))) (.k (.int 0))) (.cons (.aug 7 .add (.op .add (.k (.int 1)) (.op .mod (.op .fdiv (.v 6) (.k (.int 7))) (.k (.int 3))))) .nil) (.cons (.ite (.cmp .eq (.op .mod (.v 6) (.k (.int 7))) (.k (.int 1))) (.cons (.asg (.v 7) (.bi .max2 (.cons (.k (.int 1)) (.cons (.op .sub (.op .sub (.v 7) (.k (.int 1))) (.op .mod (.op .fdiv (.v 6) (.k (.int 7))) (.k (.int 3)))) .nil)))) .nil) (.cons (.ite (.cmp .eq (.op .mod (.v 6) (.k (.int 7))) (.k (.int 2))) (.cons (.asg (.v 4) (.op .add (.op .add (.sl (.v 4) .none (.some (.v 11))) (.list (.cons (.tup (.cons (.idx (.idx (.v 4) (.v 11)) (.k (.int 0))) (.cons (.op .add (.k (.int 1)) (.op .mod (.op .fdiv (.v 6) (.k (.int 35))) (.op .pow (.k (.int 10)) (.k (.int 6))))) .nil))) .nil))) (.sl (.v 4) (.some (.op .add (.v 11) (.k (.int 1)))) .none))) .nil) (.cons (.ite (.cmp .eq (.op .mod (.v 6) (.k (.int 7))) (.k (.int 3))) (.cons (.ownN [4, 8] (.cons (.op .add (.v 4) (.list (.cons (.tup (.cons (.v 8) (.cons (.op .add (.k (.int 1)) (.op .mod (.op .fdiv (.v 6) (.k (.int 35))) (.op .pow (.k (.int 10)) (.k (.int 6))))) .nil))) .nil))) (.cons (.op .add (.v 8) (.k (.int 1))) .nil))) .nil) (.cons (.ite (.bop true (.cons (.cmp .eq (.op .mod (.v 6) (.k (.int 7))) (.k (.int 4))) (.cons (.cmp .gt (.bi .len (.cons (.v 4) .nil)) (.k (.int 2))) .nil))) (.cons (.asg (.v 4) (.op .add (.sl (.v 4) .none (.some (.v 11))) (.sl (.v 4) (.some (.op .add (.v 11) (.k (.int 1)))) .none))) .nil) (.cons (.ite (.bop true (.cons (.cmp .eq (.op .mod (.v 6) (.k (.int 7))) (.k (.int 5))) (.cons (.cmp .gt (.bi .len (.cons (.v 4) .nil)) (.k (.int 2))) .nil))) (.cons (.asg (.v 14) (.op .mod (.op .add (.v 11) (.k (.int 1))) (.bi .len (.cons (.v 4) .nil)))) (.cons (.asg (.v 15) (.tup (.cons (.v 8) (.cons (.op .add (.idx (.idx (.v 4) (.v 11)) (.k (.int 1))) (.idx (.idx (.v 4) (.v 14)) (.k (.int 1)))) .nil)))) (.cons (.ownN [4, 8] (.cons (.op .add (.comp (.v 18) (.cons (.tup (.cons (.v 10) (.cons (.v 18) .nil))) (.enum (.v 4)) (.cons (.cmp .nin (.v 10) (.tup (.cons (.v 11) (.cons (.v 14) .nil)))) .nil) .nil)) (.list (.cons (.v 15) .nil))) (.cons (.op .add (.v 8) (.k (.int 1))) .nil))) .nil))) (.cons (.ite (.cmp .eq (.op .mod (.v 6) (.k (.int 7))) (.k (.int 6))) (.cons (.asg (.v 12) (.op .add (.k (.int 2)) (.op .mod (.op .fdiv (.v 6) (.k (.int 7))) (.k (.int 9))))) (.cons (.asg (.v 4) (.comp (.tup (.cons (.v 16) (.cons (.op .mul (.v 12) (.v 17)) .nil))) (.cons (.tup (.cons (.v 16) (.cons (.v 17) .nil))) (.t (.v 4)) .nil .nil))) .nil)) .nil) .nil)) .nil)) .nil)) .nil)) .nil)) .nil)) (.cons (.asg (.v 9) (.tup (.cons (.v 4) (.cons (.v 7) (.cons (.call 6 (.cons (.v 3) (.cons (.v 4) (.cons (.v 7) .nil)))) .nil))))) (.cons (.ite (.bop true (.cons (.isn false (.idx (.v 9) (.k (.int 2)))) (.cons (.bop false (.cons (.cmp .ne (.bi .len (.cons (.idx (.v 9) (.k (.int 2))) .nil)) (.bi .len (.cons (.v 4) .nil))) (.cons (.cmp .ne (.bi .sum (.cons (.idx (.v 9) (.k (.int 2))) .nil)) (.v 7)) .nil))) .nil))) (.cons (.ret (.k .fls)) .nil) .nil) (.cons (.ite (.not (.call 7 (.cons (.v 5) (.cons (.v 9) (.cons (.v 12) .nil))))) (.cons (.ret (.k .fls)) .nil) .nil) (.cons (.ite (.bop true (.cons (.isn false (.idx (.v 5) (.k (.int 2)))) (.cons (.isn false (.idx (.v 9) (.k (.int 2)))) (.cons (.cmp .eq (.op .mod (.v 6) (.k (.int 7))) (.k (.int 2))) .nil)))) (.cons (.asg (.v 13) (.op .sub (.idx (.idx (.v 4) (.v 11)) (.k (.int 1))) (.idx (.idx (.idx (.v 5) (.k (.int 0))) (.v 11)) (.k (.int 1))))) (.cons (.ite (.cmp .lt (.op .mul (.op .sub (.idx (.idx (.v 9) (.k (.int 2))) (.v 11)) (.idx (.idx (.v 5) (.k (.int 2))) (.v 11))) (.v 13)) (.k (.int 0))) (.cons (.ret (.k .fls)) .nil) .nil) .nil)) .nil) (.cons (.asg (.v 5) (.v 9)) .nil)))))))) (.cons (.ret (.k .tru)) .nil))))))))
def l1_law : FnD := { tab := ["script", "rest", "cells", "name", "parties", "before", "pick", "house", "coming", "after", "k", "place", "times", "grew", "other", "joined", "who", "votes", "one"].map PySem.Str.ofString, owns := [], body := l1_law_b, sc := scOf l1_p "law", stmts := bodyOf l1_p "law", np := 1, dfl := [] }
def l1_fnm : List PySem.Str := ["compute", "apply_threshold", "largest_remainder", "divisor", "_divzero_fewerseatsthanparties", "quota", "_law_seats", "_law_one_way", "law"].map PySem.Str.ofString
def l1_fns : List FnD := [l1_compute, l1_apply_threshold, l1_largest_remainder, l1_divisor, l1_divzero_fewerseatsthanparties, l1_quota, l1_law_seats, l1_law_one_way, l1_law]
theorem l1_good : ∀ fd ∈ l1_fns, fd.good l1_fnm true = true := by
  intro fd h
  simp only [l1_fns, List.mem_cons, List.not_mem_nil, or_false] at h
  rcases h with rfl | rfl | rfl | rfl | rfl | rfl | rfl | rfl | rfl <;> decide +kernel
end Mine
end

section
open PySem PySem.W PyProof.Rows
set_option maxRecDepth 100000
set_option maxHeartbeats 8000000
namespace Mine
def l1_fa : Nat → Addr := fun f => ([35, 42, 48, 54, 61, 67, 72, 77, 82][f]?).getD 0
theorem l1_at_compute {w : World} {h : Heap} (KX : (Mine.hd.heap_39 w.params).In h) : FnAt h 35 l1_compute := by
  refine ⟨⟨_, _, KX 35 _ rfl, rfl, rfl, rfl, rfl, rfl, rfl, ⟨34, _, _, _, rfl, KX 34 _ rfl, rfl, rfl⟩, rfl, rfl, fun vs s hs h1 h2 => ?_⟩⟩
  have h1 : 5 ≤ vs.length + 2 := h1
  have h2 : vs.length ≤ 5 := h2
  rcases vs with _ | ⟨a0, _ | ⟨a1, _ | ⟨a2, _ | ⟨a3, _ | ⟨a4, _ | ⟨a5, r⟩⟩⟩⟩⟩⟩
  · simp only [List.length_cons, List.length_nil] at h1 h2; exfalso; omega
  · simp only [List.length_cons, List.length_nil] at h1 h2; exfalso; omega
  · simp only [List.length_cons, List.length_nil] at h1 h2; exfalso; omega
  · exact BindsTo.of_defaults rfl (hs _ _ (KX 28 _ rfl)) rfl rfl rfl
  · exact BindsTo.of_defaults rfl (hs _ _ (KX 28 _ rfl)) rfl rfl rfl
  · exact BindsTo.of_defaults rfl (hs _ _ (KX 28 _ rfl)) rfl rfl rfl
  · simp only [List.length_cons, List.length_nil] at h1 h2; exfalso; omega
theorem l1_at_apply_threshold {w : World} {h : Heap} (KX : (Mine.hd.heap_39 w.params).In h) : FnAt h 42 l1_apply_threshold := by
  refine ⟨⟨_, _, KX 42 _ rfl, rfl, rfl, rfl, rfl, rfl, rfl, ⟨41, _, _, _, rfl, KX 41 _ rfl, rfl, rfl⟩, rfl, rfl, fun vs s hs h1 h2 => ?_⟩⟩
  have h1 : 2 ≤ vs.length + 0 := h1
  have h2 : vs.length ≤ 2 := h2
  rcases vs with _ | ⟨a0, _ | ⟨a1, _ | ⟨a2, r⟩⟩⟩
  · simp only [List.length_cons, List.length_nil] at h1 h2; exfalso; omega
  · simp only [List.length_cons, List.length_nil] at h1 h2; exfalso; omega
  · exact BindsTo.of_eq rfl
  · simp only [List.length_cons, List.length_nil] at h1 h2; exfalso; omega
theorem l1_at_largest_remainder {w : World} {h : Heap} (KX : (Mine.hd.heap_39 w.params).In h) : FnAt h 48 l1_largest_remainder := by
  refine ⟨⟨_, _, KX 48 _ rfl, rfl, rfl, rfl, rfl, rfl, rfl, ⟨47, _, _, _, rfl, KX 47 _ rfl, rfl, rfl⟩, rfl, rfl, fun vs s hs h1 h2 => ?_⟩⟩
  have h1 : 3 ≤ vs.length + 1 := h1
  have h2 : vs.length ≤ 3 := h2
  rcases vs with _ | ⟨a0, _ | ⟨a1, _ | ⟨a2, _ | ⟨a3, r⟩⟩⟩⟩
  · simp only [List.length_cons, List.length_nil] at h1 h2; exfalso; omega
  · simp only [List.length_cons, List.length_nil] at h1 h2; exfalso; omega
  · exact BindsTo.of_defaults rfl (hs _ _ (KX 43 _ rfl)) rfl rfl rfl
  · exact BindsTo.of_defaults rfl (hs _ _ (KX 43 _ rfl)) rfl rfl rfl
  · simp only [List.length_cons, List.length_nil] at h1 h2; exfalso; omega
theorem l1_at_divisor {w : World} {h : Heap} (KX : (Mine.hd.heap_39 w.params).In h) : FnAt h 54 l1_divisor := by
  refine ⟨⟨_, _, KX 54 _ rfl, rfl, rfl, rfl, rfl, rfl, rfl, ⟨53, _, _, _, rfl, KX 53 _ rfl, rfl, rfl⟩, rfl, rfl, fun vs s hs h1 h2 => ?_⟩⟩
  have h1 : 4 ≤ vs.length + 1 := h1
  have h2 : vs.length ≤ 4 := h2
  rcases vs with _ | ⟨a0, _ | ⟨a1, _ | ⟨a2, _ | ⟨a3, _ | ⟨a4, r⟩⟩⟩⟩⟩
  · simp only [List.length_cons, List.length_nil] at h1 h2; exfalso; omega
  · simp only [List.length_cons, List.length_nil] at h1 h2; exfalso; omega
  · simp only [List.length_cons, List.length_nil] at h1 h2; exfalso; omega
  · exact BindsTo.of_defaults rfl (hs _ _ (KX 49 _ rfl)) rfl rfl rfl
  · exact BindsTo.of_defaults rfl (hs _ _ (KX 49 _ rfl)) rfl rfl rfl
  · simp only [List.length_cons, List.length_nil] at h1 h2; exfalso; omega
theorem l1_at_divzero_fewerseatsthanparties {w : World} {h : Heap} (KX : (Mine.hd.heap_39 w.params).In h) : FnAt h 61 l1_divzero_fewerseatsthanparties := by
  refine ⟨⟨_, _, KX 61 _ rfl, rfl, rfl, rfl, rfl, rfl, rfl, ⟨60, _, _, _, rfl, KX 60 _ rfl, rfl, rfl⟩, rfl, rfl, fun vs s hs h1 h2 => ?_⟩⟩
  have h1 : 3 ≤ vs.length + 0 := h1
  have h2 : vs.length ≤ 3 := h2
  rcases vs with _ | ⟨a0, _ | ⟨a1, _ | ⟨a2, _ | ⟨a3, r⟩⟩⟩⟩
  · simp only [List.length_cons, List.length_nil] at h1 h2; exfalso; omega
  · simp only [List.length_cons, List.length_nil] at h1 h2; exfalso; omega
  · simp only [List.length_cons, List.length_nil] at h1 h2; exfalso; omega
  · exact BindsTo.of_eq rfl
  · simp only [List.length_cons, List.length_nil] at h1 h2; exfalso; omega
theorem l1_at_quota {w : World} {h : Heap} (KX : (Mine.hd.heap_39 w.params).In h) : FnAt h 67 l1_quota := by
  refine ⟨⟨_, _, KX 67 _ rfl, rfl, rfl, rfl, rfl, rfl, rfl, ⟨66, _, _, _, rfl, KX 66 _ rfl, rfl, rfl⟩, rfl, rfl, fun vs s hs h1 h2 => ?_⟩⟩
  have h1 : 3 ≤ vs.length + 1 := h1
  have h2 : vs.length ≤ 3 := h2
  rcases vs with _ | ⟨a0, _ | ⟨a1, _ | ⟨a2, _ | ⟨a3, r⟩⟩⟩⟩
  · simp only [List.length_cons, List.length_nil] at h1 h2; exfalso; omega
  · simp only [List.length_cons, List.length_nil] at h1 h2; exfalso; omega
  · exact BindsTo.of_defaults rfl (hs _ _ (KX 62 _ rfl)) rfl rfl rfl
  · exact BindsTo.of_defaults rfl (hs _ _ (KX 62 _ rfl)) rfl rfl rfl
  · simp only [List.length_cons, List.length_nil] at h1 h2; exfalso; omega
theorem l1_at_law_seats {w : World} {h : Heap} (KX : (Mine.hd.heap_39 w.params).In h) : FnAt h 72 l1_law_seats := by
  refine ⟨⟨_, _, KX 72 _ rfl, rfl, rfl, rfl, rfl, rfl, rfl, ⟨71, _, _, _, rfl, KX 71 _ rfl, rfl, rfl⟩, rfl, rfl, fun vs s hs h1 h2 => ?_⟩⟩
  have h1 : 3 ≤ vs.length + 0 := h1
  have h2 : vs.length ≤ 3 := h2
  rcases vs with _ | ⟨a0, _ | ⟨a1, _ | ⟨a2, _ | ⟨a3, r⟩⟩⟩⟩
  · simp only [List.length_cons, List.length_nil] at h1 h2; exfalso; omega
  · simp only [List.length_cons, List.length_nil] at h1 h2; exfalso; omega
  · simp only [List.length_cons, List.length_nil] at h1 h2; exfalso; omega
  · exact BindsTo.of_eq rfl
  · simp only [List.length_cons, List.length_nil] at h1 h2; exfalso; omega
theorem l1_at_law_one_way {w : World} {h : Heap} (KX : (Mine.hd.heap_39 w.params).In h) : FnAt h 77 l1_law_one_way := by
  refine ⟨⟨_, _, KX 77 _ rfl, rfl, rfl, rfl, rfl, rfl, rfl, ⟨76, _, _, _, rfl, KX 76 _ rfl, rfl, rfl⟩, rfl, rfl, fun vs s hs h1 h2 => ?_⟩⟩
  have h1 : 3 ≤ vs.length + 0 := h1
  have h2 : vs.length ≤ 3 := h2
  rcases vs with _ | ⟨a0, _ | ⟨a1, _ | ⟨a2, _ | ⟨a3, r⟩⟩⟩⟩
  · simp only [List.length_cons, List.length_nil] at h1 h2; exfalso; omega
  · simp only [List.length_cons, List.length_nil] at h1 h2; exfalso; omega
  · simp only [List.length_cons, List.length_nil] at h1 h2; exfalso; omega
  · exact BindsTo.of_eq rfl
  · simp only [List.length_cons, List.length_nil] at h1 h2; exfalso; omega
theorem l1_at_law {w : World} {h : Heap} (KX : (Mine.hd.heap_39 w.params).In h) : FnAt h 82 l1_law := by
  refine ⟨⟨_, _, KX 82 _ rfl, rfl, rfl, rfl, rfl, rfl, rfl, ⟨81, _, _, _, rfl, KX 81 _ rfl, rfl, rfl⟩, rfl, rfl, fun vs s hs h1 h2 => ?_⟩⟩
  have h1 : 1 ≤ vs.length + 0 := h1
  have h2 : vs.length ≤ 1 := h2
  rcases vs with _ | ⟨a0, _ | ⟨a1, r⟩⟩
  · simp only [List.length_cons, List.length_nil] at h1 h2; exfalso; omega
  · exact BindsTo.of_eq rfl
  · simp only [List.length_cons, List.length_nil] at h1 h2; exfalso; omega
end Mine
end

section
open PySem PySem.W PyProof.Rows
set_option maxRecDepth 100000
namespace Mine
theorem l1_own_h : l1_largest_remainder.own = h_own := by funext i; simp [FnD.own, l1_largest_remainder, h_own]; rfl
theorem l1_own_c : l1_compute.own = s_own := by funext i; simp [FnD.own, l1_compute, s_own]
theorem l1_own_s : l1_law_seats.own = s_own := by funext i; simp [FnD.own, l1_law_seats, s_own]
theorem l1_own_w : l1_law_one_way.own = w_own := by
  funext i; simp only [FnD.own, l1_law_one_way, w_own, List.contains, List.elem]; cases (i == 4) <;> cases (i == 5) <;> rfl
theorem l1_own_l : l1_law.own = l_own := by funext i; simp [FnD.own, l1_law, l_own]

theorem l1_lrm (n : Nat) {V : List Int} {h : Int} (hV : VOk' V) (h1 : 1 ≤ h) (h2 : h ≤ 1000) (ta : Bool) : FF l1_fns (n + 1) 2 [DI V, .int h, .bool ta] = some (hres V h ta) := by
  have e : FF l1_fns (n + 1) 2 [DI V, .int h, .bool ta] = (evSL l1_largest_remainder.own (FF l1_fns n) (fun _ => true) l1_largest_remainder_b (l1_largest_remainder.start [DI V, .int h, .bool ta])).map resOf := rfl
  have e2 : l1_largest_remainder_b = h_body := rfl
  rw [e, l1_own_h, e2, h_body_ev (fun _ => rfl) hV h1 h2 (σ := l1_largest_remainder.start [DI V, .int h, .bool ta]) rfl rfl rfl]
  unfold hres
  cases (hD V h).2 && !ta <;> rfl

theorem l1_thr (n : Nat) (d : D) : FF l1_fns (n + 1) 1 [d, .non] = some (.ok d) := rfl

theorem l1_comp (n : Nat) {V : List Int} {h : Int} (hV : VOk' V) (h1 : 1 ≤ h) (h2 : h ≤ 1000) {m : PySem.Str} (hm : m ∈ hNames) : FF l1_fns (n + 2) 0 [.str m, DI V, .int h, .non, .bool false] = some (hres V h false) := by
  have hd := l1_lrm n hV h1 h2 false
  have e : FF l1_fns (n + 2) 0 [.str m, DI V, .int h, .non, .bool false] = (evSL l1_compute.own (FF l1_fns (n + 1)) (fun _ => true) l1_compute_b (l1_compute.start [.str m, DI V, .int h, .non, .bool false])).map resOf := rfl
  rw [e]
  unfold l1_compute_b
  have hm' := hm
  simp only [hNames, List.mem_cons, List.not_mem_nil, or_false] at hm'
  rw [evSL_nxt (e_asg (d := DI V) (by simp only [ev, evL]; rfl) rfl)]
  have key : evS l1_compute.own (FF l1_fns (n + 1)) (fun _ => true) (.retC 2 (.cons (.v 5) (.cons (.v 2) (.cons (.v 4) .nil)))) (upd (l1_compute.start [.str m, DI V, .int h, .non, .bool false]) 5 (DI V)) = some (if (hD V h).2 = true then .ties else .ret (DI (hD V h).1)) := by
    unfold evS
    have : evL l1_compute.own (FF l1_fns (n + 1)) false (.cons (.v 5) (.cons (.v 2) (.cons (.v 4) .nil))) (upd (l1_compute.start [.str m, DI V, .int h, .non, .bool false]) 5 (DI V)) = some [DI V, .int h, .bool false] := rfl
    rw [this, Option.bind_some, hd]
    unfold hres
    cases (hD V h).2 <;> rfl
  have one : ∀ {s : TS} {l : SL} {own : Nat → Bool} {F : Fn} {mu : Nat → Bool} {σ : Sg} {c : Bool} {d : D}, evS own F mu s σ = some (if c = true then .ties else .ret d) → evSL own F mu (.cons s l) σ = some (if c = true then .ties else .ret d) := fun {s l own F mu σ c d} q => by
    unfold evSL
    rw [q]
    cases c <;> rfl
  rw [one (c := (hD V h).2) (d := DI (hD V h).1) (by
    rw [e_ite_f (by rcases hm' with rfl | rfl | rfl <;> rfl)]
    refine one ?_
    rw [e_ite_t (by rcases hm' with rfl | rfl | rfl <;> rfl)]
    exact one key)]
  unfold hres
  cases (hD V h).2 <;> rfl

theorem l1_seats (n : Nat) {P : List (Int × Int)} {h : Int} (hV : VOk' (vts P)) (hn : P.length ≤ 20) (h1 : 1 ≤ h) (h2 : h ≤ 1000) {m : PySem.Str} (hm : m ∈ hNames) : FF l1_fns (n + 3) 6 [.str m, DP P, .int h] = some (.ok (DSo (hso (vts P) h))) := by
  have e : FF l1_fns (n + 3) 6 [.str m, DP P, .int h] = (evSL l1_law_seats.own (FF l1_fns (n + 2)) (fun _ => true) l1_law_seats_b (l1_law_seats.start [.str m, DP P, .int h])).map resOf := rfl
  have e2 : l1_law_seats_b = s_body := rfl
  rw [e, l1_own_s, e2, s_body_ev hV hn h1 h2 (l1_comp n hV h1 h2 hm) (σ := l1_law_seats.start [.str m, DP P, .int h]) rfl rfl rfl]
  rfl
theorem l1_one (n : Nat) {P Q : List (Int × Int)} {h h' t : Int} {so so' : Option (List Int)} (E : Elec P h so) (E' : Elec Q h' so') (t1 : 1 ≤ t) (t2 : t ≤ 100) : FF l1_fns (n + 1) 7 [DE P h so, DE Q h' so', .int t] = some (.ok (.bool true)) := by
  have e : FF l1_fns (n + 1) 7 [DE P h so, DE Q h' so', .int t] = (evSL l1_law_one_way.own (FF l1_fns n) (fun _ => true) l1_law_one_way_b (l1_law_one_way.start [DE P h so, DE Q h' so', .int t])).map resOf := rfl
  have e2 : l1_law_one_way_b = w_body := rfl
  rw [e, l1_own_w, e2, w_body_ev E E' t1 t2 (σ := l1_law_one_way.start [DE P h so, DE Q h' so', .int t]) rfl rfl rfl]
  rfl
theorem l1_plain (ks : List Int) : FF l1_fns 4 8 [DI ks] = some (.ok (.bool true)) := by
  have e : FF l1_fns 4 8 [DI ks] = (evSL l1_law.own (FF l1_fns 3) (fun _ => true) l1_law_b (l1_law.start [DI ks])).map resOf := rfl
  have e2 : l1_law_b = l_law := rfl
  rw [e, l1_own_l, e2, l_law_ev (F := FF l1_fns 3) (ks := ks) ⟨fun P h hV hn h1 h2 => l1_seats 0 hV hn h1 h2 (name3_mem _), fun P Q h h' t so so' E E' t1 t2 => l1_one 2 E E' t1 t2⟩ (σ := l1_law.start [DI ks]) rfl]
  rfl
end Mine
end

section
open PySem PySem.W PyProof.Rows
set_option maxRecDepth 100000
set_option maxHeartbeats 8000000
namespace Mine

theorem ns_find {h : Heap} {a : Addr} {m : PySem.Str → Option Value} {o : Obj} {es : Array DictEntry} {ep : Nat} (n : h.Ns a m) (g : h.get? a = some o) (d : o.data = .dict es ep) (x : PySem.Str) : m x = nsFind es x := by
  obtain ⟨o', es', ep', g', d', _, hm⟩ := n
  rw [g] at g'; cases g'
  rw [d] at d'; cases d'
  exact (hm x).symm

theorem l1_gl {p : Program} {loose : List PySem.Str} {mean : ExcName → Option Value} {mg mb : PySem.Str → Option Value} {w : World} {h : Heap} (KX : (Mine.hd.heap_39 w.params).In h) (T : Top p loose mean mg mb h) : Gl (cxP h fun _ => False) l1_fnm l1_fa mg mb := by
  have e := ns_find T.g (KX 3 _ rfl) rfl
  refine ⟨T.g, T.b, fun x => ?_, fun x hx => ?_, fun f x hf => ?_⟩
  · rw [T.builtins _ (by cases x <;> decide +kernel), e]
    cases x <;> exact ⟨rfl, by decide +kernel⟩
  · simp only [srcE, List.mem_cons, List.not_mem_nil, or_false] at hx
    rcases hx with rfl | rfl | rfl <;> (rw [T.builtins _ (by decide +kernel), e]; exact ⟨rfl, by decide +kernel⟩)
  · have hlt : f < 9 := (List.getElem?_eq_some_iff.mp hf).1
    rw [e]
    match f, hlt with
    | 0, _ => cases hf; exact ⟨rfl, _, _, KX 35 _ rfl, rfl⟩
    | 1, _ => cases hf; exact ⟨rfl, _, _, KX 42 _ rfl, rfl⟩
    | 2, _ => cases hf; exact ⟨rfl, _, _, KX 48 _ rfl, rfl⟩
    | 3, _ => cases hf; exact ⟨rfl, _, _, KX 54 _ rfl, rfl⟩
    | 4, _ => cases hf; exact ⟨rfl, _, _, KX 61 _ rfl, rfl⟩
    | 5, _ => cases hf; exact ⟨rfl, _, _, KX 67 _ rfl, rfl⟩
    | 6, _ => cases hf; exact ⟨rfl, _, _, KX 72 _ rfl, rfl⟩
    | 7, _ => cases hf; exact ⟨rfl, _, _, KX 77 _ rfl, rfl⟩
    | 8, _ => cases hf; exact ⟨rfl, _, _, KX 82 _ rfl, rfl⟩

theorem l1_at {w : World} {h : Heap} (KX : (Mine.hd.heap_39 w.params).In h) (f : Nat) (fd : FnD) (hf : l1_fns[f]? = some fd) : FnAt h (l1_fa f) fd := by
  have hlt : f < 9 := (List.getElem?_eq_some_iff.mp hf).1
  match f, hlt with
  | 0, _ => cases hf; exact l1_at_compute KX
  | 1, _ => cases hf; exact l1_at_apply_threshold KX
  | 2, _ => cases hf; exact l1_at_largest_remainder KX
  | 3, _ => cases hf; exact l1_at_divisor KX
  | 4, _ => cases hf; exact l1_at_divzero_fewerseatsthanparties KX
  | 5, _ => cases hf; exact l1_at_quota KX
  | 6, _ => cases hf; exact l1_at_law_seats KX
  | 7, _ => cases hf; exact l1_at_law_one_way KX
  | 8, _ => cases hf; exact l1_at_law KX

theorem l1_ties {p : Program} {loose : List PySem.Str} {mean : ExcName → Option Value} {mg mb : PySem.Str → Option Value} {w : World} {h : Heap} (KX : (Mine.hd.heap_39 w.params).In h) (T : Top p loose mean mg mb h) :
    OwnCls tiesN 24 [.type "Exception", .type "BaseException", .type "object"] "Exception.__new__" mg h :=
  own_of_in KX (topRead_of T) rfl (by kernel_rfl)

theorem l1_code {p : Program} {loose : List PySem.Str} {mean : ExcName → Option Value} {mg mb : PySem.Str → Option Value} {w : World} {prog : Program} {s : Shared} (KX : (Mine.hd.heap_39 w.params).In s.heap) (T : Top p loose mean mg mb s.heap)
    {l : Addr} {vs : List Value} {ks : List Int} (hl : s.heap.IsList l vs.toArray) (hi : IntsAre vs ks) (hn : ¬ ((63 : Nat) : Int) < (ks.length : Int)) {R : Result → Shared → Prop}
    (hR : ∀ h' tk, (∀ b o, s.heap.get? b = some o → h'.get? b = some o) → R (.ok (.ret (.bool true))) { s with heap := h', toks := tk }) :
    codeAny (model prog w) callerA (.call (.ref 82) ⟨[.ref l], []⟩) R s := by
  have hn' : ks.length ≤ 63 := by omega
  refine fns_code (prog := prog) (w := w) (l1_gl KX T) T.nolimit l1_good (l1_at KX) PySem.F.excBase_Exception (l1_ties KX T) 4 callerA [] (fun _ => False) rfl rfl (fun e m => by cases m) (fun a => ⟨fun z => z.elim, fun z => by simp [fr] at z⟩) (fun a m => by simp [fr] at m) (by decide +kernel) (by decide +kernel)
    8 _ _ (l1_plain ks) s [.ref l] (fun _ => True) (.cons (.list trivial hl (by simp [LB]; omega) (.of_ints hi)) .nil) (fun _ _ => trivial) (fun _ _ e => e) (fun _ h => h.elim) R fun v s' L r => ?_
  obtain rfl := r.bool_inv
  have ex := L.exact
  obtain ⟨h', tk, rfl, _⟩ := L
  exact hR h' tk fun b o e => ex b o id e
end Mine
end

open PySem PySem.W PyProof.Rows
set_option maxRecDepth 100000
set_option maxHeartbeats 8000000
theorem PySem.Challenge.cw_br0001_01_holds : PySem.Challenge.rw_br0001_01.Holds :=
  Mine.hd (by
  k_fill
  intro w s₀ s₁ mg mb G Y fa o pm cd doc dV kV ho hd hcd hD hmg hg args vals as hpre hlay hrd hwl hlo
  have KX := kIn_of Y
  refine Ground.open G ?_
  intro T B D TE TW
  wrow_args hpre hlay hrd hwl hlo
  all_goals (first | refine callC_kw (enter_call ?_) | refine enter_call ?_ | refine callC_kw (enter_callW ?_) | refine enter_callW ?_ | w_how)
  w_top on
  try refine codeAny_mono ?_ (fun _ _ g => GoodW.toG g)
  have e82 : mg (PySem.Str.ofString "law") = some (.ref 82) := (Mine.ns_find T.g (KX 3 _ rfl) rfl _).trans rfl
  have e : some (Value.ref fa) = some (.ref 82) := hmg.symm.trans e82
  cases e
  refine Mine.l1_code KX T (by assumption) (by assumption) (by assumption) fun h' tk hk => ⟨.inl ⟨.bool true, .bool true, [], rfl, fun _ => rfl, .bool true, by kernel_rfl, fun _ => ⟨List.nodup_nil, fun _ m => by cases m⟩⟩, hk, rfl, hg⟩)
