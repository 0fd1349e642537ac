import PyProof.Rows.All
import PyProof.NeKinds
import PyProof.ExcClass2
import PyProof.ExcBaseAll.Exception
import PyProof.ExcFactsAll.ValueError
import PyProof.ExcStrAll.Exception
import PyProof.ExcStrAll.ValueError
import PyProof.ExcStrCall
import PyProof.InstLoad
import PyProof.InstStoreFacts
import PyProof.ObjNew
import Wide.FinOn
import OpenK.AllK
import Wide.All
import Lean
import PySem.Challenge.RW_wo0078_01
set_option Elab.async false
set_option linter.all false
set_option bootstrap.genMatcherCode false
set_option genSizeOf false
set_option genSizeOfSpec false
set_option genInjectivity false
local macro_rules | `(tactic| omega) => `(tactic| lia)
open PySem PySem.Calls PyProof.Rows PySem.W
set_option maxRecDepth 100000
set_option maxHeartbeats 4000000
namespace Mine
theorem xff {P : Prop} (h : false = true) : P := Bool.noConfusion h
theorem xtf {P : Prop} (h : true = false) : P := Bool.noConfusion h
theorem xns {α : Type} {a : α} {P : Prop} (h : none = some a) : P := nomatch h
theorem xsn {α : Type} {a : α} {P : Prop} (h : some a = none) : P := nomatch h
theorem xnl {α : Type} {x : Option α} (e : x = none) {P : α → Prop} : ∀ a, x = some a → P a := fun _ h => xns (e.symm.trans h)
theorem xnm {α : Type} {l : List α} (e : l = []) {P : α → Prop} : ∀ a, a ∈ l → P a := fun _ h => by subst e; cases h
theorem xnc {α : Type} {a : α} {l : List α} {P : Prop} (h : [] = a :: l) : P := nomatch h
theorem xcn {α : Type} {a : α} {l : List α} {P : Prop} (h : a :: l = []) : P := nomatch h
theorem lo63 {i : Int} (h : -(2 ^ 62) ≤ i) : -2 ^ 63 ≤ i := Int.le_trans (by decide) h
theorem hi63 {i : Int} (h : i < 2 ^ 62) : i < 2 ^ 63 := Int.lt_trans h (by decide)
theorem sz63 {n : Nat} (h : n ≤ 16777216) : (n : Int) < 2 ^ 63 := Int.lt_of_le_of_lt (Int.ofNat_le.mpr h) (by decide)
noncomputable def dk : Data → Nat
 | .cell _ => 0
 | .dict .. => 1
 | .seq .. => 2
 | .cls .. => 3
 | _ => 4
theorem xcell {d e : Data} (h : d = e) (k : Nat.beq (dk e) 0 = false) : ∀ v, d ≠ .cell v := fun _ z => by rw [← h, z] at k; cases k
theorem xdict {d e : Data} (h : d = e) (k : Nat.beq (dk e) 1 = false) : ∀ a b, d ≠ .dict a b := fun _ _ z => by rw [← h, z] at k; cases k
theorem xcls {d e : Data} (h : d = e) (k : Nat.beq (dk e) 3 = false) : ∀ v, d ≠ .cls v := fun _ z => by rw [← h, z] at k; cases k
theorem xseq {d e : Data} (h : d = e) (k : Nat.beq (dk e) 2 = false) : ∀ a b, d ≠ .seq a b := fun _ _ z => by rw [← h, z] at k; cases k
section
variable {α : Type} {M : Model} {A : Around} {Q : α → Shared → Prop} {E : Value → Shared → Prop} {s : Shared}
theorem w_if {c : Prop} [Decidable c] {a b : Sem α} (h : c) (k : wpAny M A a Q E s) : wpAny M A (if c then a else b) Q E s := by rw [if_pos h]; exact k
theorem w_else {c : Prop} [Decidable c] {a b : Sem α} (h : ¬ c) (k : wpAny M A b Q E s) : wpAny M A (if c then a else b) Q E s := by rw [if_neg h]; exact k
theorem w_eq {a b : Sem α} (e : a = b) (k : wpAny M A b Q E s) : wpAny M A a Q E s := e ▸ k
theorem no_lt {h : Heap} {a : Addr} {o : Obj} {P : Prop} (e : h.get? a = some o) (l : h.objs.size ≤ a) : P := absurd (Heap.lt_size e) (Nat.not_lt.mpr l)
end
theorem len1 {α : Type} {l : List α} (h : l.length = 1) : ∃ a, l = [a] := List.length_eq_one_iff.mp h
theorem lenS {α : Type} {l : List α} {n : Nat} (h : l.length = n + 1) : ∃ a r, l = a :: r ∧ r.length = n := by
 cases l with
 | nil => cases h
 | cons a r => exact ⟨a, r, rfl, Nat.succ.inj h⟩
inductive Len2 {α : Type} (l : List α) : Prop
 | mk (a b : α) (e : l = [a, b])
inductive Len3 {α : Type} (l : List α) : Prop
 | mk (a b c : α) (e : l = [a, b, c])
inductive Len4 {α : Type} (l : List α) : Prop
 | mk (a b c d : α) (e : l = [a, b, c, d])
theorem len2 {α : Type} {l : List α} (h : l.length = 2) : Len2 l := by
 obtain ⟨a, r, rfl, q⟩ := lenS h; obtain ⟨b, rfl⟩ := len1 q; exact ⟨_, _, rfl⟩
theorem len3 {α : Type} {l : List α} (h : l.length = 3) : Len3 l := by
 obtain ⟨a, r, rfl, q⟩ := lenS h; obtain ⟨b, c, rfl⟩ := len2 q; exact ⟨_, _, _, rfl⟩
theorem len4 {α : Type} {l : List α} (h : l.length = 4) : Len4 l := by
 obtain ⟨a, r, rfl, q⟩ := lenS h; obtain ⟨b, c, d, rfl⟩ := len3 q; exact ⟨_, _, _, _, rfl⟩
inductive All2 {α β : Type} (R : α → β → Prop) : List α → List β → Prop
 | nil : All2 R [] []
 | cons {a b l m} : R a b → All2 R l m → All2 R (a :: l) (b :: m)
namespace All2
variable {α β : Type} {R : α → β → Prop} {l : List α} {m : List β}
theorem len (r : All2 R l m) : l.length = m.length := by
 induction r with
 | nil => rfl
 | cons _ _ ih => exact congrArg (· + 1) ih
theorem get (r : All2 R l m) : ∀ (i : Nat) (a : α) (b : β), l[i]? = some a → m[i]? = some b → R a b := by
 induction r with
 | nil => intro i a b e; cases e
 | cons r _ ih =>
  intro i a b e e'
  cases i with
  | zero => cases e; cases e'; exact r
  | succ i => exact ih i a b e e'
theorem at1 (r : All2 R l m) (i : Nat) (b : β) (e : m[i]? = some b) : ∃ a, l[i]? = some a ∧ R a b := by
 have h : i < l.length := r.len ▸ (List.getElem?_eq_some_iff.mp e).1
 exact ⟨_, List.getElem?_eq_getElem h, r.get i _ b (List.getElem?_eq_getElem h) e⟩
theorem at2 (r : All2 R l m) (i : Nat) (a : α) (e : l[i]? = some a) : ∃ b, m[i]? = some b ∧ R a b := by
 have h : i < m.length := r.len ▸ (List.getElem?_eq_some_iff.mp e).1
 exact ⟨_, List.getElem?_eq_getElem h, r.get i a _ e (List.getElem?_eq_getElem h)⟩
theorem imp {S : α → β → Prop} (r : All2 R l m) : (∀ a b, a ∈ l → R a b → S a b) → All2 S l m := by
 induction r with
 | nil => exact fun _ => .nil
 | cons r _ ih => exact fun f => .cons (f _ _ (.head _) r) (ih fun a b h => f a b (.tail _ h))
theorem app {l' : List α} {m' : List β} (r : All2 R l m) (r' : All2 R l' m') : All2 R (l ++ l') (m ++ m') := by
 induction r with
 | nil => exact r'
 | cons r _ ih => exact .cons r ih
theorem take (r : All2 R l m) : ∀ n, All2 R (l.take n) (m.take n) := by
 induction r with
 | nil => intro n; cases n <;> exact .nil
 | cons r _ ih => intro n; cases n with
  | zero => exact .nil
  | succ n => exact .cons r (ih n)
theorem eraseIdx (r : All2 R l m) : ∀ n, All2 R (l.eraseIdx n) (m.eraseIdx n) := by
 induction r with
 | nil => intro n; exact .nil
 | cons r rs ih => intro n; cases n with
  | zero => exact rs
  | succ n => exact .cons r (ih n)
theorem set {a : α} {b : β} (h : R a b) (r : All2 R l m) : ∀ n, All2 R (l.set n a) (m.set n b) := by
 induction r with
 | nil => intro n; exact .nil
 | cons r rs ih => intro n; cases n with
  | zero => exact .cons h rs
  | succ n => exact .cons r (ih n)
theorem of_get (e : l.length = m.length) (h : ∀ (i : Nat) a b, l[i]? = some a → m[i]? = some b → R a b) : All2 R l m := by
 induction l generalizing m with
 | nil => cases m with
  | nil => exact .nil
  | cons => cases e
 | cons a l ih => cases m with
  | nil => cases e
  | cons b m => exact .cons (h 0 a b rfl rfl) (ih (Nat.succ.inj e) fun i => h (i + 1))
theorem put {R' : α → β → Prop} {n : Nat} {a : α} {b : β} (r : All2 R l m) (hn : l[n]? = some a) (h : R' a b) (k : ∀ i a' b', l[i]? = some a' → i ≠ n → R a' b' → R' a' b') : All2 R' l (m.set n b) := by
 refine of_get (by rw [List.length_set]; exact r.len) fun i a' b' h1 h2 => ?_
 by_cases e : i = n
 ·subst e
  rw [List.getElem?_set_self (r.len ▸ (List.getElem?_eq_some_iff.mp h1).1)] at h2
  exact Option.some.inj (hn.symm.trans h1) ▸ Option.some.inj h2 ▸ h
 ·rw [List.getElem?_set_ne (Ne.symm e)] at h2
  exact k i a' b' h1 e (r.get i a' b' h1 h2)
noncomputable def Inv (R : α → β → Prop) (l : List α) : List β → Prop
 | [] => l = []
 | b :: m => ∃ a l', l = a :: l' ∧ R a b ∧ All2 R l' m
theorem inv (r : All2 R l m) : Inv R l m := by
 cases r with
 | nil => exact rfl
 | cons r rs => exact ⟨_, _, rfl, r, rs⟩
theorem to1 {b : β} (r : All2 R l [b]) : ∃ a, l = [a] ∧ R a b := by
 obtain ⟨a, _, rfl, h, r⟩ := r.inv
 obtain rfl := r.inv
 exact ⟨_, rfl, h⟩
theorem to2 {b c : β} (r : All2 R l [b, c]) : ∃ a d, l = [a, d] ∧ R a b ∧ R d c := by
 obtain ⟨a, _, rfl, h, r⟩ := r.inv
 obtain ⟨d, rfl, k⟩ := r.to1
 exact ⟨_, _, rfl, h, k⟩
theorem to3 {b c e : β} (r : All2 R l [b, c, e]) : ∃ a d f, l = [a, d, f] ∧ R a b ∧ R d c ∧ R f e := by
 obtain ⟨a, _, rfl, h, r⟩ := r.inv
 obtain ⟨d, f, rfl, k⟩ := r.to2
 exact ⟨_, _, _, rfl, h, k⟩
end All2
inductive CV where
 | none
 | bool (b : Bool)
 | int (i : Int)
 | str (s : Str)
 | tup (l : List CV)
 | lst (l : List CV)
 | con (v : Value)
 | exc (cls : Value) (args : List CV)
 | range (a b c : Int)
 | ob (P : Addr → Obj → Prop)
noncomputable abbrev rangeObj (a b c : Int) (t u v : Tok) : Obj := { cls := .type "range", dict := none, data := .fields #[.int a t, .int b u, .int c v], slots := #[] }
noncomputable abbrev lstObj (vs : Array Value) (n : Nat) : Obj := { cls := .type "list", data := .seq vs n }
mutual
inductive CRel (D : Addr → Prop) (h : Heap) : Value → CV → Prop
 | none : CRel D h .none .none
 | bool (b : Bool) : CRel D h (.bool b) (.bool b)
 | int (i : Int) (t : Tok) : CRel D h (.int i t) (.int i)
 | str (s : Str) (t : Tok) : CRel D h (.str s t) (.str s)
 | con (v : Value) : CRel D h v (.con v)
 | tup {a : Addr} {vs : Array Value} {l : List CV} : IsTup h a vs → ¬ D a → CRels D h vs.toList l → CRel D h (.ref a) (.tup l)
 | lst {a : Addr} {vs : Array Value} {n : Nat} {l : List CV} : h.get? a = some (lstObj vs n) → ¬ D a → CRels D h vs.toList l → CRel D h (.ref a) (.lst l)
 | exc {a t : Addr} {o : Obj} {fs vs : Array Value} {cls : Value} {l : List CV} : h.get? a = some o → o.cls = cls → o.data = .fields fs → fs[0]? = some (.ref t) → fs.size = 6 → ¬ D a → IsTup h t vs → ¬ D t → CRels D h vs.toList l → CRel D h (.ref a) (.exc cls l)
 | range {r : Addr} {a b c : Int} {t u v : Tok} : h.get? r = some (rangeObj a b c t u v) → ¬ D r → CRel D h (.ref r) (.range a b c)
 | ob {a : Addr} {o : Obj} {P : Addr → Obj → Prop} : h.get? a = some o → P a o → ¬ D a → CRel D h (.ref a) (.ob P)
inductive CRels (D : Addr → Prop) (h : Heap) : List Value → List CV → Prop
 | nil : CRels D h [] []
 | cons {v : Value} {x : CV} {vs : List Value} {l : List CV} : CRel D h v x → CRels D h vs l → CRels D h (v :: vs) (x :: l)
end
theorem CRels.all {D : Addr → Prop} {h : Heap} {vs : List Value} {l : List CV} (r : CRels D h vs l) : All2 (CRel D h) vs l :=
 CRels.rec (motive_1 := fun _ _ _ => True) (motive_2 := fun vs l _ => All2 (CRel D h) vs l) trivial (fun _ => trivial) (fun _ _ => trivial) (fun _ _ => trivial) (fun _ => trivial) (fun _ _ _ _ => trivial) (fun _ _ _ _ => trivial)
  (fun _ _ _ _ _ _ _ _ _ _ => trivial) (fun _ _ => trivial) (fun _ _ _ => trivial) .nil (fun r _ _ rs => .cons r rs) r
theorem CRels.of {D : Addr → Prop} {h : Heap} {vs : List Value} {l : List CV} (r : All2 (CRel D h) vs l) : CRels D h vs l := by
 induction r with
 | nil => exact .nil
 | cons r _ ih => exact .cons r ih
inductive PV where
 | c (v : CV)
 | obj (i : Nat)
 | loc (i : Nat)
 | locs (l : List Nat)
 | pair (x : CV) (i : Nat)
inductive GA where
 | l (a : Addr)
 | i (x d : Addr)
noncomputable def GA.head : GA → Addr
 | .l a => a
 | .i x _ => x
noncomputable def GA.addrs : GA → List Addr
 | .l a => [a]
 | .i x d => [x, d]
structure Gh where
 ga : List GA
 la : List Addr
 D : Addr → Prop
 U : Addr → Prop
inductive Loc1 (la : List Addr) : Value → Nat → Prop
 | mk {a i} : la[i]? = some a → Loc1 la (.ref a) i
noncomputable abbrev Locs (la : List Addr) : List Value → List Nat → Prop := All2 (Loc1 la)
theorem Loc1.inv {la : List Addr} {v : Value} {i : Nat} (r : Loc1 la v i) : ∃ a, v = .ref a ∧ la[i]? = some a := by
 cases r with | mk h => exact ⟨_, rfl, h⟩
inductive PRel (gh : Gh) (h : Heap) : Value → PV → Prop
 | c {v x} : CRel gh.D h v x → PRel gh h v (.c x)
 | obj {i g} : gh.ga[i]? = some g → PRel gh h (.ref g.head) (.obj i)
 | loc {i a} : gh.la[i]? = some a → PRel gh h (.ref a) (.loc i)
 | locs {a vs n l} : h.get? a = some (lstObj vs n) → ¬ gh.D a → Locs gh.la vs.toList l → PRel gh h (.ref a) (.locs l)
 | pair {a v b x i} : IsTup h a #[v, .ref b] → ¬ gh.D a → CRel gh.D h v x → gh.la[i]? = some b → PRel gh h (.ref a) (.pair x i)
inductive LstI (D : Addr → Prop) (h : Heap) (v : Value) (l : List CV) : Prop
 | mk (a : Addr) (vs : Array Value) (n : Nat) (e : v = .ref a) (o : h.get? a = some (lstObj vs n)) (d : ¬ D a) (r : CRels D h vs.toList l)
inductive TupI (D : Addr → Prop) (h : Heap) (v : Value) (l : List CV) : Prop
 | mk (a : Addr) (vs : Array Value) (e : v = .ref a) (o : IsTup h a vs) (d : ¬ D a) (r : CRels D h vs.toList l)
noncomputable def CRel.Inv (D : Addr → Prop) (h : Heap) (v : Value) : CV → Prop
 | .none => v = .none
 | .bool b => v = .bool b
 | .int i => ∃ t, v = .int i t
 | .str s => ∃ t, v = .str s t
 | .con w => v = w
 | .tup l => TupI D h v l
 | .lst l => LstI D h v l
 | .range a b c => ∃ r t u w, v = .ref r ∧ h.get? r = some (rangeObj a b c t u w) ∧ ¬ D r
 | .ob P => ∃ a o, v = .ref a ∧ h.get? a = some o ∧ P a o ∧ ¬ D a
 | .exc .. => True
theorem CRel.inv {D : Addr → Prop} {h : Heap} {v : Value} {x : CV} (r : CRel D h v x) : CRel.Inv D h v x := by
 cases r with
 | none => exact rfl
 | bool => exact rfl
 | int i t => exact ⟨t, rfl⟩
 | str s t => exact ⟨t, rfl⟩
 | con => exact rfl
 | tup t d r => exact ⟨_, _, rfl, t, d, r⟩
 | lst t d r => exact ⟨_, _, _, rfl, t, d, r⟩
 | exc => trivial
 | range o d => exact ⟨_, _, _, _, rfl, o, d⟩
 | ob o p d => exact ⟨_, _, rfl, o, p, d⟩
noncomputable def CRels.Inv (D : Addr → Prop) (h : Heap) (vs : List Value) : List CV → Prop
 | [] => vs = []
 | x :: l => ∃ v ws, vs = v :: ws ∧ CRel D h v x ∧ CRels D h ws l
theorem CRels.inv {D : Addr → Prop} {h : Heap} {vs : List Value} {l : List CV} (r : CRels D h vs l) : CRels.Inv D h vs l := by
 cases r with
 | nil => exact rfl
 | cons r rs => exact ⟨_, _, rfl, r, rs⟩
theorem CRels.to1 {D : Addr → Prop} {h : Heap} {vs : List Value} {x : CV} (r : CRels D h vs [x]) : ∃ v, vs = [v] ∧ CRel D h v x := r.all.to1
theorem CRels.to2 {D : Addr → Prop} {h : Heap} {vs : List Value} {x y : CV} (r : CRels D h vs [x, y]) : ∃ v w, vs = [v, w] ∧ CRel D h v x ∧ CRel D h w y := r.all.to2
noncomputable def PRel.Inv (gh : Gh) (h : Heap) (v : Value) : PV → Prop
 | .c x => CRel gh.D h v x
 | .obj i => ∃ g, v = .ref g.head ∧ gh.ga[i]? = some g
 | .loc i => ∃ a, v = .ref a ∧ gh.la[i]? = some a
 | .locs l => ∃ a vs n, v = .ref a ∧ h.get? a = some (lstObj vs n) ∧ ¬ gh.D a ∧ Locs gh.la vs.toList l
 | .pair x i => ∃ a u b, v = .ref a ∧ IsTup h a #[u, .ref b] ∧ ¬ gh.D a ∧ CRel gh.D h u x ∧ gh.la[i]? = some b
theorem PRel.inv {gh : Gh} {h : Heap} {v : Value} {p : PV} (r : PRel gh h v p) : PRel.Inv gh h v p := by
 cases r with
 | c r => exact r
 | obj e => exact ⟨_, rfl, e⟩
 | loc e => exact ⟨_, rfl, e⟩
 | locs t d r => exact ⟨_, _, _, rfl, t, d, r⟩
 | pair t d r e => exact ⟨_, _, _, rfl, t, d, r, e⟩
theorem PRel.toC {gh : Gh} {h : Heap} {v : Value} {x : CV} (r : PRel gh h v (.c x)) : CRel gh.D h v x := r.inv
noncomputable def isDict (o : Obj) : Prop := ∃ es n, o.data = .dict es n
noncomputable def Kept (D : Prop) (o : Obj) (r : Option Obj) : Prop := r = some o ∨ (D ∧ isDict o ∧ ∃ sl, r = some { o with slots := sl })
theorem Kept.refl (D : Prop) (o : Obj) : Kept D o (some o) := .inl rfl
theorem Kept.mono {D D' : Prop} {o : Obj} {r : Option Obj} (x : Kept D o r) (h : D → D') : Kept D' o r := x.imp id fun ⟨a, b⟩ => ⟨h a, b⟩
theorem Kept.trans {D : Prop} {o : Obj} {r r' : Option Obj} (x : Kept D o r) (y : ∀ o', r = some o' → Kept D o' r') : Kept D o r' := by
 rcases x with rfl | ⟨hD, hc, sl, rfl⟩
 ·exact y _ rfl
 ·rcases y _ rfl with rfl | ⟨_, _, sl', rfl⟩
  ·exact .inr ⟨hD, hc, sl, rfl⟩
  ·exact .inr ⟨hD, hc, sl', rfl⟩
theorem isDict.no {o : Obj} {d : Data} (h : o.data = d) (hd : ∀ es n, d ≠ .dict es n) : ¬ isDict o := fun ⟨es, n, e⟩ => hd es n (h ▸ e)
theorem Kept.exact {D : Prop} {o : Obj} {r : Option Obj} (x : Kept D o r) (h : ¬ isDict o) : r = some o := x.resolve_right fun y => h y.2.1
theorem Kept.exactD {D : Prop} {o : Obj} {r : Option Obj} (x : Kept D o r) (h : ¬ D) : r = some o := x.resolve_right fun y => h y.1
theorem Kept.like {D : Prop} {o : Obj} {r : Option Obj} (x : Kept D o r) : ∃ o', r = some o' ∧ o'.cls = o.cls ∧ o'.data = o.data := by
 rcases x with rfl | ⟨_, _, sl, rfl⟩
 ·exact ⟨_, rfl, rfl, rfl⟩
 ·exact ⟨_, rfl, rfl, rfl⟩
structure Tr (gh : Gh) (h : Heap) (gh' : Gh) (h' : Heap) : Prop where
 size : h.objs.size ≤ h'.objs.size
 kept : ∀ b o, h.get? b = some o → ¬ gh.U b → Kept (gh.D b) o (h'.get? b)
 U : ∀ b, gh'.U b → gh.U b ∨ h.objs.size ≤ b
 D : ∀ b, gh'.D b → gh.D b ∨ h.objs.size ≤ b
 Dm : ∀ b, gh.D b → gh'.D b
 ga : ∃ x, gh'.ga = gh.ga ++ x
 la : ∃ x, gh'.la = gh.la ++ x
theorem Tr.refl (gh : Gh) (h : Heap) : Tr gh h gh h := ⟨Nat.le_refl _, fun _ _ e _ => .inl e, fun _ x => .inl x, fun _ x => .inl x, fun _ x => x, ⟨[], by simp⟩, ⟨[], by simp⟩⟩
theorem Tr.trans {g₁ g₂ g₃ : Gh} {h₁ h₂ h₃ : Heap} (x : Tr g₁ h₁ g₂ h₂) (y : Tr g₂ h₂ g₃ h₃) : Tr g₁ h₁ g₃ h₃ where
 size := Nat.le_trans x.size y.size
 kept b o e hu := by
  refine (x.kept b o e hu).trans fun o' e' => (y.kept b o' e' fun q => ?_).mono fun q => ?_
  ·rcases x.U b q with q | q
   ·exact hu q
   ·exact absurd (Heap.lt_size e) (Nat.not_lt.mpr q)
  ·exact (x.D b q).resolve_right (Nat.not_le.mpr (Heap.lt_size e))
 U b q := by
  rcases y.U b q with q | q
  ·exact x.U b q
  ·exact .inr (Nat.le_trans x.size q)
 D b q := by
  rcases y.D b q with q | q
  ·exact x.D b q
  ·exact .inr (Nat.le_trans x.size q)
 Dm b q := y.Dm b (x.Dm b q)
 ga := by obtain ⟨a, ha⟩ := x.ga; obtain ⟨b, hb⟩ := y.ga; exact ⟨a ++ b, by rw [hb, ha, List.append_assoc]⟩
 la := by obtain ⟨a, ha⟩ := x.la; obtain ⟨b, hb⟩ := y.la; exact ⟨a ++ b, by rw [hb, ha, List.append_assoc]⟩
structure Ext (D : Addr → Prop) (U : Addr → Prop) (h : Heap) (D' : Addr → Prop) (h' : Heap) : Prop where
 kept : ∀ b o, h.get? b = some o → ¬ U b → Kept (D b) o (h'.get? b)
 dn : ∀ b, D' b → D b ∨ h.objs.size ≤ b
 UD : ∀ b, U b → D b
theorem Ext.isTup {D U D' : Addr → Prop} {h h' : Heap} {a : Addr} {vs : Array Value} (x : Ext D U h D' h') (t : IsTup h a vs) (hd : ¬ D a) : IsTup h' a vs ∧ ¬ D' a := by
 obtain ⟨o, ho, hc, n, hdt⟩ := t
 have q := (x.kept a o ho fun z => hd (x.UD a z)).exact (isDict.no hdt fun _ _ => nofun)
 refine ⟨⟨o, q, hc, n, hdt⟩, fun z => ?_⟩
 rcases x.dn a z with z | z
 ·exact hd z
 ·exact absurd (Heap.lt_size ho) (Nat.not_lt.mpr z)
theorem Ext.isList {D U D' : Addr → Prop} {h h' : Heap} {a : Addr} {vs : Array Value} (x : Ext D U h D' h') (t : h.IsList a vs) (hd : ¬ D a) : h'.IsList a vs ∧ ¬ D' a := by
 obtain ⟨o, ho, hc, n, hdt⟩ := t
 have q := (x.kept a o ho fun z => hd (x.UD a z)).exact (isDict.no hdt fun _ _ => nofun)
 refine ⟨⟨o, q, hc, n, hdt⟩, fun z => ?_⟩
 rcases x.dn a z with z | z
 ·exact hd z
 ·exact absurd (Heap.lt_size ho) (Nat.not_lt.mpr z)
theorem Ext.obj {D U D' : Addr → Prop} {h h' : Heap} {a : Addr} {o : Obj} (x : Ext D U h D' h') (ho : h.get? a = some o) (hd : ¬ D a) : h'.get? a = some o ∧ ¬ D' a := by
 have q := (x.kept a o ho fun z => hd (x.UD a z)).exactD hd
 refine ⟨q, fun z => ?_⟩
 rcases x.dn a z with z | z
 ·exact hd z
 ·exact absurd (Heap.lt_size ho) (Nat.not_lt.mpr z)
theorem CRel.ext {D U D' : Addr → Prop} {h h' : Heap} (x : Ext D U h D' h') {v : Value} {y : CV} (r : CRel D h v y) : CRel D' h' v y :=
 CRel.rec (motive_1 := fun v y _ => CRel D' h' v y) (motive_2 := fun vs l _ => CRels D' h' vs l) .none .bool .int .str .con
  (fun t hd _ r => .tup (x.isTup t hd).1 (x.isTup t hd).2 r) (fun t hd _ r => .lst (x.obj t hd).1 (x.obj t hd).2 r)
  (fun ho hc hfs h0 hz hd t htd _ r => .exc (x.obj ho hd).1 hc hfs h0 hz (x.obj ho hd).2 (x.isTup t htd).1 (x.isTup t htd).2 r)
  (fun ho hd => .range (x.obj ho hd).1 (x.obj ho hd).2) (fun ho hp hd => .ob (x.obj ho hd).1 hp (x.obj ho hd).2) .nil (fun _ _ r rs => .cons r rs) r
theorem CRels.ext {D U D' : Addr → Prop} {h h' : Heap} (x : Ext D U h D' h') {vs : List Value} {l : List CV} (r : CRels D h vs l) : CRels D' h' vs l := .of (r.all.imp fun _ _ _ r => r.ext x)
theorem at_app {α : Type} {l l' : List α} (e : ∃ z, l' = l ++ z) {i : Nat} {a : α} (h : l[i]? = some a) : l'[i]? = some a := by
 obtain ⟨z, rfl⟩ := e
 rw [List.getElem?_append_left (List.getElem?_eq_some_iff.mp h).1]; exact h
theorem app_nil {α : Type} {l : List α} : ∃ z, l = l ++ z := ⟨[], (List.append_nil _).symm⟩
theorem Locs.more {la la' : List Addr} (e : ∃ x, la' = la ++ x) {vs : List Value} {l : List Nat} (r : Locs la vs l) : Locs la' vs l :=
 r.imp fun _ _ _ q => by cases q with | mk h => exact .mk (at_app e h)
structure Gh.Ok (gh : Gh) : Prop where
 UD : ∀ b, gh.U b → gh.D b
theorem Tr.ext {gh gh' : Gh} {h h' : Heap} (ok : gh.Ok) (x : Tr gh h gh' h') : Ext gh.D gh.U h gh'.D h' := ⟨x.kept, x.D, ok.UD⟩
theorem PRel.map {gh gh' : Gh} {U : Addr → Prop} {h h' : Heap} (x : Ext gh.D U h gh'.D h') (ga : ∃ z, gh'.ga = gh.ga ++ z) (la : ∃ z, gh'.la = gh.la ++ z) {v : Value} {p : PV} (r : PRel gh h v p) : PRel gh' h' v p := by
 cases r with
 | c r => exact .c (r.ext x)
 | obj e => exact .obj (at_app ga e)
 | loc e => exact .loc (at_app la e)
 | locs t hd r => exact .locs (x.obj t hd).1 (x.obj t hd).2 (r.more la)
 | pair t hd r e => exact .pair (x.isTup t hd).1 (x.isTup t hd).2 (r.ext x) (at_app la e)
theorem PRel.tr {gh gh' : Gh} {h h' : Heap} (ok : gh.Ok) (x : Tr gh h gh' h') {v : Value} {p : PV} (r : PRel gh h v p) : PRel gh' h' v p := r.map (x.ext ok) x.ga x.la
noncomputable def Gh.mu (gh : Gh) : List Addr := gh.ga.flatMap GA.addrs ++ gh.la
theorem PRel.ext {gh : Gh} {U : Addr → Prop} {h h' : Heap} (x : Ext gh.D U h gh.D h') {v : Value} {p : PV} (r : PRel gh h v p) : PRel gh h' v p := r.map x app_nil app_nil
theorem Ext.refl (D : Addr → Prop) (h : Heap) : Ext D (fun _ => False) h D h := ⟨fun _ _ e _ => .inl e, fun _ z => .inl z, fun _ z => z.elim⟩
inductive GObj where
 | lst (items : List CV)
 | inst (C : Addr) (hd : Option PV)
noncomputable def PV.noLoc : PV → Bool
 | .c _ => true
 | .obj _ => true
 | _ => false
inductive HdDict (od : Obj) (v : Value) : Prop
 | mk (es ep) (a : od.data = .dict es ep) (b : StrKeys es) (c : UniqKeys es) (d : ∀ y, nsFind es y = if y = ("_headers" : Str) then some v else none)
inductive GRel (gh : Gh) (h : Heap) : GA → GObj → Prop
 | lst {a vs n l} : h.get? a = some (lstObj vs n) → CRels gh.D h vs.toList l → GRel gh h (.l a) (.lst l)
 | inst0 {x d C n sl} : h.get? x = some ⟨.ref C, some d, .plain, sl⟩ → h.get? d = some { cls := .type "dict", data := .dict [].toArray n } → GRel gh h (.i x d) (.inst C none)
 | inst1 {x d C sl od v p} : h.get? x = some ⟨.ref C, some d, .plain, sl⟩ → h.get? d = some od → HdDict od v → PRel gh h v p → p.noLoc = true → GRel gh h (.i x d) (.inst C (some p))
noncomputable abbrev GRels (gh : Gh) (h : Heap) : List GA → List GObj → Prop := All2 (GRel gh h)
inductive LRel (gh : Gh) (h : Heap) (a : Addr) (l : List CV) : Prop
 | mk (vs : Array Value) (n : Nat) (o : h.get? a = some (lstObj vs n)) (r : CRels gh.D h vs.toList l)
noncomputable abbrev LRels (gh : Gh) (h : Heap) : List Addr → List (List CV) → Prop := All2 (LRel gh h)
structure Wd where
 prog : Program
 w : World
 base : Heap
 gt : List (Str × CV)
structure Wd.Ok (W : Wd) (mg mb : Str → Option Value) : Prop where
 g : W.base.Ns mainGlobals mg
 b : W.base.Ns builtinsNs mb
 nolimit : W.base.NoLimit
 digits : ∃ mc, W.base.Ns cStatics mc ∧ mc "sys.int_max_str_digits" = none
 gt : ∀ x c, (x, c) ∈ W.gt → (x == ("__debug__" : Str)) = false ∧ ∃ v, (mg x = some v ∨ (mg x = none ∧ mb x = some v)) ∧ ∀ D h, CRel D h v c
structure Cx where
 wd : Wd
 A : Around
 env : Env
 fenv : Env
 outer : List Env
 sc : List (Str × NameKind)
 usc : List PySem.Str
 gsc : List PySem.Str
 lv : Nat
 hn : Bool
structure St where
 glob : List GObj
 loc : List (List CV)
 fr : List (Option PV)
 up : List CV
structure Cx.Ok (cx : Cx) : Prop where
 wd : ∃ mg mb, cx.wd.Ok mg mb
 fn : cx.env.scope.kind = .function
 globals : cx.env.globals = mainGlobals
 builtins : cx.env.builtins = builtinsNs
 sck : ∀ (i : Nat) (x : Str) (k : NameKind), cx.sc[i]? = some (x, k) → cx.env.kindOf x = some k ∧ (x == ("__debug__" : Str)) = false
 sci : ∀ (i j : Nat) (x : Str) (k k' : NameKind), cx.sc[i]? = some (x, k) → cx.sc[j]? = some (x, k') → i = j
 usk : ∀ (i : Nat) (x : Str), cx.usc[i]? = some x → (cx.env.kindOf x = some .cell ∨ cx.env.kindOf x = some .free) ∧ (x == ("__debug__" : Str)) = false ∧ (x == ("__classdict__" : Str)) = false
 gsk : ∀ (i : Nat) (x : Str), cx.gsc[i]? = some x → cx.env.kindOf x = some .globalImplicit
 lv : cx.A.depth + 20 * cx.lv ≤ 800 ∧ cx.A.units + 100 * cx.lv + 100 ≤ cLine
 hn : cx.hn = true → cx.A.handled = none
 frames : cx.A.frames = some (cx.fenv :: cx.outer)
inductive CurOk (L : Addr) (sc : List (Str × NameKind)) (gh : Gh) (fr : List (Option PV)) (h : Heap) : Prop
 | mk (m : Str → Option Value) (hn : h.Ns L m) (hm : ∀ (i : Nat) (x : Str) (p : PV), sc[i]? = some (x, .local) → fr[i]? = some (some p) → ∃ v, m x = some v ∧ PRel gh h v p)
inductive CellAt (env : Env) (gh : Gh) (f : Option (Option PV)) (h : Heap) (x : Str) : Prop
 | mk (c : Addr) (vo : Option Value) (hc : env.cells.lookup x = some c) (hu : gh.U c) (ho : h.IsCell c vo) (hv : ∀ p, f = some (some p) → ∃ v, vo = some v ∧ PRel gh h v p)
inductive UpAt (env : Env) (gh : Gh) (h : Heap) (x : Str) (p : CV) : Prop
 | mk (c : Addr) (v : Value) (hc : env.cells.lookup x = some c) (hu : ¬ gh.U c) (hd : gh.D c) (ho : h.IsCell c (some v)) (r : CRel gh.D h v p)
inductive FrameAt (base : Heap) (l : Addr) (gh : Gh) (h : Heap) (e : Env) : Prop
 | mk (hk : e.scope.kind ≠ .module) (L : Addr) (hf : e.frame = some L) (hb : base.get? L = none) (hu : L = l ∨ ¬ gh.U L) (hd : gh.D L) (o : Obj) (ho : h.get? L = some o) (hi : isDict o)
structure Rel (cx : Cx) (gh : Gh) (st : St) (s : Shared) : Prop where
 ok : gh.Ok
 base : ∀ b o, cx.wd.base.get? b = some o → s.heap.get? b = some o
 fresh : ∀ b, gh.D b → cx.wd.base.get? b = none
 din : ∀ b, gh.D b → b < s.heap.objs.size
 curU : gh.U cx.env.locals
 cur : CurOk cx.env.locals cx.sc gh st.fr s.heap
 cells : ∀ (i : Nat) (x : Str), cx.sc[i]? = some (x, .cell) → CellAt cx.env gh st.fr[i]? s.heap x
 cellsA : ∀ (i j : Nat) (x y : Str) (c : Addr), cx.sc[i]? = some (x, .cell) → cx.sc[j]? = some (y, .cell) → cx.env.cells.lookup x = some c → cx.env.cells.lookup y = some c → i = j
 ups : ∀ (i : Nat) (x : Str) (p : CV), cx.usc[i]? = some x → st.up[i]? = some p → UpAt cx.env gh s.heap x p
 glob : GRels gh s.heap gh.ga st.glob
 loc : LRels gh s.heap gh.la st.loc
 muU : ∀ b, b ∈ gh.mu → gh.U b
 apart : (cx.env.locals :: gh.mu).Nodup
 frames : ∀ e, e ∈ cx.fenv :: cx.outer → FrameAt cx.wd.base cx.env.locals gh s.heap e
theorem CRel.sub {D D' : Addr → Prop} {h : Heap} (x : ∀ b, D' b → D b) {v : Value} {y : CV} (r : CRel D h v y) : CRel D' h v y := by
 have e : Ext D (fun _ => False) h D' h := ⟨fun _ _ e _ => .inl e, fun b z => .inl (x b z), fun _ z => z.elim⟩
 exact r.ext e
structure Chg (P : Addr → Prop) (h h' : Heap) : Prop where
 size : h.objs.size ≤ h'.objs.size
 kept : ∀ a o, ¬ P a → h.get? a = some o → h'.get? a = some o
theorem Chg.refl (P : Addr → Prop) (h : Heap) : Chg P h h := ⟨Nat.le_refl _, fun _ _ _ e => e⟩
theorem Chg.push (h : Heap) (o : Obj) : Chg (fun _ => False) h (h.push o) := ⟨by rw [Heap.size_push]; exact Nat.le_succ _, fun _ _ _ e => Heap.get?_push_of_some _ e⟩
theorem Chg.same {a : Addr} {h h' : Heap} (x : Heap.SameBut a h h') : Chg (· = a) h h' := ⟨Nat.le_of_eq x.1.symm, fun b _ hb e => (x.2 b hb).trans e⟩
theorem Chg.mono {P P' : Addr → Prop} {h h' : Heap} (x : Chg P h h') (y : ∀ a, P a → P' a) : Chg P' h h' := ⟨x.size, fun a o hp e => x.kept a o (fun z => hp (y a z)) e⟩
theorem Chg.trans {P : Addr → Prop} {h h' h'' : Heap} (x : Chg P h h') (y : Chg P h' h'') : Chg P h h'' := ⟨Nat.le_trans x.size y.size, fun a o hp e => y.kept a o hp (x.kept a o hp e)⟩
theorem Chg.ext {P D : Addr → Prop} {h h' : Heap} (x : Chg P h h') (hD : ∀ a, P a → D a) : Ext D P h D h' :=
 ⟨fun b o e hb => .inl (x.kept b o hb e), fun _ z => .inl z, hD⟩
theorem Tr.chg {g₀ g : Gh} {h₀ h h' : Heap} {P : Addr → Prop} (t : Tr g₀ h₀ g h) (x : Chg P h h') (hP : ∀ a, P a → h₀.objs.size ≤ a ∨ g₀.U a) : Tr g₀ h₀ g h' where
 size := Nat.le_trans t.size x.size
 kept b o e hu := by
  have hb : ¬ P b := fun z => by
   rcases hP b z with q | q
   ·exact absurd (Heap.lt_size e) (Nat.not_lt.mpr q)
   ·exact hu q
  rcases t.kept b o e hu with q | ⟨hD, hd, sl, q⟩
  ·exact .inl (x.kept b _ hb q)
  ·exact .inr ⟨hD, hd, sl, x.kept b _ hb q⟩
 U := t.U
 D := t.D
 Dm := t.Dm
 ga := t.ga
 la := t.la
section parts
variable {cx : Cx} {gh : Gh} {st : St} {s : Shared} {P : Addr → Prop} {h' : Heap}
theorem GRel.map {gh' : Gh} {h : Heap} {g : GA} {o : GObj} (rc : ∀ v c, CRel gh.D h v c → CRel gh'.D h' v c) (rp : ∀ v p, p.noLoc = true → PRel gh h v p → PRel gh' h' v p) (hU : ∀ b, b ∈ g.addrs → ∀ ob, h.get? b = some ob → h'.get? b = some ob) (r : GRel gh h g o) : GRel gh' h' g o := by
 cases r with
 | lst e r => exact .lst (hU _ (.head _) _ e) (.of (r.all.imp fun _ _ _ r => rc _ _ r))
 | inst0 e e' => exact .inst0 (hU _ (.head _) _ e) (hU _ (.tail _ (.head _)) _ e')
 | inst1 e e' hd r nl => exact .inst1 (hU _ (.head _) _ e) (hU _ (.tail _ (.head _)) _ e') hd (rp _ _ nl r) nl
theorem GRels.map {gh' : Gh} {h : Heap} (rc : ∀ v c, CRel gh.D h v c → CRel gh'.D h' v c) (rp : ∀ v p, p.noLoc = true → PRel gh h v p → PRel gh' h' v p) {gs : List GA} {os : List GObj} (hU : ∀ b, b ∈ gs.flatMap GA.addrs → ∀ ob, h.get? b = some ob → h'.get? b = some ob) (r : GRels gh h gs os) : GRels gh' h' gs os :=
 r.imp fun g _ hg r => r.map rc rp fun b hb => hU b (List.mem_flatMap.mpr ⟨g, hg, hb⟩)
theorem LRels.map {gh' : Gh} {h : Heap} (rc : ∀ v c, CRel gh.D h v c → CRel gh'.D h' v c) {gs : List Addr} {os : List (List CV)} (hU : ∀ b, b ∈ gs → ∀ ob, h.get? b = some ob → h'.get? b = some ob) (r : LRels gh h gs os) : LRels gh' h' gs os :=
 r.imp fun g _ hg q => q.rec fun vs n e r => ⟨vs, n, hU g hg _ e, .of (r.all.imp fun _ _ _ r => rc _ _ r)⟩
theorem GRel.ext {U : Addr → Prop} {h : Heap} {g : GA} {o : GObj} (x : Ext gh.D U h gh.D h') (hU : ∀ b, b ∈ g.addrs → ∀ ob, h.get? b = some ob → h'.get? b = some ob) (r : GRel gh h g o) : GRel gh h' g o := r.map (fun _ _ r => r.ext x) (fun _ _ _ r => r.ext x) hU
theorem GRels.ext {U : Addr → Prop} {h : Heap} (x : Ext gh.D U h gh.D h') {gs : List GA} {os : List GObj} (hU : ∀ b, b ∈ gs.flatMap GA.addrs → ∀ ob, h.get? b = some ob → h'.get? b = some ob) (r : GRels gh h gs os) : GRels gh h' gs os := r.map (fun _ _ r => r.ext x) (fun _ _ _ r => r.ext x) hU
theorem LRels.ext {U : Addr → Prop} {h : Heap} (x : Ext gh.D U h gh.D h') {gs : List Addr} {os : List (List CV)} (hU : ∀ b, b ∈ gs → ∀ ob, h.get? b = some ob → h'.get? b = some ob) (r : LRels gh h gs os) : LRels gh h' gs os := r.map (fun _ _ r => r.ext x) hU
theorem GRel.ncell {gh : Gh} {h : Heap} {g : GA} {ob : GObj} (r : GRel gh h g ob) : ∀ b, b ∈ g.addrs → ∃ o, h.get? b = some o ∧ ∀ v, o.data ≠ .cell v := fun b hb => by
 cases r with
 | lst a _ => rw [List.mem_singleton.mp hb]; exact ⟨_, a, xcell rfl rfl⟩
 | inst0 a b' => exact (List.mem_cons.mp hb).elim (fun e => e ▸ ⟨_, a, xcell rfl rfl⟩) fun e => List.mem_singleton.mp e ▸ ⟨_, b', xcell rfl rfl⟩
 | inst1 a b' hD _ _ => exact (List.mem_cons.mp hb).elim (fun e => e ▸ ⟨_, a, xcell rfl rfl⟩) fun e => List.mem_singleton.mp e ▸ ⟨_, b', by obtain ⟨_, _, h1, _⟩ := hD; exact xcell h1 rfl⟩
theorem GRels.ncell {gh : Gh} {h : Heap} {gs : List GA} {os : List GObj} (rr : GRels gh h gs os) : ∀ b, b ∈ gs.flatMap GA.addrs → ∀ o, h.get? b = some o → ∀ v, o.data ≠ .cell v := fun b hb o e => by
 induction rr with
 | nil => cases hb
 | cons q _ ih =>
  rw [List.flatMap_cons] at hb
  refine (List.mem_append.mp hb).elim (fun hb => ?_) ih
  obtain ⟨o', e', k⟩ := q.ncell b hb
  exact Option.some.inj (e.symm.trans e') ▸ k
theorem LRels.ncell {gh : Gh} {h : Heap} {gs : List Addr} {os : List (List CV)} (rr : LRels gh h gs os) : ∀ b, b ∈ gs → ∀ o, h.get? b = some o → ∀ v, o.data ≠ .cell v := fun b hb o e => by
 induction rr with
 | nil => cases hb
 | cons q _ ih =>
  refine (List.mem_cons.mp hb).elim (fun z => ?_) ih
  obtain ⟨vs, n, a, _⟩ := q
  exact Option.some.inj ((z ▸ e).symm.trans a) ▸ xcell rfl rfl
theorem isDict.dk {o : Obj} (h : isDict o) : Mine.dk o.data < 2 := by obtain ⟨_, _, h⟩ := h; rw [h]; exact Nat.lt_succ_self 1
theorem Rel.noCell (R : Rel cx gh st s) {c : Addr} {vo : Option Value} (e3 : s.heap.IsCell c vo) : c ∉ gh.mu := fun hm => by
 obtain ⟨o, ho, hd⟩ := e3
 rcases List.mem_append.mp hm with hm | hm
 ·exact R.glob.ncell c hm o ho _ hd
 ·exact R.loc.ncell c hm o ho _ hd
theorem Rel.freshNew (R : Rel cx gh st s) {b : Addr} (h : s.heap.objs.size ≤ b) : cx.wd.base.get? b = none := by
 cases e : cx.wd.base.get? b with
 | none => rfl
 | some o => exact absurd (Heap.lt_size (R.base b o e)) (Nat.not_lt.mpr h)
section
variable {gh' : Gh} {h h₂ : Heap}
theorem CurOk.map {L : Addr} {sc : List (Str × NameKind)} {fr fr' : List (Option PV)} (c : CurOk L sc gh fr h) (hf : ∀ (i : Nat) (y : Str) (p : PV), sc[i]? = some (y, .local) → fr'[i]? = some (some p) → fr[i]? = some (some p)) (k : ∀ o, h.get? L = some o → dk o.data < 2 → ∃ o', h₂.get? L = some o' ∧ o'.data = o.data) (r : ∀ v p, PRel gh h v p → PRel gh' h₂ v p) : CurOk L sc gh' fr' h₂ := by
 obtain ⟨m, ⟨o, es, ep, e, hd, rr⟩, hm⟩ := c
 obtain ⟨o', e', hd'⟩ := k o e (by rw [hd]; exact Nat.lt_succ_self 1)
 exact ⟨m, ⟨o', es, ep, e', hd'.trans hd, rr⟩, fun i y p h1 h2 => (hm i y p h1 (hf i y p h1 h2)).imp fun v q => ⟨q.1, r _ _ q.2⟩⟩
theorem CellAt.map {env : Env} {f f' : Option (Option PV)} {x : Str} (c : CellAt env gh f h x) (hf : ∀ p, f' = some (some p) → f = some (some p)) (u : ∀ b, gh.U b → gh'.U b) (k : ∀ b o v, h.get? b = some o → o.data = .cell v → ∃ o', h₂.get? b = some o' ∧ o'.data = o.data) (r : ∀ v p, PRel gh h v p → PRel gh' h₂ v p) : CellAt env gh' f' h₂ x := by
 obtain ⟨c, vo, h1, h2, ⟨o, e, hd⟩, h4⟩ := c
 obtain ⟨o', e', hd'⟩ := k c o vo e hd
 exact ⟨c, vo, h1, u c h2, ⟨o', e', hd'.trans hd⟩, fun p hp => (h4 p (hf p hp)).imp fun v q => ⟨q.1, r _ _ q.2⟩⟩
theorem UpAt.map {env : Env} {x : Str} {p : CV} (c : UpAt env gh h x p) (u : ∀ b o v, gh.D b → ¬ gh.U b → h.get? b = some o → o.data = .cell v → ¬ gh'.U b) (d : ∀ b, gh.D b → gh'.D b) (k : ∀ b o v, h.get? b = some o → o.data = .cell v → ∃ o', h₂.get? b = some o' ∧ o'.data = o.data) (r : ∀ v p, CRel gh.D h v p → CRel gh'.D h₂ v p) : UpAt env gh' h₂ x p := by
 obtain ⟨c, v, e1, e2, e3, ⟨o, e, hd⟩, e5⟩ := c
 obtain ⟨o', e', hd'⟩ := k c o _ e hd
 exact ⟨c, v, e1, u c o _ e3 e2 e hd, d c e3, ⟨o', e', hd'.trans hd⟩, r _ _ e5⟩
theorem FrameAt.map {base : Heap} {l : Addr} {e : Env} (c : FrameAt base l gh h e) (u : ∀ b o, gh.D b → ¬ gh.U b → h.get? b = some o → isDict o → ¬ gh'.U b) (d : ∀ b, gh.D b → gh'.D b) (k : ∀ b o, b = l ∨ ¬ gh.U b → h.get? b = some o → isDict o → ∃ o', h₂.get? b = some o' ∧ isDict o') : FrameAt base l gh' h₂ e := by
 obtain ⟨h1, L, h2, h3, h4, hD, o, h5, h6⟩ := c
 obtain ⟨o', e', hd'⟩ := k L o h4 h5 h6
 exact ⟨h1, L, h2, h3, h4.imp id fun z => u L o hD z h5 h6, d L hD, o', e', hd'⟩
end
theorem Rel.move {gh' : Gh} {s' : Shared} {glob' : List GObj} {loc' : List (List CV)} (R : Rel cx gh st s) (ok : gh'.Ok) (base : ∀ b o, cx.wd.base.get? b = some o → s'.heap.get? b = some o) (fresh : ∀ b, gh'.D b → cx.wd.base.get? b = none) (din : ∀ b, gh'.D b → b < s'.heap.objs.size)
  (uU : ∀ b, gh.U b → gh'.U b) (uN : ∀ b o, gh.D b → ¬ gh.U b → s.heap.get? b = some o → dk o.data < 2 → ¬ gh'.U b) (dD : ∀ b, gh.D b → gh'.D b) (like : ∀ b o, b ∉ gh.mu → s.heap.get? b = some o → dk o.data < 2 → ∃ o', s'.heap.get? b = some o' ∧ o'.data = o.data)
  (r : ∀ v p, PRel gh s.heap v p → PRel gh' s'.heap v p) (rc : ∀ v p, CRel gh.D s.heap v p → CRel gh'.D s'.heap v p) (glob : GRels gh' s'.heap gh'.ga glob') (loc : LRels gh' s'.heap gh'.la loc') (muU : ∀ b, b ∈ gh'.mu → gh'.U b) (apart : (cx.env.locals :: gh'.mu).Nodup) :
  Rel cx gh' { st with glob := glob', loc := loc' } s' := by
 have nL : cx.env.locals ∉ gh.mu := (List.nodup_cons.mp R.apart).1
 have dc : ∀ {o : Obj} {v : Option Value}, o.data = .cell v → dk o.data < 2 := fun hd => by rw [hd]; exact Nat.succ_pos 1
 have kc : ∀ b o v, s.heap.get? b = some o → o.data = .cell v → ∃ o', s'.heap.get? b = some o' ∧ o'.data = o.data := fun b o v e hd => like b o (R.noCell ⟨o, e, hd⟩) e (dc hd)
 exact ⟨ok, base, fresh, din, uU _ R.curU, R.cur.map (fun _ _ _ _ h => h) (fun o => like _ o nL) r, fun i y hy => (R.cells i y hy).map (fun _ h => h) uU kc r, R.cellsA, fun i y p h1 h2 => (R.ups i y p h1 h2).map (fun b o v d u e hd => uN b o d u e (dc hd)) dD kc rc, glob, loc, muU, apart,
  fun e he => (R.frames e he).map (fun b o d u e hd => uN b o d u e hd.dk) dD fun b o z e hd => like b o (fun hm => z.elim (fun z => nL (z ▸ hm)) fun z => z (R.muU b hm)) e hd.dk |>.imp fun _ q => ⟨q.1, hd.imp fun _ k => k.imp fun _ k => q.2.trans k⟩⟩
theorem Rel.chg (R : Rel cx gh st s) (x : Chg P s.heap h') (hP : ∀ a, P a → gh.D a ∧ a ∉ gh.mu ∧ ∀ o, s.heap.get? a = some o → (∃ fs, o.data = .fields fs) ∨ ∃ vs n, o.data = .seq vs n)
  (tk : Nat) : Rel cx gh st { s with heap := h', toks := tk } := by
 have X := x.ext fun a z => (hP a z).1
 have keepM : ∀ {b : Addr} {ob : Obj}, b ∈ gh.mu → s.heap.get? b = some ob → h'.get? b = some ob := fun {b ob} hb e => x.kept b ob (fun z => (hP b z).2.1 hb) e
 refine R.move R.ok (fun b o e => x.kept b o (fun z => xns ((R.fresh b (hP b z).1).symm.trans e)) (R.base b o e)) R.fresh (fun b z => Nat.lt_of_lt_of_le (R.din b z) x.size) (fun _ u => u) (fun _ _ _ u _ _ => u) (fun _ d => d) (fun b o _ e q => ⟨o, x.kept b o (fun z => ?_) e, rfl⟩)
  (fun _ _ r => r.ext X) (fun _ _ r => r.ext X) (R.glob.ext X fun b hb ob e => keepM (List.mem_append_left _ hb) e) (R.loc.ext X fun b hb ob e => keepM (List.mem_append_right _ hb) e) R.muU R.apart
 rcases (hP b z).2.2 o e with ⟨fs, w⟩ | ⟨vs, n, w⟩
 ·rw [w] at q; exact absurd q (Nat.not_lt.mpr (Nat.le_add_left 2 2))
 ·rw [w] at q; exact Nat.lt_irrefl 2 q
theorem Rel.grow (R : Rel cx gh st s) (x : Chg (fun _ => False) s.heap h') (tk : Nat) : Rel cx gh st { s with heap := h', toks := tk } := R.chg x (fun _ z => z.elim) tk
theorem Rel.toks (R : Rel cx gh st s) (tk : Nat) : Rel cx gh st { s with toks := tk } := R.grow (h' := s.heap) (.refl ..) tk
noncomputable def Gh.dead (gh : Gh) (P : Addr → Prop) : Gh := { gh with D := fun b => gh.D b ∨ P b }
end parts
structure Same (s s' : Shared) : Prop where
 gens : s'.gens = s.gens
 drawn : s'.drawn = s.drawn
 os : s'.os = s.os
theorem Same.refl (s : Shared) : Same s s := ⟨rfl, rfl, rfl⟩
theorem Same.trans {a b c : Shared} (x : Same a b) (y : Same b c) : Same a c := ⟨y.gens.trans x.gens, y.drawn.trans x.drawn, y.os.trans x.os⟩
theorem Same.mk' (s : Shared) (h : Heap) (t : Nat) : Same s { s with heap := h, toks := t } := ⟨rfl, rfl, rfl⟩
structure XV where
 cls : Value
 args : List CV
inductive XTr (lo : Nat) (base : Heap) (gh : Gh) (h : Heap) (e : Addr) (fs : Array Value) : Prop
 | mk (T : Addr) (oT : Obj) (ts : Array Value) (a : fs[1]? = some (.ref T)) (b : h.get? T = some oT) (c : oT.data = .fields ts) (d : 3 < ts.size) (f : ts[3]? = some .none ∨ ∃ f, ts[3]? = some (rawInt f)) (g : T ≠ e) (i : lo ≤ T) (j : base.get? T = none) (k : gh.D T) (l : T ∉ gh.mu)
inductive XObj (lo : Nat) (base : Heap) (gh : Gh) (h : Heap) (e : Addr) (x : XV) : Prop
 | mk (o : Obj) (fs : Array Value) (t : Addr) (vs : Array Value) (a : h.get? e = some o) (b : o.cls = x.cls) (c : o.data = .fields fs) (d : fs.size = 6) (f : fs[0]? = some (.ref t)) (g : IsTup h t vs) (i : ¬ gh.D t) (r : CRels gh.D h vs.toList x.args) (k : fs[1]? = some .none ∨ XTr lo base gh h e fs)
structure XRel (lo : Nat) (base : Heap) (gh : Gh) (h : Heap) (e : Addr) (x : XV) : Prop where
 obj : XObj lo base gh h e x
 lo : lo ≤ e
 fresh : base.get? e = none
 dead : gh.D e
 mu : e ∉ gh.mu
inductive PostV (cx : Cx) (gh : Gh) (s : Shared) (Q : PV → St → Prop) (v : Value) (s' : Shared) : Prop
 | mk (p : PV) (st' : St) (gh' : Gh) (R : Rel cx gh' st' s') (T : Tr gh s.heap gh' s'.heap) (S : Same s s') (r : PRel gh' s'.heap v p) (q : Q p st')
inductive PostX (cx : Cx) (gh : Gh) (s : Shared) (X : XV → St → Prop) (v : Value) (s' : Shared) : Prop
 | mk (e : Addr) (x : XV) (st' : St) (gh' : Gh) (v : v = .ref e) (R : Rel cx gh' st' s') (T : Tr gh s.heap gh' s'.heap) (S : Same s s') (r : XRel s.heap.objs.size cx.wd.base gh' s'.heap e x) (q : X x st')
inductive Fl where
 | next | brk | cont
 | ret (p : PV)
inductive FlRel (gh : Gh) (h : Heap) : Flow → Fl → Prop
 | next : FlRel gh h .next .next
 | brk : FlRel gh h .brk .brk
 | cont : FlRel gh h .cont .cont
 | ret {v p} : PRel gh h v p → FlRel gh h (.ret v) (.ret p)
inductive PostF (cx : Cx) (gh : Gh) (s : Shared) (Q : Fl → St → Prop) (f : Flow) (s' : Shared) : Prop
 | mk (g : Fl) (st' : St) (gh' : Gh) (R : Rel cx gh' st' s') (T : Tr gh s.heap gh' s'.heap) (S : Same s s') (r : FlRel gh' s'.heap f g) (q : Q g st')
inductive PostB (cx : Cx) (gh : Gh) (s : Shared) (Q : Bool → St → Prop) (b : Bool) (s' : Shared) : Prop
 | mk (st' : St) (gh' : Gh) (R : Rel cx gh' st' s') (T : Tr gh s.heap gh' s'.heap) (S : Same s s') (q : Q b st')
inductive PostU (cx : Cx) (gh : Gh) (s : Shared) (Q : St → Prop) (u : Unit) (s' : Shared) : Prop
 | mk (st' : St) (gh' : Gh) (R : Rel cx gh' st' s') (T : Tr gh s.heap gh' s'.heap) (S : Same s s') (q : Q st')
noncomputable abbrev PRels (gh : Gh) (h : Heap) : List Value → List PV → Prop := All2 (PRel gh h)
inductive PostL (cx : Cx) (gh : Gh) (s : Shared) (Q : List PV → St → Prop) (vs : List Value) (s' : Shared) : Prop
 | mk (ps : List PV) (st' : St) (gh' : Gh) (R : Rel cx gh' st' s') (T : Tr gh s.heap gh' s'.heap) (S : Same s s') (r : PRels gh' s'.heap vs ps) (q : Q ps st')
theorem PRels.tr {gh gh' : Gh} {h h' : Heap} (ok : gh.Ok) (x : Tr gh h gh' h') {vs : List Value} {ps : List PV} (r : PRels gh h vs ps) : PRels gh' h' vs ps := r.imp fun _ _ _ r => r.tr ok x
section up
variable {cx : Cx} {gh g₁ : Gh} {s s₁ s' : Shared}
theorem PostV.up (t : Tr gh s.heap g₁ s₁.heap) (e : Same s s₁) {Q v} (p : PostV cx g₁ s₁ Q v s') : PostV cx gh s Q v s' :=
 let ⟨p, st, g, R, T, S, r, q⟩ := p; ⟨p, st, g, R, t.trans T, e.trans S, r, q⟩
theorem PostF.up (t : Tr gh s.heap g₁ s₁.heap) (e : Same s s₁) {Q v} (p : PostF cx g₁ s₁ Q v s') : PostF cx gh s Q v s' :=
 let ⟨p, st, g, R, T, S, r, q⟩ := p; ⟨p, st, g, R, t.trans T, e.trans S, r, q⟩
theorem PostL.up (t : Tr gh s.heap g₁ s₁.heap) (e : Same s s₁) {Q v} (p : PostL cx g₁ s₁ Q v s') : PostL cx gh s Q v s' :=
 let ⟨p, st, g, R, T, S, r, q⟩ := p; ⟨p, st, g, R, t.trans T, e.trans S, r, q⟩
theorem PostB.up (t : Tr gh s.heap g₁ s₁.heap) (e : Same s s₁) {Q v} (p : PostB cx g₁ s₁ Q v s') : PostB cx gh s Q v s' :=
 let ⟨st, g, R, T, S, q⟩ := p; ⟨st, g, R, t.trans T, e.trans S, q⟩
theorem PostU.up (t : Tr gh s.heap g₁ s₁.heap) (e : Same s s₁) {Q v} (p : PostU cx g₁ s₁ Q v s') : PostU cx gh s Q v s' :=
 let ⟨st, g, R, T, S, q⟩ := p; ⟨st, g, R, t.trans T, e.trans S, q⟩
theorem XRel.lower {lo lo' : Nat} (h : lo ≤ lo') {base : Heap} {gh : Gh} {hp : Heap} {e : Addr} {x : XV} (r : XRel lo' base gh hp e x) : XRel lo base gh hp e x := by
 obtain ⟨⟨o, fs, t, vs, h1, h2, h3, h4, h5, h6, h7, h8, h9⟩, l, f, d, m⟩ := r
 refine ⟨⟨o, fs, t, vs, h1, h2, h3, h4, h5, h6, h7, h8, ?_⟩, Nat.le_trans h l, f, d, m⟩
 rcases h9 with h9 | ⟨T, oT, ts, a, b, c, d, e, f, g, i, j, k⟩
 ·exact .inl h9
 ·exact .inr ⟨T, oT, ts, a, b, c, d, e, f, Nat.le_trans h g, i, j, k⟩
theorem PostX.up (t : Tr gh s.heap g₁ s₁.heap) (e : Same s s₁) {X v} (p : PostX cx g₁ s₁ X v s') : PostX cx gh s X v s' :=
 let ⟨a, x, st, g, h1, R, T, S, r, q⟩ := p; ⟨a, x, st, g, h1, R, t.trans T, e.trans S, r.lower t.size, q⟩
end up
noncomputable abbrev Cx.M (cx : Cx) : Model := model cx.wd.prog cx.wd.w
noncomputable def EvE (cx : Cx) (e : Expr) (st : St) (Q : PV → St → Prop) (X : XV → St → Prop) : Prop :=
 ∀ gh s, Rel cx gh st s → wpAny cx.M cx.A (eval e cx.env) (PostV cx gh s Q) (PostX cx gh s X) s
noncomputable def EvT (cx : Cx) (e : Expr) (st : St) (Q : Bool → St → Prop) (X : XV → St → Prop) : Prop :=
 ∀ gh s, Rel cx gh st s → wpAny cx.M cx.A (PySem.isTrue e cx.env (eval e cx.env)) (PostB cx gh s Q) (PostX cx gh s X) s
noncomputable def EvAll (cx : Cx) (op : BoolOp) (es : List Expr) (st : St) (Q : Bool → St → Prop) (X : XV → St → Prop) : Prop :=
 ∀ gh s, Rel cx gh st s → wpAny cx.M cx.A (allTrue op es cx.env) (PostB cx gh s Q) (PostX cx gh s X) s
noncomputable def EvL (cx : Cx) (es : List Expr) (st : St) (Q : List PV → St → Prop) (X : XV → St → Prop) : Prop :=
 ∀ pos gh s, Rel cx gh st s → wpAny cx.M cx.A (spliced (backTo pos (starEach es cx.env))) (PostL cx gh s Q) (PostX cx gh s X) s
noncomputable def AsG (cx : Cx) (t : Expr) (p : PV) (st : St) (Q : St → Prop) (X : XV → St → Prop) : Prop :=
 ∀ gh s v, Rel cx gh st s → PRel gh s.heap v p → wpAny cx.M cx.A (assign t cx.env v) (PostU cx gh s Q) (PostX cx gh s X) s
noncomputable def ExS (cx : Cx) (b : Stmt) (st : St) (Q : Fl → St → Prop) (X : XV → St → Prop) : Prop :=
 ∀ gh s, Rel cx gh st s → wpAny cx.M cx.A (exec b cx.env) (PostF cx gh s Q) (PostX cx gh s X) s
noncomputable def ExB (cx : Cx) (b : List Stmt) (st : St) (Q : Fl → St → Prop) (X : XV → St → Prop) : Prop :=
 ∀ gh s, Rel cx gh st s → wpAny cx.M cx.A (execs b cx.env) (PostF cx gh s Q) (PostX cx gh s X) s
noncomputable def OpV (cx : Cx) (gh : Gh) (st : St) (s : Shared) (m : Sem Value) (Q : PV → St → Prop) (X : XV → St → Prop) : Prop :=
 wpAny cx.M cx.A m (PostV cx gh s Q) (PostX cx gh s X) s
section rules
variable {cx : Cx} {st : St} {X : XV → St → Prop}
theorem PostV.same {gh : Gh} {s : Shared} {Q : PV → St → Prop} {v : Value} {p : PV} (R : Rel cx gh st s) (h : Q p st) (r : PRel gh s.heap v p) (tk : Nat) : PostV cx gh s Q v { s with toks := tk } :=
 ⟨p, st, gh, R.toks tk, .refl .., ⟨rfl, rfl, rfl⟩, r, h⟩
theorem EvE.mono {e : Expr} {Q Q' : PV → St → Prop} {X' : XV → St → Prop} (h : EvE cx e st Q X) (hQ : ∀ p st, Q p st → Q' p st) (hX : ∀ x st, X x st → X' x st) : EvE cx e st Q' X' :=
 fun gh s R => wpAny_mono (h gh s R) (fun _ _ ⟨p, st, g, a, b, c, d, q⟩ => ⟨p, st, g, a, b, c, d, hQ _ _ q⟩) fun _ _ ⟨e, x, st, g, a, b, c, d, f, q⟩ => ⟨e, x, st, g, a, b, c, d, f, hX _ _ q⟩
theorem ExB.mono {e : List Stmt} {Q Q' : Fl → St → Prop} {X' : XV → St → Prop} (h : ExB cx e st Q X) (hQ : ∀ p st, Q p st → Q' p st) (hX : ∀ x st, X x st → X' x st) : ExB cx e st Q' X' :=
 fun gh s R => wpAny_mono (h gh s R) (fun _ _ ⟨p, st, g, a, b, c, d, q⟩ => ⟨p, st, g, a, b, c, d, hQ _ _ q⟩) fun _ _ ⟨e, x, st, g, a, b, c, d, f, q⟩ => ⟨e, x, st, g, a, b, c, d, f, hX _ _ q⟩
theorem EvE.loc {i : Nat} {x : Str} {pos : Pos} {k : NameKind} {p : PV} {Q : PV → St → Prop} (C : cx.Ok) (hx : cx.sc[i]? = some (x, k)) (hk : k = .local ∨ k = .cell) (hp : st.fr[i]? = some (some p)) (h : Q p st) :
  EvE cx (.Name x pos) st Q X := fun gh s R => by
 obtain ⟨hkd, hdb⟩ := C.sck i x k hx
 refine wpAny_Name ?_ hdb
 rcases hk with rfl | rfl
 ·obtain ⟨m, hn, hm⟩ := R.cur
  obtain ⟨v, hv, r⟩ := hm i x p hx hp
  exact wpAny_loadName_local C.fn hkd hn hv (PostV.same R h r _)
 ·obtain ⟨c, vo, h1, h2, h3, h4⟩ := R.cells i x hx
  obtain ⟨v, rfl, r⟩ := h4 p hp
  exact wpAny_loadName_cell C.fn hkd h1 h3 (PostV.same R h r _)
theorem EvE.free {i : Nat} {x : Str} {pos : Pos} {p : CV} {Q : PV → St → Prop} (C : cx.Ok) (hx : cx.usc[i]? = some x) (hp : st.up[i]? = some p) (h : Q (.c p) st) :
  EvE cx (.Name x pos) st Q X := fun gh s R => by
 obtain ⟨hkd, hdb, hcd⟩ := C.usk i x hx
 refine wpAny_Name ?_ hdb
 obtain ⟨c, v, h1, h2, h3, h4, h5⟩ := R.ups i x p hx hp
 rcases hkd with hkd | hkd
 ·exact wpAny_loadName_cell C.fn hkd h1 h4 (PostV.same R h (.c h5) _)
 ·exact wpAny_loadName_free C.fn hkd h1 h4 (PostV.same R h (.c h5) _) hcd
theorem Rel.keeps {gh : Gh} {s : Shared} (R : Rel cx gh st s) : ∀ b o, cx.wd.base.get? b = some o → s.heap.get? b = some o := R.base
theorem EvE.glob {i j : Nat} {x : Str} {pos : Pos} {p : CV} {Q : PV → St → Prop} (C : cx.Ok) (hx : cx.gsc[i]? = some x) (hp : cx.wd.gt[j]? = some (x, p)) (h : Q (.c p) st) :
  EvE cx (.Name x pos) st Q X := fun gh s R => by
 obtain ⟨mg, mb, W⟩ := C.wd
 obtain ⟨hdb, v, hv, r⟩ := W.gt x p (List.mem_of_getElem? hp)
 refine Name_function_global C.fn (C.gsk i x hx) ?_ hdb
 rcases hv with hv | ⟨h1, h2⟩
 ·exact loadGlobal_global (by rw [C.globals]; exact W.g.keeps R.base) hv (PostV.same R h (.c (r ..)) _)
 ·exact loadGlobal_builtin (by rw [C.globals]; exact W.g.keeps R.base) h1 (by rw [C.builtins]; exact W.b.keeps R.base) h2 (PostV.same R h (.c (r ..)) _)
theorem EvE.int {i : Int} {k : Nat} {pos : Pos} {Q : PV → St → Prop} (h : Q (.c (.int i)) st) : EvE cx (.Constant (.int i) k pos) st Q X :=
 fun _ _ R => wpAny_Constant_int (PostV.same R h (.c (.int ..)) _)
theorem EvE.str {x : Str} {k : Nat} {pos : Pos} {Q : PV → St → Prop} (h : Q (.c (.str x)) st) : EvE cx (.Constant (.str x) k pos) st Q X :=
 fun _ _ R => Constant_str (PostV.same R h (.c (.str ..)) _)
theorem EvE.none {k : Nat} {pos : Pos} {Q : PV → St → Prop} (h : Q (.c .none) st) : EvE cx (.Constant .none k pos) st Q X :=
 fun _ s R => wpAny_pure (PostV.same R h (.c .none) s.toks)
theorem EvE.bool {b : Bool} {k : Nat} {pos : Pos} {Q : PV → St → Prop} (h : Q (.c (.bool b)) st) : EvE cx (.Constant (.bool b) k pos) st Q X :=
 fun _ s R => wpAny_pure (PostV.same R h (.c (.bool b)) s.toks)
theorem EvL.nil {Q : List PV → St → Prop} (h : Q [] st) : EvL cx [] st Q X :=
 fun _ _ s R => wpAny_items_nil ⟨[], st, _, R.toks s.toks, .refl .., ⟨rfl, rfl, rfl⟩, .nil, h⟩
theorem EvL.cons {e : Expr} {es : List Expr} {Q : List PV → St → Prop} (h : EvE cx e st (fun p st' => EvL cx es st' (fun ps => Q (p :: ps)) X) X) (he : ∀ env, starEach (e :: es) env = (false, eval e env) :: starEach es env := by intro _; rfl) :
  EvL cx (e :: es) st Q X := fun pos gh s R => by
 refine wpAny_items_cons (wpAny_mono (h gh s R) ?_ fun _ _ x => x) (he _)
 rintro v s₁ ⟨p, st₁, g₁, R₁, T₁, S₁, r₁, q₁⟩
 refine wpAny_mono (q₁ pos g₁ s₁ R₁) ?_ fun _ _ x => x.up T₁ S₁
 rintro vs s₂ ⟨ps, st₂, g₂, R₂, T₂, S₂, r₂, q₂⟩
 exact ⟨p :: ps, st₂, g₂, R₂, T₁.trans T₂, S₁.trans S₂, .cons (r₁.tr R₁.ok T₂) r₂, q₂⟩
end rules
section
variable {cx : Cx} {st : St} {X : XV → St → Prop}
theorem Rel.newObj {gh : Gh} {s : Shared} (R : Rel cx gh st s) (o : Obj) : Rel cx gh st { s with heap := s.heap.push o } := R.grow (.push ..) s.toks
theorem Tr.newObj (gh : Gh) (h : Heap) (o : Obj) : Tr gh h gh (h.push o) := (Tr.refl gh h).chg (.push ..) fun _ z => z.elim
theorem isTup_new (h : Heap) (vs : Array Value) (n : Nat) : IsTup (h.push { cls := .type "tuple", data := .seq vs n }) h.objs.size vs := ⟨_, Heap.get?_push_size _ rfl, rfl, _, rfl⟩
theorem isList_new (h : Heap) (vs : Array Value) (n : Nat) : (h.push (lstObj vs n)).IsList h.objs.size vs := ⟨_, Heap.get?_push_size _ rfl, rfl, _, rfl⟩
noncomputable def binI : Operator → Int → Int → Option CV
 | .Add, a, b => some (.int (a + b))
 | .Sub, a, b => some (.int (a - b))
 | .Mult, a, b => some (.int (a * b))
 | .FloorDiv, a, b => some (.int (a.fdiv b))
 | .Mod, a, b => some (.int (a.fmod b))
 | _, _, _ => none
noncomputable def binT : Operator → Str → Str → Option CV
 | .Add, a, b => some (.str (a ++ b))
 | _, _, _ => none
noncomputable def binN : Operator → Str → Int → Option CV
 | .Mult, a, b => some (.str (Txt.mul a b))
 | _, _, _ => none
noncomputable def binB (op : Operator) (p q : CV) : Option CV := match p with
 | .int a => match q with
  | .int b => binI op a b
  | _ => none
 | .str a => match q with
  | .str b => binT op a b
  | .int b => binN op a b
  | _ => none
 | _ => none
noncomputable def binS : Operator → CV → CV → Prop
 | .Add, .int _, .int _ => True
 | .Sub, .int _, .int _ => True
 | .Mult, .int a, .int b => (-(2 ^ 64) < a ∧ a < 2 ^ 64) ∨ (-(2 ^ 64) < b ∧ b < 2 ^ 64)
 | .FloorDiv, .int _, .int b => 0 < b ∧ b < 100000
 | .Mod, .int _, .int b => b ≠ 0
 | .Add, .str a, .str b => a.length + b.length ≤ sizeLine
 | .Mult, .str a, .int b => 0 ≤ b ∧ b ≤ 1000 ∧ a.length ≤ 1000
 | _, _, _ => False
theorem mulOk_small {x : Str} {n : Int} (h0 : 0 ≤ n) (h1 : n ≤ 1000) (hx : x.length ≤ 1000) : MulOk x n := by
 refine ⟨?_, fun hn _ => ?_, fun hn _ => ?_⟩
 ·simp only [Bool.or_eq_false_iff, decide_eq_false_iff_not]; omega
 ·have hp : (0 : Int) < n := by omega
  have : (1000 : Int) ≤ (2 ^ 63 - 1) / n := by
   rw [Int.le_ediv_iff_mul_le hp]; omega
  omega
 ·unfold Builtin.Str.tooLong
  have : x.length * n.toNat ≤ 1000 * 1000 := Nat.mul_le_mul hx (by omega)
  rw [sizeLine_eq]
  exact decide_eq_false (by omega)
noncomputable def BinGoal (A : Around) (M : Program) (W : World) (s : Shared) (op : Operator) (p q : CV) : Prop :=
 ∀ D h v w r E Q, CRel D h v p → CRel D h w q → binB op p q = some r → binS op p q → (∀ u t, (∀ D h, CRel D h u r) → Q u { s with toks := t }) → wpAny (model M W) A (binaryOp op v w) Q E s
theorem BinGoal.no {A : Around} {M : Program} {W : World} {s : Shared} {op : Operator} {p q : CV} (e : binB op p q = none) : BinGoal A M W s op p q := fun _ _ _ _ _ _ _ _ _ e' _ _ => xns (e.symm.trans e')
section
variable {A : Around} {M : Program} {W : World} {s : Shared}
theorem BinGoal.int {a b : Int} : ∀ {op}, BinGoal A M W s op (.int a) (.int b) := by
 intro op D h v w r E Q rv rw e sd hq
 replace rv := rv.inv; obtain ⟨t, rfl⟩ := rv
 replace rw := rw.inv; obtain ⟨u, rfl⟩ := rw
 revert e sd
 cases op with
 | Add => exact fun e sd => add_int (hq _ _ fun _ _ => Option.some.inj e ▸ .int ..)
 | Sub => exact fun e sd => sub_int (hq _ _ fun _ _ => Option.some.inj e ▸ .int ..)
 | Mult => exact fun e sd => mul_int (hq _ _ fun _ _ => Option.some.inj e ▸ .int ..) (sd.elim (fun x => IntMulOk.of_left (intBits_le_64 x.1 x.2)) fun x => IntMulOk.of_right (intBits_le_64 x.1 x.2))
 | FloorDiv => exact fun e sd => floordiv_int (Int.ne_of_gt sd.1) (hq _ _ fun _ _ => Option.some.inj e ▸ .int ..) (.inl (PyProof.noPylong_small (by have := sd.2; have := sd.1; omega)))
 | Mod => exact fun e sd => mod_int' sd (hq _ _ fun _ _ => Option.some.inj e ▸ .int ..)
 | _ => exact fun _ sd => sd.elim
theorem BinGoal.str {a b : Str} : ∀ {op}, BinGoal A M W s op (.str a) (.str b) := by
 intro op
 cases op with
 | Add =>
  intro D h v w r E Q rv rw e sd hq
  replace rv := rv.inv; obtain ⟨t, rfl⟩ := rv
  replace rw := rw.inv; obtain ⟨u, rfl⟩ := rw
  exact add_str (fun t' k => hq _ _ fun _ _ => Option.some.inj e ▸ .str ..) sd
 | _ => exact BinGoal.no rfl
theorem BinGoal.mul {a : Str} {b : Int} : ∀ {op}, BinGoal A M W s op (.str a) (.int b) := by
 intro op
 cases op with
 | Mult =>
  intro D h v w r E Q rv rw e sd hq
  replace rv := rv.inv; obtain ⟨t, rfl⟩ := rv
  replace rw := rw.inv; obtain ⟨u, rfl⟩ := rw
  exact SB.mul (mulOk_small sd.1 sd.2.1 sd.2.2) fun t' k => hq _ _ fun _ _ => Option.some.inj e ▸ .str ..
 | _ => exact BinGoal.no rfl
theorem binGoal (op : Operator) (p q : CV) : BinGoal A M W s op p q := by
 cases p with
 | int a => cases q with
  | int b => exact BinGoal.int
  | _ => exact BinGoal.no rfl
 | str a => cases q with
  | str b => exact BinGoal.str
  | int b => exact BinGoal.mul
  | _ => exact BinGoal.no rfl
 | _ => exact BinGoal.no rfl
theorem binB_ok {op : Operator} {p q r : CV} {v w : Value} {D : Addr → Prop} {h : Heap} {E : Value → Shared → Prop} {Q : Value → Shared → Prop}
  (e : binB op p q = some r) (sd : binS op p q) (rv : CRel D h v p) (rw : CRel D h w q) (hq : ∀ u t, (∀ D h, CRel D h u r) → Q u { s with toks := t }) : wpAny (model M W) A (binaryOp op v w) Q E s :=
 binGoal op p q _ _ _ _ _ _ _ rv rw e sd hq
end
inductive BinG (op : Operator) (p q : PV) (K : CV → Prop) : Prop
 | mk (x y r : CV) (a : p = .c x) (b : q = .c y) (c : binB op x y = some r) (d : binS op x y) (k : K r)
theorem EvE.bin {op : Operator} {a b : Expr} {pos : Pos} {Q : PV → St → Prop}
  (h : EvE cx a st (fun p st₁ => EvE cx b st₁ (fun q st₂ => BinG op p q fun r => Q (.c r) st₂) X) X) : EvE cx (.BinOp a op b pos) st Q X := fun gh s R => by
 refine wpAny_BinOp (wpAny_mono (h gh s R) ?_ fun _ _ x => x)
 rintro v s₁ ⟨p, st₁, g₁, R₁, T₁, S₁, r₁, q₁⟩
 refine wpAny_mono (q₁ g₁ s₁ R₁) ?_ fun _ _ x => x.up T₁ S₁
 rintro w s₂ ⟨q, st₂, g₂, R₂, T₂, S₂, r₂, x, y, r, rfl, rfl, e, sd, hq⟩
 have r₁ := (r₁.tr R₁.ok T₂).toC; replace r₂ := r₂.toC
 exact binB_ok e sd r₁ r₂ fun u t hu => (PostV.same R₂ hq (.c (hu ..)) t).up (T₁.trans T₂) (S₁.trans S₂)
noncomputable def cmpI : CmpOp → Int → Int → Option Bool
 | .Eq, a, b => some (a == b)
 | .NotEq, a, b => some (a != b)
 | .Lt, a, b => some (decide (a < b))
 | .LtE, a, b => some (decide (a ≤ b))
 | .Gt, a, b => some (decide (b < a))
 | .GtE, a, b => some (decide (b ≤ a))
 | _, _, _ => none
noncomputable def cmpT : CmpOp → Str → Str → Option Bool
 | .Eq, a, b => some (a == b)
 | .NotEq, a, b => some (a != b)
 | .In, a, b => some (!(Builtin.Str.occurrences b a 0 b.length 1).isEmpty)
 | _, _, _ => none
noncomputable def cmpC : CmpOp → String → String → Option Bool
 | .Is, a, b => some (a == b)
 | .IsNot, a, b => some (!(a == b))
 | _, _, _ => none
noncomputable def cmpN : CmpOp → Bool → Option Bool
 | .IsNot, b => some b
 | _, _ => none
noncomputable def cmpB (op : CmpOp) (p q : CV) : Option Bool := match p with
 | .int a => match q with
  | .int b => cmpI op a b
  | _ => none
 | .str a => match q with
  | .str b => cmpT op a b
  | .none => cmpN op true
  | _ => none
 | .con v => match v, q with
  | .type a, .con (.type b) => cmpC op a b
  | _, _ => none
 | .none => match q with
  | .none => cmpN op false
  | _ => none
 | .lst _ => match q with
  | .none => cmpN op true
  | _ => none
 | _ => none
noncomputable def CmpGoal (A : Around) (M : Program) (W : World) (s : Shared) (op : CmpOp) (p q : CV) : Prop :=
 ∀ D h v w r E Q, cmpB op p q = some r → CRel D h v p → CRel D h w q → Q (.bool r) s → wpAny (model M W) A (compareOp op v w) Q E s
theorem CmpGoal.no {A : Around} {M : Program} {W : World} {s : Shared} {op : CmpOp} {p q : CV} (e : cmpB op p q = none) : CmpGoal A M W s op p q := fun _ _ _ _ _ _ _ e' _ _ _ => xns (e.symm.trans e')
section
variable {A : Around} {M : Program} {W : World} {s : Shared}
theorem CmpGoal.of {op : CmpOp} {p q : CV} {r : Bool} (e : cmpB op p q = some r) (k : ∀ {D h v w E Q}, CRel D h v p → CRel D h w q → Q (.bool r) s → wpAny (model M W) A (compareOp op v w) Q E s) : CmpGoal A M W s op p q :=
 fun _ _ _ _ _ _ _ e' rv rw hq => k rv rw (Option.some.inj (e'.symm.trans e) ▸ hq)
theorem CmpGoal.ofI {op : CmpOp} {a b : Int} {r : Bool} (e : cmpB op (.int a) (.int b) = some r) (k : ∀ {t u E Q}, Q (.bool r) s → wpAny (model M W) A (compareOp op (.int a t) (.int b u)) Q E s) : CmpGoal A M W s op (.int a) (.int b) :=
 CmpGoal.of e fun rv rw hq => by
  replace rv := rv.inv; obtain ⟨t, rfl⟩ := rv
  replace rw := rw.inv; obtain ⟨u, rfl⟩ := rw
  exact k hq
theorem CmpGoal.ofS {op : CmpOp} {a b : Str} {r : Bool} (e : cmpB op (.str a) (.str b) = some r) (k : ∀ {t u E Q}, Q (.bool r) s → wpAny (model M W) A (compareOp op (.str a t) (.str b u)) Q E s) : CmpGoal A M W s op (.str a) (.str b) :=
 CmpGoal.of e fun rv rw hq => by
  replace rv := rv.inv; obtain ⟨t, rfl⟩ := rv
  replace rw := rw.inv; obtain ⟨u, rfl⟩ := rw
  exact k hq
theorem CmpGoal.int {a b : Int} : ∀ {op}, CmpGoal A M W s op (.int a) (.int b) := by
 intro op
 cases op with
 | Eq => exact CmpGoal.ofI rfl eq_int
 | NotEq => exact CmpGoal.ofI rfl PyProof.Rows.ne_int
 | Lt => exact CmpGoal.ofI rfl PyProof.Rows.lt_int
 | LtE => exact CmpGoal.ofI rfl PyProof.Rows.le_int
 | Gt => exact CmpGoal.ofI rfl PyProof.Rows.gt_int
 | GtE => exact CmpGoal.ofI rfl PyProof.Rows.ge_int
 | _ => exact CmpGoal.no rfl
theorem CmpGoal.str {a b : Str} : ∀ {op}, CmpGoal A M W s op (.str a) (.str b) := by
 intro op
 cases op with
 | Eq => exact CmpGoal.ofS rfl eq_str
 | NotEq => exact CmpGoal.ofS rfl ne_str
 | In => exact CmpGoal.ofS rfl PyProof.Rows.in_str
 | _ => exact CmpGoal.no rfl
theorem type_beq (a b : String) : (Value.type a == Value.type b) = (a == b) := by rw [Bool.eq_iff_iff]; simp
theorem CmpGoal.con {a b : String} : ∀ {op}, CmpGoal A M W s op (.con (.type a)) (.con (.type b)) := by
 intro op
 cases op with
 | Is =>
  exact CmpGoal.of rfl fun rv rw hq => by
    replace rv := rv.inv; obtain rfl := rv
    replace rw := rw.inv; obtain rfl := rw
    exact wpAny_is_plain rfl (type_beq a b ▸ hq)
 | IsNot =>
  exact CmpGoal.of rfl fun rv rw hq => by
    replace rv := rv.inv; obtain rfl := rv
    replace rw := rw.inv; obtain rfl := rw
    exact wpAny_isNot_plain rfl (type_beq a b ▸ hq)
 | _ => exact CmpGoal.no rfl
end
section
variable {A : Around} {M : Program} {W : World} {s : Shared}
theorem cmpGoal (op : CmpOp) (p q : CV) : CmpGoal A M W s op p q := by
 cases p with
 | int a => cases q with
  | int b => exact CmpGoal.int
  | _ => exact CmpGoal.no rfl
 | str a => cases q with
  | str b => exact CmpGoal.str
  | none => cases op with
   | IsNot =>
    exact CmpGoal.of rfl fun rv rw hq => by
     replace rv := rv.inv; obtain ⟨t, rfl⟩ := rv
     replace rw := rw.inv; obtain rfl := rw
     exact isNot_none hq
   | _ => exact CmpGoal.no rfl
  | _ => exact CmpGoal.no rfl
 | none => cases q with
  | none => cases op with
   | IsNot =>
    exact CmpGoal.of rfl fun rv rw hq => by
     replace rv := rv.inv; obtain rfl := rv
     replace rw := rw.inv; obtain rfl := rw
     exact isNot_none hq
   | _ => exact CmpGoal.no rfl
  | _ => exact CmpGoal.no rfl
 | lst l => cases q with
  | none => cases op with
   | IsNot =>
    exact CmpGoal.of rfl fun rv rw hq => by
     replace rv := rv.inv; obtain ⟨_, _, _, rfl, _⟩ := rv
     replace rw := rw.inv; obtain rfl := rw
     exact isNot_none hq
   | _ => exact CmpGoal.no rfl
  | _ => exact CmpGoal.no rfl
 | con v => cases v with
  | type a => cases q with
   | con w => cases w with
    | type b => exact CmpGoal.con
    | _ => exact CmpGoal.no rfl
   | _ => exact CmpGoal.no rfl
  | _ => exact CmpGoal.no rfl
 | _ => exact CmpGoal.no rfl
theorem cmpB_ok {op : CmpOp} {p q : CV} {r : Bool} {v w : Value} {D : Addr → Prop} {h : Heap} {E : Value → Shared → Prop} {Q : Value → Shared → Prop}
  (e : cmpB op p q = some r) (rv : CRel D h v p) (rw : CRel D h w q) (hq : Q (.bool r) s) : wpAny (model M W) A (compareOp op v w) Q E s :=
 cmpGoal op p q _ _ _ _ _ _ _ e rv rw hq
end
inductive CmpG (op : CmpOp) (p q : PV) (K : Bool → Prop) : Prop
 | mk (x y : CV) (r : Bool) (a : p = .c x) (b : q = .c y) (c : cmpB op x y = some r) (k : K r)
theorem EvE.cmp {op : CmpOp} {a b : Expr} {pos : Pos} {Q : PV → St → Prop}
  (h : EvE cx a st (fun p st₁ => EvE cx b st₁ (fun q st₂ => CmpG op p q fun r => Q (.c (.bool r)) st₂) X) X) (hm : behindInMarks op b = false := by with_unfolding_all rfl) : EvE cx (.Compare a [op] [b] pos) st Q X := fun gh s R => by
 refine wpAny_Compare1 (wpAny_mono (h gh s R) ?_ fun _ _ x => x) hm
 rintro v s₁ ⟨p, st₁, g₁, R₁, T₁, S₁, r₁, q₁⟩
 refine wpAny_mono (q₁ g₁ s₁ R₁) ?_ fun _ _ x => x.up T₁ S₁
 rintro w s₂ ⟨q, st₂, g₂, R₂, T₂, S₂, r₂, x, y, r, rfl, rfl, e, hq⟩
 have r₁ := (r₁.tr R₁.ok T₂).toC; replace r₂ := r₂.toC
 exact cmpB_ok e r₁ r₂ ((PostV.same R₂ hq (.c (.bool r)) s₂.toks).up (T₁.trans T₂) (S₁.trans S₂))
theorem EvT.cmp {op : CmpOp} {a b : Expr} {pos : Pos} {Q : Bool → St → Prop}
  (h : EvE cx a st (fun p st₁ => EvE cx b st₁ (fun q st₂ => CmpG op p q fun r => Q r st₂) X) X) (hm : behindInMarks op b = false := by with_unfolding_all rfl) : EvT cx (.Compare a [op] [b] pos) st Q X := fun gh s R => by
 refine wpAny_isTrue_Compare1 (wpAny_mono (h gh s R) ?_ fun _ _ x => x) hm
 rintro v s₁ ⟨p, st₁, g₁, R₁, T₁, S₁, r₁, q₁⟩
 refine wpAny_mono (q₁ g₁ s₁ R₁) ?_ fun _ _ x => x.up T₁ S₁
 rintro w s₂ ⟨q, st₂, g₂, R₂, T₂, S₂, r₂, x, y, r, rfl, rfl, e, hq⟩
 have r₁ := (r₁.tr R₁.ok T₂).toC; replace r₂ := r₂.toC
 exact cmpB_ok e r₁ r₂ (wpAny_truthy_bool ⟨st₂, g₂, R₂, T₁.trans T₂, S₁.trans S₂, hq⟩)
theorem EvT.not {a : Expr} {pos : Pos} {Q : Bool → St → Prop} (h : EvT cx a st (fun b => Q (!b)) X) : EvT cx (.UnaryOp .Not a pos) st Q X :=
 fun gh s R => wpAny_isTrue_Not (wpAny_mono (h gh s R) (fun _ _ ⟨st, g, R, T, S, q⟩ => ⟨st, g, R, T, S, q⟩) fun _ _ x => x)
theorem EvAll.andNil {Q : Bool → St → Prop} (h : Q true st) : EvAll cx .And [] st Q X := fun gh s R => wpAny_allTrue_And_nil ⟨st, gh, R, .refl .., .refl _, h⟩
theorem EvAll.orNil {Q : Bool → St → Prop} (h : Q false st) : EvAll cx .Or [] st Q X := fun gh s R => wpAny_allTrue_Or_nil ⟨st, gh, R, .refl .., .refl _, h⟩
theorem EvAll.and {e : Expr} {es : List Expr} {Q : Bool → St → Prop} (h : EvT cx e st (fun b st₁ => (b = true → EvAll cx .And es st₁ Q X) ∧ (b = false → Q false st₁)) X) : EvAll cx .And (e :: es) st Q X := fun gh s R => by
 refine wpAny_allTrue_And_cons (wpAny_mono (h gh s R) ?_ fun _ _ x => x)
 rintro b s₁ ⟨st₁, g₁, R₁, T₁, S₁, q1, q2⟩
 cases b with
 | true => exact wpAny_mono (q1 rfl g₁ s₁ R₁) (fun _ _ x => x.up T₁ S₁) fun _ _ x => x.up T₁ S₁
 | false => exact ⟨st₁, g₁, R₁, T₁, S₁, q2 rfl⟩
theorem EvAll.or {e : Expr} {es : List Expr} {Q : Bool → St → Prop} (h : EvT cx e st (fun b st₁ => (b = true → Q true st₁) ∧ (b = false → EvAll cx .Or es st₁ Q X)) X) : EvAll cx .Or (e :: es) st Q X := fun gh s R => by
 refine wpAny_allTrue_Or_cons (wpAny_mono (h gh s R) ?_ fun _ _ x => x)
 rintro b s₁ ⟨st₁, g₁, R₁, T₁, S₁, q1, q2⟩
 cases b with
 | true => exact ⟨st₁, g₁, R₁, T₁, S₁, q1 rfl⟩
 | false => exact wpAny_mono (q2 rfl g₁ s₁ R₁) (fun _ _ x => x.up T₁ S₁) fun _ _ x => x.up T₁ S₁
theorem EvT.bop {op : BoolOp} {es : List Expr} {pos : Pos} {Q : Bool → St → Prop} (h : EvAll cx op es st Q X) : EvT cx (.BoolOp op es pos) st Q X := fun gh s R => wpAny_isTrue_BoolOp (h gh s R)
noncomputable def truB : CV → Option Bool
 | .bool b => some b
 | .int a => some (a != 0)
 | .str x => some ((x.length : Int) != 0)
 | .lst l => some (!l.isEmpty)
 | .none => some false
 | _ => none
noncomputable def truS : CV → Prop
 | .str x => x.length ≤ sizeLine
 | .lst l => l.length ≤ sizeLine
 | _ => True
theorem CRels.len {D : Addr → Prop} {h : Heap} {vs : List Value} {l : List CV} (r : CRels D h vs l) : vs.length = l.length := r.all.len
theorem isEmpty_of_size {α β : Type} {vs : Array α} {l : List β} (h : vs.size = l.length) : vs.isEmpty = l.isEmpty := by
 show decide (vs.size = 0) = _
 rw [h]; cases l <;> rfl
theorem truB_ok {p : CV} {r : Bool} {v : Value} {D : Addr → Prop} {A : Around} {M : Program} {W : World} {E : Value → Shared → Prop} {s : Shared} {Q : Bool → Shared → Prop}
  (e : truB p = some r) (sd : truS p) (rv : CRel D s.heap v p) (hq : ∀ t, Q r { s with toks := t }) : wpAny (model M W) A (truthy v) Q E s := by
 have rv := rv.inv
 cases p with
 | none => obtain rfl := rv; exact wpAny_pure (Option.some.inj e ▸ hq s.toks)
 | bool b => obtain rfl := rv; exact wpAny_truthy_bool (Option.some.inj e ▸ hq s.toks)
 | int i => obtain ⟨t, rfl⟩ := rv; exact P.truthy_int (Option.some.inj e ▸ hq s.toks)
 | str x => obtain ⟨t, rfl⟩ := rv; exact P.truthy_str (by have := Nat.le_trans sd (Nat.le_of_eq sizeLine_eq); omega) (Option.some.inj e ▸ hq _)
 | lst l =>
  obtain ⟨a, vs, n, rfl, hl, _, q⟩ := rv
  have hn : vs.size = l.length := Array.length_toList.symm.trans q.len
  exact wpAny_truthy_list ⟨_, hl, rfl, n, rfl⟩ (by have := Nat.le_trans sd (Nat.le_of_eq sizeLine_eq); omega) (isEmpty_of_size hn ▸ Option.some.inj e ▸ hq _)
 | _ => exact xns e
inductive ValG (p : PV) (K : Bool → Prop) : Prop
 | mk (x : CV) (r : Bool) (a : p = .c x) (b : truB x = some r) (c : truS x) (k : K r)
theorem EvT.val {a : Expr} {Q : Bool → St → Prop} (h : EvE cx a st (fun p st₁ => ValG p fun r => Q r st₁) X)
  (he : PySem.isTrue a cx.env (eval a cx.env) = (do let v ← eval a cx.env; standAt a.pos; holding [v] (truthy v)) := by rfl) : EvT cx a st Q X := fun gh s R => by
 refine wpAny_isTrue_value (wpAny_mono (h gh s R) ?_ fun _ _ x => x) he
 rintro v s₁ ⟨p, st₁, g₁, R₁, T₁, S₁, r₁, x, r, rfl, e, sd, hq⟩
 replace r₁ := r₁.toC
 exact truB_ok e sd r₁ fun t => ⟨st₁, g₁, R₁.toks t, T₁, ⟨S₁.gens, S₁.drawn, S₁.os⟩, hq⟩
theorem EvE.ife {t a b : Expr} {pos : Pos} {Q : PV → St → Prop} (h : EvT cx t st (fun c st₁ => (c = true → EvE cx a st₁ Q X) ∧ (c = false → EvE cx b st₁ Q X)) X) : EvE cx (.IfExp t a b pos) st Q X := fun gh s R => by
 refine wpAny_IfExp (wpAny_mono (h gh s R) ?_ fun _ _ x => x)
 rintro c s₁ ⟨st₁, g₁, R₁, T₁, S₁, q1, q2⟩
 cases c with
 | true => exact wpAny_mono (q1 rfl g₁ s₁ R₁) (fun _ _ x => x.up T₁ S₁) fun _ _ x => x.up T₁ S₁
 | false => exact wpAny_mono (q2 rfl g₁ s₁ R₁) (fun _ _ x => x.up T₁ S₁) fun _ _ x => x.up T₁ S₁
end
section
variable {cx : Cx} {gh : Gh} {st : St} {s : Shared} {P : Addr → Prop} {h' : Heap}
theorem PRel.extD {D' : Addr → Prop} {U : Addr → Prop} {h : Heap} (x : Ext gh.D U h D' h') {v : Value} {p : PV} (r : PRel gh h v p) : PRel { gh with D := D' } h' v p := r.map (gh := gh) (gh' := { gh with D := D' }) x app_nil app_nil
theorem GRels.extD {D' : Addr → Prop} {U : Addr → Prop} {h : Heap} (x : Ext gh.D U h D' h') (k : ∀ b o, h.get? b = some o → h'.get? b = some o) {gs : List GA} {os : List GObj} (r : GRels gh h gs os) : GRels { gh with D := D' } h' gs os := r.map (gh := gh) (gh' := { gh with D := D' }) (fun _ _ r => r.ext x) (fun _ _ _ r => r.extD x) fun b _ => k b
theorem LRels.extD {D' : Addr → Prop} {U : Addr → Prop} {h : Heap} (x : Ext gh.D U h D' h') (k : ∀ b o, h.get? b = some o → h'.get? b = some o) {gs : List Addr} {os : List (List CV)} (r : LRels gh h gs os) : LRels { gh with D := D' } h' gs os := r.map (gh := gh) (gh' := { gh with D := D' }) (fun _ _ r => r.ext x) fun b _ => k b
theorem Chg.extDead (x : Chg (fun _ => False) s.heap h') (hP : ∀ b, P b → s.heap.objs.size ≤ b) : Ext gh.D (fun _ => False) s.heap (gh.dead P).D h' :=
 ⟨fun b o e _ => .inl (x.kept b o id e), fun b z => z.imp id (hP b), fun _ z => z.elim⟩
theorem Rel.alloc (R : Rel cx gh st s) (x : Chg (fun _ => False) s.heap h') (hP : ∀ b, P b → s.heap.objs.size ≤ b ∧ b < h'.objs.size) (tk : Nat) : Rel cx (gh.dead P) st { s with heap := h', toks := tk } := by
 have X : Ext gh.D (fun _ => False) s.heap (gh.dead P).D h' := x.extDead fun b z => (hP b z).1
 have k : ∀ b o, s.heap.get? b = some o → h'.get? b = some o := fun b o e => x.kept b o id e
 exact R.move (gh' := gh.dead P) ⟨fun b z => .inl (R.ok.UD b z)⟩ (fun b o e => k b o (R.base b o e)) (fun b z => z.elim (R.fresh b) fun z => R.freshNew (hP b z).1) (fun b z => z.elim (fun z => Nat.lt_of_lt_of_le (R.din b z) x.size) fun z => (hP b z).2) (fun _ u => u) (fun _ _ _ u _ _ => u) (fun _ d => .inl d) (fun b o _ e _ => ⟨o, k b o e, rfl⟩)
  (fun _ _ r => r.extD X) (fun _ _ r => r.ext X) (R.glob.extD X k) (R.loc.extD X k) R.muU R.apart
theorem Tr.alloc (x : Chg (fun _ => False) s.heap h') (hP : ∀ b, P b → s.heap.objs.size ≤ b) : Tr gh s.heap (gh.dead P) h' :=
 ⟨x.size, fun b o e _ => .inl (x.kept b o id e), fun _ z => .inl z, fun b z => z.imp id (hP b), fun _ z => .inl z, ⟨[], by simp [Gh.dead]⟩, ⟨[], by simp [Gh.dead]⟩⟩
noncomputable def Gh.newLoc (gh : Gh) (a : Addr) : Gh := { gh with D := fun b => gh.D b ∨ b = a, U := fun b => gh.U b ∨ b = a, la := gh.la ++ [a] }
noncomputable def Gh.newGlob (gh : Gh) (g : GA) : Gh := { gh with D := fun b => gh.D b ∨ b ∈ g.addrs, U := fun b => gh.U b ∨ b ∈ g.addrs, ga := gh.ga ++ [g] }
theorem PRel.moreLoc {U' : Addr → Prop} {a : Addr} {h : Heap} {v : Value} {p : PV} (r : PRel gh h v p) : PRel { gh with U := U', la := gh.la ++ [a] } h v p := r.map (gh := gh) (gh' := { gh with U := U', la := gh.la ++ [a] }) (.refl ..) app_nil ⟨_, rfl⟩
theorem PRel.moreGlob {U' : Addr → Prop} {g : GA} {h : Heap} {v : Value} {p : PV} (r : PRel gh h v p) : PRel { gh with U := U', ga := gh.ga ++ [g] } h v p := r.map (gh := gh) (gh' := { gh with U := U', ga := gh.ga ++ [g] }) (.refl ..) ⟨_, rfl⟩ app_nil
theorem LRels.snoc {h : Heap} {a : Addr} {l : List CV} (x : LRel gh h a l) {gs : List Addr} {os : List (List CV)} (r : LRels gh h gs os) : LRels gh h (gs ++ [a]) (os ++ [l]) := r.app (.cons x .nil)
theorem GRels.snoc {h : Heap} {a : GA} {l : GObj} (x : GRel gh h a l) {gs : List GA} {os : List GObj} (r : GRels gh h gs os) : GRels gh h (gs ++ [a]) (os ++ [l]) := r.app (.cons x .nil)
theorem GRels.moreLoc {U' : Addr → Prop} {a : Addr} {h : Heap} {gs : List GA} {os : List GObj} (r : GRels gh h gs os) : GRels { gh with U := U', la := gh.la ++ [a] } h gs os := r.map (gh := gh) (gh' := { gh with U := U', la := gh.la ++ [a] }) (fun _ _ r => r) (fun _ _ _ r => r.moreLoc) fun _ _ _ e => e
theorem GRels.moreGlob {U' : Addr → Prop} {g : GA} {h : Heap} {gs : List GA} {os : List GObj} (r : GRels gh h gs os) : GRels { gh with U := U', ga := gh.ga ++ [g] } h gs os := r.map (gh := gh) (gh' := { gh with U := U', ga := gh.ga ++ [g] }) (fun _ _ r => r) (fun _ _ _ r => r.moreGlob) fun _ _ _ e => e
theorem LRels.cast {gh' : Gh} (e : gh'.D = gh.D) {h : Heap} {gs : List Addr} {os : List (List CV)} (r : LRels gh h gs os) : LRels gh' h gs os := r.map (fun _ _ r => e ▸ r) fun _ _ _ e => e
theorem Rel.lstNo {b a : Addr} {o : Obj} {vs : Array Value} {n : Nat} (ha : s.heap.get? a = some (lstObj vs n)) (e : s.heap.get? b = some o) (q : dk o.data < 2) : b ≠ a := fun z => by
 obtain rfl := Option.some.inj (ha.symm.trans (z ▸ e))
 exact Nat.lt_irrefl 2 q
theorem Rel.curNo (R : Rel cx gh st s) {a : Addr} {vs : Array Value} {n : Nat} (ha : s.heap.get? a = some (lstObj vs n)) : cx.env.locals ≠ a := by
 obtain ⟨m, ⟨o, es, ep, h1, h2, _⟩, _⟩ := R.cur
 exact Rel.lstNo ha h1 (by rw [h2]; exact Nat.lt_succ_self 1)
theorem Rel.addLoc (R : Rel cx gh st s) {a : Addr} {vs : Array Value} {n : Nat} {l : List CV} (ha : s.heap.get? a = some (lstObj vs n)) (hD : gh.D a) (hm : a ∉ gh.mu) (r : CRels gh.D s.heap vs.toList l) :
  Rel cx { gh with U := fun b => gh.U b ∨ b = a, la := gh.la ++ [a] } { st with loc := st.loc ++ [l] } s := by
 have hmu : Gh.mu { gh with U := fun b => gh.U b ∨ b = a, la := gh.la ++ [a] } = gh.mu ++ [a] := (List.append_assoc ..).symm
 refine R.move (gh' := { gh with U := fun b => gh.U b ∨ b = a, la := gh.la ++ [a] }) ⟨fun b z => z.elim (R.ok.UD b) fun z => z ▸ hD⟩ R.base R.fresh R.din (fun _ => .inl) (fun b o _ u e q z => z.elim u (Rel.lstNo ha e q)) (fun _ d => d) (fun b o _ e _ => ⟨o, e, rfl⟩) (fun _ _ r => r.moreLoc) (fun _ _ r => r) R.glob.moreLoc
  (LRels.cast (gh := gh) (gh' := { gh with U := fun b => gh.U b ∨ b = a, la := gh.la ++ [a] }) rfl (R.loc.snoc ⟨vs, n, ha, r⟩)) (fun b hb => ?_) ?_
 ·rw [hmu] at hb
  exact (List.mem_append.mp hb).imp (R.muU b) List.mem_singleton.mp
 ·rw [hmu, ← List.cons_append]
  refine List.nodup_append.mpr ⟨R.apart, List.nodup_cons.mpr ⟨List.not_mem_nil, List.nodup_nil⟩, fun x hx y hy hxy => ?_⟩
  rw [List.mem_singleton.mp hy] at hxy
  exact (List.mem_cons.mp hx).elim (fun e => R.curNo ha (e.symm.trans hxy)) fun e => hm (hxy ▸ e)
theorem Rel.addGlobLst (R : Rel cx gh st s) {a : Addr} {vs : Array Value} {n : Nat} {l : List CV} (ha : s.heap.get? a = some (lstObj vs n)) (hD : gh.D a) (hm : a ∉ gh.mu) (r : CRels gh.D s.heap vs.toList l) :
  Rel cx { gh with U := fun b => gh.U b ∨ b = a, ga := gh.ga ++ [.l a] } { st with glob := st.glob ++ [.lst l] } s := by
 have hmem : ∀ b, b ∈ Gh.mu { gh with U := fun b => gh.U b ∨ b = a, ga := gh.ga ++ [.l a] } → b ∈ gh.mu ∨ b = a := by
  intro b hb
  simp only [Gh.mu, List.flatMap_append, List.flatMap_cons, List.flatMap_nil, GA.addrs, List.append_nil, List.mem_append, List.mem_singleton] at hb ⊢
  exact hb.elim (fun hb => hb.imp .inl id) fun hb => .inl (.inr hb)
 refine R.move (gh' := { gh with U := fun b => gh.U b ∨ b = a, ga := gh.ga ++ [.l a] }) ⟨fun b z => z.elim (R.ok.UD b) fun z => z ▸ hD⟩ R.base R.fresh R.din (fun _ => .inl) (fun b o _ u e q z => z.elim u (Rel.lstNo ha e q)) (fun _ d => d) (fun b o _ e _ => ⟨o, e, rfl⟩) (fun _ _ r => r.moreGlob) (fun _ _ r => r)
  (GRels.snoc (gh := { gh with U := fun b => gh.U b ∨ b = a, ga := gh.ga ++ [.l a] }) (.lst ha r) R.glob.moreGlob) (LRels.cast (gh := gh) (gh' := { gh with U := fun b => gh.U b ∨ b = a, ga := gh.ga ++ [.l a] }) rfl R.loc) (fun b hb => (hmem b hb).imp (R.muU b) id) ?_
 have hp : (cx.env.locals :: Gh.mu { gh with U := fun b => gh.U b ∨ b = a, ga := gh.ga ++ [.l a] }).Perm (a :: cx.env.locals :: gh.mu) := by
  refine List.Perm.trans (List.Perm.cons _ ?_) (List.Perm.swap ..)
  simp only [Gh.mu, List.flatMap_append, List.flatMap_cons, List.flatMap_nil, GA.addrs, List.append_nil, List.append_assoc, List.singleton_append]
  exact List.perm_middle
 exact (hp.nodup_iff).mpr (List.nodup_cons.mpr ⟨fun hx => (List.mem_cons.mp hx).elim (fun e => R.curNo ha e.symm) hm, R.apart⟩)
theorem Rel.muD (R : Rel cx gh st s) {b : Addr} (hb : b ∈ gh.mu) : gh.D b := R.ok.UD b (R.muU b hb)
theorem Rel.muLt (R : Rel cx gh st s) {b : Addr} (hb : b ∈ gh.mu) : b < s.heap.objs.size := R.din b (R.muD hb)
end
section
variable {cx : Cx} {gh : Gh} {st : St} {s : Shared} {h' : Heap}
theorem Rel.locals (R : Rel cx gh st s) (hs : Heap.SameBut cx.env.locals s.heap h') {fr' : List (Option PV)} (cur : Ext gh.D (· = cx.env.locals) s.heap gh.D h' → CurOk cx.env.locals cx.sc gh fr' h') (hf : ∀ (i : Nat) (x : Str), cx.sc[i]? = some (x, .cell) → ∀ q, fr'[i]? = some (some q) → st.fr[i]? = some (some q)) (tk : Nat) : Rel cx gh { st with fr := fr' } { s with heap := h', toks := tk } := by
 have hLD : gh.D cx.env.locals := R.ok.UD _ R.curU
 have X : Ext gh.D (· = cx.env.locals) s.heap gh.D h' := (Chg.same hs).ext fun a e => e ▸ hLD
 have cur := cur X
 obtain ⟨m0, ⟨oL, es, ep, eL, hdL, _⟩, _⟩ := R.cur
 have kc : ∀ b o v, s.heap.get? b = some o → o.data = .cell v → ∃ o', h'.get? b = some o' ∧ o'.data = o.data := fun b o v e hd => ⟨o, (hs.2 b fun z => by obtain rfl := Option.some.inj (eL.symm.trans (z ▸ e)); exact xdict hd rfl _ _ hdL).trans e, rfl⟩
 have nl : ∀ b, b ∈ gh.mu → b ≠ cx.env.locals := fun b hb e => (List.nodup_cons.mp R.apart).1 (e ▸ hb)
 refine ⟨R.ok, fun b o e => (hs.2 b fun z => xns ((R.fresh _ hLD).symm.trans (z ▸ e))).trans (R.base b o e), R.fresh, fun b z => hs.1.symm ▸ R.din b z, R.curU, cur, fun i y hy => (R.cells i y hy).map (hf i y hy) (fun _ u => u) kc (fun _ _ q => q.ext X), R.cellsA, fun i y p h1 h2 => (R.ups i y p h1 h2).map (fun _ _ _ _ u _ _ => u) (fun _ d => d) kc (fun _ _ q => q.ext X),
  R.glob.ext X (fun b hb ob e => (hs.2 b (nl b (List.mem_append_left _ hb))).trans e), R.loc.ext X (fun b hb ob e => (hs.2 b (nl b (List.mem_append_right _ hb))).trans e), R.muU, R.apart, fun e he => (R.frames e he).map (fun _ _ _ u _ _ => u) (fun _ d => d) fun b o _ e hd => ?_⟩
 by_cases hL : b = cx.env.locals
 ·obtain ⟨_, ⟨o', es', ep', e', hd', _⟩, _⟩ := cur
  exact ⟨o', hL ▸ e', es', ep', hd'⟩
 ·exact ⟨o, (hs.2 b hL).trans e, hd⟩
theorem set_at {α : Type} {l : List α} {i : Nat} {a q : α} (h : (l.set i a)[i]? = some q) : a = q := by
 rw [List.getElem?_set, if_pos rfl] at h
 split at h
 ·exact Option.some.inj h
 ·exact xns h
theorem set_off {α : Type} {l : List α} {i j : Nat} {a q : α} (hj : i ≠ j) (h : (l.set i a)[j]? = some q) : l[j]? = some q := List.getElem?_set_ne hj ▸ h
theorem kind_ne {sc : List (Str × NameKind)} {i j : Nat} {x y : Str} (h : sc[i]? = some (x, .local)) (h' : sc[j]? = some (y, .cell)) : i ≠ j := fun e => NameKind.noConfusion (congrArg Prod.snd (Option.some.inj (h.symm.trans (e ▸ h'))))
theorem Rel.setLocal (C : cx.Ok) (R : Rel cx gh st s) {i : Nat} {x : Str} {v : Value} {p : PV} (hx : cx.sc[i]? = some (x, .local)) (r : PRel gh s.heap v p) (hs : Heap.SameBut cx.env.locals s.heap h')
  {m : Str → Option Value} (hm : ∀ (i : Nat) (x : Str) (p : PV), cx.sc[i]? = some (x, .local) → st.fr[i]? = some (some p) → ∃ v, m x = some v ∧ PRel gh s.heap v p) (hn : h'.Ns cx.env.locals (fun y => if y = x then some v else m y)) (tk : Nat) :
  Rel cx gh { st with fr := st.fr.set i (some p) } { s with heap := h', toks := tk } := by
 refine R.locals hs (fun X => ⟨_, hn, fun j y q h1 h2 => ?_⟩) (fun j y hy q h => set_off (kind_ne hx hy) h) tk
 by_cases hj : i = j
 ·subst hj
  have e : x = y := congrArg Prod.fst (Option.some.inj (hx.symm.trans h1))
  exact ⟨v, if_pos e.symm, Option.some.inj (set_at h2) ▸ r.ext X⟩
 ·exact (hm j y q h1 (set_off hj h2)).imp fun u k => ⟨(if_neg fun e => hj (C.sci i j _ _ _ hx (e ▸ h1))).trans k.1, k.2.ext X⟩
theorem Rel.setCell (C : cx.Ok) (R : Rel cx gh st s) {i : Nat} {x : Str} {c : Addr} {v : Value} {p : PV} (hx : cx.sc[i]? = some (x, .cell)) (hc : cx.env.cells.lookup x = some c) (r : PRel gh s.heap v p) (hs : Heap.SameBut c s.heap h')
  (hn : h'.IsCell c (some v)) (tk : Nat) : Rel cx gh { st with fr := st.fr.set i (some p) } { s with heap := h', toks := tk } := by
 obtain ⟨c', vo, hc', hcU, ⟨oC, eC, hdC⟩, hval⟩ := R.cells i x hx
 obtain rfl := Option.some.inj (hc.symm.trans hc')
 have hLD : gh.D c := R.ok.UD _ hcU
 have X : Ext gh.D (· = c) s.heap gh.D h' := (Chg.same hs).ext fun a e => e ▸ hLD
 have keep : ∀ {b : Addr} {o : Obj}, s.heap.get? b = some o → (∀ v, o.data ≠ .cell v) → h'.get? b = some o := fun {b o} e hne => (hs.2 b fun z => by obtain rfl := Option.some.inj (eC.symm.trans (z ▸ e)); exact hne _ hdC).trans e
 have kd : ∀ {b : Addr} {o : Obj}, s.heap.get? b = some o → isDict o → h'.get? b = some o := fun e k => keep e (k.elim fun _ k => k.elim fun _ k => xcell k rfl)
 have pe : ∀ v p, PRel gh s.heap v p → PRel gh h' v p := fun _ _ q => q.ext X
 refine ⟨R.ok, fun b o e => (hs.2 b fun z => xns ((R.fresh _ hLD).symm.trans (z ▸ e))).trans (R.base b o e), R.fresh, fun b z => hs.1.symm ▸ R.din b z, R.curU, R.cur.map (fun j y q h1 => set_off (kind_ne h1 hx).symm) (fun o e _ => ?_) pe, fun j y hy => ?_, R.cellsA, fun i y p h1 h2 => ?_,
  R.glob.ext X (fun b hb o e => keep e (R.glob.ncell b hb o e)), R.loc.ext X (fun b hb o e => keep e (R.loc.ncell b hb o e)), R.muU, R.apart, fun e he => (R.frames e he).map (fun _ _ _ u _ _ => u) (fun _ d => d) fun b o _ e hd => ⟨o, kd e hd, hd⟩⟩
 ·obtain ⟨m, ⟨oL, es, ep, eL, hd, _⟩, _⟩ := R.cur
  obtain rfl := Option.some.inj (eL.symm.trans e)
  exact ⟨_, kd e ⟨es, ep, hd⟩, rfl⟩
 ·by_cases hj : i = j
  ·subst hj
   have e : x = y := congrArg Prod.fst (Option.some.inj (hx.symm.trans hy))
   exact ⟨c, some v, e ▸ hc, hcU, hn, fun q hq => ⟨v, rfl, Option.some.inj (set_at hq) ▸ r.ext X⟩⟩
  ·obtain ⟨c', vo', h1, h2, ⟨o, e, hd⟩, h4⟩ := R.cells j y hy
   exact ⟨c', vo', h1, h2, ⟨o, (hs.2 c' fun z => hj (R.cellsA i j x y _ hx hy hc (z ▸ h1))).trans e, hd⟩, fun q hq => (h4 q (set_off hj hq)).imp fun u k => ⟨k.1, k.2.ext X⟩⟩
 ·obtain ⟨c', u, e1, e2, e3, ⟨o, e, hd⟩, e5⟩ := R.ups i y p h1 h2
  exact ⟨c', u, e1, e2, e3, ⟨o, (hs.2 c' fun z => e2 (z ▸ hcU)).trans e, hd⟩, e5.ext X⟩
theorem Rel.trSet (R : Rel cx gh st s) {a : Addr} (ha : gh.U a) (hs : Heap.SameBut a s.heap h') : Tr gh s.heap gh h' :=
 (Tr.refl gh s.heap).chg (Chg.same hs) fun b e => .inr (e ▸ ha)
variable {X : XV → St → Prop}
theorem storeName_ok (C : cx.Ok) {i : Nat} {x : Str} {k : NameKind} {p : PV} {v : Value} {Q : St → Prop} (hx : cx.sc[i]? = some (x, k)) (hk : k = .local ∨ k = .cell) (R : Rel cx gh st s) (r : PRel gh s.heap v p)
  (h : Q { st with fr := st.fr.set i (some p) }) {E : Value → Shared → Prop} : wpAny cx.M cx.A (storeName cx.env x v) (PostU cx gh s Q) E s := by
 obtain ⟨hkd, hdb⟩ := C.sck i x k hx
 rcases hk with rfl | rfl
 ·obtain ⟨m, hn, hm⟩ := R.cur
  refine wpAny_storeName_local hkd hn (fun h' hn' hs => ?_) (by rw [C.fn]; rfl)
  exact ⟨_, gh, R.setLocal C hx r hs hm hn' _, R.trSet R.curU hs, ⟨rfl, rfl, rfl⟩, h⟩
 ·obtain ⟨c, vo, hc, hcU, hcell, hval⟩ := R.cells i x hx
  refine wpAny_storeName_cell C.fn hkd hc hcell fun h' hn' hs => ?_
  exact ⟨_, gh, R.setCell C hx hc r hs hn' s.toks, R.trSet hcU hs, ⟨rfl, rfl, rfl⟩, h⟩
theorem AsG.name (C : cx.Ok) {i : Nat} {x : Str} {k : NameKind} {pos : Pos} {p : PV} {Q : St → Prop} (hx : cx.sc[i]? = some (x, k)) (hk : k = .local ∨ k = .cell) (h : Q { st with fr := st.fr.set i (some p) }) :
  AsG cx (.Name x pos) p st Q X := fun _ _ _ R r => wpAny_assign_Name (storeName_ok C hx hk R r h)
theorem ExB.nil {Q : Fl → St → Prop} (h : Q .next st) : ExB cx [] st Q X := fun gh s R => wpAny_execs_nil ⟨.next, st, gh, R, .refl .., .refl _, .next, h⟩
theorem ExB.cons {b : Stmt} {bs : List Stmt} {Q : Fl → St → Prop} (h : ExS cx b st (fun f st₁ => match f with | .next => ExB cx bs st₁ Q X | f => Q f st₁) X) : ExB cx (b :: bs) st Q X := fun gh s R => by
 refine wpAny_execs_cons (wpAny_mono (h gh s R) ?_ fun _ _ x => x)
 rintro f s₁ ⟨g, st₁, g₁, R₁, T₁, S₁, r₁, q₁⟩
 cases r₁ with
 | next => exact wpAny_mono (q₁ g₁ s₁ R₁) (fun _ _ x => x.up T₁ S₁) fun _ _ x => x.up T₁ S₁
 | brk => exact ⟨.brk, st₁, g₁, R₁, T₁, S₁, .brk, q₁⟩
 | cont => exact ⟨.cont, st₁, g₁, R₁, T₁, S₁, .cont, q₁⟩
 | ret r => exact ⟨.ret _, st₁, g₁, R₁, T₁, S₁, .ret r, q₁⟩
theorem ExS.ret {e : Expr} {pos : Pos} {Q : Fl → St → Prop} (h : EvE cx e st (fun p => Q (.ret p)) X) : ExS cx (.Return (some e) pos) st Q X := fun gh s R =>
 wpAny_Return_some (wpAny_mono (h gh s R) (fun _ _ ⟨p, st₁, g₁, R₁, T₁, S₁, r₁, q⟩ => ⟨.ret p, st₁, g₁, R₁, T₁, S₁, .ret r₁, q⟩) fun _ _ x => x)
theorem ExS.brk {pos : Pos} {Q : Fl → St → Prop} (h : Q .brk st) : ExS cx (.Break pos) st Q X := fun gh s R => wpAny_Break ⟨.brk, st, gh, R, .refl .., .refl _, .brk, h⟩
theorem ExS.ite {t : Expr} {a b : List Stmt} {pos : Pos} {Q : Fl → St → Prop} (h : EvT cx t st (fun c st₁ => (c = true → ExB cx a st₁ Q X) ∧ (c = false → ExB cx b st₁ Q X)) X) : ExS cx (.If t a b pos) st Q X := fun gh s R => by
 refine wpAny_If (wpAny_mono (h gh s R) ?_ fun _ _ x => x)
 rintro c s₁ ⟨st₁, g₁, R₁, T₁, S₁, q1, q2⟩
 cases c with
 | true => exact wpAny_mono (q1 rfl g₁ s₁ R₁) (fun _ _ x => x.up T₁ S₁) fun _ _ x => x.up T₁ S₁
 | false => exact wpAny_mono (q2 rfl g₁ s₁ R₁) (fun _ _ x => x.up T₁ S₁) fun _ _ x => x.up T₁ S₁
theorem ExS.asgName (C : cx.Ok) {i : Nat} {x : Str} {k : NameKind} {p' pos : Pos} {e : Expr} {Q : Fl → St → Prop} (hx : cx.sc[i]? = some (x, k)) (hk : k = .local ∨ k = .cell)
  (h : EvE cx e st (fun p st₁ => Q .next { st₁ with fr := st₁.fr.set i (some p) }) X) (hs : swapsWith e (some (.Name x p')) pos.line cx.env = pure false) : ExS cx (.Assign [.Name x p'] e pos) st Q X := fun gh s R => by
 refine wpAny_Assign_Name (wpAny_mono (h gh s R) ?_ fun _ _ x => x) hs
 rintro v s₁ ⟨p, st₁, g₁, R₁, T₁, S₁, r₁, q₁⟩
 refine wpAny_mono (storeName_ok C hx hk R₁ r₁ (Q := fun st => Q .next st) q₁) ?_ fun _ _ x => x
 rintro _ s₂ ⟨st₂, g₂, R₂, T₂, S₂, q₂⟩
 exact ⟨.next, st₂, g₂, R₂, T₁.trans T₂, S₁.trans S₂, .next, q₂⟩
theorem ExS.aug (C : cx.Ok) {i : Nat} {x : Str} {p' pos : Pos} {e : Expr} {op : Operator} {Q : Fl → St → Prop} {a : Int} (hx : cx.sc[i]? = some (x, .local)) (hp : st.fr[i]? = some (some (.c (.int a))))
  (h : EvE cx e st (fun p st₁ => ∃ b, p = .c (.int b) ∧ ((op = .Add ∧ Q .next { st₁ with fr := st₁.fr.set i (some (.c (.int (a + b)))) }) ∨ (op = .Sub ∧ Q .next { st₁ with fr := st₁.fr.set i (some (.c (.int (a - b)))) }))) X) :
  ExS cx (.AugAssign (.Name x p') op e pos) st Q X := fun gh s R => by
 obtain ⟨hkd, hdb⟩ := C.sck i x _ hx
 obtain ⟨m, hn, hm⟩ := R.cur
 obtain ⟨v, hv, r⟩ := hm i x _ hx hp
 replace r := r.toC; replace r := r.inv; obtain ⟨t, rfl⟩ := r
 refine wpAny_AugAssign_Name (wpAny_loadName_local C.fn hkd hn hv (wpAny_mono (h gh s R) ?_ fun _ _ x => x))
 rintro w s₁ ⟨q, st₁, g₁, R₁, T₁, S₁, r₁, b, rfl, hq⟩
 replace r₁ := r₁.toC; replace r₁ := r₁.inv; obtain ⟨u, rfl⟩ := r₁
 have fin : ∀ (z : Int), Q .next { st₁ with fr := st₁.fr.set i (some (.c (.int z))) } →
   wpAny cx.M cx.A (storeName cx.env x (.int z s₁.toks)) (fun _ => PostF cx gh s Q .next) (PostX cx gh s X) { s₁ with toks := s₁.toks + 1 } := fun z hz => by
  refine wpAny_mono (storeName_ok C hx (.inl rfl) (R₁.toks _) (.c (.int z _)) (Q := fun st => Q .next st) hz) ?_ fun _ _ x => x
  rintro _ s₂ ⟨st₂, g₂, R₂, T₂, S₂, q₂⟩
  exact ⟨.next, st₂, g₂, R₂, T₁.trans T₂, S₁.trans ⟨S₂.gens, S₂.drawn, S₂.os⟩, .next, q₂⟩
 rcases hq with ⟨rfl, hq⟩ | ⟨rfl, hq⟩
 ·exact wpAny_iadd_int (fin _ hq)
 ·exact PyProof.Rows.isub_int (fin _ hq)
theorem ExS.expr {e : Expr} {pos : Pos} {Q : Fl → St → Prop} (h : EvE cx e st (fun _ st₁ => Q .next st₁) X) (hi : interactive cx.env = false) (hs : swapsWith e none pos.line cx.env = pure false) : ExS cx (.Expr e pos) st Q X := fun gh s R =>
 wpAny_Expr_any (wpAny_mono (h gh s R) (fun _ _ ⟨_, st₁, g₁, R₁, T₁, S₁, _, q⟩ => ⟨.next, st₁, g₁, R₁, T₁, S₁, .next, q⟩) fun _ _ x => x) hi hs
end
theorem runs_size {M : Model} {Γ : Ctx} {p : Pos} {t : Sem Fin} {fs : List Frame} {s s' : Shared} {e : End} (h : Runs M Γ p t fs s e s') : s.heap.objs.size ≤ s'.heap.objs.size := by
 induction h <;> (try simp only [Shared.setGen, Heap.size_push, Heap.size_after_update] at *) <;> omega
theorem wakes_size {M : Model} {Γ : Ctx} {p : Pos} {g : Nat} {r : Resume} {s s' : Shared} {res : GenResult} (h : Wakes M Γ p g r s res s') : s.heap.objs.size ≤ s'.heap.objs.size := by
 unfold Wakes at h
 split at h
 ·exact h.elim
 ·split at h
  ·obtain ⟨e₁, s₁, hr, _, _, rfl⟩ := h; exact (runs_size hr : (s.setGen g .running).heap.objs.size ≤ s₁.heap.objs.size)
  ·rw [h.2]; exact Nat.le_refl _
  ·rw [h.2]; exact Nat.le_refl _
 ·obtain ⟨e₁, s₁, hr, _, _, rfl⟩ := h; exact (runs_size hr : (s.setGen g .running).heap.objs.size ≤ s₁.heap.objs.size)
 ·rw [h.2]; exact Nat.le_refl _
 ·rw [h.2]; exact Nat.le_refl _
theorem wp_size {α : Type} (M : Model) (Γ : Ctx) (n : Nat) (t : Sem α) : ∀ (Q : α → Pos → Shared → Prop) (E : Value → Pos → Shared → Prop) (p : Pos) (s : Shared), n ≤ s.heap.objs.size → Sem.wp M Γ t Q E p s →
  Sem.wp M Γ t (fun a p' s' => n ≤ s'.heap.objs.size ∧ Q a p' s') (fun e p' s' => n ≤ s'.heap.objs.size ∧ E e p' s') p s := by
 induction t with
 | pure a => intro Q E p s hn h; exact ⟨hn, h⟩
 | raise e => intro Q E p s hn h; exact ⟨hn, h⟩
 | unsupported _ => intro Q E p s _ h; exact h
 | finish _ => intro Q E p s _ h; exact h
 | rule _ k ih => intro Q E p s hn h; exact ih () Q E p s hn h
 | «at» p' k ih => intro Q E p s hn h; exact ih () Q E p' s hn h
 | load a _ k ih => intro Q E p s hn h; obtain ⟨o, ho, h⟩ := h; exact ⟨o, ho, ih o Q E p s hn h⟩
 | update a _ f k ih => intro Q E p s hn h; exact ⟨h.1, ih () Q E p _ (by rw [Heap.size_after_update]; exact hn) h.2⟩
 | loadIfAlive a k ih => intro Q E p s hn h; exact ih _ Q E p s hn h
 | point _ k ih => intro Q E p s hn h; exact ih () Q E p s hn h
 | register _ _ => intro Q E p s _ h; exact h
 | alloc o k ih => intro Q E p s hn h; exact ih _ Q E p _ (by rw [Heap.size_push]; exact Nat.le_succ_of_le hn) h
 | fresh k ih => intro Q E p s hn h; exact ih _ Q E p _ hn h
 | ask k ih => intro Q E p s hn h; exact ih _ Q E p s hn h
 | choose src m k ih => intro Q E p s hn h; exact ⟨h.1, ih _ Q E p _ hn h.2⟩
 | os q _ k ih => intro Q E p s hn h; exact ih _ Q E p _ hn h
 | call c hd _ _ k ih => intro Q E p s hn h; obtain ⟨r, s', hr, h⟩ := h; exact ⟨r, s', hr, ih r Q E p s' (Nat.le_trans hn (runs_size hr)) h⟩
 | handled own k ih => intro Q E p s hn h; exact ih _ Q E p s hn h
 | genState g k ih => intro Q E p s hn h; obtain ⟨st, hs, h⟩ := h; exact ⟨st, hs, ih _ Q E p s hn h⟩
 | newGen c k ih => intro Q E p s hn h; exact ih _ Q E p _ hn h
 | resume g r _ k ih => intro Q E p s hn h; obtain ⟨res, s', hw, h⟩ := h; exact ⟨res, s', hw, ih res Q E p s' (Nat.le_trans hn (wakes_size hw)) h⟩
 | yield _ _ _ _ => intro Q E p s _ h; exact h
 | stack k ih => intro Q E p s hn h; exact ih _ Q E p s hn h
 | fork _ _ => intro Q E p s _ h; exact h
 | thread k ih => intro Q E p s hn h; exact ih _ Q E p s hn h
 | await _ _ _ _ _ => intro Q E p s _ h; exact h
theorem wpAny_sized {α : Type} {M : Model} {A : Around} {s : Shared} {t : Sem α} {Q : α → Shared → Prop} {E : Value → Shared → Prop}
  (h : wpAny M A t (fun a s' => s.heap.objs.size ≤ s'.heap.objs.size → Q a s') (fun e s' => s.heap.objs.size ≤ s'.heap.objs.size → E e s') s) : wpAny M A t Q E s :=
 wpAny_mono (Q := fun a s' => s.heap.objs.size ≤ s'.heap.objs.size ∧ (s.heap.objs.size ≤ s'.heap.objs.size → Q a s')) (E := fun e s' => s.heap.objs.size ≤ s'.heap.objs.size ∧ (s.heap.objs.size ≤ s'.heap.objs.size → E e s'))
  (fun Γ p hΓ => wp_size M Γ s.heap.objs.size t _ _ p s (Nat.le_refl _) (h Γ p hΓ)) (fun _ _ x => x.2 x.1) (fun _ _ x => x.2 x.1)
theorem Chg.extBut {a : Addr} {h h' : Heap} (x : Heap.ExtBut a h h') (hz : h.objs.size ≤ h'.objs.size) : Chg (· = a) h h' := ⟨hz, fun b o hb e => x b o hb e⟩
theorem Chg.extNew {a : Addr} {h h' : Heap} (x : Heap.ExtBut a h h') (hz : h.objs.size ≤ h'.objs.size) (ha : h.objs.size ≤ a) : Chg (fun _ => False) h h' :=
 ⟨hz, fun b o _ e => x b o (by rintro rfl; exact absurd (Heap.lt_size e) (Nat.not_lt.mpr ha)) e⟩
section
variable {cx : Cx} {gh : Gh} {st : St} {s : Shared} {h' : Heap} {X : XV → St → Prop}
theorem PRels.cs {h : Heap} {vs : List Value} {l : List CV} (r : PRels gh h vs (l.map .c)) : CRels gh.D h vs l := by
 induction l generalizing vs with
 | nil => obtain rfl := r.inv; exact .nil
 | cons x l ih => obtain ⟨v, ws, rfl, a, b⟩ := r.inv; exact .cons a.toC (ih b)
theorem Rel.notD (R : Rel cx gh st s) : ¬ gh.D s.heap.objs.size := fun z => Nat.lt_irrefl _ (R.din _ z)
theorem CRels.push {D : Addr → Prop} {h : Heap} {vs : List Value} {l : List CV} (r : CRels D h vs l) (o : Obj) : CRels D (h.push o) vs l :=
 r.ext (D := D) (U := fun _ => False) ⟨fun b ob e _ => .inl (Heap.get?_push_of_some o e), fun _ z => .inl z, fun _ z => z.elim⟩
theorem CRel.push {D : Addr → Prop} {h : Heap} {v : Value} {y : CV} (r : CRel D h v y) (o : Obj) : CRel D (h.push o) v y :=
 r.ext (D := D) (U := fun _ => False) ⟨fun b ob e _ => .inl (Heap.get?_push_of_some o e), fun _ z => .inl z, fun _ z => z.elim⟩
theorem newTup_ok (R : Rel cx gh st s) {vs : List Value} {l : List CV} (r : CRels gh.D s.heap vs l) {Q : PV → St → Prop} (h : Q (.c (.tup l)) st) (n : Nat) :
  PostV cx gh s Q (.ref s.heap.objs.size) { s with heap := s.heap.push { cls := .type "tuple", data := .seq vs.toArray n } } :=
 ⟨_, st, gh, R.newObj _, Tr.newObj .., ⟨rfl, rfl, rfl⟩, .c (.tup (isTup_new ..) R.notD (r.push _)), h⟩
theorem newLst_ok (R : Rel cx gh st s) {vs : List Value} {l : List CV} (r : CRels gh.D s.heap vs l) {Q : PV → St → Prop} (h : Q (.c (.lst l)) st) (n : Nat) :
  PostV cx gh s Q (.ref s.heap.objs.size) { s with heap := s.heap.push (lstObj vs.toArray n) } :=
 ⟨_, st, gh, R.newObj _, Tr.newObj .., ⟨rfl, rfl, rfl⟩, .c (.lst (vs := vs.toArray) (n := n) (Heap.get?_push_size _ rfl) R.notD (r.push _)), h⟩
theorem newLoc_ok (R : Rel cx gh st s) {vs : List Value} {l : List CV} (r : CRels gh.D s.heap vs l) {Q : PV → St → Prop} (h : Q (.loc st.loc.length) { st with loc := st.loc ++ [l] }) (n : Nat) :
  PostV cx gh s Q (.ref s.heap.objs.size) { s with heap := s.heap.push (lstObj vs.toArray n) } := by
 have hx := Chg.push s.heap (lstObj vs.toArray n)
 have hP : ∀ b, b = s.heap.objs.size → s.heap.objs.size ≤ b ∧ b < (s.heap.push (lstObj vs.toArray n)).objs.size := fun b e => by rw [Heap.size_push]; omega
 have R₁ := R.alloc hx hP s.toks
 have hn : s.heap.objs.size ∉ gh.mu := fun z => R.notD (R.muD z)
 have R₂ := R₁.addLoc (a := s.heap.objs.size) (vs := vs.toArray) (n := n) (l := l) (Heap.get?_push_size _ rfl) (.inr rfl) hn
  (r.ext (hx.extDead fun b z => (hP b z).1))
 have hlen := R.loc.len
 refine ⟨_, _, _, R₂, ?_, ⟨rfl, rfl, rfl⟩, .loc ?_, h⟩
 ·refine ⟨hx.size, fun b o e _ => .inl (hx.kept b o id e), fun b z => ?_, fun b z => ?_, fun _ z => .inl z, ⟨[], by simp [Gh.dead]⟩, ⟨_, rfl⟩⟩
  ·rcases z with z | rfl
   ·exact .inl z
   ·exact .inr (Nat.le_refl _)
  ·rcases z with z | rfl
   ·exact .inl z
   ·exact .inr (Nat.le_refl _)
 ·show (gh.la ++ [s.heap.objs.size])[st.loc.length]? = some s.heap.objs.size
  rw [← hlen, List.getElem?_append_right (Nat.le_refl _), Nat.sub_self]; rfl
theorem newGlobLst_ok (R : Rel cx gh st s) {vs : List Value} {l : List CV} (r : CRels gh.D s.heap vs l) {Q : PV → St → Prop} (h : Q (.obj st.glob.length) { st with glob := st.glob ++ [.lst l] }) (n : Nat) :
  PostV cx gh s Q (.ref s.heap.objs.size) { s with heap := s.heap.push (lstObj vs.toArray n) } := by
 have hx := Chg.push s.heap (lstObj vs.toArray n)
 have hP : ∀ b, b = s.heap.objs.size → s.heap.objs.size ≤ b ∧ b < (s.heap.push (lstObj vs.toArray n)).objs.size := fun b e => by rw [Heap.size_push]; omega
 have R₁ := R.alloc hx hP s.toks
 have hn : s.heap.objs.size ∉ gh.mu := fun z => R.notD (R.muD z)
 have R₂ := R₁.addGlobLst (a := s.heap.objs.size) (vs := vs.toArray) (n := n) (l := l) (Heap.get?_push_size _ rfl) (.inr rfl) hn
  (r.ext (hx.extDead fun b z => (hP b z).1))
 have hlen := R.glob.len
 refine ⟨_, _, _, R₂, ?_, ⟨rfl, rfl, rfl⟩, .obj (g := .l s.heap.objs.size) ?_, h⟩
 ·refine ⟨hx.size, fun b o e _ => .inl (hx.kept b o id e), fun b z => ?_, fun b z => ?_, fun _ z => .inl z, ⟨_, rfl⟩, ⟨[], by simp [Gh.dead]⟩⟩
  ·rcases z with z | rfl
   ·exact .inl z
   ·exact .inr (Nat.le_refl _)
  ·rcases z with z | rfl
   ·exact .inl z
   ·exact .inr (Nat.le_refl _)
 ·show (gh.ga ++ [GA.l s.heap.objs.size])[st.glob.length]? = some _
  rw [← hlen, List.getElem?_append_right (Nat.le_refl _), Nat.sub_self]; rfl
inductive SeqG (ps : List PV) (K : List CV → Prop) : Prop
 | mk (l : List CV) (a : ps = l.map .c) (b : l.length ≤ 1000) (k : K l)
theorem EvE.tup {es : List Expr} {k : Nat} {pos : Pos} {Q : PV → St → Prop} (h : EvL cx es st (fun ps st₁ => SeqG ps fun l => Q (.c (.tup l)) st₁) X) : EvE cx (.Tuple es k pos) st Q X := fun gh s R => by
 refine wpAny_Tuple_spliced (wpAny_mono (h pos gh s R) ?_ fun _ _ x => x)
 rintro vs s₁ ⟨ps, st₁, g₁, R₁, T₁, S₁, r₁, l, rfl, hl, hq⟩
 have rc := r₁.cs
 exact ⟨by rw [rc.len, sizeLine_eq]; omega, (newTup_ok R₁ rc hq 0).up T₁ S₁⟩
theorem EvE.lst {es : List Expr} {pos : Pos} {Q : PV → St → Prop} (h : EvL cx es st (fun ps st₁ => SeqG ps fun l => Q (.c (.lst l)) st₁) X) : EvE cx (.List es pos) st Q X := fun gh s R => by
 refine wpAny_List_spliced (wpAny_mono (h pos gh s R) ?_ fun _ _ x => x)
 rintro vs s₁ ⟨ps, st₁, g₁, R₁, T₁, S₁, r₁, l, rfl, hl, hq⟩
 have rc := r₁.cs
 exact ⟨by rw [rc.len, sizeLine_eq]; omega, (newLst_ok R₁ rc hq 0).up T₁ S₁⟩
theorem EvE.lstLoc {es : List Expr} {pos : Pos} {Q : PV → St → Prop} (h : EvL cx es st (fun ps st₁ => SeqG ps fun l => Q (.loc st₁.loc.length) { st₁ with loc := st₁.loc ++ [l] }) X) : EvE cx (.List es pos) st Q X := fun gh s R => by
 refine wpAny_List_spliced (wpAny_mono (h pos gh s R) ?_ fun _ _ x => x)
 rintro vs s₁ ⟨ps, st₁, g₁, R₁, T₁, S₁, r₁, l, rfl, hl, hq⟩
 have rc := r₁.cs
 exact ⟨by rw [rc.len, sizeLine_eq]; omega, (newLoc_ok R₁ rc hq 0).up T₁ S₁⟩
noncomputable def AsGL (cx : Cx) : List Expr → List CV → St → (St → Prop) → (XV → St → Prop) → Prop
 | [], [], st, Q, _ => Q st
 | e :: es, x :: l, st, Q, X => AsG cx e (.c x) st (fun st' => AsGL cx es l st' Q X) X
 | _, _, _, _, _ => False
theorem assignInOrder_ok {Q : St → Prop} : ∀ {es : List Expr} {l : List CV} {ts : List (Value → Sem Unit)} {vs : List Value} {gh : Gh} {st : St} {s : Shared}, ts = es.map (fun e => assign e cx.env) → AsGL cx es l st Q X → Rel cx gh st s → CRels gh.D s.heap vs l →
  wpAny cx.M cx.A (assignInOrder ts vs) (PostU cx gh s Q) (PostX cx gh s X) s
 | [], [], _, _, gh, st, s, e, h, R, r => by
  replace r := r.inv; obtain rfl := r; subst e
  exact wpAny_assignInOrder_none ⟨st, gh, R, .refl .., .refl _, h⟩
 | [], _ :: _, _, _, _, _, _, _, h, _, _ => h.elim
 | _ :: _, [], _, _, _, _, _, _, h, _, _ => h.elim
 | e :: es, x :: l, _, _, gh, st, s, eq, h, R, r => by
  replace r := r.inv; obtain ⟨_, _, rfl, a, b⟩ := r
  subst eq
  refine wpAny_assignInOrder_more (wpAny_mono (h gh s _ R (.c a)) ?_ fun _ _ x => x)
  rintro _ s₁ ⟨st₁, g₁, R₁, T₁, S₁, q₁⟩
  exact wpAny_mono (assignInOrder_ok rfl q₁ R₁ (b.ext (T₁.ext R.ok))) (fun _ _ x => x.up T₁ S₁) fun _ _ x => x.up T₁ S₁
theorem unpack_ok (C : cx.Ok) (hn : cx.hn = true) {t : Addr} {vs : Array Value} {n : Nat} (ht : IsTup s.heap t vs) (hz : n = vs.size) {E : Value → Shared → Prop} :
  wpAny cx.M cx.A (unpackItems (.ref t) n none) (fun items s' => items = vs.toList ∧ ∃ h', s' = { s with heap := h' } ∧ Chg (fun _ => False) s.heap h') E s := by
 subst hz
 exact wpAny_sized (wpAny_unpackItems_tuple (C.hn hn) ht fun h' hx hz => ⟨rfl, h', rfl, Chg.extNew hx hz (Nat.le_refl _)⟩)
theorem AsG.tup (C : cx.Ok) (hn : cx.hn = true) {es : List Expr} {k : Nat} {pos : Pos} {l : List CV} {Q : St → Prop} (h : AsGL cx es l st Q X) (hlen : es.length = l.length)
  (he : ∀ env, (assignEach es env) = es.map fun e => (false, assign e env) := by intro _; rfl) : AsG cx (.Tuple es k pos) (.c (.tup l)) st Q X := fun gh s v R r => by
 replace r := r.toC; replace r := r.inv; obtain ⟨a, vs, rfl, t, hd, r⟩ := r
 have hvs : vs.size = l.length := Array.length_toList.symm.trans r.len
 rw [arm_assign_Tuple]
 refine wpAny_bind (wpAny_standAt ?_)
 unfold unpack
 have h1 : (assignEach es cx.env).length = vs.size := by rw [he, List.length_map, hvs, hlen]
 have h2 : (assignEach es cx.env).findIdx? (·.1) = none := by
  rw [he, List.findIdx?_eq_none_iff]
  intro x hx
  obtain ⟨e, _, rfl⟩ := List.mem_map.mp hx
  rfl
 have hts : ((assignEach es cx.env).map (·.2)) = es.map (fun e => assign e cx.env) := by rw [he, List.map_map]; rfl
 rw [h2, hts]
 refine wpAny_bind (wpAny_holding (wpAny_mono (unpack_ok C hn t h1) ?_ fun _ _ x => x))
 rintro items s₁ ⟨rfl, h', rfl, hx⟩
 have R₁ := R.grow hx s.toks
 have T₁ : Tr gh s.heap gh h' := (Tr.refl ..).chg hx fun _ z => z.elim
 exact wpAny_mono (assignInOrder_ok rfl h R₁ (r.ext (T₁.ext R.ok))) (fun _ _ x => x.up (s₁ := { s with heap := h' }) T₁ ⟨rfl, rfl, rfl⟩) fun _ _ x => x.up (s₁ := { s with heap := h' }) T₁ ⟨rfl, rfl, rfl⟩
theorem ExS.asgTup {es : List Expr} {k : Nat} {tp pos : Pos} {e : Expr} {Q : Fl → St → Prop} (h : EvE cx e st (fun p st₁ => AsG cx (.Tuple es k tp) p st₁ (fun st₂ => Q .next st₂) X) X)
  (hs : swapsWithSole [.Tuple es k tp] e pos.line cx.env = pure false) (hw : swappedStores [.Tuple es k tp] e cx.env = pure none) : ExS cx (.Assign [.Tuple es k tp] e pos) st Q X := fun gh s R => by
 refine Assign_Tuple (wpAny_mono (h gh s R) ?_ fun _ _ x => x) hs hw
 rintro v s₁ ⟨p, st₁, g₁, R₁, T₁, S₁, r₁, q₁⟩
 refine wpAny_mono (q₁ g₁ s₁ v R₁ r₁) ?_ fun _ _ x => x.up T₁ S₁
 rintro _ s₂ ⟨st₂, g₂, R₂, T₂, S₂, q₂⟩
 exact ⟨.next, st₂, g₂, R₂, T₁.trans T₂, S₁.trans S₂, .next, q₂⟩
theorem ExS.swap2 (C : cx.Ok) (hn : cx.hn = true) {i j : Nat} {x y : Str} {k : Nat} {es : List Expr} {tp pos : Pos} {e : Expr} {Q : Fl → St → Prop} (hx : cx.sc[i]? = some (x, .local)) (hy : cx.sc[j]? = some (y, .local))
  (h : EvE cx e st (fun p st₁ => ∃ a b, p = .c (.tup [a, b]) ∧ Q .next { st₁ with fr := (st₁.fr.set j (some (.c b))).set i (some (.c a)) }) X)
  (hs : swapsWithSole [.Tuple es k tp] e pos.line cx.env = pure false) (hw : swappedStores [.Tuple es k tp] e cx.env = pure (some [x, y])) : ExS cx (.Assign [.Tuple es k tp] e pos) st Q X := fun gh s R => by
 refine Assign_Tuple_swapped (wpAny_mono (h gh s R) ?_ fun _ _ x => x) hs hw
 rintro v s₁ ⟨p, st₁, g₁, R₁, T₁, S₁, r₁, a, b, rfl, hq⟩
 replace r₁ := r₁.toC; replace r₁ := r₁.inv; obtain ⟨ad, vs, rfl, t, hd, r⟩ := r₁
 have hvs : vs.size = 2 := Array.length_toList.symm.trans r.len
 refine wpAny_mono (unpack_ok C hn t hvs.symm) ?_ fun _ _ x => x
 rintro items s₂ ⟨rfl, h', rfl, hc⟩
 have R₂ := R₁.grow hc s₁.toks
 have T₂ : Tr g₁ s₁.heap g₁ h' := (Tr.refl ..).chg hc fun _ z => z.elim
 have r' := r.ext (T₂.ext R₁.ok)
 replace r' := r'.to2; obtain ⟨va, vb, hvab, ra, rb⟩ := r'
 rw [hvab]
 show wpAny cx.M cx.A (assignInOrder [fun v => bindName cx.env y v, fun v => bindName cx.env x v] [vb, va]) _ _ _
 refine wpAny_assignInOrder_more (wpAny_bindName (wpAny_mono (storeName_ok C hy (.inl rfl) R₂ (.c rb) (Q := fun st => st = { st₁ with fr := st₁.fr.set j (some (.c b)) }) rfl) ?_ fun _ _ x => x))
 rintro _ s₃ ⟨st₃, g₃, R₃, T₃, S₃, rfl⟩
 refine wpAny_assignInOrder_more (wpAny_bindName (wpAny_mono (storeName_ok C hx (.inl rfl) R₃ (.c (ra.ext (T₃.ext R₂.ok))) (Q := fun st => Q .next st) hq) ?_ fun _ _ x => x))
 rintro _ s₄ ⟨st₄, g₄, R₄, T₄, S₄, q₄⟩
 exact wpAny_assignInOrder_none ⟨.next, st₄, g₄, R₄, ((T₁.trans T₂).trans T₃).trans T₄, (S₁.trans ⟨S₃.gens, S₃.drawn, S₃.os⟩).trans S₄, .next, q₄⟩
theorem ExS.asg2 (C : cx.Ok) {i j : Nat} {x y : Str} {kx ky : NameKind} {px py pos : Pos} {e : Expr} {Q : Fl → St → Prop} (hx : cx.sc[i]? = some (x, kx)) (hkx : kx = .local ∨ kx = .cell) (hy : cx.sc[j]? = some (y, ky)) (hky : ky = .local ∨ ky = .cell)
  (h : EvE cx e st (fun p st₁ => Q .next { st₁ with fr := (st₁.fr.set i (some p)).set j (some p) }) X) (hw : swappedStores [.Name x px, .Name y py] e cx.env = pure none) : ExS cx (.Assign [.Name x px, .Name y py] e pos) st Q X := fun gh s R => by
 refine wpAny_Assign_two (wpAny_mono (h gh s R) ?_ fun _ _ x => x) rfl hw
 rintro v s₁ ⟨p, st₁, g₁, R₁, T₁, S₁, r₁, q₁⟩
 refine wpAny_mono (AsG.name (X := X) C hx hkx (Q := fun st => st = { st₁ with fr := st₁.fr.set i (some p) }) rfl g₁ s₁ v R₁ r₁) ?_ fun _ _ x => x.up T₁ S₁
 rintro _ s₂ ⟨st₂, g₂, R₂, T₂, S₂, rfl⟩
 refine wpAny_mono (AsG.name (X := X) C hy hky (Q := fun st => Q .next st) q₁ g₂ s₂ v R₂ (r₁.tr R₁.ok T₂)) ?_ fun _ _ x => x.up (T₁.trans T₂) (S₁.trans S₂)
 rintro _ s₃ ⟨st₃, g₃, R₃, T₃, S₃, q₃⟩
 exact ⟨.next, st₃, g₃, R₃, (T₁.trans T₂).trans T₃, (S₁.trans S₂).trans S₃, .next, q₃⟩
end
inductive PFr (W : Wd) (gh : Gh) (h : Heap) (e : Env) : Prop
 | mk (hk : e.scope.kind ≠ .module) (L : Addr) (hf : e.frame = some L) (hb : W.base.get? L = none) (hu : L ∉ gh.ga.flatMap GA.addrs) (hd : gh.D L) (o : Obj) (ho : h.get? L = some o) (hi : isDict o)
structure Pre (W : Wd) (A : Around) (fr : List Env) (lv : Nat) (gh : Gh) (glob : List GObj) (s : Shared) : Prop where
 ok : gh.Ok
 base : ∀ b o, W.base.get? b = some o → s.heap.get? b = some o
 fresh : ∀ b, gh.D b → W.base.get? b = none
 din : ∀ b, gh.D b → b < s.heap.objs.size
 glob : GRels gh s.heap gh.ga glob
 muU : ∀ b, b ∈ gh.ga.flatMap GA.addrs → gh.U b
 apart : (gh.ga.flatMap GA.addrs).Nodup
 frames : A.frames = some fr ∧ ∀ e, e ∈ fr → PFr W gh s.heap e
 lv : A.depth + 20 * lv ≤ 800 ∧ A.units + 100 * lv + 100 ≤ cLine
 hn : A.handled = none
 wd : ∃ mg mb, W.Ok mg mb
structure Out (W : Wd) (gh : Gh) (D' : Addr → Prop) (s s' : Shared) (glob : List GObj) : Prop where
 size : s.heap.objs.size ≤ s'.heap.objs.size
 base : ∀ b o, W.base.get? b = some o → s'.heap.get? b = some o
 kept : ∀ b o, s.heap.get? b = some o → b ∉ gh.ga.flatMap GA.addrs → Kept (gh.D b) o (s'.heap.get? b)
 glob : GRels { gh with D := D' } s'.heap gh.ga glob
 same : Same s s'
 D : ∀ b, D' b → gh.D b ∨ (s.heap.objs.size ≤ b ∧ b < s'.heap.objs.size)
 Dm : ∀ b, gh.D b → D' b
inductive AR (gh : Gh) (h : Heap) : Value → PV → Prop
 | c {v x} : CRel gh.D h v x → AR gh h v (.c x)
 | obj {i g} : gh.ga[i]? = some g → AR gh h (.ref g.head) (.obj i)
noncomputable abbrev ARs (gh : Gh) (h : Heap) : List Value → List PV → Prop := All2 (AR gh h)
theorem AR.of {gh : Gh} {h : Heap} {v : Value} {p : PV} (r : PRel gh h v p) (e : p.noLoc = true) : AR gh h v p := by
 cases r with
 | c r => exact .c r
 | obj r => exact .obj r
 | loc => cases e
 | locs => cases e
 | pair => cases e
theorem AR.toC {gh : Gh} {h : Heap} {v : Value} {x : CV} (r : AR gh h v (.c x)) : CRel gh.D h v x := by
 cases r with | c r => exact r
theorem AR.toObj {gh : Gh} {h : Heap} {v : Value} {i : Nat} (r : AR gh h v (.obj i)) : ∃ g, v = .ref g.head ∧ gh.ga[i]? = some g := by
 cases r with | obj e => exact ⟨_, rfl, e⟩
theorem ARs.of {gh : Gh} {h : Heap} {vs : List Value} {ps : List PV} (r : PRels gh h vs ps) (e : (ps.all PV.noLoc) = true) : ARs gh h vs ps := by
 induction r with
 | nil => exact .nil
 | cons a _ ih => exact .cons (.of a (Bool.and_eq_true_iff.mp e).1) (ih (Bool.and_eq_true_iff.mp e).2)
inductive RetV (W : Wd) (gh : Gh) (s : Shared) (Q : CV → Bool → List GObj → Prop) (v : Value) (s' : Shared) : Prop
 | mk (x : CV) (glob : List GObj) (O : Out W gh gh.D s s' glob) (r : CRel gh.D s'.heap v x) (q : Q x false glob)
inductive RetL (W : Wd) (gh : Gh) (s : Shared) (Q : CV → Bool → List GObj → Prop) (v : Value) (s' : Shared) : Prop
 | mk (a : Addr) (vs : Array Value) (n : Nat) (l : List CV) (glob : List GObj) (e : v = .ref a) (ha : s.heap.objs.size ≤ a) (ho : s'.heap.get? a = some (lstObj vs n)) (O : Out W gh (fun b => gh.D b ∨ b = a) s s' glob) (r : CRels (fun b => gh.D b ∨ b = a) s'.heap vs.toList l) (q : Q (.lst l) true glob)
inductive RetX (W : Wd) (gh : Gh) (s : Shared) (X : XV → List GObj → Prop) (v : Value) (s' : Shared) : Prop
 | mk (a : Addr) (px : XV) (glob : List GObj) (D' : Addr → Prop) (e : v = .ref a) (O : Out W gh D' s s' glob) (r : XRel s.heap.objs.size W.base { gh with D := D', la := [] } s'.heap a px) (q : X px glob)
noncomputable def PostC (W : Wd) (gh : Gh) (s : Shared) (Q : CV → Bool → List GObj → Prop) (X : XV → List GObj → Prop) (r : Result) (s' : Shared) : Prop :=
 match r with
 | .ok (.ret v) => RetV W gh s Q v s' ∨ RetL W gh s Q v s'
 | .ok _ => False
 | .error e => RetX W gh s X e s'
noncomputable def CallOk (W : Wd) (lv : Nat) (f : Value) (args : List PV) (kws : List (Str × PV)) (glob : List GObj) (Q : CV → Bool → List GObj → Prop) (X : XV → List GObj → Prop) : Prop :=
 ∀ A fr gh s vs ks, Pre W A fr lv gh glob s → ARs gh s.heap vs args → ARs gh s.heap ks (kws.map (·.2)) →
  codeAny (model W.prog W.w) A (.call f ⟨vs, (kws.map (·.1)).zip ks⟩) (PostC W gh s Q X) s
section
variable {cx : Cx} {gh : Gh} {st : St} {s s' : Shared} {X : XV → St → Prop}
theorem Rel.pre (C : cx.Ok) (hn : cx.hn = true) (R : Rel cx gh st s) {lv : Nat} (hl : lv ≤ cx.lv) : Pre cx.wd cx.A (cx.fenv :: cx.outer) lv gh st.glob s where
 ok := R.ok
 base := R.base
 fresh := R.fresh
 din := R.din
 glob := R.glob
 muU b hb := R.muU b (by unfold Gh.mu; exact List.mem_append_left _ hb)
 apart := (List.nodup_append.mp (List.nodup_cons.mp R.apart).2).1
 frames := by
  refine ⟨C.frames, fun e he => ?_⟩
  obtain ⟨h1, L, h2, h3, h4, h5, o, h6, h7⟩ := R.frames e he
  refine ⟨h1, L, h2, h3, fun hb => ?_, h5, o, h6, h7⟩
  rcases h4 with rfl | h4
  ·exact (List.nodup_cons.mp R.apart).1 (by unfold Gh.mu; exact List.mem_append_left _ hb)
  ·exact h4 (R.muU L (by unfold Gh.mu; exact List.mem_append_left _ hb))
 lv := by have := C.lv; omega
 hn := C.hn hn
 wd := C.wd
theorem Rel.back (R : Rel cx gh st s) {glob : List GObj} {D' : Addr → Prop} (O : Out cx.wd gh D' s s' glob) : Rel cx { gh with D := D' } { st with glob := glob } s' := by
 have hU : ∀ b, b ∈ gh.ga.flatMap GA.addrs → gh.U b := fun b hb => R.muU b (by unfold Gh.mu; exact List.mem_append_left _ hb)
 have Xt : Ext gh.D (· ∈ gh.ga.flatMap GA.addrs) s.heap D' s'.heap := ⟨O.kept, fun b z => (O.D b z).imp id fun q => q.1, fun b hb => R.ok.UD b (hU b hb)⟩
 have hd := (List.nodup_append.mp (List.nodup_cons.mp R.apart).2).2.2
 refine R.move (gh' := { gh with D := D' }) ⟨fun b z => O.Dm b (R.ok.UD b z)⟩ O.base (fun b z => (O.D b z).elim (R.fresh b) fun z => R.freshNew z.1) (fun b z => (O.D b z).elim (fun q => Nat.lt_of_lt_of_le (R.din b q) O.size) fun q => q.2) (fun _ u => u) (fun _ _ _ u _ _ => u) O.Dm (fun b o hb e _ => ?_) (fun _ _ r => r.extD Xt) (fun _ _ r => r.ext Xt) O.glob ?_ R.muU R.apart
 ·obtain ⟨o', h1, _, h2⟩ := (O.kept b o e fun z => hb (List.mem_append_left _ z)).like
  exact ⟨o', h1, h2⟩
 ·exact R.loc.imp fun b _ hb q => q.rec fun vs n e r => ⟨vs, n, (O.kept _ _ e fun z => hd _ z _ hb rfl).exact (isDict.no rfl (xdict rfl rfl)), .of (r.all.imp fun _ _ _ r => r.ext Xt)⟩
theorem Rel.backTr (R : Rel cx gh st s) {glob : List GObj} {D' : Addr → Prop} (O : Out cx.wd gh D' s s' glob) : Tr gh s.heap { gh with D := D' } s'.heap where
 size := O.size
 kept b o e hu := O.kept b o e fun hb => hu (R.muU b (by unfold Gh.mu; exact List.mem_append_left _ hb))
 U _ z := .inl z
 D b z := (O.D b z).imp id fun q => q.1
 Dm := O.Dm
 ga := ⟨[], by simp⟩
 la := ⟨[], by simp⟩
theorem call_x {a : Addr} {px : XV} {glob : List GObj} {D' : Addr → Prop} (R : Rel cx gh st s) (O : Out cx.wd gh D' s s' glob) (xr : XRel s.heap.objs.size cx.wd.base { gh with D := D', la := [] } s'.heap a px) (q : X px { st with glob := glob }) :
  PostX cx gh s X (.ref a) s' := by
 refine ⟨a, px, _, _, rfl, R.back O, R.backTr O, O.same, ?_, q⟩
 have nm : ∀ b, s.heap.objs.size ≤ b → b ∉ Gh.mu { gh with D := D' } := fun b hb hm => absurd (R.muLt hm) (Nat.not_lt.mpr hb)
 obtain ⟨⟨o, fs, t, ws, h1, h2, h3, h4, h5, h6, h7, h8, h9⟩, l, f, d, m⟩ := xr
 refine ⟨⟨o, fs, t, ws, h1, h2, h3, h4, h5, h6, h7, h8, ?_⟩, l, f, d, nm _ l⟩
 rcases h9 with h9 | ⟨T, oT, ts, a, b, c, d, e, f, g, i, j, k⟩
 ·exact .inl h9
 ·exact .inr ⟨T, oT, ts, a, b, c, d, e, f, g, i, j, nm _ g⟩
theorem call_ok (C : cx.Ok) (hn : cx.hn = true) {lv : Nat} {f : Value} {args : List PV} {kws : List (Str × PV)} {vs ks : List Value} {Q : PV → St → Prop} (hl : lv ≤ cx.lv) (R : Rel cx gh st s) (ra : ARs gh s.heap vs args) (rk : ARs gh s.heap ks (kws.map (·.2)))
  (h : CallOk cx.wd lv f args kws st.glob (fun x fr glob => match fr, x with
   | true, .lst l => Q (.loc st.loc.length) { st with glob := glob, loc := st.loc ++ [l] }
   | false, x => Q (.c x) { st with glob := glob }
   | _, _ => False) (fun px glob => X px { st with glob := glob })) :
  wpAny cx.M cx.A (call f vs ((kws.map (·.1)).zip ks)) (PostV cx gh s Q) (PostX cx gh s X) s := by
 refine wpAny_call (codeAny_mono (h cx.A _ gh s vs ks (R.pre C hn hl) ra rk) fun r s' p => ?_)
 cases r with
 | error e =>
  obtain ⟨a, px, glob, D', rfl, O, xr, q⟩ := p
  exact call_x R O xr q
 | ok f =>
  cases f with
  | ret v =>
   rcases p with ⟨x, glob, O, rv, q⟩ | ⟨a, vs', n, l, glob, rfl, ha, ho, O, rv, q⟩
   ·exact ⟨_, _, gh, R.back O, R.backTr O, O.same, .c rv, q⟩
   ·have R₁ := R.back O
    have hm : a ∉ Gh.mu { gh with D := fun b => gh.D b ∨ b = a } := fun hm => absurd (R.muLt (b := a) hm) (Nat.not_lt.mpr ha)
    have R₂ := R₁.addLoc ho (.inr rfl) hm rv
    have hlen := R.loc.len
    have T := R.backTr O
    refine ⟨_, _, _, R₂, ⟨T.size, T.kept, ?_, ?_, fun _ z => .inl z, T.ga, ⟨[a], rfl⟩⟩, O.same, .loc ?_, q⟩
    ·rintro b (z | rfl)
     ·exact .inl z
     ·exact .inr ha
    ·rintro b (z | rfl)
     ·exact .inl z
     ·exact .inr ha
    ·show (gh.la ++ [a])[st.loc.length]? = some a
     rw [← hlen, List.getElem?_append_right (Nat.le_refl _), Nat.sub_self]; rfl
  | next => exact p
  | brk => exact p
  | cont => exact p
end
section
variable {cx : Cx} {gh : Gh} {st : St} {s : Shared} {h' : Heap}
theorem Rel.fun (R : Rel cx gh st s) : s.heap.FunFrames cx.wd.base (cx.fenv :: cx.outer) := by
 have go : ∀ l : List Env, (∀ e, e ∈ l → e ∈ cx.fenv :: cx.outer) → s.heap.FunFrames cx.wd.base l := by
  intro l
  induction l with
  | nil => intro _; trivial
  | cons e r ih =>
   intro hl
   obtain ⟨h1, L, h2, h3, _, hD, o, h5, es, n, h6⟩ := R.frames e (hl e (.head _))
   exact ⟨h1, ⟨L, o, h2, h3, h5, fun vs q => by exact nomatch h6.symm.trans q⟩, ih fun e he => hl e (.tail _ he)⟩
 exact go _ fun _ h => h
inductive FrG (base : Heap) (l : Addr) (gh : Gh) (h : Heap) (b : Addr) : Prop
 | mk (o : Obj) (e : h.get? b = some o) (d : isDict o) (f : base.get? b = none) (u : b = l ∨ ¬ gh.U b) (D : gh.D b)
theorem Rel.frG (R : Rel cx gh st s) {b : Addr} (hb : b ∈ (cx.fenv :: cx.outer).filterMap (·.frame)) : FrG cx.wd.base cx.env.locals gh s.heap b := by
 obtain ⟨e, he, hf⟩ := List.mem_filterMap.mp hb
 obtain ⟨h1, L, h2, h3, h4, hD, o, h5, h6⟩ := R.frames e he
 obtain rfl := Option.some.inj (h2.symm.trans hf)
 exact ⟨o, h5, h6, h3, h4, hD⟩
theorem slots_ext {S : List Addr} {h : Heap} (c : Heap.SlotsOnly S h h') (hS : ∀ b, b ∈ S → gh.D b ∧ ∃ o, h.get? b = some o ∧ isDict o) : Ext gh.D (fun _ => False) h gh.D h' :=
 ⟨fun b o e _ => by
  by_cases hb : b ∈ S
  ·obtain ⟨hD, o', h1, h2⟩ := hS b hb
   obtain ⟨sl, q⟩ := c.2.2 b o e
   exact .inr ⟨hD, Option.some.inj (h1.symm.trans e) ▸ h2, sl, q⟩
  ·exact .inl ((c.2.1 b hb).trans e), fun _ z => .inl z, fun _ z => z.elim⟩
theorem Rel.slotsIn (R : Rel cx gh st s) : ∀ b, b ∈ (cx.fenv :: cx.outer).filterMap (·.frame) → gh.D b ∧ ∃ o, s.heap.get? b = some o ∧ isDict o := fun b hb => (R.frG hb).rec fun o e d _ _ D => ⟨D, o, e, d⟩
theorem Rel.slots (R : Rel cx gh st s) (x : Heap.SlotsOnly ((cx.fenv :: cx.outer).filterMap (·.frame)) s.heap h') : Rel cx gh st { s with heap := h' } := by
 have X := slots_ext x R.slotsIn
 have muK : ∀ b, b ∈ gh.mu → ∀ ob, s.heap.get? b = some ob → h'.get? b = some ob := fun b hb ob e => (x.2.1 b fun hS => (R.frG hS).rec fun _ _ _ _ u _ => u.elim (fun z => (List.nodup_cons.mp R.apart).1 (z ▸ hb)) fun u => u (R.muU b hb)).trans e
 exact R.move R.ok (fun b o e => (x.2.1 b fun hb => (R.frG hb).rec fun _ _ _ f _ _ => xsn (e.symm.trans f)).trans (R.base b o e)) R.fresh (fun b z => x.1.symm ▸ R.din b z) (fun _ u => u) (fun _ _ _ u _ _ => u) (fun _ d => d) (fun b o _ e _ => (x.2.2 b o e).elim fun _ q => ⟨_, q, rfl⟩)
  (fun _ _ r => r.ext X) (fun _ _ r => r.ext X) (R.glob.ext X fun b hb => muK b (List.mem_append_left _ hb)) (R.loc.ext X fun b hb => muK b (List.mem_append_right _ hb)) R.muU R.apart
theorem Rel.slotsTr {g₀ : Gh} {h₀ : Heap} (R : Rel cx gh st s) (t : Tr g₀ h₀ gh s.heap) (x : Heap.SlotsOnly ((cx.fenv :: cx.outer).filterMap (·.frame)) s.heap h') : Tr g₀ h₀ gh h' where
 size := by rw [x.1]; exact t.size
 kept b o e hu := by
  refine (t.kept b o e hu).trans fun o' e' => ?_
  by_cases hb : b ∈ (cx.fenv :: cx.outer).filterMap (·.frame)
  ·obtain ⟨o2, h5, h6, _, _, hD⟩ := R.frG hb
   obtain rfl := Option.some.inj (e'.symm.trans h5)
   obtain ⟨sl, q⟩ := x.2.2 _ o' e'
   exact .inr ⟨(t.D _ hD).resolve_right (Nat.not_le.mpr (Heap.lt_size e)), h6, sl, q⟩
  ·exact .inl ((x.2.1 b hb).trans e')
 U := t.U
 D := t.D
 Dm := t.Dm
 ga := t.ga
 la := t.la
inductive Fly (cx : Cx) (g₀ : Gh) (h₀ : Heap) (s₀ : Shared) (st : St) (e : Addr) (x : XV) (s : Shared) : Prop
 | mk (gh : Gh) (R : Rel cx gh st s) (T : Tr g₀ h₀ gh s.heap) (S : Same s₀ s) (r : XRel h₀.objs.size cx.wd.base gh s.heap e x)
inductive TbAt (h : Heap) (e : Addr) : Prop
 | mk (o : Obj) (fs : Array Value) (T : Addr) (a : h.get? e = some o) (b : o.data = .fields fs) (c : fs[1]? = some (.ref T))
structure FlyT (cx : Cx) (g₀ : Gh) (h₀ : Heap) (s₀ : Shared) (st : St) (e : Addr) (x : XV) (s : Shared) : Prop where
 fly : Fly cx g₀ h₀ s₀ st e x s
 tb : TbAt s.heap e
theorem XRel.map {lo : Nat} {base : Heap} {gh' : Gh} {U : Addr → Prop} {h : Heap} {e : Addr} {x : XV} (r : XRel lo base gh h e x) (X : Ext gh.D U h gh'.D h') (ke : ∀ o fs, h.get? e = some o → o.data = .fields fs → h'.get? e = some o)
  (kT : ∀ T fs o oT ts, h.get? e = some o → o.data = .fields fs → fs[1]? = some (.ref T) → h.get? T = some oT → oT.data = .fields ts → h'.get? T = some oT) (d : ∀ b, gh.D b → gh'.D b) (m : ∀ b, b ∉ gh.mu → b ∉ gh'.mu) : XRel lo base gh' h' e x := by
 obtain ⟨⟨o, fs, t, vs, h1, h2, h3, h4, h5, h6, h7, h8, h9⟩, l, f, dd, mm⟩ := r
 refine ⟨⟨o, fs, t, vs, ke o fs h1 h3, h2, h3, h4, h5, (X.isTup h6 h7).1, (X.isTup h6 h7).2, h8.ext X, h9.imp id fun z => ?_⟩, l, f, d e dd, m e mm⟩
 obtain ⟨T, oT, ts, a, b, c', d', e', f', g, i, j, k⟩ := z
 exact ⟨T, oT, ts, a, kT T fs o oT ts h1 h3 a b c', c', d', e', f', g, i, d T j, m T k⟩
theorem XRel.chg {lo : Nat} {base : Heap} {P : Addr → Prop} {h : Heap} {e : Addr} {x : XV} (r : XRel lo base gh h e x) (c : Chg P h h') (hP : ∀ a, P a → gh.D a) (he : ¬ P e) (hT : ∀ T fs o, h.get? e = some o → o.data = .fields fs → fs[1]? = some (.ref T) → ¬ P T) : XRel lo base gh h' e x :=
 r.map (c.ext hP) (fun o _ h1 _ => c.kept e o he h1) (fun T fs o oT _ h1 h3 a b _ => c.kept T oT (hT T fs o h1 h3 a) b) (fun _ d => d) fun _ m => m
theorem XRel.slots {lo : Nat} {base : Heap} {S : List Addr} {h : Heap} {e : Addr} {x : XV} (r : XRel lo base gh h e x) (c : Heap.SlotsOnly S h h') (hS : ∀ b, b ∈ S → gh.D b ∧ ∃ o, h.get? b = some o ∧ isDict o) : XRel lo base gh h' e x := by
 have keep : ∀ {b : Addr} {o : Obj} {fs : Array Value}, h.get? b = some o → o.data = .fields fs → h'.get? b = some o := fun {b o fs} e hd => (c.2.1 b fun hb => by
  obtain ⟨_, o', h1, h2⟩ := hS b hb
  exact isDict.no hd (xdict rfl rfl) (Option.some.inj (h1.symm.trans e) ▸ h2)).trans e
 exact r.map (slots_ext c hS) (fun _ _ h1 h3 => keep h1 h3) (fun _ _ _ _ _ _ _ _ b c => keep b c) (fun _ d => d) fun _ m => m
theorem XRel.alloc {lo : Nat} {base : Heap} {P : Addr → Prop} {h : Heap} {e : Addr} {x : XV} (r : XRel lo base gh h e x) (c : Chg (fun _ => False) h h') (hP : ∀ b, P b → h.objs.size ≤ b) : XRel lo base (gh.dead P) h' e x :=
 r.map (gh' := gh.dead P) (U := fun _ => False) ⟨fun b o e _ => .inl (c.kept b o id e), fun b z => z.imp id (hP b), fun _ z => z.elim⟩ (fun o _ h1 _ => c.kept e o id h1) (fun T _ _ oT _ _ _ _ b _ => c.kept T oT id b) (fun _ => .inl) fun _ m => m
theorem ref_ne (T : Addr) : (Value.ref T != Value.none) = true := by simp
theorem none_raw (L : Addr) : ¬ ((Value.none == rawInt L) = true) := by simp [rawInt]
theorem fr_raw : ∀ fr : Option Addr, (fr.elim Value.none fun f => rawInt f) = .none ∨ ∃ f, (fr.elim Value.none fun f => rawInt f) = rawInt f
 | none => .inl rfl
 | some f => .inr ⟨f, rfl⟩
theorem Fly.setT {g₀ : Gh} {h₀ : Heap} {s₀ : Shared} {e : Addr} {x : XV} (R : Rel cx gh st s) (t : Tr g₀ h₀ gh s.heap) (sm : Same s₀ s) (xr : XRel h₀.objs.size cx.wd.base gh s.heap e x) {T : Addr} {oT : Obj} {ts : Array Value} {y : Value}
  {o' : Obj} {fs' : Array Value} (b1 : s.heap.get? e = some o') (b2 : o'.data = .fields fs') (b3 : fs'[1]? = some (.ref T)) (hT : s.heap.get? T = some oT) (hd : oT.data = .fields ts) (h3 : 3 < ts.size) (hy : y = .none ∨ ∃ f, y = rawInt f)
  (hTe : T ≠ e) (hlo : h₀.objs.size ≤ T) (hb : cx.wd.base.get? T = none) (hDT : gh.D T) (hm : T ∉ gh.mu) : Fly cx g₀ h₀ s₀ st e x { s with heap := s.heap.update T (Obj.mapFields (·.setIfInBounds 3 y)) } := by
 have sb : Heap.SameBut T s.heap (s.heap.update T (Obj.mapFields (·.setIfInBounds 3 y))) := .update ..
 have c := Chg.same sb
 have hd' := Obj.data_mapFields hd (·.setIfInBounds 3 y)
 have hP : ∀ a, a = T → gh.D a ∧ a ∉ gh.mu ∧ ∀ o, s.heap.get? a = some o → (∃ fs, o.data = .fields fs) ∨ ∃ vs n, o.data = .seq vs n := by
  rintro a rfl
  exact ⟨hDT, hm, fun o q => .inl ⟨ts, by obtain rfl := Option.some.inj (hT.symm.trans q); exact hd⟩⟩
 refine ⟨gh, R.chg c hP s.toks, t.chg c fun a z => .inl (z ▸ hlo), ⟨sm.gens, sm.drawn, sm.os⟩, ?_⟩
 obtain ⟨⟨o, fs, t', vs, a1, a2, a3, a4, a5, a6, a7, a8, a9⟩, l, f, d, m⟩ := xr
 obtain rfl := Option.some.inj (a1.symm.trans b1)
 obtain rfl := Data.fields.inj (a3.symm.trans b2)
 have X := c.ext fun a z => (hP a z).1
 refine ⟨⟨o, fs, t', vs, (sb.2 e (Ne.symm hTe)).trans a1, a2, a3, a4, a5, (X.isTup a6 a7).1, a7, a8.ext X, .inr ⟨T, _, _, b3, Heap.get?_update_self _ hT (Obj.isFreed_of_fields hd'), hd', by simpa using h3, ?_, hTe, hlo, hb, hDT, hm⟩⟩, l, f, d, m⟩
 rw [Array.getElem?_setIfInBounds_self_of_lt h3]
 rcases hy with rfl | ⟨f, rfl⟩
 ·exact .inl rfl
 ·exact .inr ⟨f, rfl⟩
theorem XRel.newE {g₀ : Gh} {h₀ : Heap} {s₀ : Shared} {e : Addr} {x : XV} (R : Rel cx gh st s) (t : Tr g₀ h₀ gh s.heap) (sm : Same s₀ s) (xr : XRel h₀.objs.size cx.wd.base gh s.heap e x) {T : Addr} {oT : Obj} {ts : Array Value}
  (hT : s.heap.get? T = some oT) (hd : oT.data = .fields ts) (h3 : 3 < ts.size) (hy : ts[3]? = some .none ∨ ∃ f, ts[3]? = some (rawInt f))
  (hTe : T ≠ e) (hlo : h₀.objs.size ≤ T) (hb : cx.wd.base.get? T = none) (hDT : gh.D T) (hm : T ∉ gh.mu) : FlyT cx g₀ h₀ s₀ st e x { s with heap := s.heap.update e (Obj.mapFields (·.setIfInBounds 1 (.ref T))) } := by
 have sb : Heap.SameBut e s.heap (s.heap.update e (Obj.mapFields (·.setIfInBounds 1 (.ref T)))) := .update ..
 have c := Chg.same sb
 obtain ⟨⟨o, fs, t', vs, a1, a2, a3, a4, a5, a6, a7, a8, a9⟩, l, f, d, m⟩ := xr
 have hd' := Obj.data_mapFields a3 (·.setIfInBounds 1 (Value.ref T))
 have hP : ∀ a, a = e → gh.D a ∧ a ∉ gh.mu ∧ ∀ o, s.heap.get? a = some o → (∃ fs, o.data = .fields fs) ∨ ∃ vs n, o.data = .seq vs n := by
  rintro a rfl
  exact ⟨d, m, fun o q => .inl ⟨fs, by obtain rfl := Option.some.inj (a1.symm.trans q); exact a3⟩⟩
 refine ⟨⟨gh, R.chg c hP s.toks, t.chg c fun a z => .inl (z ▸ l), ⟨sm.gens, sm.drawn, sm.os⟩, ?_⟩, ⟨_, _, T, Heap.get?_update_self _ a1 (Obj.isFreed_of_fields hd'), hd', by rw [Array.getElem?_setIfInBounds_self_of_lt (by omega)]⟩⟩
 have X := c.ext fun a z => (hP a z).1
 refine ⟨⟨_, _, t', vs, Heap.get?_update_self _ a1 (Obj.isFreed_of_fields hd'), (Obj.cls_mapFields ..).trans a2, hd', by simpa using a4, ?_, (X.isTup a6 a7).1, a7, a8.ext X, .inr ⟨T, oT, ts, ?_, (sb.2 T hTe).trans hT, hd, h3, hy, hTe, hlo, hb, hDT, hm⟩⟩, l, f, d, m⟩
 ·rw [Array.getElem?_setIfInBounds_ne (by decide)]; exact a5
 ·rw [Array.getElem?_setIfInBounds_self_of_lt (by omega)]
theorem note_ok (C : cx.Ok) (hce : cx.env = cx.fenv) {g₀ : Gh} {h₀ : Heap} {s₀ : Shared} {e : Addr} {x : XV} {E : Value → Shared → Prop} (F : Fly cx g₀ h₀ s₀ st e x s) :
  wpAny cx.M cx.A (noteFrame (.ref e) cx.env) (fun _ s' => FlyT cx g₀ h₀ s₀ st e x s') E s := by
 obtain ⟨gh, R, t, sm, xr⟩ := F
 obtain ⟨_, L, hL, hLb, _, oL, hoL, hdL⟩ := R.frames cx.fenv (.head _)
 have hf : cx.env.frame = some L := hce ▸ hL
 apply w_eq
 ·unfold noteFrame; rewrite [hf]; dsimp only
 have entry : ∀ (gh : Gh) (s : Shared) (head : Value) (b : Bool), Rel cx gh st s → Tr g₀ h₀ gh s.heap → Same s₀ s → XRel h₀.objs.size cx.wd.base gh s.heap e x →
   wpAny cx.M cx.A (do setField (.ref e) 1 (← EntryCells.newEntry head (← frameOf cx.env) .none (rawInt L) .none (← entryPlaceOf L b))) (fun _ s' => FlyT cx g₀ h₀ s₀ st e x s') E s := by
  intro gh s head b R t sm xr
  rw [hce]
  refine wpAny_bind (wpAny_frameOf_fun (base := cx.wd.base) C.frames R.fun hL fun h₁ hs₁ => ?_)
  have R₁ := R.slots hs₁
  have t₁ := R.slotsTr t hs₁
  have xr₁ := xr.slots hs₁ R.slotsIn
  refine wpAny_bind (wpAny_entryPlaceOf fun pl hpl => ?_)
  refine wpAny_bind (w_eq (by unfold EntryCells.newEntry newFields; rfl) (wpAny_newObj_type ?_ (hpl.sizeOk5 _ _ _ _ _)))
  generalize hob : ({ cls := Value.type "traceback", dict := none, data := .fields ([head, Value.ref L, .none, rawInt L, .none] ++ (if pl.isEmpty then List.replicate 6 Value.none else pl)).toArray } : Obj) = ob
  have c := Chg.push h₁ ob
  have hP : ∀ b, b = h₁.objs.size → h₁.objs.size ≤ b ∧ b < (h₁.push ob).objs.size := fun b z => by rw [Heap.size_push, z]; exact ⟨Nat.le_refl _, Nat.lt_succ_self _⟩
  have R₂ := R₁.alloc c hP s.toks
  have t₂ : Tr g₀ h₀ (gh.dead (· = h₁.objs.size)) (h₁.push ob) := t₁.trans (Tr.alloc (s := { s with heap := h₁ }) c fun b z => (hP b z).1)
  have xr₂ := xr₁.alloc c fun b z => (hP b z).1
  obtain ⟨⟨o, fs, t', vs, a1, a2, a3, a4, a5, a6, a7, a8, a9⟩, l, f, d, m⟩ := id xr₂
  refine wpAny_setField a1 a3 (by omega) ?_
  have nb : cx.wd.base.get? h₁.objs.size = none := R₁.freshNew (Nat.le_refl _)
  exact (XRel.newE R₂ t₂ ⟨sm.gens, sm.drawn, sm.os⟩ xr₂ (T := h₁.objs.size) (oT := ob) (Heap.get?_push_size _ (by rw [← hob]; rfl)) (by rw [← hob]) (by simp) (.inr ⟨L, by simp⟩)
   (fun z => let ⟨_, _, _, _, a, _, _, _, _, _, _, _, _⟩ := xr₁.obj; no_lt a (Nat.le_of_eq z)) t₁.size nb (.inr rfl) (fun hm => R₁.notD (R₁.muD hm)))
 obtain ⟨⟨o, fs, t', vs, a1, a2, a3, a4, a5, a6, a7, a8, a9⟩, l, f, d, m⟩ := id xr
 rcases a9 with a9 | ⟨T, oT, ts, b1, b2, b3, b4, b5, b6, b7, b8, b9, b10⟩
 ·refine wpAny_bind (wpAny_field a1 a3 a9 ?_)
  exact w_else (by decide) (entry gh s .none _ R t sm xr)
 ·refine wpAny_bind (wpAny_field a1 a3 b1 ?_)
  refine w_if (ref_ne T) ?_
  rcases b5 with b5 | ⟨fl, b5⟩
  ·refine wpAny_bind (wpAny_field b2 b3 b5 ?_)
   refine w_else (none_raw L) (wpAny_bind (wpAny_setField b2 b3 b4 ?_))
   obtain ⟨g₂, R₂, t₂, sm₂, xr₂⟩ := Fly.setT R t sm xr a1 a3 b1 b2 b3 b4 (.inl rfl) b6 b7 b8 b9 b10
   exact entry g₂ _ _ _ R₂ t₂ sm₂ xr₂
  ·refine wpAny_bind (wpAny_field b2 b3 b5 ?_)
   by_cases hq : (rawInt fl == rawInt L) = true
   ·exact w_if hq <| wpAny_pure ⟨⟨gh, R, t, sm, xr⟩, o, fs, T, a1, a3, b1⟩
   ·refine w_else hq (wpAny_bind (wpAny_setField b2 b3 b4 ?_))
    obtain ⟨g₂, R₂, t₂, sm₂, xr₂⟩ := Fly.setT R t sm xr a1 a3 b1 b2 b3 b4 (.inl rfl) b6 b7 b8 b9 b10
    exact entry g₂ _ _ _ R₂ t₂ sm₂ xr₂
theorem flight_ok {g₀ : Gh} {h₀ : Heap} {s₀ : Shared} {e : Addr} {x : XV} {fr : Option Addr} {E : Value → Shared → Prop} (F : Fly cx g₀ h₀ s₀ st e x s) :
  wpAny cx.M cx.A (setFlight (.ref e) fr) (fun _ s' => Fly cx g₀ h₀ s₀ st e x s') E s := by
 obtain ⟨gh, R, t, sm, xr⟩ := F
 obtain ⟨⟨o, fs, t', vs, a1, a2, a3, a4, a5, a6, a7, a8, a9⟩, l, f, d, m⟩ := id xr
 rcases a9 with a9 | ⟨T, oT, ts, b1, b2, b3, b4, b5, b6, b7, b8, b9, b10⟩
 ·exact wpAny_bind (wpAny_field a1 a3 a9 (w_else (by decide) (wpAny_pure ⟨gh, R, t, sm, xr⟩)))
 ·refine wpAny_bind (wpAny_field a1 a3 b1 (w_if (ref_ne T) (wpAny_setField b2 b3 b4 ?_)))
  exact Fly.setT R t sm xr a1 a3 b1 b2 b3 b4 (fr_raw fr) b6 b7 b8 b9 b10
theorem leaving_ok (C : cx.Ok) (hce : cx.env = cx.fenv) {g₀ : Gh} {h₀ : Heap} {s₀ : Shared} {e : Addr} {x : XV} {E : Value → Shared → Prop} (F : Fly cx g₀ h₀ s₀ st e x s) :
  wpAny cx.M cx.A (leaving cx.env (.ref e)) (fun _ s' => Fly cx g₀ h₀ s₀ st e x s') E s := by
 exact wpAny_bind (wpAny_mono (note_ok C hce F) (fun _ _ F' => flight_ok F'.fly) fun _ _ x => x)
theorem PostX.fly {X : XV → St → Prop} {gh : Gh} {s s' : Shared} {v : Value} (p : PostX cx gh s X v s') : ∃ e x st, v = .ref e ∧ Fly cx gh s.heap s st e x s' ∧ X x st :=
 let ⟨e, x, st, g, h, R, T, S, xr, q⟩ := p; ⟨e, x, st, h, ⟨g, R, T, S, xr⟩, q⟩
theorem Fly.post {X : XV → St → Prop} {gh : Gh} {s s' : Shared} {e : Addr} {x : XV} (F : Fly cx gh s.heap s st e x s') (q : X x st) : PostX cx gh s X (.ref e) s' :=
 let ⟨g, R, T, S, xr⟩ := F; ⟨e, x, st, g, rfl, R, T, S, xr, q⟩
theorem cameBack_ok (C : cx.Ok) (hce : cx.env = cx.fenv) {X : XV → St → Prop} {gh : Gh} {s s' : Shared} {v : Value} (p : PostX cx gh s X v s') :
  notedBy cx.M cx.A cx.env (fun e s'' => cameBackBy cx.M cx.A cx.env (PostX cx gh s X) e s'') v s' := by
 obtain ⟨e, x, st', rfl, F, q⟩ := p.fly
 refine wpAny_mono (note_ok C hce F) ?_ fun _ _ x => x
 rintro _ s'' ⟨F, o, fs, T, h1, h2, h3⟩
 refine wpAny_bind (wpAny_field h1 h2 h3 (w_else (by simp) ?_))
 exact wpAny_mono (flight_ok F) (fun _ _ F => F.post q) fun _ _ x => x
end
structure FnOk (W : Wd) (a : Addr) (fd : FuncData) (body : List Stmt) : Prop where
 obj : ∃ o, W.base.get? a = some o ∧ o.data = .func fd
 code : W.base.CodeRec fd.code fd.qualname
 body : fd.body = .stmts body
 clo : fd.closure = []
 globals : fd.globals = mainGlobals
 builtins : fd.builtins = builtinsNs
 co : fd.scope.isCoroutine = false
 gen : fd.scope.isGenerator = false
 kind : fd.scope.kind = .function
structure ScOk (scope : Scope) (sc : List (Str × NameKind)) (gsc : List Str) : Prop where
 sck : ∀ p ∈ sc, scope.names.lookup p.1 = some p.2 ∧ (p.2 = .local ∨ p.2 = .cell) ∧ (p.1 == ("__debug__" : Str)) = false
 nd : (sc.map (·.1)).Nodup
 gsk : ∀ x ∈ gsc, scope.names.lookup x = some .globalImplicit
noncomputable def ScOk.b (scope : Scope) (sc : List (Str × NameKind)) (gsc : List Str) : Bool :=
 decide (∀ p ∈ sc, scope.names.lookup p.1 = some p.2 ∧ (p.2 = .local ∨ p.2 = .cell) ∧ (p.1 == ("__debug__" : Str)) = false) && (decide (sc.map (·.1)).Nodup && decide (∀ x ∈ gsc, scope.names.lookup x = some .globalImplicit))
theorem ScOk.of {scope : Scope} {sc : List (Str × NameKind)} {gsc : List Str} (h : ScOk.b scope sc gsc = true) : ScOk scope sc gsc := by
 obtain ⟨h1, h⟩ := Bool.and_eq_true_iff.mp h
 obtain ⟨h2, h⟩ := Bool.and_eq_true_iff.mp h
 exact ⟨of_decide_eq_true h1, of_decide_eq_true h2, of_decide_eq_true h⟩
theorem bindL_ne {kindOf : Str → Option NameKind} {x : Str} : ∀ {l : List (Str × Value)} {m : Str → Option Value}, x ∉ l.map (·.1) → bindL kindOf l m x = m x
 | [], _, _ => rfl
 | (n, v) :: r, m, h => by
  have h1 : x ≠ n := fun e => h (by simp [e])
  have h2 : x ∉ r.map (·.1) := fun e => h (by simp [e])
  unfold bindL
  rw [bindL_ne h2]
  split
  ·simp [h1]
  ·rfl
theorem bindL_get {kindOf : Str → Option NameKind} {x : Str} {v : Value} (hk : kindOf x = some .local) : ∀ {l : List (Str × Value)} {m : Str → Option Value}, (l.map (·.1)).Nodup → (x, v) ∈ l → bindL kindOf l m x = some v
 | [], _, _, h => nomatch h
 | (n, w) :: r, m, nd, h => by
  obtain ⟨h1, h2⟩ := List.nodup_cons.mp nd
  unfold bindL
  rcases List.mem_cons.mp h with e | h
  ·cases e
   rw [bindL_ne h1, if_pos hk]; simp
  ·exact bindL_get hk h2 h
theorem bindC_ne {kindOf : Str → Option NameKind} {x : Str} : ∀ {l : List (Str × Value)} {m : Str → Option Value}, x ∉ l.map (·.1) → bindC kindOf l m x = m x
 | [], _, _ => rfl
 | (n, v) :: r, m, h => by
  have h1 : x ≠ n := fun e => h (by simp [e])
  have h2 : x ∉ r.map (·.1) := fun e => h (by simp [e])
  unfold bindC
  rw [bindC_ne h2]
  split
  ·rfl
  ·simp [h1]
theorem bindC_get {kindOf : Str → Option NameKind} {x : Str} {v : Value} (hk : kindOf x = some .cell) : ∀ {l : List (Str × Value)} {m : Str → Option Value}, (l.map (·.1)).Nodup → (x, v) ∈ l → bindC kindOf l m x = some v
 | [], _, _, h => nomatch h
 | (n, w) :: r, m, nd, h => by
  obtain ⟨h1, h2⟩ := List.nodup_cons.mp nd
  unfold bindC
  rcases List.mem_cons.mp h with e | h
  ·cases e
   rw [bindC_ne h1, if_neg (by rw [hk]; decide)]; simp
  ·exact bindC_get hk h2 h
theorem cells_some {x : Str} : ∀ (names : List (Str × NameKind)) (n : Nat) (acc : List (Str × Addr)), names.lookup x = some .cell ∨ (acc.lookup x).isSome = true → ((cellsFrom n names acc).lookup x).isSome = true := cellsFrom_some
noncomputable def frz (loc : List (List CV)) : PV → Option CV
 | .c x => some x
 | .loc i => (loc[i]?).map .lst
 | .locs l => (l.mapM fun i => loc[i]?).map fun ls => .lst (ls.map .lst)
 | .obj _ => none
 | .pair _ _ => none
noncomputable def GObj.low (n : Nat) : GObj → Bool
 | .inst _ (some (.obj i)) => decide (i < n)
 | _ => true
noncomputable def fr0 (sc : List (Str × NameKind)) (bs : List (Str × PV)) : List (Option PV) := bs.map (fun b => some b.2) ++ List.replicate (sc.length - bs.length) none
noncomputable def calleeGh (gh : Gh) (L : Addr) (cells : List (Str × Addr)) : Gh :=
 { ga := gh.ga, la := [], D := fun b => gh.D b ∨ b = L ∨ ∃ x, cells.lookup x = some b, U := fun b => b ∈ gh.ga.flatMap GA.addrs ∨ b = L ∨ ∃ x, cells.lookup x = some b }
noncomputable def calleeCx (W : Wd) (A : Around) (fr : List Env) (env : Env) (sc : List (Str × NameKind)) (gsc : List Str) (lv : Nat) : Cx :=
 { wd := W, A := A.deeper env, env := env, fenv := env, outer := fr, sc := sc, usc := [], gsc := gsc, lv := lv, hn := true }
section
variable {W : Wd} {A : Around} {fr : List Env} {lv : Nat} {gh : Gh} {glob : List GObj} {s s₁ : Shared} {sc : List (Str × NameKind)} {gsc : List Str}
theorem callee_ok (P : Pre W A fr (lv + 1) gh glob s) {fd : FuncData} {L a : Addr} {cells : List (Str × Addr)} (hk : fd.scope.kind = .function) (hg : fd.globals = mainGlobals) (hb : fd.builtins = builtinsNs) (S : ScOk fd.scope sc gsc) :
  (calleeCx W A fr (newEnv fd.scope L fd.globals cells (fd.qualname ++ ".<locals>.") (some a) fd.code none fd.builtins) sc gsc lv).Ok where
 wd := P.wd
 fn := hk
 globals := hg
 builtins := hb
 sck i x k h := let q := S.sck (x, k) (List.mem_of_getElem? h); ⟨q.1, q.2.2⟩
 sci i j x k k' h h' := by
  have h : sc[i]? = some (x, k) := h
  have h' : sc[j]? = some (x, k') := h'
  have e1 : (sc.map (·.1))[i]? = some x := by rw [List.getElem?_map, h]; rfl
  have e2 : (sc.map (·.1))[j]? = some x := by rw [List.getElem?_map, h']; rfl
  exact (List.getElem?_inj (List.getElem?_eq_some_iff.mp e1).1 S.nd).mp (e1.trans e2.symm)
 usk i x h := by cases h
 gsk i x h := S.gsk x (List.mem_of_getElem? h)
 lv := by
  have := P.lv
  show A.depth + 1 + 20 * lv ≤ 800 ∧ A.units + 3 + 100 * lv + 100 ≤ cLine
  omega
 hn _ := P.hn
 frames := by show A.frames.map _ = _; rw [P.frames.1]; rfl
theorem GRels.sub {g g' : Gh} {h h' : Heap} (hD : ∀ v c, CRel g.D h v c → CRel g'.D h' v c) (hg : ∀ (i : Nat) x, g.ga[i]? = some x → g'.ga[i]? = some x) {gs : List GA} {os : List GObj} (hk : ∀ b, b ∈ gs.flatMap GA.addrs → ∀ ob, h.get? b = some ob → h'.get? b = some ob) (rs : GRels g h gs os) : GRels g' h' gs os :=
 rs.map hD (fun v p nl r => by
  cases r with
  | c r => exact .c (hD _ _ r)
  | obj q => exact .obj (hg _ _ q)
  | loc => exact xff nl
  | locs => exact xff nl
  | pair => exact xff nl) hk
theorem enter_rel (P : Pre W A fr (lv + 1) gh glob s) {fd : FuncData} {a : Addr} {bs : List (Str × PV)} {ws : List Value} (S : ScOk fd.scope sc gsc) (hbs : (sc.take bs.length).map (·.1) = bs.map (·.1)) (ra : ARs gh s.heap ws (bs.map (·.2))) (hk : fd.scope.kind = .function)
  {env : Env} (he : env = newEnv fd.scope s.heap.objs.size fd.globals (cellsFrom (s.heap.objs.size + 1) fd.scope.names []) (fd.qualname ++ ".<locals>.") (some a) fd.code none fd.builtins)
  (x : InCallC s env.locals (bindL env.kindOf ((bs.map (·.1)).zip ws) fun _ => none) env.cells (bindC env.kindOf ((bs.map (·.1)).zip ws) fun _ => none) s₁) :
  Rel (calleeCx W A fr env sc gsc lv) (calleeGh gh s.heap.objs.size env.cells) ⟨glob, [], fr0 sc bs, []⟩ s₁ ∧ Same s s₁ ∧ s.heap.objs.size ≤ s₁.heap.objs.size := by
 have hL : env.locals = s.heap.objs.size := by rw [he]; rfl
 have hkind : ∀ y, env.kindOf y = fd.scope.names.lookup y := fun y => by rw [he]; rfl
 have hcells : env.cells = cellsFrom (s.heap.objs.size + 1) fd.scope.names [] := by rw [he]; rfl
 have hframe : env.frame = some s.heap.objs.size := by rw [he]; rfl
 have hsk : env.scope.kind = .function := by rw [he]; exact hk
 rw [hL] at x
 have k : ∀ b o, s.heap.get? b = some o → s₁.heap.get? b = some o := x.toInCall.keep
 obtain ⟨hp, tk, hs₁⟩ := x.toInCall.same
 have hLs := x.toInCall.ns.lt
 have hsz : s.heap.objs.size ≤ s₁.heap.objs.size := Nat.le_of_lt hLs
 have hcl : ∀ y c, env.cells.lookup y = some c → s.heap.objs.size < c := fun y c h => x.above y c (mem_of_lookup h)
 have nd : ((bs.map (·.1)).zip ws |>.map (·.1)).Nodup := by
  have hlen := ra.len
  rw [List.length_map] at hlen
  rw [List.map_fst_zip (by rw [List.length_map]; omega), ← hbs]
  exact (List.take_sublist _ _).map _ |>.nodup S.nd
 have param : ∀ (i : Nat) (y : Str) (kd : NameKind) (p : PV), sc[i]? = some (y, kd) → (fr0 sc bs)[i]? = some (some p) → ∃ v, (y, v) ∈ (bs.map (·.1)).zip ws ∧ AR gh s.heap v p := by
  intro i y kd p h1 h2
  unfold fr0 at h2
  have hi : i < bs.length := by
   rcases Nat.lt_or_ge i bs.length with q | q
   ·exact q
   ·rw [List.getElem?_append_right (by simpa using q), List.getElem?_replicate] at h2
    split at h2 <;> simp at h2
  rw [List.getElem?_append_left (by simpa using hi), List.getElem?_map] at h2
  obtain ⟨b, hb, hp⟩ := Option.map_eq_some_iff.mp h2
  cases hp
  obtain ⟨v, hv, r⟩ := ra.at1 i b.2 (by rw [List.getElem?_map, hb]; rfl)
  refine ⟨v, ?_, r⟩
  have e1 : (bs.map (·.1))[i]? = some y := by
   rw [← hbs, List.getElem?_map, List.getElem?_take_of_lt hi, h1]; rfl
  exact List.mem_of_getElem? (i := i) (by rw [List.getElem?_zip_eq_some]; exact ⟨e1, hv⟩)
 have Xt : Ext gh.D (fun _ => False) s.heap (calleeGh gh s.heap.objs.size env.cells).D s₁.heap := ⟨fun b o e _ => .inl (k b o e), fun b z => by
  rcases z with z | z | ⟨y, z⟩
  ·exact .inl z
  ·exact .inr (Nat.le_of_eq z.symm)
  ·exact .inr (Nat.le_of_lt (hcl y b z)), fun _ z => z.elim⟩
 have up : ∀ {v : Value} {p : PV}, AR gh s.heap v p → PRel (calleeGh gh s.heap.objs.size env.cells) s₁.heap v p := by
  intro v p r
  cases r with
  | c r => exact .c (r.ext Xt)
  | obj e => exact .obj (gh := calleeGh gh s.heap.objs.size env.cells) e
 have nb : ∀ {b : Addr}, s.heap.objs.size ≤ b → W.base.get? b = none := fun {b} hb => by
  cases q : W.base.get? b with
  | none => rfl
  | some o => exact no_lt (P.base b o q) hb
 have ltA : ∀ b, b ∈ gh.ga.flatMap GA.addrs → b < s.heap.objs.size := fun b hb => P.din b (P.ok.UD b (P.muU b hb))
 have hmu : (calleeGh gh s.heap.objs.size env.cells).mu = gh.ga.flatMap GA.addrs := by simp [Gh.mu, calleeGh]
 refine ⟨⟨⟨?_⟩, fun b o e => k b o (P.base b o e), ?_, ?_, ?_, ⟨bindL env.kindOf ((bs.map (·.1)).zip ws) fun _ => none, ?_, ?_⟩, ?_, ?_, ?_, ?_, .nil, ?_, ?_, ?_⟩, ?_, hsz⟩
 ·rintro b (z | z | z)
  ·exact .inl (P.ok.UD b (P.muU b z))
  ·exact .inr (.inl z)
  ·exact .inr (.inr z)
 ·intro b z
  rcases z with z | rfl | ⟨y, z⟩
  ·exact P.fresh b z
  ·exact nb (Nat.le_refl _)
  ·exact nb (Nat.le_of_lt (hcl y b z))
 ·intro b z
  rcases z with z | rfl | ⟨y, z⟩
  ·exact Nat.lt_of_lt_of_le (P.din b z) hsz
  ·exact hLs
  ·exact (x.cell y b z).lt
 ·exact .inr (.inl hL)
 ·show s₁.heap.Ns env.locals _
  rw [hL]; exact x.toInCall.ns
 ·intro i y p h1 h2
  obtain ⟨v, hm, r⟩ := param i y _ p h1 h2
  exact ⟨v, bindL_get (by rw [hkind]; exact (S.sck _ (List.mem_of_getElem? (h1 : sc[i]? = _))).1) nd hm, up r⟩
 ·intro i y h1
  have hy := (S.sck _ (List.mem_of_getElem? (h1 : sc[i]? = _))).1
  obtain ⟨c, hc⟩ := Option.isSome_iff_exists.mp (cells_some fd.scope.names (s.heap.objs.size + 1) [] (.inl hy))
  rw [← hcells] at hc
  refine ⟨c, _, hc, .inr (.inr ⟨y, hc⟩), x.cell y c hc, fun p hp => ?_⟩
  obtain ⟨v, hm, r⟩ := param i y _ p h1 hp
  exact ⟨v, bindC_get (by rw [hkind]; exact hy) nd hm, up r⟩
 ·intro i j y z c h1 h2 hc1 hc2
  have e := name_of_addr x.apart (mem_of_lookup hc1) (mem_of_lookup hc2)
  subst e
  have h1 : sc[i]? = _ := h1
  have h2 : sc[j]? = _ := h2
  have e1 : (sc.map (·.1))[i]? = some y := by rw [List.getElem?_map, h1]; rfl
  have e2 : (sc.map (·.1))[j]? = some y := by rw [List.getElem?_map, h2]; rfl
  exact (List.getElem?_inj (List.getElem?_eq_some_iff.mp e1).1 S.nd).mp (e1.trans e2.symm)
 ·intro i y p h1; cases h1
 ·exact GRels.sub (g := gh) (fun v c r => r.ext Xt) (fun _ _ e => e) (fun b _ ob e => k b ob e) P.glob
 ·intro b hb
  rw [hmu] at hb
  exact .inl hb
 ·rw [hmu]
  refine List.nodup_cons.mpr ⟨fun hb => ?_, P.apart⟩
  have hb : env.locals ∈ _ := hb
  rw [hL] at hb
  exact Nat.lt_irrefl _ (ltA _ hb)
 ·intro e he'
  rcases List.mem_cons.mp he' with he1 | he'
  ·have he1 : e = env := he1
   rw [he1]
   obtain ⟨o, es, ep, e, hd, _⟩ := x.toInCall.ns
   exact ⟨by rw [hsk]; decide, s.heap.objs.size, hframe, nb (Nat.le_refl _), .inl hL.symm, .inr (.inl rfl), o, e, es, ep, hd⟩
  ·obtain ⟨h1, L, h2, h3, h4, hD, o, h5, h6⟩ := P.frames.2 e he'
   refine ⟨h1, L, h2, h3, .inr ?_, .inl hD, o, k _ _ h5, h6⟩
   rintro (z | z | ⟨y, z⟩)
   ·exact h4 z
   ·exact no_lt h5 (Nat.le_of_eq z.symm)
   ·exact no_lt h5 (Nat.le_of_lt (hcl y L z))
 ·rw [hs₁]; exact ⟨rfl, rfl, rfl⟩
end
theorem CRels.sub {D D' : Addr → Prop} {h : Heap} (x : ∀ b, D' b → D b) {vs : List Value} {l : List CV} (r : CRels D h vs l) : CRels D' h vs l :=
 r.ext (U := fun _ => False) ⟨fun _ _ e _ => .inl e, fun b z => .inl (x b z), fun _ z => z.elim⟩
theorem frz_ok {g : Gh} {D : Addr → Prop} {h : Heap} {loc : List (List CV)} {v : Value} {p : PV} {x : CV} (hD : ∀ b, D b → g.D b) (hla : ∀ b, b ∈ g.la → ¬ D b) (L : LRels g h g.la loc) (r : PRel g h v p) (e : frz loc p = some x) : CRel D h v x := by
 cases r with
 | c r => cases e; exact r.sub hD
 | obj => cases e
 | pair => cases e
 | loc hi =>
  obtain ⟨l, hl, rfl⟩ := Option.map_eq_some_iff.mp e
  obtain ⟨vs, n, ho, rs⟩ := L.get _ _ _ hi hl
  exact .lst ho (hla _ (List.mem_of_getElem? hi)) (rs.sub hD)
 | locs hl hd rs =>
  obtain ⟨ls, hm, rfl⟩ := Option.map_eq_some_iff.mp e
  refine .lst hl (fun z => hd (hD _ z)) ?_
  rename_i a vs n l
  generalize vs.toList = ws at rs
  clear hl hd e
  induction rs generalizing ls with
  | nil => simp at hm; subst hm; exact .nil
  | cons hi _ ih =>
   obtain ⟨hi⟩ := hi
   rw [List.mapM_cons] at hm
   obtain ⟨l0, h0, hm⟩ := Option.bind_eq_some_iff.mp hm
   obtain ⟨ls', h1, hm⟩ := Option.bind_eq_some_iff.mp hm
   cases hm
   obtain ⟨vs', n, ho, rs'⟩ := L.get _ _ _ hi h0
   exact .cons (.lst ho (hla _ (List.mem_of_getElem? hi)) (rs'.sub hD)) (ih _ h1)
noncomputable def LowOk (n : Nat) (g : List GObj) : Prop := g.length = n ∨ ((g.take n).all (GObj.low n)) = true
noncomputable def PV.isLoc : PV → Bool
 | .loc _ => true
 | _ => false
noncomputable def RetOk (n : Nat) (Q : CV → Bool → List GObj → Prop) (f : Fl) (st : St) : Prop :=
 match f with
 | .ret p => ∃ x fr, frz st.loc p = some x ∧ (fr = true → p.isLoc = true) ∧ LowOk n st.glob ∧ Q x fr (st.glob.take n)
 | .next => LowOk n st.glob ∧ Q .none false (st.glob.take n)
 | _ => False
noncomputable def XOk (n : Nat) (X : XV → List GObj → Prop) (px : XV) (st : St) : Prop := LowOk n st.glob ∧ X px (st.glob.take n)
theorem glob_low {g : Gh} {h : Heap} {ga x : List GA} {os : List GObj} {D : Addr → Prop} {U : Addr → Prop} {la : List Addr} (hga : g.ga = ga ++ x) (hD : ∀ b, D b → g.D b) (r : GRels g h g.ga os) (lo : LowOk ga.length os) :
  GRels { ga := ga, la := la, D := D, U := U } h ga (os.take ga.length) := by
 have ht := r.take ga.length
 have e : g.ga.take ga.length = ga := by rw [hga, List.take_left]
 rw [e] at ht
 have low : ∀ o, o ∈ os.take ga.length → GObj.low ga.length o = true ∨ x = [] := by
  intro o ho
  rcases lo with lo | lo
  ·have := r.len
   rw [hga, List.length_append] at this
   exact .inr (List.length_eq_zero_iff.mp (by omega))
  ·exact .inl (List.all_eq_true.mp lo o ho)
 generalize os.take ga.length = os' at ht low
 have cs : ∀ {vs : List Value} {l : List CV}, CRels g.D h vs l → CRels D h vs l := fun r => r.sub hD
 have pr : ∀ {v p}, PRel g h v p → p.noLoc = true → (∀ i, p = .obj i → i < ga.length ∨ x = []) → PRel { ga := ga, la := la, D := D, U := U } h v p := by
  intro v p r nl hi
  cases r with
  | c r => exact .c (r.sub hD)
  | obj q =>
   refine .obj (gh := { ga := ga, la := la, D := D, U := U }) ?_
   rcases hi _ rfl with z | rfl
   ·rw [hga, List.getElem?_append_left z] at q; exact q
   ·rw [hga, List.append_nil] at q; exact q
  | loc => cases nl
  | locs => cases nl
  | pair => cases nl
 have go : ∀ {gs : List GA} {os' : List GObj}, (∀ o, o ∈ os' → GObj.low ga.length o = true ∨ x = []) → GRels g h gs os' → GRels { ga := ga, la := la, D := D, U := U } h gs os' := by
  intro gs os' hl rr
  induction rr with
  | nil => exact .nil
  | cons r _ ih =>
   refine .cons ?_ (ih fun o ho => hl o (.tail _ ho))
   cases r with
   | lst e r => exact .lst e (cs r)
   | inst0 e e' => exact .inst0 e e'
   | inst1 e e' hd r nl =>
    refine .inst1 e e' hd (pr r nl fun i hi => ?_) nl
    subst hi
    refine (hl _ (.head _)).imp (fun q => ?_) id
    exact of_decide_eq_true q
 exact go low ht
section
variable {W : Wd} {sc : List (Str × NameKind)} {gsc : List Str} {lv : Nat}
theorem nfe_ok {M : Model} {A : Around} {E : Value → Shared → Prop} {s : Shared} {scope : Scope} {globals : Addr} {cl : List (Str × Addr)} {binds : List (Str × Value)} {qual : Str} {func : Option Addr} {code : Value} {builtins : Addr} {Q : Env → Shared → Prop} (hc : cl = [])
  (hk : scope.kind = .function)
  (hkind : ∀ x ∈ binds, scope.names.lookup x.1 = some .local ∨ (scope.names.lookup x.1 = some .cell ∧ ((cellsFrom (s.heap.objs.size + 1) scope.names []).lookup x.1).isSome = true))
  (hQ : ∀ env, env = newEnv scope s.heap.objs.size globals (cellsFrom (s.heap.objs.size + 1) scope.names []) qual func code none builtins →
   ∀ s', InCallC s env.locals (bindL env.kindOf binds fun _ => none) env.cells (bindC env.kindOf binds fun _ => none) s' → Q env s') :
  wpAny M A (newFunctionEnv scope globals cl binds qual func code none builtins) Q E s := hc ▸ wpAny_newFunctionEnv_cells hk hkind hQ
theorem CallOk.def {a : Addr} {fd : FuncData} {body : List Stmt} {args : List PV} {kws : List (Str × PV)} {bs : List (Str × PV)} {glob : List GObj} {Q : CV → Bool → List GObj → Prop} {X : XV → List GObj → Prop}
  (F : FnOk W a fd body) (S : ScOk fd.scope sc gsc) (hbs : (sc.take bs.length).map (·.1) = bs.map (·.1))
  (hb : ∀ (gh : Gh) (s : Shared) vs ks, (∀ b o, W.base.get? b = some o → s.heap.get? b = some o) → ARs gh s.heap vs args → ARs gh s.heap ks (kws.map (·.2)) → ∃ ws, ARs gh s.heap ws (bs.map (·.2)) ∧ BindsTo s fd ⟨vs, (kws.map (·.1)).zip ks⟩ ((bs.map (·.1)).zip ws))
  (h : ∀ cx : Cx, cx.Ok → cx.wd = W → cx.sc = sc → cx.usc = [] → cx.gsc = gsc → cx.lv = lv → cx.hn = true → cx.env.scope = fd.scope → cx.env = cx.fenv →
   ExB cx body ⟨glob, [], fr0 sc bs, []⟩ (RetOk glob.length Q) (XOk glob.length X)) : CallOk W (lv + 1) (.ref a) args kws glob Q X := by
 intro A fr gh s vs ks P ra rk
 obtain ⟨mg, mb, Wk⟩ := P.wd
 obtain ⟨o, ho, hd⟩ := F.obj
 obtain ⟨ws, rw, hbind⟩ := hb gh s vs ks P.base ra rk
 have hlen : ws.length = bs.length := by have := rw.len; rwa [List.length_map] at this
 refine codeAny_call_function (by have := P.lv; show A.depth < 1000; omega) (P.base _ _ ho) hd F.co F.gen F.body (F.code.keeps P.base) (hbind _ _ _ _ ?_)
 refine nfe_ok F.clo F.kind (fun x hx => ?_) fun env he s₁ ic => ?_
 ·obtain ⟨h1, h2⟩ : x.1 ∈ bs.map (·.1) ∧ True := ⟨(List.of_mem_zip hx).1, trivial⟩
  rw [← hbs, ] at h1
  obtain ⟨q, hq, hqe⟩ := List.mem_map.mp h1
  have hs := S.sck q (List.mem_of_mem_take hq)
  rw [hqe] at hs
  rcases hs.2.1 with e | e
  ·exact .inl (e ▸ hs.1)
  ·exact .inr ⟨e ▸ hs.1, cells_some _ _ _ (.inl (e ▸ hs.1))⟩
 ·obtain ⟨R, S₁, hz⟩ := enter_rel (sc := sc) (gsc := gsc) P S hbs rw F.kind he ic
  have C : (calleeCx W A fr env sc gsc lv).Ok := by rw [he]; exact callee_ok P F.kind F.globals F.builtins S
  refine ⟨(Wk.nolimit.keeps R.base), codeAny_func ?_⟩
  have hcl : ∀ y c, env.cells.lookup y = some c → s.heap.objs.size < c := fun y c e => by
   have hL : env.locals = s.heap.objs.size := by rw [he]; rfl
   exact hL ▸ ic.above y c (mem_of_lookup e)
  have notU : ∀ b, b < s.heap.objs.size → b ∉ gh.ga.flatMap GA.addrs → ¬ (calleeGh gh s.heap.objs.size env.cells).U b := by
   rintro b hb hn (z | z | ⟨y, z⟩)
   ·exact hn z
   ·exact absurd hb (by rw [z]; exact Nat.lt_irrefl _)
   ·exact absurd hb (Nat.not_lt.mpr (Nat.le_of_lt (hcl y b z)))
  have notD : ∀ b, b < s.heap.objs.size → (calleeGh gh s.heap.objs.size env.cells).D b → gh.D b := by
   rintro b hb (z | z | ⟨y, z⟩)
   ·exact z
   ·exact absurd hb (by rw [z]; exact Nat.lt_irrefl _)
   ·exact absurd hb (Nat.not_lt.mpr (Nat.le_of_lt (hcl y b z)))
  have out : ∀ {st' : St} {gh' : Gh} {s' : Shared} {D' : Addr → Prop}, Rel (calleeCx W A fr env sc gsc lv) gh' st' s' → Tr (calleeGh gh s.heap.objs.size env.cells) s₁.heap gh' s'.heap → Same s₁ s' → LowOk glob.length st'.glob →
    (∀ b, D' b → gh'.D b) → (∀ b, D' b → gh.D b ∨ (s.heap.objs.size ≤ b ∧ b < s'.heap.objs.size)) → (∀ b, gh.D b → D' b) → Out W gh D' s s' (st'.glob.take glob.length) := by
   intro st' gh' s' D' R' T' S' lo h1 h2 h3
   have hn : gh.ga.length = glob.length := P.glob.len
   obtain ⟨x, hx⟩ := T'.ga
   refine ⟨Nat.le_trans hz T'.size, R'.base, fun b o e hb => ?_, ?_, S₁.trans S', h2, h3⟩
   ·refine Kept.trans (.inl (ic.toInCall.keep b o e)) fun o' e' => (T'.kept b o' e' (notU b (Heap.lt_size e) hb)).mono (notD b (Heap.lt_size e))
   ·rw [← hn]
    exact glob_low (g := gh') (ga := gh.ga) (x := x) hx h1 R'.glob (by rw [hn]; exact lo)
  have dn : ∀ {gh' : Gh} {s' : Shared}, Tr (calleeGh gh s.heap.objs.size env.cells) s₁.heap gh' s'.heap → (∀ b, gh'.D b → b < s'.heap.objs.size) → ∀ b, gh'.D b → gh.D b ∨ (s.heap.objs.size ≤ b ∧ b < s'.heap.objs.size) := by
   intro gh' s' T' hin b z
   rcases T'.D b z with q | q
   ·rcases q with q | q | ⟨y, q⟩
    ·exact .inl q
    ·exact .inr ⟨Nat.le_of_eq q.symm, hin b z⟩
    ·exact .inr ⟨Nat.le_of_lt (hcl y b q), hin b z⟩
   ·exact .inr ⟨Nat.le_trans hz q, hin b z⟩
  have body := h (calleeCx W A fr env sc gsc lv) C rfl rfl rfl rfl rfl rfl (by rw [he]; rfl) rfl _ s₁ R
  refine wpAny_mono body ?_ ?_
  ·rintro f s' ⟨g, st', gh', R', T', S', fr', q⟩
   have hDsub : ∀ b, gh.D b → gh'.D b := fun b z => T'.Dm b (.inl z)
   have hDbase : ∀ {D : Addr → Prop}, (D = gh.D) → ∀ b, D b → gh.D b ∨ (s.heap.objs.size ≤ b ∧ b < s'.heap.objs.size) := fun e b z => .inl (e ▸ z)
   cases fr' with
   | next => exact .inl ⟨.none, _, out R' T' S' q.1 hDsub (hDbase rfl) fun _ z => z, .none, q.2⟩
   | brk => exact q.elim
   | cont => exact q.elim
   | ret r =>
    obtain ⟨x, fr, e, hfr, lo, q⟩ := q
    have laNew : ∀ b, b ∈ gh'.la → s.heap.objs.size ≤ b := by
     intro b hb
     have hmu : b ∈ gh'.mu := by unfold Gh.mu; exact List.mem_append_right _ hb
     rcases T'.U b (R'.muU b hmu) with q | q
     ·rcases q with q | q | ⟨y, q⟩
      ·have ap := (List.nodup_append.mp (List.nodup_cons.mp R'.apart).2).2.2
       obtain ⟨x', hx'⟩ := T'.ga
       exact absurd rfl (ap b (by rw [hx', List.flatMap_append]; exact List.mem_append_left _ q) b hb)
      ·exact Nat.le_of_eq q.symm
      ·exact Nat.le_of_lt (hcl y b q)
     ·exact Nat.le_trans hz q
    cases fr with
    | false => exact .inl ⟨x, _, out R' T' S' lo hDsub (hDbase rfl) fun _ z => z, frz_ok hDsub (fun b hb hd => absurd (P.din b hd) (Nat.not_lt.mpr (laNew b hb))) R'.loc r e, q⟩
    | true =>
     cases r with
     | c => cases hfr rfl
     | obj => cases hfr rfl
     | locs => cases hfr rfl
     | pair => cases hfr rfl
     | loc hi =>
      rename_i i a'
      obtain ⟨l, hl, rfl⟩ := Option.map_eq_some_iff.mp e
      obtain ⟨vs', n, ho, rs⟩ := R'.loc.get _ _ _ hi hl
      have ha := laNew _ (List.mem_of_getElem? hi)
      have haD : gh'.D a' := R'.muD (by unfold Gh.mu; exact List.mem_append_right _ (List.mem_of_getElem? hi))
      have sub : ∀ b, (gh.D b ∨ b = a') → gh'.D b := by
       rintro b (z | rfl)
       ·exact hDsub b z
       ·exact haD
      refine .inr ⟨a', vs', n, l, _, rfl, ha, ho, out R' T' S' lo sub ?_ (fun _ z => .inl z), rs.sub sub, q⟩
      rintro b (z | rfl)
      ·exact .inl z
      ·exact .inr ⟨ha, R'.din _ haD⟩
  ·rintro e s' ⟨ea, px, st', gh', rfl, R', T', S', xr, lo, q⟩
   refine wpAny_mono (leaving_ok C rfl (⟨gh', R', T', S', xr⟩ : Fly (calleeCx W A fr env sc gsc lv) (calleeGh gh s.heap.objs.size env.cells) s₁.heap s₁ st' ea px s')) ?_ fun _ _ x => x
   rintro _ s'' ⟨gh'', R'', T'', S'', xr''⟩
   refine ⟨ea, px, _, gh''.D, rfl, out R'' T'' S'' lo (fun _ z => z) (dn T'' R''.din) (fun b z => T''.Dm b (.inl z)), ?_, q⟩
   obtain ⟨x', hx'⟩ := T''.ga
   have sub : ∀ b, b ∈ Gh.mu { gh with D := gh''.D, la := [] } → b ∈ gh''.mu := by
    intro b hb
    simp only [Gh.mu, List.append_nil] at hb ⊢
    rw [hx', List.flatMap_append]
    exact List.mem_append_left _ (List.mem_append_left _ hb)
   obtain ⟨⟨o, fs, t, vs', h1, h2, h3, h4, h5, h6, h7, h8, h9⟩, l, f, d, m⟩ := xr''.lower hz
   refine ⟨⟨o, fs, t, vs', h1, h2, h3, h4, h5, h6, h7, h8, ?_⟩, l, f, d, fun z => m (sub _ z)⟩
   rcases h9 with h9 | ⟨T, oT, ts, a1, a2, a3, a4, a5, a6, a7, a8, a9, a10⟩
   ·exact .inl h9
   ·exact .inr ⟨T, oT, ts, a1, a2, a3, a4, a5, a6, a7, a8, a9, fun z => a10 (sub _ z)⟩
end
noncomputable def chars (x : Str) : List CV := x.cps.toList.map fun c => .str ⟨#[c]⟩
noncomputable def rangeItems (a b c : Int) : List CV := (List.range (Builtin.Range.rangeSize a b c).toNat).map fun (i : Nat) => .int (a + i * c)
noncomputable def itemsOf (st : St) : PV → Option (List CV)
 | .c (.lst l) => some l
 | .c (.tup l) => some l
 | .c (.str x) => some (chars x)
 | .c (.range a b c) => if Builtin.Range.small a b c = true ∧ 0 ≤ Builtin.Range.rangeSize a b c then some (rangeItems a b c) else none
 | .obj k => match st.glob[k]? with
  | some (.lst l) => some l
  | _ => none
 | .loc k => st.loc[k]?
 | _ => none
noncomputable def liveOf : PV → Option PV
 | .obj k => some (.obj k)
 | .loc k => some (.loc k)
 | _ => none
noncomputable def liveAddr (gh : Gh) : PV → Option Addr
 | .obj k => match gh.ga[k]? with
  | some (.l a) => some a
  | _ => none
 | .loc k => gh.la[k]?
 | _ => none
noncomputable def ownedTypes : List String := ["enumerate", "zip", "dict_itemiterator", "dict_reverseitemiterator", "odict_iterator", "itertools.zip_longest", "itertools.pairwise"]
inductive ItObj (h : Heap) (I : Addr) : Prop
 | mk (o : Obj) (fs : Array Value) (T : String) (a : h.get? I = some o) (b : o.cls = .type T) (c : o.data = .fields fs) (d : ownedTypes.contains T = false)
inductive It (cx : Cx) (gh : Gh) (st : St) (h : Heap) (I : Addr) : Option PV → List CV → Prop
 | walk {fp : List Addr} {n : Nat} {P : Nat → Value → Prop} {S : Nat → Heap → Prop} {i : Nat} {items : List CV} (W : Walks cx.wd.prog cx.wd.w cx.A I fp [I] n P S) (hS : S i h) (hfp : ∀ b ∈ fp, b = I ∨ (¬ gh.D b ∧ b < h.objs.size))
   (hn : i + items.length = n) (hP : ∀ j v, i ≤ j → P j v → j < n → ∃ x, items[j - i]? = some x ∧ CRel gh.D h v x) (hT : ∀ i h, S i h → ItObj h I) : It cx gh st h I none items
 | live {p : PV} {ax : Addr} {l items : List CV} {i : Nat} (hit : h.IsListIter I ax i) (ha : liveAddr gh p = some ax) (hl : itemsOf st p = some l) (he : items = l.drop i) : It cx gh st h I (some p) items
structure ItG (gh : Gh) (h : Heap) (I : Addr) : Prop where
 D : gh.D I
 U : ¬ gh.U I
 obj : ItObj h I
section
variable {cx : Cx} {gh gh' : Gh} {st st' : St} {s s' : Shared} {X : XV → St → Prop}
theorem ItObj.notDict {h : Heap} {I : Addr} (x : ItObj h I) : ∀ o, h.get? I = some o → ¬ isDict o := fun o e => by
 obtain ⟨o', fs, T, h1, h2, h3, h4⟩ := x
 obtain rfl := Option.some.inj (e.symm.trans h1)
 exact isDict.no h3 fun _ _ => nofun
theorem ItG.keep {h h' : Heap} {I : Addr} (G : ItG gh h I) (T : Tr gh h gh' h') : ∀ o, h.get? I = some o → h'.get? I = some o := fun o e =>
 (T.kept I o e G.U).exact (G.obj.notDict o e)
theorem ItG.tr {h h' : Heap} {I : Addr} (G : ItG gh h I) (T : Tr gh h gh' h') : ItG gh' h' I where
 D := T.Dm _ G.D
 U z := by
  obtain ⟨o, fs, Ty, h1, _, _, _⟩ := G.obj
  rcases T.U _ z with q | q
  ·exact G.U q
  ·exact absurd (Heap.lt_size h1) (Nat.not_lt.mpr q)
 obj := let ⟨o, fs, Ty, h1, h2, h3, h4⟩ := G.obj; ⟨o, fs, Ty, G.keep T o h1, h2, h3, h4⟩
theorem liveAddr_obj {gh : Gh} {k : Nat} {a : Addr} (e : liveAddr gh (.obj k) = some a) : gh.ga[k]? = some (.l a) := by
 have e : (match gh.ga[k]? with | some (.l a) => some a | _ => none) = some a := e
 cases hg : gh.ga[k]? with
 | none => rw [hg] at e; exact xns e
 | some g =>
  rw [hg] at e
  cases g with
  | l b => exact congrArg (fun a => some (GA.l a)) (Option.some.inj e)
  | i => exact xns e
theorem obj_liveAddr {gh : Gh} {k : Nat} {a : Addr} (e : gh.ga[k]? = some (.l a)) : liveAddr gh (.obj k) = some a := by
 show (match gh.ga[k]? with | some (.l a) => some a | _ => none) = some a
 rw [e]
theorem liveAddr.tr {h h' : Heap} (T : Tr gh h gh' h') {p : PV} {ax : Addr} (e : liveAddr gh p = some ax) : liveAddr gh' p = some ax := by
 cases p with
 | obj k => exact obj_liveAddr (at_app T.ga (liveAddr_obj e))
 | loc k => exact at_app T.la e
 | c => exact xns e
 | locs => exact xns e
 | pair => exact xns e
theorem It.tr (ok : gh.Ok) {h h' : Heap} {I : Addr} {o : Option PV} {items : List CV} (G : ItG gh h I) (T : Tr gh h gh' h') (x : It cx gh st h I o items) (hl : ∀ p, o = some p → itemsOf st' p = itemsOf st p) : It cx gh' st' h' I o items := by
 cases x with
 | walk W hS hfp hn hP hT =>
  refine .walk W (W.frame _ _ _ hS fun b hb ob e => ?_) (fun b hb => ?_) hn (fun j v hj p hjn => ?_) hT
  ·rcases hfp b hb with rfl | ⟨hd, _⟩
   ·exact G.keep T ob e
   ·exact (T.kept b ob e fun z => hd (ok.UD b z)).exactD hd
  ·rcases hfp b hb with rfl | ⟨hd, hlt⟩
   ·exact .inl rfl
   ·refine .inr ⟨fun z => ?_, Nat.lt_of_lt_of_le hlt T.size⟩
    rcases T.D b z with q | q
    ·exact hd q
    ·exact absurd hlt (Nat.not_lt.mpr q)
  ·obtain ⟨x, h1, h2⟩ := hP j v hj p hjn
   exact ⟨x, h1, h2.ext (T.ext ok)⟩
 | live hit ha hl' he =>
  exact .live (hit.at (G.keep T)) (liveAddr.tr T ha) ((hl _ rfl).trans hl') he
inductive LiveI (gh : Gh) (h : Heap) (l : List CV) (ax : Addr) : Prop
 | mk (vs : Array Value) (n : Nat) (o : h.get? ax = some (lstObj vs n)) (r : CRels gh.D h vs.toList l) (u : gh.U ax)
theorem GRel.lstI {h : Heap} {g : GA} {l : List CV} (q : GRel gh h g (.lst l)) : ∃ a vs n, g = .l a ∧ h.get? a = some (lstObj vs n) ∧ CRels gh.D h vs.toList l := by
 cases q with | lst e r => exact ⟨_, _, _, rfl, e, r⟩
theorem glob_lst {k : Nat} {l : List CV} (e : itemsOf st (.obj k) = some l) : st.glob[k]? = some (.lst l) := by
 have e : (match st.glob[k]? with | some (.lst l) => some l | _ => none) = some l := e
 revert e
 cases st.glob[k]? with
 | none => exact xns
 | some o => cases o with
  | inst => exact xns
  | lst l' => exact fun e => congrArg (some ∘ GObj.lst) (Option.some.inj e)
theorem LiveI.obj (R : Rel cx gh st s) {k : Nat} {g : GA} {l : List CV} (hg : gh.ga[k]? = some g) (e : itemsOf st (.obj k) = some l) : ∃ a, g = .l a ∧ LiveI gh s.heap l a := by
 obtain ⟨a, vs, n, rfl, o, r⟩ := (R.glob.get k _ _ hg (glob_lst e)).lstI
 exact ⟨a, rfl, vs, n, o, r, R.muU _ (List.mem_append_left _ (List.mem_flatMap.mpr ⟨_, List.mem_of_getElem? hg, .head _⟩))⟩
theorem LiveI.loc (R : Rel cx gh st s) {k : Nat} {a : Addr} {l : List CV} (hg : gh.la[k]? = some a) (e : itemsOf st (.loc k) = some l) : LiveI gh s.heap l a := by
 obtain ⟨vs, n, o, r⟩ := R.loc.get k _ _ hg e
 exact ⟨vs, n, o, r, R.muU _ (List.mem_append_right _ (List.mem_of_getElem? hg))⟩
theorem liveList (R : Rel cx gh st s) {p : PV} {ax : Addr} {l : List CV} (ha : liveAddr gh p = some ax) (hl : itemsOf st p = some l) : LiveI gh s.heap l ax := by
 cases p with
 | obj k =>
  have ha : (match gh.ga[k]? with | some (.l a) => some a | _ => none) = some ax := ha
  cases hg : gh.ga[k]? with
  | none => rw [hg] at ha; exact xns ha
  | some g =>
   obtain ⟨a, rfl, L⟩ := LiveI.obj R hg hl
   rw [hg] at ha
   exact Option.some.inj ha ▸ L
 | loc k => exact .loc R ha hl
 | c => exact xns ha
 | locs => exact xns ha
 | pair => exact xns ha
theorem Rel.stepI (R : Rel cx gh st s) {I : Addr} {h' : Heap} {tk : Nat} (G : ItG gh s.heap I) (x : Chg (· = I) s.heap h') : Rel cx gh st { s with heap := h', toks := tk } := by
 have hP : ∀ a, a = I → gh.D a ∧ a ∉ gh.mu ∧ ∀ o, s.heap.get? a = some o → (∃ fs, o.data = .fields fs) ∨ ∃ vs n, o.data = .seq vs n := by
  rintro a rfl
  refine ⟨G.D, fun z => G.U (R.muU _ z), fun o e => ?_⟩
  obtain ⟨o', fs, T, h1, h2, h3, h4⟩ := G.obj
  obtain rfl := Option.some.inj (e.symm.trans h1)
  exact .inl ⟨fs, h3⟩
 exact R.chg x hP _
structure Stepped (cx : Cx) (gh : Gh) (st : St) (s s' : Shared) (I : Addr) : Prop where
 rel : Rel cx gh st s'
 chg : Chg (· = I) s.heap s'.heap
 same : Same s s'
theorem CRels.at {D : Addr → Prop} {h : Heap} {vs : List Value} {l : List CV} (r : CRels D h vs l) (i : Nat) (x : CV) (e : l[i]? = some x) : ∃ v, vs[i]? = some v ∧ CRel D h v x := r.all.at1 i x e
inductive NextR (cx : Cx) (gh : Gh) (st : St) (s : Shared) (I : Addr) (o : Option PV) (x : CV) (r : List CV) (y : Option Value) (s' : Shared) : Prop
 | mk (v : Value) (e : y = some v) (S : Stepped cx gh st s s' I) (rv : CRel gh.D s'.heap v x) (it : It cx gh st s'.heap I o r) (G : ItG gh s'.heap I)
theorem It.next (R : Rel cx gh st s) (hh : cx.A.handled = none) {I : Addr} {o : Option PV} {x : CV} {r : List CV} {E : Value → Shared → Prop} (G : ItG gh s.heap I) (it : It cx gh st s.heap I o (x :: r)) :
  wpAny cx.M cx.A (pyNext (.ref I)) (NextR cx gh st s I o x r) E s := by
 cases it with
 | walk W hS hfp hn hP hT =>
  rename_i fp n P S i
  have hlt : i < n := by rw [← hn, List.length_cons]; omega
  refine wpAny_sized (W.item i s _ _ hlt hS fun v h' tk hp hs hk hz => ?_)
  have c : Chg (· = I) s.heap h' := ⟨hz, fun a o ha e => hk a o (by simpa using ha) e⟩
  have X := c.ext (D := gh.D) fun a e => e ▸ G.D
  obtain ⟨x', h1, h2⟩ := hP i v (Nat.le_refl _) hp hlt
  rw [Nat.sub_self] at h1
  cases h1
  refine ⟨v, rfl, ⟨R.stepI G c, c, ⟨rfl, rfl, rfl⟩⟩, h2.ext X, .walk W hs (fun b hb => (hfp b hb).imp id fun q => ⟨q.1, Nat.lt_of_lt_of_le q.2 hz⟩) (by rw [← hn, List.length_cons]; omega) (fun j w hj pw hjn => ?_) hT, G.D, G.U, hT _ _ hs⟩
  obtain ⟨x'', h3, h4⟩ := hP j w (by omega) pw hjn
  refine ⟨x'', ?_, h4.ext X⟩
  have : j - i = (j - (i + 1)) + 1 := by omega
  rw [this] at h3; simpa using h3
 | live hit ha hl he =>
  rename_i p ax l i
  obtain ⟨vs, n, ho, rs, hU⟩ := liveList R ha hl
  have hne : ax ≠ I := by rintro rfl; exact G.U hU
  have hli : s.heap.IsList ax vs := ⟨_, ho, rfl, n, rfl⟩
  obtain ⟨v, hv, rv⟩ : ∃ v, vs[i]? = some v ∧ CRel gh.D s.heap v x := by
   have : l[i]? = some x := by have := congrArg (·[0]?) he; simpa using this.symm
   obtain ⟨v, h1, h2⟩ := rs.at i x this
   exact ⟨v, by rw [← Array.getElem?_toList]; exact h1, h2⟩
  refine wpAny_pyNext_list_item hit hli hv fun h' hit' hs => ?_
  have c : Chg (· = I) s.heap h' := Chg.same hs
  have X := c.ext (D := gh.D) fun a e => e ▸ G.D
  refine ⟨v, rfl, ⟨R.stepI (tk := s.toks) G c, c, ⟨rfl, rfl, rfl⟩⟩, rv.ext X, .live hit' ha hl (by rw [← List.drop_drop, ← he]; rfl), G.D, G.U, ?_⟩
  obtain ⟨o, h1, h2, h3⟩ := hit'
  exact ⟨o, _, _, h1, h2, h3, by decide⟩
theorem It.stop (R : Rel cx gh st s) (hh : cx.A.handled = none) {I : Addr} {o : Option PV} {E : Value → Shared → Prop} (G : ItG gh s.heap I) (it : It cx gh st s.heap I o []) :
  wpAny cx.M cx.A (pyNext (.ref I)) (fun y s' => y = none ∧ Stepped cx gh st s s' I) E s := by
 cases it with
 | walk W hS hfp hn hP hT =>
  rename_i fp n P S i
  have hlt : i = n := by rw [← hn]; rfl
  subst hlt
  refine wpAny_sized (W.done s _ _ hS fun h' tk hk hz => ?_)
  have c : Chg (· = I) s.heap h' := ⟨hz, fun a o ha e => hk a o (by simpa using ha) e⟩
  exact ⟨rfl, R.stepI G c, c, ⟨rfl, rfl, rfl⟩⟩
 | live hit ha hl he =>
  rename_i p ax l i
  obtain ⟨vs, n, ho, rs, hU⟩ := liveList R ha hl
  have hli : s.heap.IsList ax vs := ⟨_, ho, rfl, n, rfl⟩
  have hv : vs[i]? = none := by
   have hl := rs.len
   rw [Array.length_toList] at hl
   have := congrArg List.length he
   simp at this
   rw [Array.getElem?_eq_none]; omega
  refine wpAny_sized (wpAny_pyNext_list_end hh hit hli hv fun h' hk hz => ?_)
  have c : Chg (· = I) s.heap h' := Chg.extBut hk hz
  exact ⟨rfl, R.stepI (tk := s.toks) G c, c, ⟨rfl, rfl, rfl⟩⟩
theorem It.self (R : Rel cx gh st s) {I : Addr} {o : Option PV} {items : List CV} {E : Value → Shared → Prop} {Q : Value → Shared → Prop} (it : It cx gh st s.heap I o items) (h : Q (.ref I) s) : wpAny cx.M cx.A (pyIter (.ref I)) Q E s := by
 cases it with
 | walk W hS => exact W.self _ _ _ _ hS h
 | live hit => exact wpAny_pyIter_listiter hit h
theorem CRels.get {D : Addr → Prop} {h : Heap} {vs : List Value} {l : List CV} (r : CRels D h vs l) (i : Nat) (v : Value) (e : vs[i]? = some v) : ∃ x, l[i]? = some x ∧ CRel D h v x := r.all.at2 i v e
inductive Itd (cx : Cx) (gh : Gh) (st : St) (s : Shared) (p : PV) (l : List CV) (it : Value) (s' : Shared) : Prop
 | mk (gh' : Gh) (e : it = .ref s.heap.objs.size) (R : Rel cx gh' st s') (T : Tr gh s.heap gh' s'.heap) (S : Same s s') (I : It cx gh' st s'.heap s.heap.objs.size (liveOf p) l) (G : ItG gh' s'.heap s.heap.objs.size) (z : s'.heap.objs.size = s.heap.objs.size + 1)
theorem itd_new (R : Rel cx gh st s) {p : PV} {l : List CV} {o : Obj} {T : String} {fs : Array Value} (h1 : o.cls = .type T) (h2 : o.data = .fields fs) (h3 : ownedTypes.contains T = false)
  (h4 : Ext gh.D (fun _ => False) s.heap (gh.dead (· = s.heap.objs.size)).D (s.heap.push o) → It cx (gh.dead (· = s.heap.objs.size)) st (s.heap.push o) s.heap.objs.size (liveOf p) l) : Itd cx gh st s p l (.ref s.heap.objs.size) { s with heap := s.heap.push o } := by
 have hx := Chg.push s.heap o
 have hP : ∀ b, b = s.heap.objs.size → s.heap.objs.size ≤ b ∧ b < (s.heap.push o).objs.size := fun b e => by rw [Heap.size_push, e]; exact ⟨Nat.le_refl _, Nat.lt_succ_self _⟩
 exact ⟨_, rfl, R.alloc hx hP s.toks, Tr.alloc hx fun b z => (hP b z).1, ⟨rfl, rfl, rfl⟩, h4 (hx.extDead fun b z => (hP b z).1), ⟨.inr rfl, fun z => R.notD (R.ok.UD _ z), ⟨o, fs, T, Heap.get?_push_size _ (Obj.isFreed_of_fields h2), h1, h2, h3⟩⟩, Heap.size_push ..⟩
theorem iter_live (R : Rel cx gh st s) {p : PV} {a : Addr} {l : List CV} {E : Value → Shared → Prop} (hq : liveOf p = some p) (ha : liveAddr (gh.dead (· = s.heap.objs.size)) p = some a) (e : itemsOf st p = some l) (L : LiveI gh s.heap l a) : wpAny cx.M cx.A (pyIter (.ref a)) (Itd cx gh st s p l) E s := by
 obtain ⟨vs, n, ho, _, _⟩ := L
 refine wpAny_pyIter_list (l := a) ⟨_, ho, rfl, n, rfl⟩ (itd_new R rfl rfl (by decide) fun _ => ?_)
 rw [hq]
 exact .live (i := 0) ⟨_, Heap.get?_push_size _ rfl, rfl, rfl⟩ ha e rfl
theorem sign_at {D : Addr → Prop} {h : Heap} {x : Str} {j : Nat} {v : Value} (hp : SignAt x j v) : ∃ y, (chars x)[j - 0]? = some y ∧ CRel D h v y := by
 obtain ⟨c, u, h1, rfl⟩ := hp
 refine ⟨.str ⟨#[c]⟩, ?_, .str _ _⟩
 unfold chars
 rw [List.getElem?_map, Nat.sub_zero, Array.getElem?_toList, h1]; rfl
theorem mem2 {P : Addr → Prop} {a b c : Addr} (h : b ∈ [a, c]) (hc : P c) : b = a ∨ P b := (List.mem_cons.mp h).imp id fun q => by rw [List.mem_singleton.mp q]; exact hc
theorem chars_len (x : Str) : 0 + (chars x).length = x.cps.size := by simp [chars]
theorem at_get {D : Addr → Prop} {h : Heap} {vs : Array Value} {l : List CV} (r : CRels D h vs.toList l) {j : Nat} {v : Value} (hp : vs[j]? = some v) : ∃ x, l[j - 0]? = some x ∧ CRel D h v x := r.get j v (Array.getElem?_toList.trans hp)
theorem len_of {D : Addr → Prop} {h : Heap} {vs : Array Value} {l : List CV} (r : CRels D h vs.toList l) : 0 + l.length = vs.size := (Nat.zero_add _).trans (r.len.symm.trans Array.length_toList)
theorem iter_str (hh : cx.A.handled = none) (R : Rel cx gh st s) {x : Str} {t : Tok} {E : Value → Shared → Prop} : wpAny cx.M cx.A (pyIter (.str x t)) (Itd cx gh st s (.c (.str x)) (chars x)) E s := by
 cases ha : x.cps.all (· < 128) with
 | false => exact wpAny_pyIter_wide ha (itd_new R rfl rfl (by decide) fun _ => .walk (Walks.strWide hh s.heap.objs.size x t) (i := 0) ⟨_, Heap.get?_push_size _ rfl, rfl, rfl⟩
   (fun b hb => .inl (List.mem_singleton.mp hb)) (chars_len x) (fun _ _ _ hp _ => sign_at hp) fun i h hS => let ⟨o, h1, h2, h3⟩ := hS; ⟨o, _, _, h1, h2, h3, by decide⟩)
 | true => exact wpAny_pyIter_ascii ha (itd_new R rfl rfl (by decide) fun _ => .walk (Walks.strAscii hh s.heap.objs.size x t) (i := 0) ⟨_, Heap.get?_push_size _ rfl, rfl, rfl⟩
   (fun b hb => .inl (List.mem_singleton.mp hb)) (chars_len x) (fun _ _ _ hp _ => sign_at hp) fun i h hS => let ⟨o, h1, h2, h3⟩ := hS; ⟨o, _, _, h1, h2, h3, by decide⟩)
theorem iter_range (hh : cx.A.handled = none) (R : Rel cx gh st s) {r : Addr} {a b c : Int} {t u w : Tok} {E : Value → Shared → Prop} (hr : s.heap.get? r = some (rangeObj a b c t u w)) (hs : Builtin.Range.small a b c = true ∧ 0 ≤ Builtin.Range.rangeSize a b c) :
  wpAny cx.M cx.A (pyIter (.ref r)) (Itd cx gh st s (.c (.range a b c)) (rangeItems a b c)) E s := by
 refine wpAny_pyIter_range hr hs.1 (itd_new R rfl rfl (by decide) fun _ => .walk (Walks.range hh s.heap.objs.size a c (Builtin.Range.rangeSize a b c).toNat) (i := 0) ?_ (fun b hb => .inl (List.mem_singleton.mp hb)) (by simp [rangeItems]) (fun j v _ hp hj => ?_) fun i h hS => ⟨_, _, _, hS, rfl, rfl, by decide⟩)
 ·have e1 : ((Builtin.Range.rangeSize a b c).toNat : Int) = Builtin.Range.rangeSize a b c := Int.toNat_of_nonneg hs.2
  show Heap.get? _ _ = _
  rw [e1, show (((0 : Nat) : Int)) = 0 from rfl, Int.zero_mul, Int.add_zero, Int.sub_zero]
  exact Heap.get?_push_size _ rfl
 ·obtain ⟨t, rfl⟩ := hp
  exact ⟨_, by simp [rangeItems, hj], .int _ _⟩
theorem iter_tup (hh : cx.A.handled = none) (R : Rel cx gh st s) {a : Addr} {vs : Array Value} {l : List CV} {E : Value → Shared → Prop} (ht : IsTup s.heap a vs) (hd : ¬ gh.D a) (r : CRels gh.D s.heap vs.toList l) : wpAny cx.M cx.A (pyIter (.ref a)) (Itd cx gh st s (.c (.tup l)) l) E s := by
 have hl : a < s.heap.objs.size := let ⟨_, ho, _⟩ := ht; Heap.lt_size ho
 exact wpAny_pyIter_tuple ht (itd_new R rfl rfl (by decide) fun X => .walk (Walks.tuple hh s.heap.objs.size a (Nat.ne_of_lt hl) vs) (i := 0) ⟨⟨_, Heap.get?_push_size _ rfl, rfl, rfl⟩, ht.push _⟩
  (fun b hb => mem2 (P := fun b => ¬ (gh.dead (· = s.heap.objs.size)).D b ∧ b < (s.heap.push _).objs.size) hb ⟨(X.isTup ht hd).2, Nat.lt_of_lt_of_le hl (by rw [Heap.size_push]; exact Nat.le_succ _)⟩) (len_of r) (fun j v _ hp _ => at_get (r.ext X) hp) fun i h hS => let ⟨o, h1, h2, h3⟩ := hS.1; ⟨o, _, _, h1, h2, h3, by decide⟩)
theorem iter_lst (hh : cx.A.handled = none) (R : Rel cx gh st s) {a : Addr} {vs : Array Value} {n : Nat} {l : List CV} {E : Value → Shared → Prop} (ht : s.heap.get? a = some (lstObj vs n)) (hd : ¬ gh.D a) (r : CRels gh.D s.heap vs.toList l) : wpAny cx.M cx.A (pyIter (.ref a)) (Itd cx gh st s (.c (.lst l)) l) E s := by
 have hl : a < s.heap.objs.size := Heap.lt_size ht
 have ht : s.heap.IsList a vs := ⟨_, ht, rfl, n, rfl⟩
 exact wpAny_pyIter_list ht (itd_new R rfl rfl (by decide) fun X => .walk (Walks.list hh s.heap.objs.size a (Nat.ne_of_lt hl) vs) (i := 0) ⟨⟨_, Heap.get?_push_size _ rfl, rfl, rfl⟩, ht.push _⟩
  (fun b hb => mem2 (P := fun b => ¬ (gh.dead (· = s.heap.objs.size)).D b ∧ b < (s.heap.push _).objs.size) hb ⟨(X.isList ht hd).2, Nat.lt_of_lt_of_le hl (by rw [Heap.size_push]; exact Nat.le_succ _)⟩) (len_of r) (fun j v _ hp _ => at_get (r.ext X) hp) fun i h hS => let ⟨o, h1, h2, h3⟩ := hS.1; ⟨o, _, _, h1, h2, h3, by decide⟩)
theorem iter_ok (hh : cx.A.handled = none) (R : Rel cx gh st s) {v : Value} {p : PV} {l : List CV} (r : PRel gh s.heap v p) (e : itemsOf st p = some l) {E : Value → Shared → Prop} : wpAny cx.M cx.A (pyIter v) (Itd cx gh st s p l) E s := by
 replace r := r.inv
 cases p with
 | obj k =>
  obtain ⟨g, rfl, hg⟩ := r
  obtain ⟨a, rfl, L⟩ := LiveI.obj R hg e
  exact iter_live R rfl (by show (match gh.ga[k]? with | some (.l a) => some a | _ => none) = _; rw [hg]; rfl) e L
 | loc k =>
  obtain ⟨a, rfl, hg⟩ := r
  exact iter_live R rfl hg e (.loc R hg e)
 | locs => exact xns e
 | pair => exact xns e
 | c x =>
  replace r := CRel.inv r
  cases x with
  | str x => obtain ⟨t, rfl⟩ := r; exact Option.some.inj e ▸ iter_str hh R
  | range a b c =>
   obtain ⟨_, _, _, _, rfl, hr, _⟩ := r
   have e : (if Builtin.Range.small a b c = true ∧ 0 ≤ Builtin.Range.rangeSize a b c then some (rangeItems a b c) else none) = some l := e
   split at e
   ·exact Option.some.inj e ▸ iter_range hh R hr (by assumption)
   ·exact xns e
  | tup => obtain ⟨_, _, rfl, ht, hd, r⟩ := r; exact Option.some.inj e ▸ iter_tup hh R ht hd r
  | lst => obtain ⟨_, _, _, rfl, ht, hd, r⟩ := r; exact Option.some.inj e ▸ iter_lst hh R ht hd r
  | _ => exact xns e
end
section
variable {cx : Cx} {st : St} {X : XV → St → Prop}
theorem lot_cases (t : Expr) (r v : Value) : letOwnedTupleGo t r v = letOwnedTupleGo (.Tuple [] 0 default) r v ∨ letOwnedTupleGo t r v = pure () := by
 cases t <;> first | exact .inr rfl | exact .inl rfl
theorem letGo_ok {cx : Cx} {I : Addr} {s : Shared} {t : Expr} {v : Value} {Q : Unit → Shared → Prop} {E : Value → Shared → Prop} (x : ItObj s.heap I) (h : Q () s) : wpAny cx.M cx.A (letOwnedTupleGo t (.ref I) v) Q E s := by
 obtain ⟨o, fs, T, h1, h2, h3, h4⟩ := x
 rcases lot_cases t (.ref I) v with e | e
 ·refine w_eq e ?_
  cases v with
  | ref a =>
   show wpAny _ _ (load I >>= _) _ _ _
   refine wpAny_bind (wpAny_load h1 ?_)
   rw [h2, h3]
   show wpAny _ _ (if (ownedTypes.contains T && _) = true then _ else _) _ _ _
   rw [h4, Bool.false_and, if_neg Bool.false_ne_true]
   exact wpAny_pure h
  | _ => exact wpAny_pure h
 ·exact w_eq e (wpAny_pure h)
noncomputable def bodyQ (Q : Fl → St → Prop) (J : St → Prop) (f : Fl) (st : St) : Prop :=
 match f with
 | .next => J st
 | .cont => J st
 | .brk => Q .next st
 | .ret p => Q (.ret p) st
inductive ForJ (cx : Cx) (gh : Gh) (s : Shared) (I : Addr) (o : Option PV) (J : List CV → St → Prop) (n : Nat) (s' : Shared) : Prop
 | mk (g : Gh) (st' : St) (items : List CV) (e : items.length = n) (R : Rel cx g st' s') (T : Tr gh s.heap g s'.heap) (S : Same s s') (it : It cx g st' s'.heap I o items) (G : ItG g s'.heap I) (j : J items st')
inductive ForI (st : St) (p : PV) (J : List CV → St → Prop) : Prop
 | mk (l : List CV) (e : itemsOf st p = some l) (j : J l st) (k : ∀ q, liveOf p = some q → ∀ r st₂, J r st₂ → itemsOf st₂ q = some l)
theorem ExS.for (C : cx.Ok) (hn : cx.hn = true) (hce : cx.env = cx.fenv) {target iter : Expr} {body : List Stmt} {pos : Pos} {Q : Fl → St → Prop} (J : List CV → St → Prop)
  (h : EvE cx iter st (fun p st₁ => ForI st₁ p J) X)
  (step : ∀ x r st₂, J (x :: r) st₂ → AsG cx target (.c x) st₂ (fun st₃ => ExB cx body st₃ (bodyQ Q (J r)) X) X)
  (done : ∀ st₂, J [] st₂ → Q .next st₂) (hs : ∀ x, foldedSetIterable iter cx.env x = pure x := by intro _; rfl) : ExS cx (.For target iter body [] pos) st Q X := fun gh s R => by
 have hh := C.hn hn
 refine wpAny_For (wpAny_mono (h gh s R) ?_ fun _ _ x => x) hs
 rintro v s₁ ⟨p, st₁, g₁, R₁, T₁, S₁, r₁, l, e, j, hl⟩
 refine wpAny_mono (iter_ok hh R₁ r₁ e) ?_ fun _ _ x => x
 rintro it s₂ ⟨g₂, rfl, R₂, T₂, S₂, I₂, G₂, _⟩
 generalize hI : s₁.heap.objs.size = I at I₂ G₂
 have hlo : s.heap.objs.size ≤ I := hI ▸ T₁.size
 have hlive : ∀ (st₂ st₃ : St) r r', J r st₂ → J r' st₃ → ∀ q, liveOf p = some q → itemsOf st₃ q = itemsOf st₂ q := fun st₂ st₃ r r' a b q hq => by rw [hl q hq r st₂ a, hl q hq r' st₃ b]
 refine codeAny_forLoop_any (ForJ cx gh s I (liveOf p) J) ?_ l.length
  ⟨g₂, st₁, l, rfl, R₂, T₁.trans T₂, S₁.trans S₂, I₂, G₂, j⟩
 rintro n s' ⟨g, st', items, rfl, R', T', S', I', G', j'⟩
 have up : ∀ {g : Gh} {s₃ : Shared} {v : Value} {s₄ : Shared}, Tr gh s.heap g s₃.heap → Same s s₃ → PostX cx g s₃ X v s₄ → notedBy cx.M cx.A cx.env (fun e s'' => cameBackBy cx.M cx.A cx.env (PostX cx gh s X) e s'') v s₄ :=
  fun T S p => cameBack_ok C hce (p.up T S)
 cases items with
 | nil =>
  refine wpAny_mono (It.stop R' hh G' I') ?_ fun _ _ x => x
  rintro y s₃ ⟨rfl, R₃, c₃, S₃⟩
  exact wpAny_execs_nil ⟨.next, st', g, R₃, T'.chg c₃ fun a e => .inl (e ▸ hlo), S'.trans S₃, .next, done _ j'⟩
 | cons x r =>
  refine wpAny_mono (It.next R' hh G' I') ?_ fun _ _ x => x
  rintro y s₃ ⟨v, rfl, ⟨R₃, c₃, S₃⟩, rv, I₃, G₃⟩
  have T₃ : Tr gh s.heap g s₃.heap := T'.chg c₃ fun a e => .inl (e ▸ hlo)
  have S₃ := S'.trans S₃
  refine letGo_ok G₃.obj (wpAny_mono (step x r st' j' g s₃ v R₃ (.c rv)) ?_ fun _ _ p => up T₃ S₃ p)
  rintro _ s₄ ⟨st₄, g₄, R₄, T₄, S₄, q₄⟩
  refine wpAny_mono (q₄ g₄ s₄ R₄) ?_ fun _ _ p => up (T₃.trans T₄) (S₃.trans S₄) p
  rintro f s₅ ⟨fl, st₅, g₅, R₅, T₅, S₅, fr, q₅⟩
  have T45 := T₄.trans T₅
  cases fr with
  | next => exact ⟨r.length, Nat.lt_succ_self _, g₅, st₅, r, rfl, R₅, T₃.trans T45, (S₃.trans S₄).trans S₅, I₃.tr R₃.ok G₃ T45 (hlive _ _ _ _ j' q₅), G₃.tr T45, q₅⟩
  | cont => exact ⟨r.length, Nat.lt_succ_self _, g₅, st₅, r, rfl, R₅, T₃.trans T45, (S₃.trans S₄).trans S₅, I₃.tr R₃.ok G₃ T45 (hlive _ _ _ _ j' q₅), G₃.tr T45, q₅⟩
  | brk => exact ⟨.next, st₅, g₅, R₅, T₃.trans T45, (S₃.trans S₄).trans S₅, .next, q₅⟩
  | ret rv => exact ⟨_, st₅, g₅, R₅, T₃.trans T45, (S₃.trans S₄).trans S₅, .ret rv, q₅⟩
theorem ExS.while (C : cx.Ok) (hce : cx.env = cx.fenv) {test : Expr} {body : List Stmt} {pos : Pos} {Q : Fl → St → Prop} (J : Nat → St → Prop) (n : Nat) (h : J n st)
  (turn : ∀ n st₁, J n st₁ → EvT cx test st₁ (fun b st₂ => (b = true → ExB cx body st₂ (bodyQ Q fun st₃ => ∃ m, m < n ∧ J m st₃) X) ∧ (b = false → Q .next st₂)) X) : ExS cx (.While test body [] pos) st Q X := fun gh s R => by
 refine wpAny_While ?_
 refine codeAny_whileLoop (fun n s' => ∃ g st', Rel cx g st' s' ∧ Tr gh s.heap g s'.heap ∧ Same s s' ∧ J n st') ?_ n ⟨gh, st, R, .refl .., .refl _, h⟩
 rintro n s' ⟨g, st', R', T', S', j'⟩
 have up : ∀ {g : Gh} {s₃ : Shared} {v : Value} {s₄ : Shared}, Tr gh s.heap g s₃.heap → Same s s₃ → PostX cx g s₃ X v s₄ → notedBy cx.M cx.A cx.env (fun e s'' => cameBackBy cx.M cx.A cx.env (PostX cx gh s X) e s'') v s₄ :=
  fun T S p => cameBack_ok C hce (p.up T S)
 refine wpAny_mono (turn n st' j' g s' R') ?_ fun _ _ p => up T' S' p
 rintro b s₃ ⟨st₃, g₃, R₃, T₃, S₃, q1, q2⟩
 cases b with
 | false => exact wpAny_execs_nil ⟨.next, st₃, g₃, R₃, T'.trans T₃, S'.trans S₃, .next, q2 rfl⟩
 | true =>
  refine wpAny_mono (q1 rfl g₃ s₃ R₃) ?_ fun _ _ p => up (T'.trans T₃) (S'.trans S₃) p
  rintro f s₅ ⟨fl, st₅, g₅, R₅, T₅, S₅, fr, q₅⟩
  have T := (T'.trans T₃).trans T₅
  have S := (S'.trans S₃).trans S₅
  cases fr with
  | next => obtain ⟨m, hm, q⟩ := q₅; exact ⟨m, hm, g₅, st₅, R₅, T, S, q⟩
  | cont => obtain ⟨m, hm, q⟩ := q₅; exact ⟨m, hm, g₅, st₅, R₅, T, S, q⟩
  | brk => exact ⟨.next, st₅, g₅, R₅, T, S, .next, q₅⟩
  | ret rv => exact ⟨_, st₅, g₅, R₅, T, S, .ret rv, q₅⟩
end
theorem runs_toks {M : Model} {Γ : Ctx} {p : Pos} {t : Sem Fin} {fs : List Frame} {s s' : Shared} {e : End} (h : Runs M Γ p t fs s e s') : s.toks ≤ s'.toks := by
 induction h <;> (try simp only [Shared.setGen] at *) <;> omega
theorem wakes_toks {M : Model} {Γ : Ctx} {p : Pos} {g : Nat} {r : Resume} {s s' : Shared} {res : GenResult} (h : Wakes M Γ p g r s res s') : s.toks ≤ s'.toks := by
 unfold Wakes at h
 split at h
 ·exact h.elim
 ·split at h
  ·obtain ⟨e₁, s₁, hr, _, _, rfl⟩ := h; exact (runs_toks hr : (s.setGen g .running).toks ≤ s₁.toks)
  ·rw [h.2]; exact Nat.le_refl _
  ·rw [h.2]; exact Nat.le_refl _
 ·obtain ⟨e₁, s₁, hr, _, _, rfl⟩ := h; exact (runs_toks hr : (s.setGen g .running).toks ≤ s₁.toks)
 ·rw [h.2]; exact Nat.le_refl _
 ·rw [h.2]; exact Nat.le_refl _
theorem wp_toks {α : Type} (M : Model) (Γ : Ctx) (n : Nat) (t : Sem α) : ∀ (Q : α → Pos → Shared → Prop) (E : Value → Pos → Shared → Prop) (p : Pos) (s : Shared), n ≤ s.toks → Sem.wp M Γ t Q E p s →
  Sem.wp M Γ t (fun a p' s' => n ≤ s'.toks ∧ Q a p' s') (fun e p' s' => n ≤ s'.toks ∧ E e p' s') p s := by
 induction t with
 | pure a => intro Q E p s hn h; exact ⟨hn, h⟩
 | raise e => intro Q E p s hn h; exact ⟨hn, h⟩
 | unsupported _ => intro Q E p s _ h; exact h
 | finish _ => intro Q E p s _ h; exact h
 | rule _ k ih => intro Q E p s hn h; exact ih () Q E p s hn h
 | «at» p' k ih => intro Q E p s hn h; exact ih () Q E p' s hn h
 | load a _ k ih => intro Q E p s hn h; obtain ⟨o, ho, h⟩ := h; exact ⟨o, ho, ih o Q E p s hn h⟩
 | update a _ f k ih => intro Q E p s hn h; exact ⟨h.1, ih () Q E p _ hn h.2⟩
 | loadIfAlive a k ih => intro Q E p s hn h; exact ih _ Q E p s hn h
 | point _ k ih => intro Q E p s hn h; exact ih () Q E p s hn h
 | register _ _ => intro Q E p s _ h; exact h
 | alloc o k ih => intro Q E p s hn h; exact ih _ Q E p _ hn h
 | fresh k ih => intro Q E p s hn h; exact ih _ Q E p _ (Nat.le_succ_of_le hn) h
 | ask k ih => intro Q E p s hn h; exact ih _ Q E p s hn h
 | choose src m k ih => intro Q E p s hn h; exact ⟨h.1, ih _ Q E p _ hn h.2⟩
 | os q _ k ih => intro Q E p s hn h; exact ih _ Q E p _ hn h
 | call c hd _ _ k ih => intro Q E p s hn h; obtain ⟨r, s', hr, h⟩ := h; exact ⟨r, s', hr, ih r Q E p s' (Nat.le_trans hn (runs_toks hr)) h⟩
 | handled own k ih => intro Q E p s hn h; exact ih _ Q E p s hn h
 | genState g k ih => intro Q E p s hn h; obtain ⟨st, hs, h⟩ := h; exact ⟨st, hs, ih _ Q E p s hn h⟩
 | newGen c k ih => intro Q E p s hn h; exact ih _ Q E p _ hn h
 | resume g r _ k ih => intro Q E p s hn h; obtain ⟨res, s', hw, h⟩ := h; exact ⟨res, s', hw, ih res Q E p s' (Nat.le_trans hn (wakes_toks hw)) h⟩
 | yield _ _ _ _ => intro Q E p s _ h; exact h
 | stack k ih => intro Q E p s hn h; exact ih _ Q E p s hn h
 | fork _ _ => intro Q E p s _ h; exact h
 | thread k ih => intro Q E p s hn h; exact ih _ Q E p s hn h
 | await _ _ _ _ _ => intro Q E p s _ h; exact h
theorem wpAny_toksed {α : Type} {M : Model} {A : Around} {s : Shared} {t : Sem α} {Q : α → Shared → Prop} {E : Value → Shared → Prop}
  (h : wpAny M A t (fun a s' => s.toks ≤ s'.toks → Q a s') (fun e s' => s.toks ≤ s'.toks → E e s') s) : wpAny M A t Q E s := fun Γ p hΓ =>
 Sem.wp_mono M Γ _ (fun _ _ _ x => x.2 x.1) (fun _ _ _ x => x.2 x.1) _ _ (wp_toks M Γ s.toks t _ _ p s (Nat.le_refl _) (h Γ p hΓ))
section
variable {cx : Cx} {gh : Gh} {st : St} {s : Shared} {X : XV → St → Prop}
noncomputable def Prim (cx : Cx) (f : Value) (ps : List PV) (st : St) (Q : PV → St → Prop) (X : XV → St → Prop) : Prop :=
 ∀ gh s vs, Rel cx gh st s → PRels gh s.heap vs ps → wpAny cx.M cx.A (call f vs) (PostV cx gh s Q) (PostX cx gh s X) s
inductive Callee (cx : Cx) : Value → Prop
 | builtin {id} : Callee cx (.builtin id)
 | type {T} : Callee cx (.type T)
 | fn {a o fd} : cx.wd.base.get? a = some o → o.data = .func fd → Callee cx (.ref a)
inductive AppG (cx : Cx) (pf : PV) (K : Value → Prop) : Prop
 | mk (f : Value) (a : pf = .c (.con f)) (b : Callee cx f) (k : K f)
theorem EvE.app {id : Str} {p pos : Pos} {e : Expr} {es : List Expr} {Q : PV → St → Prop}
  (h : EvE cx (.Name id p) st (fun pf st₁ => AppG cx pf fun f => EvL cx (e :: es) st₁ (fun ps st₂ => Prim cx f ps st₂ Q X) X) X)
  (he : ∀ env, backTo pos (starEach (e :: es) env) = (false, eval e env) :: (backTo pos (starEach (e :: es) env)).tail := by intro _; rfl)
  (hp : ∀ env, (backTo pos (starEach (e :: es) env)).any (·.1) = false := by intro _; rfl) :
  EvE cx (.Call (.Name id p) (e :: es) [] pos) st Q X := fun gh s R => by
 refine wpAny_Call_Name_kw (wpAny_mono (h gh s R) ?_ fun _ _ x => x)
 rintro v s₁ ⟨pf, st₁, g₁, R₁, T₁, S₁, r₁, f, rfl, hf, q₁⟩
 replace r₁ := r₁.toC; replace r₁ := r₁.inv; obtain rfl := r₁
 have args : ∀ {Q' : Args → Shared → Prop}, (∀ vs s₂ ps st₂ g₂, Rel cx g₂ st₂ s₂ → Tr g₁ s₁.heap g₂ s₂.heap → Same s₁ s₂ → PRels g₂ s₂.heap vs ps → Prim cx v ps st₂ Q X → Q' ⟨vs, []⟩ s₂) →
   wpAny cx.M cx.A (evalArgs v true (backTo pos (starEach (e :: es) cx.env)) []) Q' (PostX cx gh s X) s₁ := by
  intro Q' hq
  rw [he cx.env]
  refine evalArgs_plain ?_
  rw [← he cx.env]
  refine wpAny_mono (q₁ pos g₁ s₁ R₁) ?_ fun _ _ x => x.up T₁ S₁
  rintro vs s₂ ⟨ps, st₂, g₂, R₂, T₂, S₂, r₂, q₂⟩
  exact hq vs s₂ ps st₂ g₂ R₂ T₂ S₂ r₂ q₂
 have fin : ∀ vs s₂ ps st₂ g₂, Rel cx g₂ st₂ s₂ → Tr g₁ s₁.heap g₂ s₂.heap → Same s₁ s₂ → PRels g₂ s₂.heap vs ps → Prim cx v ps st₂ Q X → wpAny cx.M cx.A (call v vs) (PostV cx gh s Q) (PostX cx gh s X) s₂ :=
  fun vs s₂ ps st₂ g₂ R₂ T₂ S₂ r₂ q₂ => wpAny_mono (q₂ g₂ s₂ vs R₂ r₂) (fun _ _ x => x.up (T₁.trans T₂) (S₁.trans S₂)) fun _ _ x => x.up (T₁.trans T₂) (S₁.trans S₂)
 show wpAny _ _ (callWith pos v [] (backTo pos (starEach (e :: es) cx.env)) []) _ _ _
 cases hf with
 | builtin => exact callWith_builtin (hp _) (args fin)
 | type => exact PyProof.Rows.callWith_type (hp _) (args fin)
 | fn ho hd => exact callWith_function (args fun vs s₂ ps st₂ g₂ R₂ T₂ S₂ r₂ q₂ => ⟨⟨R₂.base _ _ ho, hd⟩, fin vs s₂ ps st₂ g₂ R₂ T₂ S₂ r₂ q₂⟩)
theorem Prim.fn (C : cx.Ok) (hn : cx.hn = true) {lv : Nat} {f : Value} {ps : List PV} {Q : PV → St → Prop} (hl : lv ≤ cx.lv) (hp : ps.all PV.noLoc = true)
  (h : CallOk cx.wd lv f ps [] st.glob (fun x fr glob => match fr, x with
   | true, .lst l => Q (.loc st.loc.length) { st with glob := glob, loc := st.loc ++ [l] }
   | false, x => Q (.c x) { st with glob := glob }
   | _, _ => False) (fun px glob => X px { st with glob := glob })) : Prim cx f ps st Q X := fun gh s vs R r =>
 call_ok C hn (kws := []) (ks := []) hl R (.of r hp) .nil h
theorem evalArgs_nil' {M : Model} {A : Around} {E : Value → Shared → Prop} {s : Shared} {f : Value} {Q : Args → Shared → Prop} (h : wpAny M A (spliced []) (fun vs s' => Q ⟨vs, []⟩ s') E s) : wpAny M A (evalArgs f true [] []) Q E s := by
 unfold evalArgs
 show wpAny M A (spliced [] >>= _) Q E s
 refine wpAny_bind (wpAny_mono h (fun vs s' h' => ?_) fun _ _ x => x)
 refine wpAny_bind (wpAny_pure ?_)
 refine wpAny_holding ?_
 exact wpAny_bind (wpAny_pure (wpAny_bind (wpAny_pure (wpAny_pure h'))))
noncomputable def HasT (cx : Cx) (T : String) (p : PV) (st : St) : Prop := ∀ gh s v, Rel cx gh st s → PRel gh s.heap v p → s.TypeIs v T ∧ ∀ a, v = .ref a → ∃ ob, s.heap.get? a = some ob ∧ ob.dict = none
theorem HasT.str {x : Str} : HasT cx "str" (.c (.str x)) st := fun gh s v _ r => by
 replace r := r.toC; replace r := r.inv; obtain ⟨t, rfl⟩ := r; exact ⟨typeIs_str .., fun _ e => nomatch e⟩
theorem EvE.meth {o : Expr} {name : Str} {apos pos : Pos} {es : List Expr} {T id : String} {Q : PV → St → Prop} (pa : PlainAttrs T) (slot : Slot T name id) (hty : typeOf (.builtin id) = pure (.type "method_descriptor"))
  (h : EvE cx o st (fun p st₁ => HasT cx T p st₁ ∧ EvL cx es st₁ (fun ps st₂ => Prim cx (.builtin id) (p :: ps) st₂ Q X) X) X)
  (hbase : attributeBase o name cx.env (eval o cx.env) = eval o cx.env := by rfl)
  (hfew : ((backTo pos (starEach es cx.env)).all (fun x => !x.1) && (backToKw pos (keywordEach [] cx.env)).all (fun x => x.1.isSome)
   && decide (es.length + ([] : List Keyword).length + (if ([] : List Keyword).isEmpty then 0 else 1) < 30)) = true := by rfl)
  (hline : (apos.endLine == pos.line) = true := by rfl)
  (hp : (backTo pos (starEach es cx.env)).any (·.1) = false := by rfl) : EvE cx (.Call (.Attribute o name apos) es [] pos) st Q X := fun gh s R => by
 refine wpAny_Call_method_lateS hbase hfew hline (wpAny_mono (h gh s R) ?_ fun _ _ x => x)
 rintro v s₁ ⟨p, st₁, g₁, R₁, T₁, S₁, r₁, ht, q₁⟩
 obtain ⟨h1, h2⟩ := ht g₁ s₁ v R₁ r₁
 refine ⟨T, id, pa, slot, hty, h1, h2, callWith_builtin hp ?_⟩
 have fin : ∀ vs s₂ ps st₂ g₂, Rel cx g₂ st₂ s₂ → Tr g₁ s₁.heap g₂ s₂.heap → Same s₁ s₂ → PRels g₂ s₂.heap vs ps → Prim cx (.builtin id) (p :: ps) st₂ Q X → wpAny cx.M cx.A (call (.builtin id) ([v] ++ vs)) (PostV cx gh s Q) (PostX cx gh s X) s₂ :=
  fun vs s₂ ps st₂ g₂ R₂ T₂ S₂ r₂ q₂ => wpAny_mono (q₂ g₂ s₂ (v :: vs) R₂ (.cons (r₁.tr R₁.ok T₂) r₂)) (fun _ _ x => x.up (T₁.trans T₂) (S₁.trans S₂)) fun _ _ x => x.up (T₁.trans T₂) (S₁.trans S₂)
 have sp := q₁ pos g₁ s₁ R₁
 cases hb : backTo pos (starEach es cx.env) with
 | nil =>
  rw [hb] at sp
  refine evalArgs_nil' (wpAny_mono sp ?_ fun _ _ x => x.up T₁ S₁)
  rintro vs s₂ ⟨ps, st₂, g₂, R₂, T₂, S₂, r₂, q₂⟩
  exact fin vs s₂ ps st₂ g₂ R₂ T₂ S₂ r₂ q₂
 | cons x rest =>
  obtain ⟨b, x⟩ := x
  rw [hb] at hp sp
  obtain rfl : b = false := by cases b with
   | false => rfl
   | true => simp at hp
  refine evalArgs_plain (wpAny_mono sp ?_ fun _ _ x => x.up T₁ S₁)
  rintro vs s₂ ⟨ps, st₂, g₂, R₂, T₂, S₂, r₂, q₂⟩
  exact fin vs s₂ ps st₂ g₂ R₂ T₂ S₂ r₂ q₂
end
section
variable {cx : Cx} {gh : Gh} {st : St} {s : Shared} {X : XV → St → Prop}
theorem Chg.of {h h' : Heap} (hz : h.objs.size ≤ h'.objs.size) (hk : ∀ b o, h.get? b = some o → h'.get? b = some o) : Chg (fun _ => False) h h' := ⟨hz, fun a o _ e => hk a o e⟩
theorem PostV.grow {Q : PV → St → Prop} (R : Rel cx gh st s) {h' : Heap} {v : Value} {p : PV} (c : Chg (fun _ => False) s.heap h') (q : Q p st) (tk : Nat) (r : PRel gh h' v p) : PostV cx gh s Q v { s with heap := h', toks := tk } :=
 ⟨p, st, gh, R.grow c tk, (Tr.refl ..).chg c fun _ z => z.elim, ⟨rfl, rfl, rfl⟩, r, q⟩
noncomputable def PV.isL : PV → Prop
 | .c (.lst _) => True
 | .loc _ => True
 | .obj _ => True
 | _ => False
theorem PV.isL.to {C : PV → Prop} {p : PV} (ht : p.isL) (a : ∀ l, C (.c (.lst l))) (b : ∀ k, C (.obj k)) (c : ∀ k, C (.loc k)) : C p := by
 cases p with
 | c x => cases x <;> first | exact a _ | exact ht.elim
 | obj k => exact b k
 | loc k => exact c k
 | locs => exact ht.elim
 | pair => exact ht.elim
theorem PV.isL.ref {gh : Gh} {h : Heap} {v : Value} {p : PV} (ht : p.isL) (r : PRel gh h v p) : ∃ a, v = .ref a :=
 PV.isL.to (C := fun p => PRel gh h v p → ∃ a, v = .ref a) ht (fun _ r => r.toC.inv.rec fun a _ _ e _ _ _ => ⟨a, e⟩) (fun _ r => r.inv.elim fun _ e => ⟨_, e.1⟩) (fun _ r => r.inv.elim fun _ e => ⟨_, e.1⟩) r
inductive LstJ (D : Addr → Prop) (h : Heap) (v : Value) (l : List CV) : Prop
 | mk (a : Addr) (vs : Array Value) (n : Nat) (e : v = .ref a) (o : h.get? a = some (lstObj vs n)) (r : CRels D h vs.toList l)
theorem items_obj {k : Nat} {l : List CV} (e : itemsOf st (.obj k) = some l) : st.glob[k]? = some (.lst l) := by
 have e : (match st.glob[k]? with | some (.lst l) => some l | _ => none) = some l := e
 cases ho : st.glob[k]? with
 | none => rw [ho] at e; exact xns e
 | some o =>
  rw [ho] at e
  cases o with
  | inst => exact xns e
  | lst l' => exact congrArg (fun l => some (GObj.lst l)) (Option.some.inj e)
theorem obj_items {k : Nat} {l : List CV} (e : st.glob[k]? = some (.lst l)) : itemsOf st (.obj k) = some l := by
 show (match st.glob[k]? with | some (.lst l) => some l | _ => none) = some l
 rw [e]
theorem GRel.toL {gh : Gh} {h : Heap} {g : GA} {l : List CV} (r : GRel gh h g (.lst l)) : LstJ gh.D h (.ref g.head) l := by
 cases r with | lst e r => exact ⟨_, _, _, rfl, e, r⟩
theorem LstI.toJ {D : Addr → Prop} {h : Heap} {v : Value} {l : List CV} (r : LstI D h v l) : LstJ D h v l := r.rec fun a vs n e o _ r => ⟨a, vs, n, e, o, r⟩
theorem Rel.objAt (R : Rel cx gh st s) {v : Value} {k : Nat} {l : List CV} (r : PRel gh s.heap v (.obj k)) (e : st.glob[k]? = some (.lst l)) : LstJ gh.D s.heap v l := by
 obtain ⟨g, ev, hg⟩ := r.inv; exact ev ▸ (R.glob.get k _ _ hg e).toL
theorem Rel.locAt (R : Rel cx gh st s) {v : Value} {k : Nat} {l : List CV} (r : PRel gh s.heap v (.loc k)) (e : st.loc[k]? = some l) : LstJ gh.D s.heap v l := by
 obtain ⟨a, ev, ha⟩ := r.inv; obtain ⟨vs, n, ho, r⟩ := R.loc.get k _ _ ha e; exact ⟨a, vs, n, ev, ho, r⟩
theorem listAt (R : Rel cx gh st s) {v : Value} {p : PV} {l : List CV} (r : PRel gh s.heap v p) (e : itemsOf st p = some l) (ht : p.isL) : LstJ gh.D s.heap v l :=
 PV.isL.to (C := fun p => PRel gh s.heap v p → itemsOf st p = some l → LstJ gh.D s.heap v l) ht (fun _ r e => Option.some.inj e ▸ r.toC.inv.toJ) (fun _ r e => R.objAt r (items_obj e)) (fun _ r e => R.locAt r e) r e
theorem Prim.len {l : List CV} {p : PV} {Q : PV → St → Prop} (e : itemsOf st p = some l) (ht : p.isL) (hz : l.length ≤ sizeLine) (h : Q (.c (.int l.length)) st) : Prim cx (.builtin "len") [p] st Q X := by
 intro gh s vs R r
 replace r := r.to1; obtain ⟨_, rfl, r⟩ := r
 obtain ⟨a, ws, n, rfl, ho, rr⟩ := listAt R r e ht
 have e := rr.len
 rw [Array.length_toList] at e
 exact Calls.call_len_list ⟨_, ho, rfl, n, rfl⟩ (sz63 (e ▸ hz)) (by rw [e]; exact PostV.same R h (.c (.int ..)) _)
theorem Prim.lenStr {x : Str} {Q : PV → St → Prop} (hz : x.length ≤ sizeLine) (h : Q (.c (.int x.length)) st) : Prim cx (.builtin "len") [.c (.str x)] st Q X := by
 rw [sizeLine_eq] at hz
 intro gh s vs R r
 replace r := r.to1; obtain ⟨_, rfl, r⟩ := r; replace r := r.toC; replace r := r.inv; obtain ⟨t, rfl⟩ := r
 exact P.len_str (by omega) (PostV.same R h (.c (.int ..)) _)
theorem Prim.min2 (hh : cx.A.handled = none) {a b : Int} {Q : PV → St → Prop} (h : Q (.c (.int (min a b))) st) : Prim cx (.builtin "min") [.c (.int a), .c (.int b)] st Q X := by
 intro gh s vs R r
 replace r := r.to2; obtain ⟨_, _, rfl, r, r2⟩ := r; replace r := r.toC; replace r2 := r2.toC; replace r := r.inv; obtain ⟨t, rfl⟩ := r; replace r2 := r2.inv; obtain ⟨u, rfl⟩ := r2
 refine wpAny_sized (min_two_ints hh fun h' tk hk hz => ?_)
 refine PostV.grow R (.of hz hk) h tk (.c ?_)
 split
 ·rw [Int.min_eq_right (by omega)]; exact .int ..
 ·rw [Int.min_eq_left (by omega)]; exact .int ..
noncomputable def minOf : List Int → Int
 | [] => 0
 | [a] => a
 | a :: b :: r => min a (minOf (b :: r))
theorem minOf_eq : ∀ {l : List Int} {m : Int}, m ∈ l → (∀ a ∈ l, m ≤ a) → minOf l = m
 | [], _, h, _ => nomatch h
 | [a], m, h, _ => (List.mem_singleton.mp h).symm
 | a :: b :: r, m, h, hl => by
  rw [minOf]
  rcases List.mem_cons.mp h with rfl | h
  ·have : m ≤ minOf (b :: r) := by
    have aux : ∀ (l : List Int), l ≠ [] → (∀ a ∈ l, m ≤ a) → m ≤ minOf l := by
     intro l
     induction l with
     | nil => intro h; exact absurd rfl h
     | cons x l ih =>
      intro _ hl
      cases l with
      | nil => exact hl x (.head _)
      | cons y l => rw [minOf]; exact Int.le_min.mpr ⟨hl x (.head _), ih (by simp) fun a ha => hl a (.tail _ ha)⟩
    exact aux _ (by simp) fun a ha => hl a (.tail _ ha)
   omega
  ·have := minOf_eq h fun a ha => hl a (.tail _ ha)
   have := hl a (.head _)
   omega
theorem CRels.ints {D : Addr → Prop} {h : Heap} {vs : List Value} {l : List Int} (r : CRels D h vs (l.map .int)) : IntsAre vs l := by
 induction l generalizing vs with
 | nil => obtain rfl := r.all.inv; exact .nil
 | cons i l ih =>
  obtain ⟨v, ws, rfl, a, b⟩ := r.all.inv
  obtain ⟨t, rfl⟩ := a.inv
  exact .cons _ _ (ih (.of b))
theorem Prim.min (hh : cx.A.handled = none) {l : List Int} {Q : PV → St → Prop} (hl : l ≠ []) (h : Q (.c (.int (minOf l))) st) : Prim cx (.builtin "min") [.c (.lst (l.map .int))] st Q X := by
 intro gh s vs R r
 replace r := r.to1; obtain ⟨_, rfl, r⟩ := r; replace r := r.toC
 generalize hc : CV.lst (l.map .int) = c at r
 cases r <;> cases hc
 rename_i a vs n0 ht0 hd r
 have ht : s.heap.IsList a vs := ⟨_, ht0, rfl, n0, rfl⟩
 have hi := r.ints
 obtain ⟨xs, e⟩ := hi.allInts.items
 have hns : l = xs.toList.map (·.1) := by
  rw [← hi.numsOf, ← nums_intItems, ← e]
 have hsz : 0 < xs.size := by
  have h3 : 0 < l.length := List.length_pos_iff.mpr hl
  rw [hns, List.length_map, Array.length_toList] at h3; exact h3
 have e : vs = intItems xs := e
 rw [e] at ht
 refine wpAny_sized (min_intList hh ht hsz fun v h' tk hv hk hz => ?_)
 obtain ⟨t, rfl⟩ := intItems_at hv
 obtain ⟨h1, h2⟩ := argBest_lt (numAt xs) (xs.size - 1)
 refine PostV.grow R (.of hz hk) h tk (.c ?_)
 rw [minOf_eq (m := numAt xs (argBest (fun i j => decide (numAt xs i < numAt xs j)) (xs.size - 1)))]
 ·exact .int ..
 ·rw [hns, numAt_eq]; exact getD_mem (by rw [List.length_map, Array.length_toList]; omega)
 ·intro a ha
  rw [hns] at ha
  obtain ⟨j, hj, rfl⟩ := mem_getD ha
  rw [List.length_map, Array.length_toList] at hj
  rw [← numAt_eq]; exact h2 j (by omega)
theorem Prim.sum (hh : cx.A.handled = none) {l : List Int} {Q : PV → St → Prop} (h : Q (.c (.int l.sum)) st) : Prim cx (.builtin "sum") [.c (.lst (l.map .int))] st Q X := by
 intro gh s vs R r
 replace r := r.to1; obtain ⟨_, rfl, r⟩ := r; replace r := r.toC
 generalize hc : CV.lst (l.map .int) = c at r
 cases r <;> cases hc
 rename_i a vs n0 ht0 hd r
 have ht : s.heap.IsList a vs := ⟨_, ht0, rfl, n0, rfl⟩
 have hi := r.ints
 obtain ⟨xs, e⟩ := hi.allInts.items
 have hns : l = xs.toList.map (·.1) := by
  rw [← hi.numsOf, ← nums_intItems, ← e]
 have e : vs = intItems xs := e
 rw [e] at ht
 refine wpAny_sized (sum_intListG hh ht fun h' tk t' hk hz => ?_)
 refine PostV.grow R (.of hz hk) h tk (.c ?_)
 have := preSum_eq (xs := xs) xs.size
 rw [List.take_of_length_le (by simp)] at this
 rw [hns, ← this]; exact .int ..
theorem Prim.range1 {n : Int} {Q : PV → St → Prop} (h : Q (.c (.range 0 n 1)) st) : Prim cx (.type "range") [.c (.int n)] st Q X := by
 intro gh s vs R r
 replace r := r.to1; obtain ⟨_, rfl, r⟩ := r; replace r := r.toC; replace r := r.inv; obtain ⟨t, rfl⟩ := r
 exact call_range_1 (PostV.grow R (.push ..) h _ (.c (.range (Heap.get?_push_size _ rfl) R.notD)))
theorem Prim.range3 {a b c : Int} {Q : PV → St → Prop} (hc : c ≠ 0) (hp : Builtin.divisionGoesByPylong (b - a) c = false) (h : Q (.c (.range a b c)) st) : Prim cx (.type "range") [.c (.int a), .c (.int b), .c (.int c)] st Q X := by
 intro gh s vs R r
 replace r := r.to3; obtain ⟨_, _, _, rfl, r, r2, r3⟩ := r; replace r := r.toC; replace r2 := r2.toC; replace r3 := r3.toC; replace r := r.inv; obtain ⟨t, rfl⟩ := r; replace r2 := r2.inv; obtain ⟨u, rfl⟩ := r2; replace r3 := r3.inv; obtain ⟨v, rfl⟩ := r3
 exact call_range_3 hc (PostV.grow R (.push ..) h s.toks (.c (.range (Heap.get?_push_size _ rfl) R.notD))) (.inl hp)
theorem Prim.strInt {a : Int} {Q : PV → St → Prop} (ha : a.natAbs.log2 < 1920) (h : Q (.c (.str (PySem.Str.ofString (toString a)))) st) : Prim cx (.type "str") [.c (.int a)] st Q X := by
 intro gh s vs R r
 replace r := r.to1; obtain ⟨_, rfl, r⟩ := r; replace r := r.toC; replace r := r.inv; obtain ⟨t, rfl⟩ := r
 exact P.str_of_int ha (PostV.same R h (.c (.str ..)) _)
theorem Prim.intStr {x : Str} {n : Int} {Q : PV → St → Prop} (hn : PySem.intText? x = some n) (hl : x.length ≤ 640) (h : Q (.c (.int n)) st) : Prim cx (.type "int") [.c (.str x)] st Q X := by
 intro gh s vs R r
 replace r := r.to1; obtain ⟨_, rfl, r⟩ := r; replace r := r.toC; replace r := r.inv; obtain ⟨t, rfl⟩ := r
 exact KIN.call_text hn hl (PostV.same R h (.c (.int ..)) _)
noncomputable def tyOf : CV → Option String
 | .lst _ => some "list"
 | .str _ => some "str"
 | _ => none
theorem Prim.ty {x : CV} {T : String} {Q : PV → St → Prop} (e : tyOf x = some T) (h : Q (.c (.con (.type T))) st) : Prim cx (.type "type") [.c x] st Q X := by
 intro gh s vs R r
 replace r := r.to1; obtain ⟨_, rfl, r⟩ := r; replace r := r.toC
 have fin : ∀ {v : Value}, s.TypeIs v T → (Value.type T == Value.type "builtin_function_or_method") = false → wpAny cx.M cx.A (PySem.call (.type "type") [v]) (PostV cx gh s Q) (PostX cx gh s X) s :=
  fun ht hb => call_type_of ht hb (PostV.same R h (.c (.con _)) s.toks)
 cases r <;> cases e
 ·exact fin (typeIs_str ..) (by decide)
 ·rename_i hl _ _; exact fin ⟨_, hl, rfl⟩ (by decide)
theorem newLoc_at (R : Rel cx gh st s) {h' : Heap} {a : Addr} {vs : Array Value} {n : Nat} {l : List CV} {tk : Nat} {Q : PV → St → Prop} (c : Chg (fun _ => False) s.heap h') (ha : s.heap.objs.size ≤ a) (ho : h'.get? a = some (lstObj vs n))
  (r : CRels (fun b => gh.D b ∨ b = a) h' vs.toList l) (q : Q (.loc st.loc.length) { st with loc := st.loc ++ [l] }) : PostV cx gh s Q (.ref a) { s with heap := h', toks := tk } := by
 have hP : ∀ b, b = a → s.heap.objs.size ≤ b ∧ b < h'.objs.size := fun b e => ⟨e ▸ ha, e ▸ Heap.lt_size ho⟩
 have R₁ := R.alloc c hP tk
 have hm : a ∉ Gh.mu (gh.dead (· = a)) := fun hm => absurd (R.muLt hm) (Nat.not_lt.mpr ha)
 have R₂ := R₁.addLoc (a := a) (vs := vs) (n := n) (l := l) ho (.inr rfl) hm r
 have hlen := R.loc.len
 refine ⟨_, _, _, R₂, ⟨c.size, fun b o e _ => .inl (c.kept b o id e), ?_, ?_, fun _ z => .inl z, ⟨[], by simp [Gh.dead]⟩, ⟨_, rfl⟩⟩, ⟨rfl, rfl, rfl⟩, .loc ?_, q⟩
 ·rintro b (z | rfl)
  ·exact .inl z
  ·exact .inr ha
 ·rintro b (z | rfl)
  ·exact .inl z
  ·exact .inr ha
 ·show (gh.la ++ [a])[st.loc.length]? = some a
  rw [← hlen, List.getElem?_append_right (Nat.le_refl _), Nat.sub_self]; rfl
theorem CRels.ofGet {D : Addr → Prop} {h : Heap} {vs : List Value} {l : List CV} (e : vs.length = l.length) (k : ∀ (i : Nat) v x, vs[i]? = some v → l[i]? = some x → CRel D h v x) : CRels D h vs l := .of (.of_get e k)
theorem Prim.listRange (hh : cx.A.handled = none) {a b c : Int} {n : Nat} {Q : PV → St → Prop} (hs : Builtin.Range.small a b c = true) (hn : Builtin.Range.rangeSize a b c = n) (hl : n ≤ 2 ^ 24)
  (h : Q (.loc st.loc.length) { st with loc := st.loc ++ [rangeItems a b c] }) : Prim cx (.type "list") [.c (.range a b c)] st Q X := by
 intro gh s vs R r
 replace r := r.to1; obtain ⟨_, rfl, r⟩ := r; replace r := r.toC; replace r := r.inv; obtain ⟨_, _, _, _, rfl, hr, hd⟩ := r
 refine wpAny_sized (call_list_range hh hr hs hn hl fun h' tk acc' c' hk hS' hacc hz => ?_)
 refine newLoc_at R (.of hz hk) (Nat.le_refl _) hS' (.ofGet ?_ fun i v x h1 h2 => ?_) h
 ·rw [Array.length_toList, hacc.1]; simp [rangeItems, hn]
 ·rw [Array.getElem?_toList] at h1
  obtain ⟨t, rfl⟩ := hacc.2 i v h1
  unfold rangeItems at h2
  rw [List.getElem?_map] at h2
  obtain ⟨j, hj, rfl⟩ := Option.map_eq_some_iff.mp h2
  have := List.getElem?_eq_some_iff.mp hj
  obtain ⟨h3, h4⟩ := this
  rw [List.getElem_range] at h4
  subst h4
  exact .int ..
theorem Prim.lower {x : Str} {Q : PV → St → Prop} (hf : Builtin.Str.tooLong (Txt.lower x).length = false) (h : Q (.c (.str (Txt.lower x))) st) : Prim cx (.builtin "str.lower") [.c (.str x)] st Q X := by
 intro gh s vs R r
 replace r := r.to1; obtain ⟨_, rfl, r⟩ := r; replace r := r.toC; replace r := r.inv; obtain ⟨t, rfl⟩ := r
 exact SC.lower hf (PostV.same R h (.c (.str ..)) _)
theorem Prim.upper {x : Str} {Q : PV → St → Prop} (hf : Builtin.Str.tooLong (Txt.upper x).length = false) (h : Q (.c (.str (Txt.upper x))) st) : Prim cx (.builtin "str.upper") [.c (.str x)] st Q X := by
 intro gh s vs R r
 replace r := r.to1; obtain ⟨_, rfl, r⟩ := r; replace r := r.toC; replace r := r.inv; obtain ⟨t, rfl⟩ := r
 exact SC.upper hf (PostV.same R h (.c (.str ..)) _)
theorem Prim.upperE {x y : Str} {Q : PV → St → Prop} (e : Txt.upper x = y) (hf : Builtin.Str.tooLong y.length = false) (h : Q (.c (.str y)) st) : Prim cx (.builtin "str.upper") [.c (.str x)] st Q X := by
 subst e; exact .upper hf h
theorem Prim.lowerE {x y : Str} {Q : PV → St → Prop} (e : Txt.lower x = y) (hf : Builtin.Str.tooLong y.length = false) (h : Q (.c (.str y)) st) : Prim cx (.builtin "str.lower") [.c (.str x)] st Q X := by
 subst e; exact .lower hf h
theorem Prim.strIntE {a : Int} {y : Str} {Q : PV → St → Prop} (ha : a.natAbs.log2 < 1920) (e : PySem.Str.ofString (toString a) = y) (h : Q (.c (.str y)) st) : Prim cx (.type "str") [.c (.int a)] st Q X := by
 subst e; exact .strInt ha h
theorem Prim.find {x y : Str} {Q : PV → St → Prop} (h : Q (.c (.int (Txt.find x y))) st) : Prim cx (.builtin "str.find") [.c (.str x), .c (.str y)] st Q X := by
 intro gh s vs R r
 replace r := r.to2; obtain ⟨_, _, rfl, r, r2⟩ := r; replace r := r.toC; replace r2 := r2.toC; replace r := r.inv; obtain ⟨t, rfl⟩ := r; replace r2 := r2.inv; obtain ⟨u, rfl⟩ := r2
 exact SC.find (PostV.same R h (.c (.int ..)) _)
theorem Prim.find3 {x y : Str} {i : Int} {Q : PV → St → Prop} (h : Q (.c (.int (Txt.find3 x y i))) st) : Prim cx (.builtin "str.find") [.c (.str x), .c (.str y), .c (.int i)] st Q X := by
 intro gh s vs R r
 replace r := r.to3; obtain ⟨_, _, _, rfl, r, r2, r3⟩ := r; replace r := r.toC; replace r2 := r2.toC; replace r3 := r3.toC; replace r := r.inv; obtain ⟨t, rfl⟩ := r; replace r2 := r2.inv; obtain ⟨u, rfl⟩ := r2; replace r3 := r3.inv; obtain ⟨v, rfl⟩ := r3
 exact SC.find3 (PostV.same R h (.c (.int ..)) _)
theorem strValues_rel {D : Addr → Prop} {h : Heap} : ∀ (l : List (Str × Tok)), CRels D h (strValues l) (l.map fun p => .str p.1)
 | [] => .nil
 | p :: l => .cons (.str ..) (strValues_rel l)
theorem Prim.split {x y : Str} {Q : PV → St → Prop} (hy : (y.length == 0) = false) (hx : x.length ≤ sizeLine)
  (hz : (Builtin.Str.partsBetween x (Builtin.Str.occurrences x y 0 x.length (x.length + 1)) y.length).length ≤ sizeLine) (h : Q (.c (.lst ((Txt.split x y).map .str))) st) : Prim cx (.builtin "str.split") [.c (.str x), .c (.str y)] st Q X := by
 intro gh s vs R r
 replace r := r.to2; obtain ⟨_, _, rfl, r, r2⟩ := r; replace r := r.toC; replace r2 := r2.toC; replace r := r.inv; obtain ⟨t, rfl⟩ := r; replace r2 := r2.inv; obtain ⟨u, rfl⟩ := r2
 have fin : ∀ (l : List (Str × Tok)) (tk : Nat), l.map (·.1) = Txt.split x y → PostV cx gh s Q (.ref s.heap.objs.size) { s with heap := s.heap.push { cls := .type "list", data := .seq (strValues l).toArray }, toks := tk } := fun l tk e => by
  refine PostV.grow R (.push ..) h tk (.c (.lst (Heap.get?_push_size _ rfl) R.notD ?_))
  rw [← e, List.map_map]
  exact strValues_rel l
 cases h1 : (decide (x.length < y.length) || decide (Builtin.Str.strKind x < Builtin.Str.strKind y))
 ·cases hf : (Builtin.Str.occurrences x y 0 x.length (x.length + 1)).isEmpty
  ·refine call_meets F.slot_str_split (typeIs_str _ _ _) F.entry_str_split (F.args_str_split_2 _ _) (meets_str_split_sep x y t u h1 hy hf hx hz) ?_
   have := fin (numbered s.toks (Builtin.Str.partsBetween x (Builtin.Str.occurrences x y 0 x.length (x.length + 1)) y.length)) (s.toks + (Builtin.Str.partsBetween x (Builtin.Str.occurrences x y 0 x.length (x.length + 1)) y.length).length)
    ((numbered_texts _ _).trans ((if_neg (ne_true_of_eq_false h1)).trans (if_neg (ne_true_of_eq_false hf))).symm)
   rw [← strsFrom_eq] at this
   exact this
  ·exact call_meets F.slot_str_split (typeIs_str _ _ _) F.entry_str_split (F.args_str_split_2 _ _) (meets_str_split_not_found x y t u h1 hy hf) (fin [(x, t)] s.toks ((if_neg (ne_true_of_eq_false h1)).trans (if_pos hf)).symm)
 ·exact call_meets F.slot_str_split (typeIs_str _ _ _) F.entry_str_split (F.args_str_split_2 _ _) (meets_str_split_cannot_occur x y t u h1) (fin [(x, t)] s.toks (if_pos h1).symm)
theorem CRels.strs {D : Addr → Prop} {h : Heap} {vs : List Value} {ls : List Str} (r : CRels D h vs (ls.map .str)) : ∃ l : List (Str × Tok), vs = strValues l ∧ l.map (·.1) = ls := by
 induction ls generalizing vs with
 | nil => obtain rfl := r.all.inv; exact ⟨[], rfl, rfl⟩
 | cons y ls ih =>
  obtain ⟨v, ws, rfl, a, b⟩ := r.all.inv
  obtain ⟨t, rfl⟩ := a.inv
  obtain ⟨l, h1, h2⟩ := ih (.of b)
  exact ⟨(y, t) :: l, congrArg _ h1, congrArg _ h2⟩
theorem Prim.join {x : Str} {ls : List Str} {Q : PV → St → Prop} (hok : JoinOk x ls = true) (h : Q (.c (.str (Txt.join x ls))) st) : Prim cx (.builtin "str.join") [.c (.str x), .c (.lst (ls.map .str))] st Q X := by
 intro gh s vs R r
 replace r := r.to2; obtain ⟨_, _, rfl, r, r2⟩ := r; replace r := r.toC; replace r2 := r2.toC; replace r := r.inv; obtain ⟨t, rfl⟩ := r
 generalize hc : CV.lst (ls.map .str) = c at r2
 cases r2 <;> cases hc
 rename_i a vs n0 hl0 hd r
 have hl : s.heap.IsList a vs := ⟨_, hl0, rfl, n0, rfl⟩
 obtain ⟨l, e, hls⟩ := r.strs
 have e : vs = (strValues l).toArray := by rw [← e]
 rw [e] at hl
 exact SC.join hl hls hok fun t' k => PostV.same R h (.c (.str ..)) _
end
section
variable {cx : Cx} {gh : Gh} {st : St} {s : Shared} {X : XV → St → Prop}
noncomputable def pick {α : Type} (l : List α) (i : Int) : Option α := (seqIndex? i l.length).bind (l[·]?)
noncomputable def idxB (st : St) : PV → Int → Option PV
 | .c (.str x), i => (Txt.charAt x i).map fun _ => .c (.str (Txt.item x i))
 | .c (.lst l), i => (pick l i).map .c
 | .c (.tup l), i => (pick l i).map .c
 | .obj k, i => match st.glob[k]? with
  | some (.lst l) => (pick l i).map .c
  | _ => none
 | .loc k, i => (st.loc[k]?).bind fun l => (pick l i).map .c
 | .locs l, i => (pick l i).map .loc
 | _, _ => none
theorem seq_at {i : Int} {n k : Nat} (h : seqIndex? i n = some k) : 0 ≤ (if i < 0 then i + n else i) ∧ (if i < 0 then i + (n : Int) else i).toNat = k := by
 unfold seqIndex? at h
 generalize (if i < 0 then i + (n : Int) else i) = j at *
 by_cases c : (decide (0 ≤ j) && decide (j < n)) = true
 ·exact ⟨of_decide_eq_true (Bool.and_eq_true_iff.mp c).1, Option.some.inj ((if_pos c).symm.trans h)⟩
 ·exact xns ((if_neg c).symm.trans h)
theorem getItem_list {prog : Program} {w : World} {A : Around} {E : Value → Shared → Prop} {l : Addr} {items : Array Value} {i : Int} {k : Nat} {u : Tok} {x : Value} {Q : Value → Shared → Prop} (hl : s.heap.IsList l items)
  (hlo : -(2 ^ 62) ≤ i) (hhi : i < 2 ^ 62) (hk : seqIndex? i items.size = some k) (hx : items[k]? = some x) (h : Q x s) : wpAny (model prog w) A (getItem (.ref l) (.int i u)) Q E s := by
 obtain ⟨a, b⟩ := seq_at hk
 by_cases h0 : i < 0
 ·rw [if_pos h0] at a b
  exact wpAny_getItem_list_neg hl h0 (Int.le_of_add_le_add_right (by rw [Int.add_left_neg]; exact a)) (lo63 hlo) (b ▸ hx) h
 ·rw [if_neg h0] at a b
  exact wpAny_getItem_list hl a (hi63 hhi) (b ▸ hx) h
theorem pick_at {D : Addr → Prop} {h : Heap} {vs : Array Value} {l : List CV} {i : Int} {x : CV} (r : CRels D h vs.toList l) (e : pick l i = some x) : ∃ k v, seqIndex? i vs.size = some k ∧ vs[k]? = some v ∧ CRel D h v x := by
 obtain ⟨k, h1, h2⟩ := Option.bind_eq_some_iff.mp e
 obtain ⟨v, h3, h4⟩ := r.at k x h2
 refine ⟨k, v, ?_, by rw [← Array.getElem?_toList]; exact h3, h4⟩
 rw [← Array.length_toList, r.len]; exact h1
theorem Locs.at {la : List Addr} {vs : List Value} {l : List Nat} (r : Locs la vs l) (i : Nat) (x : Nat) (e : l[i]? = some x) : ∃ a, vs[i]? = some (.ref a) ∧ la[x]? = some a := by
 obtain ⟨v, h1, h2⟩ := r.at1 i x e
 cases h2 with | mk h => exact ⟨_, h1, h⟩
noncomputable def ItmG (cx : Cx) (gh : Gh) (s : Shared) (v : Value) (i : Int) (u : Tok) (q : PV) : Prop :=
  (∃ T id, typeLookup (.type T) "__getitem__" = pure (some (.builtin id)) ∧ s.TypeIs v T) ∧
   ∀ {Q : Value → Shared → Prop} {E : Value → Shared → Prop}, (∀ w t, PRel gh s.heap w q → Q w { s with toks := t }) → wpAny cx.M cx.A (getItem v (.int i u)) Q E s
theorem item_lst {v : Value} {q : PV} {i : Int} {u : Tok} {l : List CV} (r : LstJ gh.D s.heap v l) (e : (pick l i).map PV.c = some q) (hlo : -(2 ^ 62) ≤ i) (hhi : i < 2 ^ 62) : ItmG cx gh s v i u q := by
 obtain ⟨a, vs, n, rfl, ho, rs⟩ := r
 obtain ⟨x, hx, hq⟩ := Option.map_eq_some_iff.mp e
 obtain ⟨k, w, h1, h2, h3⟩ := pick_at rs hx
 exact ⟨⟨"list", _, list_getitem_lookup, ⟨_, ho, rfl⟩⟩, fun k => getItem_list ⟨_, ho, rfl, n, rfl⟩ hlo hhi h1 h2 (k w s.toks (hq ▸ .c h3))⟩
theorem idx_obj {k : Nat} {i : Int} {q : PV} (e : idxB st (.obj k) i = some q) : ∃ l, st.glob[k]? = some (.lst l) ∧ (pick l i).map PV.c = some q := by
 have e : (match st.glob[k]? with | some (.lst l) => (pick l i).map PV.c | _ => none) = some q := e
 cases ho : st.glob[k]? with
 | none => rw [ho] at e; exact xns e
 | some o =>
  rw [ho] at e
  cases o with
  | inst => exact xns e
  | lst l => exact ⟨l, rfl, e⟩
theorem item_ok (R : Rel cx gh st s) {v : Value} {p q : PV} {i : Int} {u : Tok} (r : PRel gh s.heap v p) (e : idxB st p i = some q) (hlo : -(2 ^ 62) ≤ i) (hhi : i < 2 ^ 62) : ItmG cx gh s v i u q := by
 cases p with
 | c x =>
  replace r := r.toC
  cases x with
  | str x =>
   obtain ⟨t, rfl⟩ := r.inv
   obtain ⟨c, hc, hq⟩ := Option.map_eq_some_iff.mp e
   refine ⟨⟨"str", _, F.slot_str_getitem.lookup, typeIs_str ..⟩, fun k => SB.getItem ?_ (by rw [hc]; rfl) (k _ _ (hq ▸ .c (.str ..)))⟩
   show (!(decide (i < -(2 ^ 63 : Int)) || decide (i ≥ 2 ^ 63))) = true
   rw [decide_eq_false (Int.not_lt.mpr (lo63 hlo)), decide_eq_false (Int.not_le.mpr (hi63 hhi))]; rfl
  | lst l => exact item_lst r.inv.toJ e hlo hhi
  | tup l =>
   obtain ⟨a, vs, rfl, ht, hd, rs⟩ := r.inv
   obtain ⟨x, hx, hq⟩ := Option.map_eq_some_iff.mp e
   obtain ⟨k, w, h1, h2, h3⟩ := pick_at rs hx
   exact ⟨⟨"tuple", _, slot_tuple_getitem.lookup, ht.typeIs⟩, fun k => getItem_tuple ht (lo63 hlo) (hi63 hhi) h1 h2 (k w s.toks (hq ▸ .c h3))⟩
  | none => exact xns e
  | bool => exact xns e
  | int => exact xns e
  | con => exact xns e
  | exc => exact xns e
  | ob => exact xns e
  | range => exact xns e
 | obj k => obtain ⟨l, ho, e⟩ := idx_obj e; exact item_lst (R.objAt r ho) e hlo hhi
 | loc k => obtain ⟨l, hl, e⟩ := Option.bind_eq_some_iff.mp e; exact item_lst (R.locAt r hl) e hlo hhi
 | locs l =>
  obtain ⟨a, vs, n, rfl, ho, hd, rs⟩ := r.inv
  obtain ⟨x, hx, hq⟩ := Option.map_eq_some_iff.mp e
  obtain ⟨k, h1, h2⟩ := Option.bind_eq_some_iff.mp hx
  obtain ⟨w, h3, h4⟩ := rs.at k x h2
  refine ⟨⟨"list", _, list_getitem_lookup, ⟨_, ho, rfl⟩⟩, fun f => getItem_list ⟨_, ho, rfl, n, rfl⟩ hlo hhi (k := k) ?_ (by rw [← Array.getElem?_toList]; exact h3) (f _ s.toks (hq ▸ PRel.loc h4))⟩
  rw [← Array.length_toList, rs.len]; exact h1
 | pair => exact xns e
theorem sub_ok {env : Env} {value slice : Expr} {pos : Pos} {A : Around} {E : Value → Shared → Prop} {Q : Value → Shared → Prop} {prog : Program} {w : World} (hb : ∀ o i, subscripted slice false o i = operate [o, i] (getItem o i))
  (h : wpAny (model prog w) A (eval value env) (fun o s₁ => wpAny (model prog w) A (eval slice env) (fun i s₂ => (∃ T id, typeLookup (.type T) "__getitem__" = pure (some (.builtin id)) ∧ s₂.TypeIs o T) ∧ wpAny (model prog w) A (getItem o i) Q E s₂) E s₁) E s) :
  wpAny (model prog w) A (eval (.Subscript value slice pos) env) Q E s := by
 rw [eval_Subscript]
 refine wpAny_bind (wpAny_mono h (fun o s₁ h₁ => wpAny_bind (wpAny_holding (wpAny_mono h₁ (fun i s₂ h₂ => wpAny_bind (wpAny_standAt ?_)) fun _ _ x => x)))
  fun _ _ x => x)
 obtain ⟨⟨T, id, hl, hT⟩, hg⟩ := h₂
 refine wpAny_bind ?_
 rw [getitemInPython_of_ne hT.not_modules]
 refine wpAny_bind (wpAny_specialOf hT hl ?_)
 have fin : wpAny (model prog w) A (operate [o, i] (getItem o i)) (fun r s₃ => wpAny (model prog w) A (letTemporaryGo value o r >>= fun _ => pure r) Q E s₃) E s₂ :=
  wpAny_operating (wpAny_mono hg (fun r s₃ h₃ => wpAny_bind (wpAny_letTemporaryGo (wpAny_pure h₃))) fun _ _ x => x)
 rw [← hb] at fin
 exact wpAny_pure (wpAny_bind fin)
theorem nz (k : Nat) : -(2 ^ 62) ≤ (k : Int) := Int.le_trans (by decide) (Int.natCast_nonneg k)
theorem nlt4 {k : Nat} (h : k < 4) : (k : Int) < 2 ^ 62 := Int.lt_trans (Int.ofNat_lt.mpr h) (by decide)
inductive IdxG (st : St) (p q : PV) (K : PV → Prop) : Prop
 | mk (i : Int) (r : PV) (a : q = .c (.int i)) (b : -(2 ^ 62) ≤ i) (c : i < 2 ^ 62) (d : idxB st p i = some r) (k : K r)
theorem EvE.idx {value slice : Expr} {pos : Pos} {Q : PV → St → Prop} (h : EvE cx value st (fun p st₁ => EvE cx slice st₁ (fun q st₂ => IdxG st₂ p q fun r => Q r st₂) X) X)
  (hb : ∀ o i, subscripted slice false o i = operate [o, i] (getItem o i) := by intro _ _; rfl) : EvE cx (.Subscript value slice pos) st Q X := fun gh s R => by
 refine sub_ok hb (wpAny_mono (h gh s R) ?_ fun _ _ x => x)
 rintro v s₁ ⟨p, st₁, g₁, R₁, T₁, S₁, r₁, q₁⟩
 refine wpAny_mono (q₁ g₁ s₁ R₁) ?_ fun _ _ x => x.up T₁ S₁
 rintro w s₂ ⟨q, st₂, g₂, R₂, T₂, S₂, r₂, i, r, rfl, hlo, hhi, e, hq⟩
 replace r₂ := r₂.toC; replace r₂ := r₂.inv; obtain ⟨u, rfl⟩ := r₂
 obtain ⟨h1, h2⟩ := item_ok (u := u) R₂ (r₁.tr R₁.ok T₂) e hlo hhi
 exact ⟨h1, h2 fun w t rw => (PostV.same R₂ hq rw t).up (T₁.trans T₂) (S₁.trans S₂)⟩
inductive PostO (cx : Cx) (gh : Gh) (s : Shared) (Q : Option Int → St → Prop) (v : Value) (s' : Shared) : Prop
 | mk (i : Option Int) (st' : St) (gh' : Gh) (R : Rel cx gh' st' s') (T : Tr gh s.heap gh' s'.heap) (S : Same s s') (r : IsPart v i) (q : Q i st')
noncomputable def EvO (cx : Cx) (e : Option Expr) (st : St) (Q : Option Int → St → Prop) (X : XV → St → Prop) : Prop :=
 ∀ gh s, Rel cx gh st s → wpAny cx.M cx.A (evalPart e cx.env) (PostO cx gh s Q) (PostX cx gh s X) s
theorem evO_none {Q : Option Int → St → Prop} (h : Q none st) : EvO cx none st Q X := fun gh s R => wpAny_pure ⟨_, st, gh, R, .refl .., .refl _, .none, h⟩
@[reducible] noncomputable def partK (K : Option Int → Prop) : PV → Prop
 | .c .none => K none
 | .c (.int i) => K (some i)
 | _ => False
theorem partK.to {K : Option Int → Prop} {C : PV → Prop} {p : PV} (h : partK K p) (a : K none → C (.c .none)) (b : ∀ i, K (some i) → C (.c (.int i))) : C p := by
 cases p with
 | c x => cases x <;> first | exact a h | exact b _ h | exact h.elim
 | obj => exact h.elim
 | loc => exact h.elim
 | locs => exact h.elim
 | pair => exact h.elim
theorem evO_some {e : Expr} {Q : Option Int → St → Prop} (h : EvE cx e st (fun p st₁ => partK (fun o => Q o st₁) p) X) : EvO cx (some e) st Q X := fun gh s R => by
 refine w_eq (evalPart_some ..) (wpAny_mono (h gh s R) ?_ fun _ _ x => x)
 rintro v s₁ ⟨p, st₁, g₁, R₁, T₁, S₁, r₁, q₁⟩
 refine partK.to (C := fun p => PRel g₁ s₁.heap v p → PostO cx gh s Q v s₁) q₁ (fun k r => ?_) (fun i k r => ?_) r₁
 ·exact ⟨_, st₁, g₁, R₁, T₁, S₁, r.toC.inv ▸ .none, k⟩
 ·exact r.toC.inv.elim fun t e => ⟨_, st₁, g₁, R₁, T₁, S₁, e ▸ .int i t, k⟩
theorem slice_ok {value : Expr} {lower upper step : Option Expr} {p pos : Pos} {QQ : PV → Option Int → Option Int → Option Int → St → Prop} {Q : PV → St → Prop}
  (h : EvE cx value st (fun p st₁ => EvO cx lower st₁ (fun lo st₂ => EvO cx upper st₂ (fun hi st₃ => EvO cx step st₃ (fun sp st₄ => QQ p lo hi sp st₄) X) X) X) X)
  (hq : ∀ gh s v p lo hi sp st vl vu vs, Rel cx gh st s → PRel gh s.heap v p → IsPart vl lo → IsPart vu hi → IsPart vs sp → QQ p lo hi sp st →
   (∃ T id, typeLookup (.type T) "__getitem__" = pure (some (.builtin id)) ∧ s.TypeIs v T) ∧ ∀ sl, s.heap.IsSliceOf sl vl vu vs → wpAny cx.M cx.A (getItem v (.ref sl)) (PostV cx gh s Q) (PostX cx gh s X) s)
  (hb : step = none ∨ ∃ e, step = some e) : EvE cx (.Subscript value (.Slice lower upper step p) pos) st Q X := fun gh s R => by
 refine w_eq (eval_Subscript ..) ?_
 refine wpAny_bind (wpAny_mono (h gh s R) ?_ fun _ _ x => x)
 rintro v s₁ ⟨pv, st₁, g₁, R₁, T₁, S₁, r₁, q₁⟩
 refine wpAny_bind (wpAny_holding (wpAny_Slice (wpAny_mono (q₁ g₁ s₁ R₁) ?_ fun _ _ x => x.up T₁ S₁)))
 rintro vl s₂ ⟨lo, st₂, g₂, R₂, T₂, S₂, p₂, q₂⟩
 refine wpAny_mono (q₂ g₂ s₂ R₂) ?_ fun _ _ x => x.up (T₁.trans T₂) (S₁.trans S₂)
 rintro vu s₃ ⟨hi, st₃, g₃, R₃, T₃, S₃, p₃, q₃⟩
 refine wpAny_mono (q₃ g₃ s₃ R₃) ?_ fun _ _ x => x.up ((T₁.trans T₂).trans T₃) ((S₁.trans S₂).trans S₃)
 rintro vs s₄ ⟨sp, st₄, g₄, R₄, T₄, S₄, p₄, q₄⟩
 have T := ((T₁.trans T₂).trans T₃).trans T₄
 have S := ((S₁.trans S₂).trans S₃).trans S₄
 refine wpAny_bind (wpAny_standAt ?_)
 let s₅ : Shared := { s₄ with heap := s₄.heap.push { cls := .type "slice", data := .fields #[vl, vu, vs] } }
 have R₅ : Rel cx g₄ st₄ s₅ := R₄.newObj _
 have T₅ : Tr gh s.heap g₄ s₅.heap := T.trans (Tr.newObj ..)
 have S₅ : Same s s₅ := S.trans ⟨rfl, rfl, rfl⟩
 have r₅ : PRel g₄ s₅.heap v pv := (r₁.tr R₁.ok ((T₂.trans T₃).trans T₄)).tr R₄.ok (Tr.newObj ..)
 obtain ⟨⟨Ty, id, hl, hT⟩, hg⟩ := hq g₄ s₅ v pv lo hi sp st₄ vl vu vs R₅ r₅ p₂ p₃ p₄ q₄
 have hg := hg _ (Heap.IsSliceOf.new s₄.heap vl vu vs)
 refine wpAny_bind ?_
 rw [getitemInPython_of_ne hT.not_modules]
 refine wpAny_bind (wpAny_specialOf hT hl ?_)
 have fin : ∀ xs, wpAny cx.M cx.A (operate xs (getItem v (.ref s₄.heap.objs.size))) (fun r s₃ => wpAny cx.M cx.A (letTemporaryGo value v r >>= fun _ => pure r) (PostV cx gh s Q) (PostX cx gh s X) s₃) (PostX cx gh s X) s₅ := fun xs =>
  wpAny_operating (wpAny_mono hg (fun r s₃ h₃ => wpAny_bind (wpAny_letTemporaryGo (wpAny_pure (h₃.up T₅ S₅)))) fun _ _ x => x.up T₅ S₅)
 refine wpAny_pure (wpAny_bind ?_)
 rcases hb with rfl | ⟨e, rfl⟩
 ·exact fin _
 ·exact fin _
noncomputable def sliceS (x : Str) (lo hi : Option Int) : Str := if (Builtin.Str.strSliceIndices lo hi 1 x.length).length == x.length then x else ⟨((Builtin.Str.strSliceIndices lo hi 1 x.length).filterMap (x.cps[·]?)).toArray⟩
inductive SliG (p : PV) (K : Str → Prop) : Prop
 | mk (x : Str) (a : p = .c (.str x)) (k : K x) (b : x.length ≤ sizeLine)
theorem EvO.mono {e : Option Expr} {Q Q' : Option Int → St → Prop} (h : EvO cx e st Q X) (k : ∀ i st, Q i st → Q' i st) : EvO cx e st Q' X := fun gh s R =>
 wpAny_mono (h gh s R) (fun _ _ h => h.rec fun i st g a b c d q => ⟨i, st, g, a, b, c, d, k i st q⟩) fun _ _ x => x
theorem part_val {v : Value} {i : Option Int} (h : IsPart v i) : ∃ q : Option (Int × Tok), v = partValue q ∧ q.map (·.1) = i := by
 cases h with
 | none => exact ⟨none, rfl, rfl⟩
 | int i t => exact ⟨some (i, t), rfl, rfl⟩
theorem sliceS_get {x : Str} {t : Tok} {lo hi : Option Int} {sl : Addr} {vl vu : Value} {Q : PV → St → Prop} {E : Value → Shared → Prop} (R : Rel cx gh st s) (hsl : s.heap.IsSliceOf sl vl vu .none) (pl : IsPart vl lo) (pu : IsPart vu hi) (hz : x.length ≤ sizeLine)
  (hq : Q (.c (.str (Mine.sliceS x lo hi))) st) : wpAny cx.M cx.A (getItem (.str x t) (.ref sl)) (PostV cx gh s Q) E s := by
 obtain ⟨l, rfl, hl⟩ := part_val pl
 obtain ⟨u, rfl, hu⟩ := part_val pu
 refine wpAny_getItem_str_slice (l := l) (u := u) (st := none) hsl rfl ?_
 unfold sliceMade
 have e1 : slicePicked x l u none = Builtin.Str.strSliceIndices lo hi 1 x.length := by unfold slicePicked; rw [hl, hu]; rfl
 rw [e1]
 unfold Mine.sliceS at hq
 by_cases hc : ((Builtin.Str.strSliceIndices lo hi 1 x.length).length == x.length) = true
 ·rw [if_pos hc] at hq
  rw [if_pos (by rw [hc]; rfl)]
  exact PostV.same R hq (.c (.str ..)) s.toks
 ·rw [if_neg hc] at hq
  rw [if_neg fun z => hc (Bool.and_eq_true_iff.mp z).2]
  exact ⟨Nat.le_trans (Nat.le_trans (Nat.le_trans (Nat.le_of_eq List.size_toArray) (List.length_filterMap_le _ _)) (indices_len_le lo hi x.length)) hz, PostV.same R hq (.c (.str ..)) _⟩
theorem ev_sliceS {value : Expr} {lower upper : Option Expr} {p pos : Pos} {Q : PV → St → Prop}
  (h : EvE cx value st (fun p st₁ => EvO cx lower st₁ (fun lo st₂ => EvO cx upper st₂ (fun hi st₃ => SliG p fun x => Q (.c (.str (Mine.sliceS x lo hi))) st₃) X) X) X) : EvE cx (.Subscript value (.Slice lower upper none p) pos) st Q X := by
 refine slice_ok (QQ := fun p lo hi sp st => sp = none ∧ SliG p fun x => Q (.c (.str (Mine.sliceS x lo hi))) st) ?_ ?_ (.inl rfl)
 ·exact EvE.mono h (fun p st₁ h => EvO.mono h fun _ _ h => EvO.mono h fun _ _ h => evO_none ⟨rfl, h⟩) fun _ _ x => x
 ·rintro gh s v p lo hi sp st vl vu vs R r pl pu ps ⟨rfl, x, rfl, hq, hz⟩
  obtain ⟨t, rfl⟩ := r.toC.inv
  cases ps
  exact ⟨⟨"str", _, F.slot_str_getitem.lookup, typeIs_str ..⟩, fun sl hsl => sliceS_get R hsl pl pu hz hq⟩
noncomputable def sliceL (l : List CV) (lo hi sp : Option Int) : List CV :=
 (sliceRange (sliceBounds lo hi sp l.length).1 (sliceBounds lo hi sp l.length).2.1 (sliceBounds lo hi sp l.length).2.2).filterMap (l[·]?)
theorem filterMap_rel {D : Addr → Prop} {h : Heap} {vs : List Value} {l : List CV} (r : CRels D h vs l) : ∀ is : List Nat, CRels D h (is.filterMap (vs[·]?)) (is.filterMap (l[·]?))
 | [] => .nil
 | i :: is => by
  have ih := filterMap_rel r is
  cases hv : vs[i]? with
  | none =>
   have : l[i]? = none := by
    rw [List.getElem?_eq_none_iff] at hv ⊢; rw [← r.len]; exact hv
   rw [List.filterMap_cons, List.filterMap_cons, hv, this]; exact ih
  | some v =>
   obtain ⟨x, hx, rx⟩ := r.get i v hv
   rw [List.filterMap_cons, List.filterMap_cons, hv, hx]; exact .cons rx ih
theorem slicePick_rel {D : Addr → Prop} {h : Heap} {vs : Array Value} {l : List CV} (r : CRels D h vs.toList l) (lo hi sp : Option Int) : CRels D h (slicePick vs lo hi sp).toList (Mine.sliceL l lo hi sp) := by
 unfold slicePick Mine.sliceL
 have e : vs.size = l.length := by have := r.len; rwa [Array.length_toList] at this
 rw [e]
 have : (fun i : Nat => vs[i]?) = fun i : Nat => vs.toList[i]? := by funext i; rw [Array.getElem?_toList]
 rw [this]
 exact filterMap_rel r _
theorem ev_sliceL {value : Expr} {lower upper step : Option Expr} {p pos : Pos} {Q : PV → St → Prop} (loc : Bool)
  (h : EvE cx value st (fun p st₁ => EvO cx lower st₁ (fun lo st₂ => EvO cx upper st₂ (fun hi st₃ => EvO cx step st₃ (fun sp st₄ =>
   ∃ l, itemsOf st₄ p = some l ∧ p.isL ∧ l.length ≤ sizeLine ∧ sp ≠ some 0 ∧
    (loc = false → Q (.c (.lst (sliceL l lo hi sp))) st₄) ∧ (loc = true → Q (.loc st₄.loc.length) { st₄ with loc := st₄.loc ++ [sliceL l lo hi sp] })) X) X) X) X)
  (hb : step = none ∨ ∃ e, step = some e) : EvE cx (.Subscript value (.Slice lower upper step p) pos) st Q X := by
 refine slice_ok h ?_ hb
 rintro gh s v p lo hi sp st vl vu vs R r pl pu ps ⟨l, e, ht, hz, h0, q1, q2⟩
 obtain ⟨a, ws, n, rfl, ho, rs⟩ := listAt R r e ht
 refine ⟨⟨"list", _, list_getitem_lookup, ⟨_, ho, rfl⟩⟩, fun sl hsl => ?_⟩
 have hws : ws.size ≤ sizeLine := by rw [← Array.length_toList, rs.len]; exact hz
 refine wpAny_getItem_list_slice ⟨_, ho, rfl, n, rfl⟩ hsl pl pu ps h0 ?_ hws
 have rp := slicePick_rel rs lo hi sp
 cases loc with
 | false => exact PostV.grow R (.push ..) (q1 rfl) s.toks (.c (.lst (vs := slicePick ws lo hi sp) (n := 0) (Heap.get?_push_size _ rfl) R.notD (rp.push _)))
 | true =>
  have := newLoc_ok R rp (q2 rfl) 0
  rw [Array.toArray_toList] at this
  exact this
inductive OrG (p : PV) (K L : Prop) : Prop
 | mk (x : CV) (r : Bool) (a : p = .c x) (b : truB x = some r) (c : truS x) (k : r = true → K) (l : r = false → L)
theorem ev_or {a b : Expr} {pos : Pos} {Q : PV → St → Prop}
  (h : EvE cx a st (fun p st₁ => OrG p (Q p st₁) (EvE cx b st₁ Q X)) X) (he : ∀ env, evalEach [a, b] env = [eval a env, eval b env] := by intro _; rfl) : EvE cx (.BoolOp .Or [a, b] pos) st Q X := fun gh s R => by
 rw [arm_eval_BoolOp, he]
 refine wpAny_bind (wpAny_mono (h gh s R) ?_ fun _ _ x => x)
 rintro v s₁ ⟨p, st₁, g₁, R₁, T₁, S₁, r₁, x, r, rfl, e, sd, q1, q2⟩
 replace r₁ := r₁.toC
 refine wpAny_bind (wpAny_standAt (wpAny_bind (wpAny_holding ?_)))
 refine truB_ok e sd r₁ fun t => ?_
 cases r with
 | true => exact wpAny_pure ((PostV.same R₁ (q1 rfl) (.c r₁) t).up T₁ S₁)
 | false =>
  show wpAny _ _ (eval b cx.env) _ _ _
  have R₂ : Rel cx g₁ st₁ { s₁ with toks := t } := R₁.toks t
  exact wpAny_mono (q2 rfl g₁ _ R₂) (fun _ _ x => x.up (s₁ := { s₁ with toks := t }) T₁ ⟨S₁.gens, S₁.drawn, S₁.os⟩) fun _ _ x => x.up (s₁ := { s₁ with toks := t }) T₁ ⟨S₁.gens, S₁.drawn, S₁.os⟩
inductive AddG (p q : PV) (K : List CV → Prop) : Prop
 | mk (x y : List CV) (a : p = .c (.lst x)) (b : q = .c (.lst y)) (c : x.length + y.length ≤ sizeLine) (k : K (x ++ y))
theorem ev_addL {a b : Expr} {pos : Pos} {Q : PV → St → Prop}
  (h : EvE cx a st (fun p st₁ => EvE cx b st₁ (fun q st₂ => AddG p q fun r => Q (.c (.lst r)) st₂) X) X) : EvE cx (.BinOp a .Add b pos) st Q X := fun gh s R => by
 refine wpAny_BinOp (wpAny_mono (h gh s R) ?_ fun _ _ x => x)
 rintro v s₁ ⟨p, st₁, g₁, R₁, T₁, S₁, r₁, q₁⟩
 refine wpAny_mono (q₁ g₁ s₁ R₁) ?_ fun _ _ x => x.up T₁ S₁
 rintro w s₂ ⟨q, st₂, g₂, R₂, T₂, S₂, r₂, x, y, rfl, rfl, hz, hq⟩
 have r₁ := (r₁.tr R₁.ok T₂).toC; replace r₂ := r₂.toC; replace r₁ := r₁.inv; obtain ⟨_, _, _, rfl, h1, d1, rs1⟩ := r₁; replace r₂ := r₂.inv; obtain ⟨_, _, _, rfl, h2, d2, rs2⟩ := r₂
 rename_i a1 vs1 n1 a2 vs2 n2
 have e1 := rs1.len
 have e2 := rs2.len
 rw [Array.length_toList] at e1 e2
 refine P.add_list h1 h2 ((PostV.grow R₂ (.push ..) hq s₂.toks (.c (.lst (vs := vs1 ++ vs2) (n := 0) (Heap.get?_push_size _ rfl) R₂.notD ?_))).up (T₁.trans T₂) (S₁.trans S₂)) (by omega)
 rw [Array.toList_append]
 have app : ∀ {v1 v2 : List Value} {l1 l2 : List CV} {D : Addr → Prop} {h : Heap}, CRels D h v1 l1 → CRels D h v2 l2 → CRels D h (v1 ++ v2) (l1 ++ l2) := by
  intro v1
  induction v1 with
  | nil => intro v2 l1 l2 D h r1 r2; cases r1; exact r2
  | cons v v1 ih => intro v2 l1 l2 D h r1 r2; cases r1 with | cons a b => exact .cons a (ih b r2)
 exact (app rs1 rs2).push _
end
section
variable {cx : Cx} {gh : Gh} {st : St} {s : Shared} {X : XV → St → Prop}
theorem Rel.mutd (R : Rel cx gh st s) {a : Addr} {vs : Array Value} {n : Nat} {h' : Heap} {tk : Nat} {glob' : List GObj} {loc' : List (List CV)} (ha : gh.U a) (hm : a ∈ gh.mu) (ho : s.heap.get? a = some (lstObj vs n)) (hs : Heap.SameBut a s.heap h')
  (hg : GRels gh h' gh.ga glob') (hl : LRels gh h' gh.la loc') : Rel cx gh { st with glob := glob', loc := loc' } { s with heap := h', toks := tk } := by
 have x := Chg.same hs
 have X := x.ext (D := gh.D) fun a z => z ▸ R.ok.UD _ ha
 exact R.move R.ok (fun b o e => x.kept b o (fun z => xns ((R.fresh b (z ▸ R.ok.UD _ ha)).symm.trans e)) (R.base b o e)) R.fresh (fun b z => Nat.lt_of_lt_of_le (R.din b z) x.size) (fun _ u => u) (fun _ _ _ u _ _ => u) (fun _ d => d) (fun b o _ e q => ⟨o, x.kept b o (Rel.lstNo ho e q) e, rfl⟩)
  (fun _ _ r => r.ext X) (fun _ _ r => r.ext X) hg hl R.muU R.apart
theorem flat_ne {α β : Type} {f : α → List β} {l : List α} (nd : (l.flatMap f).Nodup) : ∀ {i j : Nat} {x y : α}, l[i]? = some x → l[j]? = some y → i ≠ j → ∀ b, b ∈ f x → b ∉ f y := by
 induction l with
 | nil => intro i j x y h; simp at h
 | cons a l ih =>
  rw [List.flatMap_cons] at nd
  obtain ⟨_, n2, n3⟩ := List.nodup_append.mp nd
  intro i j x y h1 h2 hij b hx hy
  cases i with
  | zero =>
   obtain rfl : a = x := Option.some.inj h1
   cases j with
   | zero => exact hij rfl
   | succ j => exact n3 b hx b (List.mem_flatMap.mpr ⟨_, List.mem_of_getElem? (i := j) h2, hy⟩) rfl
  | succ i =>
   cases j with
   | zero =>
    obtain rfl : a = y := Option.some.inj h2
    exact n3 b hy b (List.mem_flatMap.mpr ⟨_, List.mem_of_getElem? (i := i) h1, hx⟩) rfl
   | succ j => exact ih n2 (i := i) (j := j) h1 h2 (fun e => hij (congrArg Nat.succ e)) b hx hy
theorem LRels.set {h h' : Heap} {U : Addr → Prop} (x : Ext gh.D U h gh.D h') {a : Addr} {l' : List CV} (hs : Heap.SameBut a h h') (hr : LRel gh h' a l') {la : List Addr} {loc : List (List CV)} {k : Nat} (rs : LRels gh h la loc) (nd : la.Nodup) (e : la[k]? = some a) : LRels gh h' la (loc.set k l') :=
 All2.put rs e hr fun i a' b' h1 hi r => r.rec fun vs n e0 r => ⟨vs, n, (hs.2 a' fun z => hi ((List.getElem?_inj (List.getElem?_eq_some_iff.mp h1).1 nd).mp (h1.trans (z ▸ e.symm)))).trans e0, .of (r.all.imp fun _ _ _ r => r.ext x)⟩
theorem GRels.put {h h' : Heap} {U : Addr → Prop} (x : Ext gh.D U h gh.D h') {g : GA} {o : GObj} {d : Addr} (hd : d ∈ g.addrs) (c : Chg (· = d) h h') (hr : GRel gh h' g o) {ga : List GA} {glob : List GObj} {k : Nat} (rs : GRels gh h ga glob) (nd : (ga.flatMap GA.addrs).Nodup) (e : ga[k]? = some g) : GRels gh h' ga (glob.set k o) :=
 All2.put rs e hr fun i g' o' h1 hi r => r.ext x fun b hb ob eb => c.kept b ob (fun z => flat_ne nd h1 e hi b hb ((show b = d from z) ▸ hd)) eb
theorem GRels.setL {h h' : Heap} {U : Addr → Prop} (x : Ext gh.D U h gh.D h') {a : Addr} {l' : List CV} {vs' : Array Value} {n' : Nat} (hs : Heap.SameBut a h h') (ho : h'.get? a = some (lstObj vs' n')) (hr : CRels gh.D h' vs'.toList l')
  {ga : List GA} {glob : List GObj} {k : Nat} (rs : GRels gh h ga glob) (nd : (ga.flatMap GA.addrs).Nodup) (e : ga[k]? = some (.l a)) : GRels gh h' ga (glob.set k (.lst l')) := GRels.put x (.head _) (Chg.same hs) (.lst ho hr) rs nd e
noncomputable def St.put (st : St) (p : PV) (l : List CV) : St :=
 match p with
 | .loc k => { st with loc := st.loc.set k l }
 | .obj k => { st with glob := st.glob.set k (.lst l) }
 | _ => st
theorem mut_ok (R : Rel cx gh st s) {p : PV} {a : Addr} {vs vs' : Array Value} {n n' : Nat} {l l' : List CV} {h' : Heap} {tk : Nat} (ha : liveAddr gh p = some a) (hl : itemsOf st p = some l) (ho : s.heap.get? a = some (lstObj vs n)) (hs : Heap.SameBut a s.heap h') (ho' : h'.get? a = some (lstObj vs' n'))
  (r : CRels gh.D s.heap vs'.toList l') : Rel cx gh (st.put p l') { s with heap := h', toks := tk } ∧ Tr gh s.heap gh h' := by
 obtain ⟨_, _, _, _, hU⟩ := liveList R ha hl
 have x := Chg.same hs
 have X := x.ext (D := gh.D) fun a z => z ▸ R.ok.UD _ hU
 have T : Tr gh s.heap gh h' := (Tr.refl ..).chg x fun b z => .inr (z ▸ hU)
 have nd := (List.nodup_cons.mp R.apart).2
 obtain ⟨nd1, nd2, nd3⟩ := List.nodup_append.mp nd
 cases p with
 | loc k =>
  have hk : gh.la[k]? = some a := ha
  have hm : a ∈ gh.la := List.mem_of_getElem? hk
  exact ⟨R.mutd hU (by unfold Gh.mu; exact List.mem_append_right _ hm) ho hs (R.glob.ext X fun b hb ob e => (hs.2 b fun z => nd3 b hb a hm z).trans e) (LRels.set X hs ⟨_, _, ho', r.ext X⟩ R.loc nd2 hk), T⟩
 | obj k =>
  have hk := liveAddr_obj ha
  have hm : a ∈ gh.ga.flatMap GA.addrs := List.mem_flatMap.mpr ⟨_, List.mem_of_getElem? hk, .head _⟩
  exact ⟨R.mutd hU (by unfold Gh.mu; exact List.mem_append_left _ hm) ho hs (GRels.setL X hs ho' (r.ext X) R.glob nd1 hk) (R.loc.ext X fun b hb ob e => (hs.2 b fun z => nd3 a hm b hb z.symm).trans e), T⟩
 | c => cases ha
 | locs => cases ha
 | pair => cases ha
noncomputable def PV.live : PV → Bool
 | .obj _ => true
 | .loc _ => true
 | _ => false
inductive LiveG (gh : Gh) (h : Heap) (p : PV) (l : List CV) (v : Value) : Prop
 | mk (a : Addr) (vs : Array Value) (n : Nat) (e : v = .ref a) (q : liveAddr gh p = some a) (o : h.get? a = some (lstObj vs n)) (r : CRels gh.D h vs.toList l)
theorem live_of {v : Value} {p : PV} {l : List CV} (r : PRel gh s.heap v p) (h : p.live = true) (R : Rel cx gh st s) (e : itemsOf st p = some l) : LiveG gh s.heap p l v := by
 cases p with
 | obj k =>
  obtain ⟨g, ev, hg⟩ := r.inv
  cases R.glob.get k _ _ hg (items_obj e) with
  | lst e r => exact ⟨_, _, _, ev, obj_liveAddr hg, e, r⟩
 | loc k =>
  obtain ⟨a, ev, hg⟩ := r.inv
  obtain ⟨vs, n, ho, r⟩ := R.loc.get _ _ _ hg e
  exact ⟨_, _, _, ev, hg, ho, r⟩
 | c => exact xff h
 | locs => exact xff h
 | pair => exact xff h
theorem CRels.app {v1 v2 : List Value} {l1 l2 : List CV} {D : Addr → Prop} {h : Heap} (r1 : CRels D h v1 l1) (r2 : CRels D h v2 l2) : CRels D h (v1 ++ v2) (l1 ++ l2) := .of (r1.all.app r2.all)
theorem CRels.eraseIdx {D : Addr → Prop} {h : Heap} {vs : List Value} {l : List CV} (r : CRels D h vs l) (k : Nat) : CRels D h (vs.eraseIdx k) (l.eraseIdx k) := .of (r.all.eraseIdx k)
theorem CRels.set {D : Addr → Prop} {h : Heap} {v : Value} {x : CV} (a : CRel D h v x) {vs : List Value} {l : List CV} (r : CRels D h vs l) (k : Nat) : CRels D h (vs.set k v) (l.set k x) := .of (r.all.set a k)
theorem Prim.append {p : PV} {x : CV} {l : List CV} {Q : PV → St → Prop} (hp : p.live = true) (hl : itemsOf st p = some l) (hz : l.length ≤ 1000000) (h : Q (.c .none) (st.put p (l ++ [x]))) : Prim cx (.builtin "list.append") [p, .c x] st Q X := by
 intro gh s vs R r
 replace r := r.to2; obtain ⟨_, _, rfl, r, r2⟩ := r; replace r2 := r2.toC
 obtain ⟨a, vs, n, rfl, ha, ho, rs⟩ := live_of r hp R hl
 have e := rs.len
 rw [Array.length_toList] at e
 refine call_meets F.slot_list_append ⟨_, ho, rfl⟩ F.entry_list_append (F.args_list_append_2 _ _) (list_append a vs n _ (by rw [sizeLine_eq]; omega)) ⟨ho, ?_⟩
 obtain ⟨R', T'⟩ := mut_ok (tk := s.toks) R ha hl ho (Heap.SameBut.update ..) (IsL.update (h := s.heap) ho (·.push _)) (l' := l ++ [x]) (by rw [Array.toList_push]; exact rs.app (.cons r2 .nil))
 exact ⟨.c .none, _, gh, R', T', ⟨rfl, rfl, rfl⟩, .c .none, h⟩
theorem Prim.extend {p : PV} {x l : List CV} {Q : PV → St → Prop} (hp : p.live = true) (hl : itemsOf st p = some l) (hz : l.length + x.length ≤ 1000000) (h : Q (.c .none) (st.put p (l ++ x))) : Prim cx (.builtin "list.extend") [p, .c (.lst x)] st Q X := by
 intro gh s vs R r
 replace r := r.to2; obtain ⟨_, _, rfl, r, r2⟩ := r; replace r2 := r2.toC; replace r2 := r2.inv; obtain ⟨a2, vs2, n2, rfl, h2, d2, rs2⟩ := r2
 obtain ⟨a, vs, n, rfl, ha, ho, rs⟩ := live_of r hp R hl
 have e := rs.len
 have e2 := rs2.len
 rw [Array.length_toList] at e e2
 refine call_meets F.slot_list_extend ⟨_, ho, rfl⟩ F.entry_list_extend (F.args_list_extend_2 _ _) (AutoSeq1.list_extend_list_list_0 a vs n a2 vs2 n2 ?_ (by rw [sizeLine_eq]; omega) (by rw [sizeLine_eq]; omega)) ⟨ho, h2, ?_⟩
 ·have : Builtin.List.listTooLong (vs.size + vs2.size) = false := decide_eq_false (by rw [sizeLine_eq]; omega)
  rw [this, Bool.and_false]; decide
 obtain ⟨R', T'⟩ := mut_ok (tk := s.toks) R ha hl ho (Heap.SameBut.update ..) (IsL.update (h := s.heap) ho (· ++ vs2)) (l' := l ++ x) (by rw [Array.toList_append]; exact rs.app rs2)
 exact ⟨.c .none, _, gh, R', T', ⟨rfl, rfl, rfl⟩, .c .none, h⟩
theorem Prim.popAt {p : PV} {i : Int} {k : Nat} {x : CV} {l : List CV} {Q : PV → St → Prop} (hp : p.live = true) (hl : itemsOf st p = some l) (hz : l.length ≤ 1000000) (hi : -(2 ^ 62) ≤ i ∧ i < 2 ^ 62) (hk : seqIndex? i l.length = some k) (hx : l[k]? = some x)
  (h : Q (.c x) (st.put p (l.eraseIdx k))) : Prim cx (.builtin "list.pop") [p, .c (.int i)] st Q X := by
 intro gh s vs R r
 replace r := r.to2; obtain ⟨_, _, rfl, r, r2⟩ := r; replace r2 := r2.toC; replace r2 := r2.inv; obtain ⟨u, rfl⟩ := r2
 obtain ⟨a, vs, n, rfl, ha, ho, rs⟩ := live_of r hp R hl
 have e := rs.len
 rw [Array.length_toList] at e
 obtain ⟨v, hv, rv⟩ := rs.at k x hx
 rw [Array.getElem?_toList] at hv
 have hkv : k < vs.size := (Array.getElem?_eq_some_iff.mp hv).1
 refine call_meets F.slot_list_pop ⟨_, ho, rfl⟩ F.entry_list_pop (F.args_list_pop_2 _ _) (MeetsSeq.list_pop_at a vs n i u k v ?_ (by rw [e]; exact hk) hv (by rw [sizeLine_eq]; omega)) ⟨ho, ?_⟩
 ·unfold Builtin.List.listFitsIndex
  rw [decide_eq_true (by omega), decide_eq_true (by omega)]; rfl
 obtain ⟨R', T'⟩ := mut_ok (tk := s.toks) R ha hl ho (Heap.SameBut.update ..) (IsL.update (h := s.heap) ho (fun xs => xs.eraseIdxIfInBounds k)) (l' := l.eraseIdx k) (by
  unfold Array.eraseIdxIfInBounds
  rw [dif_pos hkv, Array.toList_eraseIdx]; exact rs.eraseIdx k)
 exact ⟨.c x, _, gh, R', T', ⟨rfl, rfl, rfl⟩, .c (rv.ext (T'.ext R.ok)), h⟩
theorem setItem_ok {prog : Program} {w : World} {A : Around} {E : Value → Shared → Prop} {l : Addr} {items : Array Value} {n : Nat} {k : Int} {t : Tok} {v : Value} {Q : Unit → Shared → Prop} (ho : s.heap.get? l = some (lstObj items n))
  (h0 : 0 ≤ k) (hfit : k < 2 ^ 63) (hn : k < items.size) (hQ : Q () { s with heap := s.heap.update l (Obj.mapSeq (·.setIfInBounds k.toNat v)) }) :
  wpAny (model prog w) A (setItem (.ref l) (.int k t) v) Q E s := by
 have hT : s.TypeIs (.ref l) "list" := ⟨_, ho, rfl⟩
 unfold setItem
 try with_reducible refine wpAny_holding ?_
 first | refine wpAny_bind (wpAny_pure ?_) | skip
 refine wpAny_bind (wpAny_sequenceKey hT (by decide) ?_)
 refine wpAny_bind (wpAny_callSpecial?_slot (name := Str.ofString "__setitem__") hT slot_list_setitem
  (wpAny_call_entry slot_list_setitem hT entry_list_setitem ?_ (args_list_setitem _ _ _)))
 show wpAny _ _ (Builtin.List.listSubscript? (.int k t) >>= _) _ _ s
 refine wpAny_bind (wpAny_listSubscript_int (fitsIndex_of h0 hfit) ?_)
 clear hfit
 obtain ⟨j, rfl⟩ := Int.eq_ofNat_of_zero_le h0
 have hj : j < items.size := by omega
 have hx' : items[j]? = some items[j] := Array.getElem?_eq_getElem hj
 show wpAny _ _ ((seqItemAt l j >>= fun r => pure (r.map (j, ·))) >>= _) _ _ s
 refine wpAny_bind (wpAny_bind (wpAny_seqItemAt ho rfl (wpAny_pure ?_)))
 rw [hx']
 show wpAny _ _ (setSeqItemAt l j v >>= _) _ _ s
 refine wpAny_bind (wpAny_setSeqItemAt ho rfl ?_)
 first
  | exact wpAny_bind (wpAny_pure (wpAny_pure ⟨.none, rfl, wpAny_pure hQ⟩))
  | exact wpAny_pure ⟨.none, rfl, wpAny_pure hQ⟩
inductive PutG (st : St) (p q pv : PV) (K : List CV → Prop) : Prop
 | mk (x : CV) (k : Int) (l : List CV) (a : pv = .c x) (b : q = .c (.int k)) (c : p.live = true) (d : itemsOf st p = some l) (e : 0 ≤ k) (f : k < l.length) (g : l.length ≤ 1000000) (h : K (l.set k.toNat x))
theorem ExS.setIdx {o i value : Expr} {p' pos : Pos} {Q : Fl → St → Prop}
  (h : EvE cx value st (fun pv st₁ => EvE cx o st₁ (fun p st₂ => EvE cx i st₂ (fun q st₃ => PutG st₃ p q pv fun l => Q .next (st₃.put p l)) X) X) X)
  (hs : swapsWith value (some (.Subscript o i p')) pos.line cx.env = pure false := by rfl) : ExS cx (.Assign [.Subscript o i p'] value pos) st Q X := fun gh s R => by
 refine wpAny_Assign_Subscript (wpAny_mono (h gh s R) ?_ fun _ _ x => x) hs
 rintro v s₁ ⟨pv, st₁, g₁, R₁, T₁, S₁, r₁, q₁⟩
 refine wpAny_mono (q₁ g₁ s₁ R₁) ?_ fun _ _ x => x.up T₁ S₁
 rintro ov s₂ ⟨p, st₂, g₂, R₂, T₂, S₂, r₂, q₂⟩
 refine wpAny_mono (q₂ g₂ s₂ R₂) ?_ fun _ _ x => x.up (T₁.trans T₂) (S₁.trans S₂)
 rintro iv s₃ ⟨q, st₃, g₃, R₃, T₃, S₃, r₃, x, k, l, rfl, rfl, hp, hl, h0, hk, hz, hq⟩
 replace r₃ := r₃.toC; replace r₃ := r₃.inv; obtain ⟨u, rfl⟩ := r₃
 have rv := (r₁.tr R₁.ok (T₂.trans T₃)).toC
 obtain ⟨a, vs, n, rfl, ha, ho, rs⟩ := live_of (r₂.tr R₂.ok T₃) hp R₃ hl
 have e := rs.len
 rw [Array.length_toList] at e
 refine setItem_ok ho h0 (by omega) (by omega) ?_
 obtain ⟨R', T'⟩ := mut_ok (tk := s₃.toks) R₃ ha hl ho (Heap.SameBut.update ..) (IsL.update (h := s₃.heap) ho (·.setIfInBounds k.toNat v)) (l' := l.set k.toNat x) (by
  rw [Array.toList_setIfInBounds]; exact rs.set rv _)
 exact ⟨.next, _, g₃, R', ((T₁.trans T₂).trans T₃).trans T', ((S₁.trans S₂).trans S₃).trans ⟨rfl, rfl, rfl⟩, .next, hq⟩
end
structure CompOk (scope : Scope) (sc : List (Str × NameKind)) (usc gsc : List Str) : Prop where
 kind : scope.kind = .function
 sck : ∀ p ∈ sc, scope.names.lookup p.1 = some p.2 ∧ (p.2 = .local ∨ p.2 = .cell) ∧ (p.1 == ("__debug__" : Str)) = false
 nd : (sc.map (·.1)).Nodup
 usk : ∀ x ∈ usc, scope.names.lookup x = some .free ∧ (x == ("__debug__" : Str)) = false ∧ (x == ("__classdict__" : Str)) = false ∧ ∀ p ∈ scope.names, p.2 = .cell → p.1 ≠ x
 ufree : ∀ p ∈ scope.names, p.2 = .free → p.1 ∈ usc
 gsk : ∀ x ∈ gsc, scope.names.lookup x = some .globalImplicit
 names : ∀ x ∈ scope.names, x.2 = .local → scope.names.lookup x.1 = some .local
noncomputable def CompOk.b (scope : Scope) (sc : List (Str × NameKind)) (usc gsc : List Str) : Bool :=
 decide (scope.kind = .function) && (decide (∀ p ∈ sc, scope.names.lookup p.1 = some p.2 ∧ (p.2 = .local ∨ p.2 = .cell) ∧ (p.1 == ("__debug__" : Str)) = false) && (decide (sc.map (·.1)).Nodup &&
  (decide (∀ x ∈ usc, scope.names.lookup x = some .free ∧ (x == ("__debug__" : Str)) = false ∧ (x == ("__classdict__" : Str)) = false ∧ ∀ p ∈ scope.names, p.2 = .cell → p.1 ≠ x) && (decide (∀ p ∈ scope.names, p.2 = .free → p.1 ∈ usc) &&
  (decide (∀ x ∈ gsc, scope.names.lookup x = some .globalImplicit) && decide (∀ x ∈ scope.names, x.2 = .local → scope.names.lookup x.1 = some .local))))))
theorem CompOk.of {scope : Scope} {sc : List (Str × NameKind)} {usc gsc : List Str} (h : CompOk.b scope sc usc gsc = true) : CompOk scope sc usc gsc := by
 obtain ⟨h1, h⟩ := Bool.and_eq_true_iff.mp h
 obtain ⟨h2, h⟩ := Bool.and_eq_true_iff.mp h
 obtain ⟨h3, h⟩ := Bool.and_eq_true_iff.mp h
 obtain ⟨h4, h⟩ := Bool.and_eq_true_iff.mp h
 obtain ⟨h5, h⟩ := Bool.and_eq_true_iff.mp h
 obtain ⟨h6, h⟩ := Bool.and_eq_true_iff.mp h
 exact ⟨of_decide_eq_true h1, of_decide_eq_true h2, of_decide_eq_true h3, of_decide_eq_true h4, of_decide_eq_true h5, of_decide_eq_true h6, of_decide_eq_true h⟩
theorem lookup_relabel {env : Env} : ∀ {names : List (Str × NameKind)} {x : Str} {k : NameKind}, names.lookup x = some k →
  ∃ k', (names.map fun (n, k) => if (k == NameKind.free && env.scope.kind == .function && env.kindOf n == some .cell) then (n, NameKind.cell) else (n, k)).lookup x = some k' ∧ (k ≠ .free → k' = k) ∧ (k = .free → k' = .cell ∨ k' = .free)
 | [], x, k, h => by simp at h
 | (n, k0) :: r, x, k, h => by
  show ∃ k', List.lookup x ((if (k0 == NameKind.free && env.scope.kind == .function && env.kindOf n == some .cell) = true then (n, NameKind.cell) else (n, k0)) :: _) = _ ∧ _
  cases hx : x == n with
  | true =>
   simp only [List.lookup_cons, hx] at h
   cases h
   split
   ·rename_i hc
    rw [Bool.and_eq_true, Bool.and_eq_true] at hc
    have : k0 = .free := by simpa using hc.1.1
    exact ⟨.cell, by simp [List.lookup_cons, hx], fun z => absurd this z, fun _ => .inl rfl⟩
   ·exact ⟨k0, by simp [List.lookup_cons, hx], fun _ => rfl, fun z => .inr z⟩
  | false =>
   simp only [List.lookup_cons, hx] at h
   obtain ⟨k', h1, h2⟩ := lookup_relabel (env := env) h
   refine ⟨k', ?_, h2⟩
   split <;> simp only [List.lookup_cons, hx] <;> exact h1
theorem closure_ok {env : Env} : ∀ (names : List (Str × NameKind)) (acc : List (Str × Addr)), (∀ p ∈ names, p.2 = .free → ∃ c, env.cells.lookup p.1 = some c) →
  ∃ cl, (forIn names acc fun (x : Str × NameKind) cs => (if x.2 == .free then do let c ← cellOf env x.1; pure (ForInStep.yield ((x.1, c) :: cs)) else pure (ForInStep.yield cs) : Sem (ForInStep (List (Str × Addr))))) = pure cl ∧
   (∀ x, (acc.lookup x = env.cells.lookup x ∨ ((x, NameKind.free) ∈ names ∧ (acc.lookup x = none ∨ acc.lookup x = env.cells.lookup x))) → cl.lookup x = env.cells.lookup x)
 | [], acc, _ => ⟨acc, rfl, fun x h => by
   rcases h with h | ⟨h, _⟩
   ·exact h
   ·cases h⟩
 | (n, k) :: r, acc, h => by
  rw [List.forIn_cons]
  cases hk : k == NameKind.free with
  | false =>
   obtain ⟨cl, h1, h2⟩ := closure_ok (env := env) r acc fun p hp => h p (.tail _ hp)
   refine ⟨cl, ?_, fun x hx => h2 x (hx.imp id fun ⟨a, b⟩ => ⟨?_, b⟩)⟩
   ·simp only [hk, Bool.false_eq_true, if_false]
    exact h1
   ·rcases List.mem_cons.mp a with e | e
    ·cases e; cases hk
    ·exact e
  | true =>
   have hk' : k = .free := by simpa using hk
   obtain ⟨c, hc⟩ := h (n, k) (.head _) hk'
   obtain ⟨cl, h1, h2⟩ := closure_ok (env := env) r ((n, c) :: acc) fun p hp => h p (.tail _ hp)
   refine ⟨cl, ?_, fun x hx => h2 x ?_⟩
   ·have : cellOf env n = pure c := by unfold cellOf; rw [hc]
    simp only [hk, if_true, this]
    exact h1
   ·by_cases hxn : x = n
    ·subst hxn; left; simp [List.lookup_cons, hc]
    ·have : ((n, c) :: acc).lookup x = acc.lookup x := by simp [List.lookup_cons, show (x == n) = false from by simpa using hxn]
     rw [this]
     rcases hx with hx | ⟨a, b⟩
     ·exact .inl hx
     ·rcases List.mem_cons.mp a with e | e
      ·cases e; exact absurd rfl hxn
      ·exact .inr ⟨e, b⟩
theorem closureFor_ok {scope : Scope} {env : Env} (h : ∀ p ∈ scope.names, p.2 = .free → ∃ c, env.cells.lookup p.1 = some c) : ∃ cl, closureFor scope env = pure cl ∧ ∀ x, scope.names.lookup x = some .free → cl.lookup x = env.cells.lookup x := by
 obtain ⟨cl, h1, h2⟩ := closure_ok scope.names [] h
 refine ⟨cl, ?_, fun x hx => h2 x (.inr ⟨?_, .inl rfl⟩)⟩
 ·unfold closureFor
  exact congrArg (· >>= pure) h1
 ·exact mem_of_lookup hx
theorem cellsFrom_other {x : Str} : ∀ (names : List (Str × NameKind)) (n : Nat) (acc : List (Str × Addr)), (∀ p ∈ names, p.2 = .cell → p.1 ≠ x) → (cellsFrom n names acc).lookup x = acc.lookup x
 | [], _, _, _ => rfl
 | (y, k) :: r, n, acc, h => by
  unfold cellsFrom
  cases hk : k == NameKind.cell with
  | false => simp only [Bool.false_eq_true, if_false]; exact cellsFrom_other r n acc fun p hp => h p (.tail _ hp)
  | true =>
   simp only [if_true]
   rw [cellsFrom_other r _ _ fun p hp => h p (.tail _ hp)]
   have : x ≠ y := fun e => h (y, k) (.head _) (by simpa using hk) e.symm
   simp [List.lookup_cons, show (x == y) = false from by simpa using this]
theorem cellsFrom_app : ∀ (names : List (Str × NameKind)) (n : Nat) (a b : List (Str × Addr)), cellsFrom n names (a ++ b) = cellsFrom n names a ++ b
 | [], _, _, _ => rfl
 | (y, k) :: r, n, a, b => by
  unfold cellsFrom
  split
  ·exact cellsFrom_app r (n + 1) ((y, n) :: a) b
  ·exact cellsFrom_app r n a b
theorem compEnv_ok {M : Model} {A : Around} {E : Value → Shared → Prop} {s : Shared} {scope : Scope} {cl : List (Str × Addr)} {env : Env} {qual : Str} {globals : Addr} {Q : Env → Shared → Prop}
  (h : Q (newEnv scope s.heap.objs.size globals (cellsFrom (s.heap.objs.size + 1) scope.names cl) qual none .none (some env) builtinsNs) { s with heap := pushCells (s.heap.push { cls := .type "dict", data := .dict #[] }) scope.names }) :
  wpAny M A (newFunctionEnv scope globals cl [] qual none .none (some env)) Q E s := by
 simp only [newFunctionEnv, Option.isSome_some, if_true]
 refine wpAny_bind (wpAny_alloc ?_)
 refine wpAny_bind (wpAny_layCells _ (fun name kind cells => by cases hkc : kind == NameKind.cell <;> simp [hkc]) _ _ _ _ ?_)
 rw [show ({ s with heap := s.heap.push { cls := .type "dict", data := .dict #[] } } : Shared).heap.objs.size = s.heap.objs.size + 1 from Heap.size_push ..]
 rw [List.forIn_nil]
 exact wpAny_bind (wpAny_pure (wpAny_pure h))
section
variable {cx : Cx} {gh : Gh} {st : St} {s : Shared} {X : XV → St → Prop}
noncomputable def compCx (cx : Cx) (env : Env) (sc : List (Str × NameKind)) (usc gsc : List Str) : Cx := { cx with env := env, sc := sc, usc := usc, gsc := gsc }
noncomputable def compGh (gh : Gh) (C : Addr) (cs : List (Str × Addr)) : Gh :=
 { ga := gh.ga, la := gh.la, D := fun b => gh.D b ∨ b = C ∨ ∃ x, (x, b) ∈ cs, U := fun b => b ∈ gh.mu ∨ b = C ∨ ∃ x, (x, b) ∈ cs }
inductive Ups (cx : Cx) (st : St) : List Str → List CV → Prop
 | nil : Ups cx st [] []
 | cell {x c xs cs} (j : Nat) (h1 : cx.sc[j]? = some (x, .cell)) (h2 : st.fr[j]? = some (some (.c c))) : Ups cx st xs cs → Ups cx st (x :: xs) (c :: cs)
 | free {x c xs cs} (j : Nat) (h1 : cx.usc[j]? = some x) (h2 : st.up[j]? = some c) : Ups cx st xs cs → Ups cx st (x :: xs) (c :: cs)
theorem Ups.get {xs : List Str} {cs : List CV} (u : Ups cx st xs cs) : ∀ (i : Nat) (x : Str) (c : CV), xs[i]? = some x → cs[i]? = some c → (∃ j : Nat, cx.sc[j]? = some (x, NameKind.cell) ∧ st.fr[j]? = some (some (PV.c c))) ∨ ∃ j : Nat, cx.usc[j]? = some x ∧ st.up[j]? = some c := by
 induction u with
 | nil => intro i x c e; simp at e
 | cell j h1 h2 _ ih =>
  intro i x c e1 e2
  cases i with
  | zero => simp at e1 e2; subst e1 e2; exact .inl ⟨j, h1, h2⟩
  | succ i => exact ih i x c (by simpa using e1) (by simpa using e2)
 | free j h1 h2 _ ih =>
  intro i x c e1 e2
  cases i with
  | zero => simp at e1 e2; subst e1 e2; exact .inr ⟨j, h1, h2⟩
  | succ i => exact ih i x c (by simpa using e1) (by simpa using e2)
theorem Ups.len {xs : List Str} {cs : List CV} (u : Ups cx st xs cs) : xs.length = cs.length := by
 induction u with
 | nil => rfl
 | cell _ _ _ _ ih => exact congrArg (· + 1) ih
 | free _ _ _ _ ih => exact congrArg (· + 1) ih
theorem Ups.at (R : Rel cx gh st s) {xs : List Str} {cs : List CV} (u : Ups cx st xs cs) {i : Nat} {x : Str} (h : xs[i]? = some x) : ∃ c v p, cs[i]? = some p ∧ cx.env.cells.lookup x = some c ∧ gh.D c ∧ c ∉ gh.mu ∧ s.heap.IsCell c (some v) ∧ CRel gh.D s.heap v p := by
 have hi : i < cs.length := by rw [← u.len]; exact (List.getElem?_eq_some_iff.mp h).1
 have hp : cs[i]? = some cs[i] := List.getElem?_eq_getElem hi
 rcases u.get i x _ h hp with ⟨j, h1, h2⟩ | ⟨j, h1, h2⟩
 ·obtain ⟨c, vo, e1, e2, e3, e4⟩ := R.cells j x h1
  obtain ⟨v, rfl, r⟩ := e4 _ h2
  replace r := r.toC
  exact ⟨c, v, _, hp, e1, R.ok.UD _ e2, R.noCell e3, e3, r⟩
 ·obtain ⟨c, v, e1, e2, e3, e4, e5⟩ := R.ups j x _ h1 h2
  exact ⟨c, v, _, hp, e1, e3, fun hm => e2 (R.muU _ hm), e4, e5⟩
end
section
variable {cx : Cx} {gh : Gh} {st : St} {s : Shared} {X : XV → St → Prop} {sc : List (Str × NameKind)} {usc gsc : List Str} {scope : Scope}
noncomputable def compEnv' (cx : Cx) (scope : Scope) (C : Addr) (cl : List (Str × Addr)) (cs : List (Str × Addr)) : Env :=
 { newEnv scope C cx.env.globals (cs ++ cl) cx.env.qual none .none (some cx.env) builtinsNs with scope := relabel scope cx.env }
theorem compCx_ok (C : cx.Ok) (S : CompOk scope sc usc gsc) {L : Addr} {cl cs : List (Str × Addr)} : (compCx cx (compEnv' cx scope L cl cs) sc usc gsc).Ok where
 wd := C.wd
 fn := S.kind
 globals := C.globals
 builtins := C.builtins
 sck i x k h := by
  have h : sc[i]? = some (x, k) := h
  obtain ⟨h1, h2, h3⟩ := S.sck (x, k) (List.mem_of_getElem? h)
  obtain ⟨k', e1, e2, _⟩ := lookup_relabel (env := cx.env) h1
  refine ⟨?_, h3⟩
  have hk : k ≠ .free := fun z => by
   rcases h2 with e | e <;> (have e : k = _ := e; exact nomatch e.symm.trans z)
  rw [e2 hk] at e1
  exact e1
 sci i j x k k' h h' := by
  have h : sc[i]? = some (x, k) := h
  have h' : sc[j]? = some (x, k') := h'
  have e1 : (sc.map (·.1))[i]? = some x := by rw [List.getElem?_map, h]; rfl
  have e2 : (sc.map (·.1))[j]? = some x := by rw [List.getElem?_map, h']; rfl
  exact (List.getElem?_inj (List.getElem?_eq_some_iff.mp e1).1 S.nd).mp (e1.trans e2.symm)
 usk i x h := by
  have h : usc[i]? = some x := h
  obtain ⟨h1, h2, h3, _⟩ := S.usk x (List.mem_of_getElem? h)
  obtain ⟨k', e1, _, e2⟩ := lookup_relabel (env := cx.env) h1
  refine ⟨?_, h2, h3⟩
  rcases e2 rfl with rfl | rfl
  ·exact .inl e1
  ·exact .inr e1
 gsk i x h := by
  have h : gsc[i]? = some x := h
  obtain ⟨k', e1, e2, _⟩ := lookup_relabel (env := cx.env) (S.gsk x (List.mem_of_getElem? h))
  rw [e2 (by decide)] at e1
  exact e1
 lv := C.lv
 hn := C.hn
 frames := C.frames
theorem comp_enter (R : Rel cx gh st s) (S : CompOk scope sc usc gsc) {up : List CV} (u : Ups cx st usc up) {cl : List (Str × Addr)} (hcl : ∀ x, scope.names.lookup x = some .free → cl.lookup x = cx.env.cells.lookup x) {n : Nat} :
  let L := s.heap.objs.size
  let cs := cellsFrom (L + 1) scope.names []
  let s' : Shared := { s with heap := pushCells (s.heap.push { cls := .type "dict", data := .dict #[] }) scope.names }
  Rel (compCx cx (compEnv' cx scope L cl cs) sc usc gsc) (compGh gh L cs) ⟨st.glob, st.loc, List.replicate n none, up⟩ s' ∧ Tr gh s.heap (compGh gh L cs) s'.heap ∧ ∀ b, (compGh gh L cs).U b → b ∈ gh.mu ∨ L ≤ b := by
 intro L cs s'
 have keep : ∀ b o, s.heap.get? b = some o → s'.heap.get? b = some o := fun b o e => pushCells_keeps _ _ b o (Heap.get?_push_of_some _ e)
 have hsz1 : (s.heap.push { cls := .type "dict", data := .dict #[] }).objs.size = L + 1 := Heap.size_push ..
 have ok := cellsFrom_ok scope.names (s.heap.push { cls := .type "dict", data := .dict #[] }) (L + 1) [] ⟨fun _ _ hm => (nomatch hm), List.Pairwise.nil⟩ (by rw [hsz1]; exact Nat.le_refl _)
 rw [hsz1] at ok
 have hns : s'.heap.Ns L (fun _ => none) := (Heap.Ns.new s.heap (.type "dict")).keeps (pushCells_keeps _ _)
 have hL : L < s'.heap.objs.size := hns.lt
 have hsz : s.heap.objs.size ≤ s'.heap.objs.size := Nat.le_of_lt hL
 have hcs : ∀ x c, (x, c) ∈ cs → s'.heap.IsCell c none ∧ L + 1 ≤ c := ok.empty
 have hmuU : ∀ b, b ∈ gh.mu → gh.U b := R.muU
 have ltD : ∀ b, gh.D b → b < L := R.din
 have T : Tr gh s.heap (compGh gh L cs) s'.heap := by
  refine ⟨hsz, fun b o e _ => .inl (keep b o e), ?_, ?_, fun _ z => .inl z, ⟨[], by simp [compGh]⟩, ⟨[], by simp [compGh]⟩⟩
  ·rintro b (z | rfl | ⟨x, z⟩)
   ·exact .inl (hmuU b z)
   ·exact .inr (Nat.le_refl _)
   ·exact .inr (Nat.le_of_lt (hcs x b z).2)
  ·rintro b (z | rfl | ⟨x, z⟩)
   ·exact .inl z
   ·exact .inr (Nat.le_refl _)
   ·exact .inr (Nat.le_of_lt (hcs x b z).2)
 have Xt : Ext gh.D (fun _ => False) s.heap (compGh gh L cs).D s'.heap := ⟨fun b o e _ => .inl (keep b o e), T.D, fun _ z => z.elim⟩
 have hmu : (compGh gh L cs).mu = gh.mu := rfl
 have nb : ∀ b, L ≤ b → cx.wd.base.get? b = none := fun b hb => by
  cases q : cx.wd.base.get? b with
  | none => rfl
  | some o => exact absurd (Heap.lt_size (R.base b o q)) (Nat.not_lt.mpr hb)
 have lookupOwn : ∀ x c, cs.lookup x = some c → (cs ++ cl).lookup x = some c := fun x c e => by rw [List.lookup_append, e]; rfl
 refine ⟨⟨⟨?_⟩, fun b o e => keep b o (R.base b o e), ?_, ?_, .inr (.inl rfl), ⟨_, hns, ?_⟩, ?_, ?_, ?_, ?_, ?_, ?_, ?_, ?_⟩, T, fun b z => z.imp id fun z => z.elim (fun z => Nat.le_of_eq z.symm) fun ⟨x, z⟩ => Nat.le_of_lt (hcs x b z).2⟩
 ·rintro b (z | z | z)
  ·exact .inl (R.ok.UD b (hmuU b z))
  ·exact .inr (.inl z)
  ·exact .inr (.inr z)
 ·rintro b (z | rfl | ⟨x, z⟩)
  ·exact R.fresh b z
  ·exact nb _ (Nat.le_refl _)
  ·exact nb _ (Nat.le_of_lt (hcs x b z).2)
 ·rintro b (z | rfl | ⟨x, z⟩)
  ·exact Nat.lt_of_lt_of_le (R.din b z) hsz
  ·exact hL
  ·exact (hcs x b z).1.lt
 ·intro i x p h1 h2
  simp only [List.getElem?_replicate] at h2
  split at h2 <;> simp at h2
 ·intro i x h1
  have h1 : sc[i]? = some (x, .cell) := h1
  have hy := (S.sck _ (List.mem_of_getElem? h1)).1
  obtain ⟨c, hc⟩ := Option.isSome_iff_exists.mp (cells_some scope.names (L + 1) [] (.inl hy))
  refine ⟨c, none, lookupOwn x c hc, .inr (.inr ⟨x, mem_of_lookup hc⟩), (hcs x c (mem_of_lookup hc)).1, fun p hp => ?_⟩
  simp only [List.getElem?_replicate] at hp
  split at hp <;> simp at hp
 ·intro i j x y c h1 h2 e1 e2
  have h1 : sc[i]? = some (x, .cell) := h1
  have h2 : sc[j]? = some (y, .cell) := h2
  have own : ∀ (i : Nat) z, sc[i]? = some (z, .cell) → (cs ++ cl).lookup z = some c → (z, c) ∈ cs := by
   intro i z h e
   have hz := (S.sck _ (List.mem_of_getElem? h)).1
   obtain ⟨c', hc'⟩ := Option.isSome_iff_exists.mp (cells_some scope.names (L + 1) [] (.inl hz))
   have := lookupOwn z c' hc'
   obtain rfl := Option.some.inj (this.symm.trans e)
   exact mem_of_lookup hc'
  have e := name_of_addr ok.apart (own i x h1 e1) (own j y h2 e2)
  subst e
  have e1 : (sc.map (·.1))[i]? = some x := by rw [List.getElem?_map, h1]; rfl
  have e2 : (sc.map (·.1))[j]? = some x := by rw [List.getElem?_map, h2]; rfl
  exact (List.getElem?_inj (List.getElem?_eq_some_iff.mp e1).1 S.nd).mp (e1.trans e2.symm)
 ·intro i x p h1 h2
  have h1 : usc[i]? = some x := h1
  have h2 : up[i]? = some p := h2
  obtain ⟨c, v, p', hp, e1, hD, hm, hc, r⟩ := u.at R h1
  obtain rfl := Option.some.inj (hp.symm.trans h2)
  obtain ⟨f1, _, _, f4⟩ := S.usk x (List.mem_of_getElem? h1)
  have hlt : c < L := ltD c hD
  refine ⟨c, v, ?_, ?_, .inl hD, hc.keeps keep, r.ext Xt⟩
  ·show (cs ++ cl).lookup x = some c
   have : cs.lookup x = none := cellsFrom_other scope.names (L + 1) [] f4
   rw [List.lookup_append, this]
   exact (hcl x f1).trans e1
  ·rintro (z | z | ⟨y, z⟩)
   ·exact hm z
   ·exact absurd hlt (by rw [z]; exact Nat.lt_irrefl _)
   ·exact absurd hlt (Nat.not_lt.mpr (Nat.le_of_lt (hcs y c z).2))
 ·exact GRels.sub (g := gh) (fun v c r => r.ext Xt) (fun _ _ e => e) (fun b _ ob e => keep b ob e) R.glob
 ·have go : ∀ {gs : List Addr} {os : List (List CV)}, LRels gh s.heap gs os → LRels (compGh gh L cs) s'.heap gs os := by
   intro gs os rr
   induction rr with
   | nil => exact .nil
   | cons q _ ih => obtain ⟨vs, n, e, r⟩ := q; exact .cons ⟨vs, n, keep _ _ e, r.ext Xt⟩ ih
  exact go R.loc
 ·intro b hb; rw [hmu] at hb; exact .inl hb
 ·rw [hmu]
  refine List.nodup_cons.mpr ⟨fun hb => ?_, (List.nodup_cons.mp R.apart).2⟩
  exact absurd (R.muLt hb) (Nat.lt_irrefl _)
 ·intro e he
  obtain ⟨h1, F, h2, h3, h4, hD, o, h5, h6⟩ := R.frames e he
  have hlt := Heap.lt_size h5
  refine ⟨h1, F, h2, h3, .inr ?_, .inl hD, o, keep _ _ h5, h6⟩
  rintro (z | z | ⟨y, z⟩)
  ·rcases h4 with rfl | h4
   ·exact (List.nodup_cons.mp R.apart).1 z
   ·exact h4 (hmuU F z)
  ·exact absurd hlt (by rw [z]; exact Nat.lt_irrefl _)
  ·exact absurd hlt (Nat.not_lt.mpr (Nat.le_of_lt (hcs y F z).2))
structure Below (cx : Cx) (n : Nat) : Prop where
 cur : cx.env.locals < n
 cell : ∀ (i : Nat) (x : Str) c, cx.sc[i]? = some (x, .cell) → cx.env.cells.lookup x = some c → c < n
 fr : ∀ e, e ∈ cx.fenv :: cx.outer → ∀ L, e.frame = some L → L < n
theorem Rel.below (R : Rel cx gh st s) : Below cx s.heap.objs.size where
 cur := by obtain ⟨m, h, _⟩ := R.cur; exact h.lt
 cell i x c h1 h2 := by
  obtain ⟨c', vo, e1, _, e3, _⟩ := R.cells i x h1
  obtain rfl := Option.some.inj (e1.symm.trans h2); exact e3.lt
 fr e he L hL := by
  obtain ⟨_, L', h2, _, _, _, o, h5, _⟩ := R.frames e he
  obtain rfl := Option.some.inj (h2.symm.trans hL); exact Heap.lt_size h5
theorem Below.mono {n n' : Nat} (B : Below cx n) (h : n ≤ n') : Below cx n' := ⟨Nat.lt_of_lt_of_le B.cur h, fun i x c a b => Nat.lt_of_lt_of_le (B.cell i x c a b) h, fun e he L hL => Nat.lt_of_lt_of_le (B.fr e he L hL) h⟩
theorem Rel.chgN {P : Addr → Prop} {h' : Heap} {n : Nat} (R : Rel cx gh st s) (B : Below cx n) (x : Chg P s.heap h') (hP : ∀ a, P a → gh.D a ∧ a ∉ gh.mu ∧ n ≤ a ∧ ∀ o, s.heap.get? a = some o → ∀ v, o.data ≠ .cell v) (tk : Nat) : Rel cx gh st { s with heap := h', toks := tk } := by
 have X := x.ext fun a z => (hP a z).1
 have keepN : ∀ {a : Addr} {o : Obj}, s.heap.get? a = some o → a < n → h'.get? a = some o := fun {a o} e hl => x.kept a o (fun z => absurd (hP a z).2.2.1 (Nat.not_le.mpr hl)) e
 have keepM : ∀ {b : Addr} {ob : Obj}, b ∈ gh.mu → s.heap.get? b = some ob → h'.get? b = some ob := fun {b ob} hb e => x.kept b ob (fun z => (hP b z).2.1 hb) e
 have kc : ∀ b o v, s.heap.get? b = some o → o.data = .cell v → ∃ o', h'.get? b = some o' ∧ o'.data = o.data := fun b o v e hd => ⟨o, x.kept b o (fun z => (hP b z).2.2.2 o e _ hd) e, rfl⟩
 refine ⟨R.ok, fun b o e => x.kept b o (fun z => xns ((R.fresh b (hP b z).1).symm.trans e)) (R.base b o e), R.fresh, fun b z => Nat.lt_of_lt_of_le (R.din b z) x.size, R.curU, R.cur.map (fun _ _ _ _ h => h) (fun o e _ => ⟨o, keepN e B.cur, rfl⟩) (fun _ _ q => q.ext X), fun i y hy => (R.cells i y hy).map (fun _ h => h) (fun _ u => u) kc (fun _ _ q => q.ext X), R.cellsA,
  fun i y p h1 h2 => (R.ups i y p h1 h2).map (fun _ _ _ _ u _ _ => u) (fun _ d => d) kc (fun _ _ q => q.ext X), R.glob.ext X (fun b hb ob e => keepM (List.mem_append_left _ hb) e), R.loc.ext X (fun b hb ob e => keepM (List.mem_append_right _ hb) e), R.muU, R.apart, fun e he => ?_⟩
 obtain ⟨h1, L, h2, h3, h4, hD, o, h5, h6⟩ := R.frames e he
 exact ⟨h1, L, h2, h3, h4, hD, o, keepN h5 (B.fr e he L h2), h6⟩
theorem Rel.resume {s' : Shared} {g' : Gh} {glob' : List GObj} {loc' : List (List CV)} (R : Rel cx gh st s) (hsz : s.heap.objs.size ≤ s'.heap.objs.size) (base : ∀ b o, cx.wd.base.get? b = some o → s'.heap.get? b = some o)
  {Z : Addr → Prop} (hZ : ∀ b, Z b → gh.D b ∧ b ∉ gh.mu ∧ ∀ o, s.heap.get? b = some o → (∃ fs, o.data = .fields fs) ∨ ∃ vs n, o.data = .seq vs n)
  (kept : ∀ b o, s.heap.get? b = some o → b ∉ gh.mu → ¬ Z b → Kept (gh.D b) o (s'.heap.get? b)) (hD : ∀ b, g'.D b → gh.D b ∨ (s.heap.objs.size ≤ b ∧ b < s'.heap.objs.size)) (hDm : ∀ b, gh.D b → g'.D b)
  (hga : ∃ x, g'.ga = gh.ga ++ x) (hla : ∃ x, g'.la = gh.la ++ x) (hmu : ∀ b, b ∈ g'.mu → b ∈ gh.mu ∨ s.heap.objs.size ≤ b) (hmD : ∀ b, b ∈ g'.mu → g'.D b) (hnd : g'.mu.Nodup) (glob : GRels g' s'.heap g'.ga glob') (loc : LRels g' s'.heap g'.la loc') :
  Rel cx { g' with U := fun b => gh.U b ∨ b ∈ g'.mu } { st with glob := glob', loc := loc' } s' := by
 have hmem : ∀ {b : Addr}, b < s.heap.objs.size → b ∉ gh.mu → b ∉ g'.mu := fun {b} hb hn hm => by
  rcases hmu b hm with q | q
  ·exact hn q
  ·exact absurd hb (Nat.not_lt.mpr q)
 have Xt : Ext gh.D (fun b => b ∈ gh.mu ∨ Z b) s.heap g'.D s'.heap := ⟨fun b o e hn => kept b o e (fun z => hn (.inl z)) fun z => hn (.inr z), fun b z => (hD b z).imp id fun q => q.1, fun b hb => hb.elim (fun hb => R.muD hb) fun hb => (hZ b hb).1⟩
 have nL : cx.env.locals ∉ gh.mu := (List.nodup_cons.mp R.apart).1
 refine R.move (gh' := { g' with U := fun b => gh.U b ∨ b ∈ g'.mu }) ⟨fun b z => z.elim (fun z => hDm b (R.ok.UD b z)) (hmD b)⟩ base (fun b z => (hD b z).elim (R.fresh b) fun z => R.freshNew z.1) (fun b z => (hD b z).elim (fun q => Nat.lt_of_lt_of_le (R.din b q) hsz) fun q => q.2) (fun _ => .inl) (fun b o _ u e q z => z.elim u fun z => ?_) hDm (fun b o hb e q => ?_)
  (fun _ _ r => r.map (gh := gh) (gh' := { g' with U := fun b => gh.U b ∨ b ∈ g'.mu }) Xt hga hla) (fun _ _ r => r.ext Xt) (GRels.map (gh := g') (gh' := { g' with U := fun b => gh.U b ∨ b ∈ g'.mu }) (fun _ _ r => r) (fun _ _ _ r => r.map (gh := g') (gh' := { g' with U := fun b => gh.U b ∨ b ∈ g'.mu }) (.refl ..) app_nil app_nil) (fun _ _ _ e => e) glob) (LRels.map (gh := g') (gh' := { g' with U := fun b => gh.U b ∨ b ∈ g'.mu }) (fun _ _ r => r) (fun _ _ _ e => e) loc) (fun b hb => .inr hb) ?_
 ·exact hmem (Heap.lt_size e) (fun hm => u (R.muU b hm)) z
 ·obtain ⟨o', h1, _, h2⟩ := (kept b o e hb fun z => by
   rcases (hZ b z).2.2 o e with ⟨fs, w⟩ | ⟨vs, n, w⟩
   ·rw [w] at q; exact absurd q (Nat.not_lt.mpr (Nat.le_add_left 2 2))
   ·rw [w] at q; exact Nat.lt_irrefl 2 q).like
  exact ⟨o', h1, h2⟩
 ·refine List.nodup_cons.mpr ⟨fun hb => ?_, hnd⟩
  obtain ⟨m, h, _⟩ := R.cur
  exact hmem h.lt nL hb
end
noncomputable def Gh.plus (gh : Gh) (I a : Addr) : Gh := { gh with U := fun b => gh.U b ∨ b = I ∨ b = a }
inductive AccO (gh : Gh) (h : Heap) (acc : Addr) (ps : List PV) : Prop
 | mk (vs : Array Value) (n : Nat) (o : h.get? acc = some (lstObj vs n)) (r : PRels gh h vs.toList ps)
structure AccR (gh : Gh) (h : Heap) (acc : Addr) (ps : List PV) : Prop where
 D : gh.D acc
 U : ¬ gh.U acc
 obj : AccO gh h acc ps
section
variable {cx : Cx} {gh gh' : Gh} {st st' : St} {s : Shared} {X : XV → St → Prop}
theorem Tr.plus {h : Heap} (gh : Gh) (I a : Addr) : Tr (gh.plus I a) h gh h := ⟨Nat.le_refl _, fun _ _ e _ => .inl e, fun _ z => .inl (.inl z), fun _ z => .inl z, fun _ z => z, ⟨[], by simp [Gh.plus]⟩, ⟨[], by simp [Gh.plus]⟩⟩
theorem Tr.toPlus {I a : Addr} {h h' : Heap} (T : Tr gh h gh' h') : Tr (gh.plus I a) h gh' h' := (Tr.plus gh I a).trans T
theorem It.plus {I a b : Addr} {h : Heap} {o : Option PV} {l : List CV} (x : It cx gh st h I o l) : It cx (gh.plus a b) st h I o l := by
 cases x with
 | walk W hS hfp hn hP hT => exact .walk W hS hfp hn hP hT
 | live hit ha hl he =>
  refine .live hit ?_ hl he
  rename_i p _ _ _
  cases p <;> exact ha
theorem AccR.tr (ok : gh.Ok) {h h' : Heap} {acc : Addr} {ps : List PV} (T : Tr gh h gh' h') (A : AccR gh h acc ps) : AccR gh' h' acc ps := by
 obtain ⟨vs, n, ho, r⟩ := A.obj
 refine ⟨T.Dm _ A.D, fun z => ?_, vs, n, (T.kept acc _ ho A.U).exact (isDict.no rfl (xdict rfl rfl)), r.tr ok T⟩
 rcases T.U _ z with q | q
 ·exact A.U q
 ·exact absurd (Heap.lt_size ho) (Nat.not_lt.mpr q)
theorem PRels.ext {U : Addr → Prop} {h h' : Heap} (x : Ext gh.D U h gh.D h') {vs : List Value} {ps : List PV} (r : PRels gh h vs ps) : PRels gh h' vs ps := by
 induction r with
 | nil => exact .nil
 | cons r _ ih => exact .cons (r.ext x) ih
theorem PRels.snoc {h : Heap} {vs : List Value} {ps : List PV} (r : PRels gh h vs ps) {v : Value} {p : PV} (rp : PRel gh h v p) : PRels gh h (vs ++ [v]) (ps ++ [p]) := by
 induction r with
 | nil => exact .cons rp .nil
 | cons a _ ih => exact .cons a ih
theorem PRels.len {h : Heap} {vs : List Value} {ps : List PV} (r : PRels gh h vs ps) : vs.length = ps.length := by
 induction r with
 | nil => rfl
 | cons _ _ ih => exact congrArg (· + 1) ih
noncomputable def XF : XV → St → Prop := fun _ _ => False
theorem PostX.no {s' : Shared} {v : Value} {P : Prop} (p : PostX cx gh s XF v s') : P := let ⟨_, _, _, _, _, _, _, _, _, q⟩ := p; q.elim
noncomputable def EvIfs (cx : Cx) : List Expr → St → (Bool → St → Prop) → Prop
 | [], st, Q => Q true st
 | c :: cs, st, Q => EvT cx c st (fun b st' => (b = true → EvIfs cx cs st' Q) ∧ (b = false → Q false st')) XF
theorem forIn_no {env : Env} : ∀ cs : List Expr, (forIn cs false fun c r => if r = true then do let ok ← PySem.isTrue c env (eval c env); pure (ForInStep.yield ok) else pure (ForInStep.yield r) : Sem Bool) = pure false
 | [] => rfl
 | c :: cs => by
  rw [List.forIn_cons]
  exact forIn_no cs
theorem ifs_ok {E : Value → Shared → Prop} {Q : Bool → St → Prop} : ∀ {ifs : List Expr} {st : St} {gh : Gh} {s : Shared}, EvIfs cx ifs st Q → Rel cx gh st s →
  wpAny cx.M cx.A (forIn ifs true fun c r => if r = true then do let ok ← PySem.isTrue c cx.env (eval c cx.env); pure (ForInStep.yield ok) else pure (ForInStep.yield r)) (PostB cx gh s Q) E s
 | [], st, gh, s, h, R => by rw [List.forIn_nil]; exact wpAny_pure ⟨st, gh, R, .refl .., .refl _, h⟩
 | c :: cs, st, gh, s, h, R => by
  rw [List.forIn_cons]
  simp only [if_true]
  refine wpAny_bind (wpAny_bind (wpAny_mono (h gh s R) ?_ fun _ _ p => p.no))
  rintro b s₁ ⟨st₁, g₁, R₁, T₁, S₁, q1, q2⟩
  refine wpAny_pure ?_
  cases b with
  | true => exact wpAny_mono (ifs_ok (q1 rfl) R₁) (fun _ _ x => x.up T₁ S₁) fun _ _ x => x
  | false =>
   show wpAny cx.M cx.A (forIn cs false fun c r => if r = true then do let ok ← PySem.isTrue c cx.env (eval c cx.env); pure (ForInStep.yield ok) else pure (ForInStep.yield r)) _ _ _
   rw [forIn_no cs]
   exact wpAny_pure ⟨st₁, g₁, R₁, T₁, S₁, q2 rfl⟩
inductive LoopO (cx : Cx) (gh : Gh) (s : Shared) (I acc : Addr) (Q : List PV → St → Prop) (s' : Shared) : Prop
 | mk (gh' : Gh) (st' : St) (ps' : List PV) (R : Rel cx gh' st' s') (T : Tr (gh.plus I acc) s.heap gh' s'.heap) (S : Same s s') (A : AccR gh' s'.heap acc ps') (U : ¬ gh'.U I) (q : Q ps' st')
noncomputable def LoopC (cx : Cx) (e : Expr) (d : Nat) (o : Option PV) (items : List CV) (st : St) (ps : List PV) (Q : List PV → St → Prop) : Prop :=
 ∀ gh s I acc, Rel cx gh st s → It cx gh st s.heap I o items → ItG gh s.heap I → AccR gh s.heap acc ps → I ≠ acc →
  codeAny cx.M cx.A (.compLoop e d (.ref I) (.ref acc) cx.env) (fun r s' => match r with
   | .ok _ => LoopO cx gh s I acc Q s'
   | .error _ => False) s
noncomputable def Emit (cx : Cx) (elt : Expr) (gens : List Comprehension) (scope : Scope) (pos : Pos) (d : Nat) (ps : List PV) (st : St) (Q : List PV → St → Prop) : Prop :=
 match gens[d + 1]? with
 | none => EvE cx elt st (fun p st' => ps.length ≤ 1000000 ∧ Q (ps ++ [p]) st') XF
 | some g => g.is_async = 0 ∧ (∀ x, foldedSetIterable g.iter cx.env x = pure x) ∧ EvE cx g.iter st (fun p st' => ∃ l, itemsOf st' p = some l ∧ LoopC cx (.ListComp elt gens scope pos) (d + 1) (liveOf p) l st' ps Q) XF
theorem compStart_ok {elt : Expr} {gens : List Comprehension} {scope : Scope} {pos : Pos} {d : Nat} {it acc : Value} {env : Env} {g : Comprehension} {R : Result → Shared → Prop} (hg : gens[d]? = some g) (ha : g.is_async = 0)
  (h0 : codeAny cx.M cx.A (.compLoop (.ListComp elt gens scope pos) d it acc env) R s)
  (h : wpAny cx.M cx.A (pyIter it) (fun it' s' => codeAny cx.M cx.A (.compLoop (.ListComp elt gens scope pos) d it' acc env) R s') (notedBy cx.M cx.A env fun x s' => R (.error x) s') s) :
  codeAny cx.M cx.A (.compStart (.ListComp elt gens scope pos) d it acc env) R s := by
 refine codeAny_of_tree ?_
 show wpAny _ _ ((compStart (.ListComp elt gens scope pos) d it acc env).onRaise (fun x => do noteFrame x env; standAt theWindowsPlace)) _ _ s
 refine wpAny_notedAt ?_
 have e1 : (clausesOf (.ListComp elt gens scope pos))[d]? = some g := hg
 have e2 : (g.is_async != 0) = false := by rw [ha]; rfl
 unfold compStart
 simp only [e1, Option.elim, e2, Bool.false_eq_true, if_false]
 show wpAny _ _ (ask >>= _) _ _ s
 refine wpAny_bind (wpAny_askSetting (wpAny_ite ?_))
 split
 ·exact wpAny_bind (wpAny_pure (wpAny_pure (And.intro rfl h0)))
 ·exact wpAny_bind (wpAny_rule (wpAny_bind (wpAny_standAt (wpAny_bind (wpAny_mono h (fun it' s' h' => wpAny_pure (And.intro rfl h')) fun _ _ x => x)))))
noncomputable def cSub (elt : Expr) (gens : List Comprehension) (scope : Scope) (pos : Pos) (d : Nat) (it acc : Value) (env : Env) (y : Value) : Sem Fin := do
 let _ ← runOwn (.compStart (.ListComp elt gens scope pos) (d + 1) y acc env) env
 again (.compLoop (.ListComp elt gens scope pos) d it acc env)
noncomputable def cEmit (elt : Expr) (gens : List Comprehension) (scope : Scope) (pos : Pos) (d : Nat) (it acc : Value) (env : Env) : Sem Fin :=
 match gens[d + 1]? with
 | some g' => do
  let x ← eval g'.iter env
  standAt g'.iter.pos
  if (g'.is_async != 0) = true then do
   let x ← foldedIterable g'.iter x
   let y ← holding [x] (if (g'.is_async != 0) = true then asyncIter x else pyIter x)
   cSub elt gens scope pos d it acc env y
  else do
   let x ← foldedSetIterable g'.iter env x
   let y ← holding [x] (if (g'.is_async != 0) = true then asyncIter x else pyIter x)
   cSub elt gens scope pos d it acc env y
 | none => ((do
   let x ← eval elt env
   let _ ← call (.builtin "list.append") [acc, x]
   pure ()) : Sem Unit) >>= fun _ => again (.compLoop (.ListComp elt gens scope pos) d it acc env)
noncomputable def cItem (elt target : Expr) (ifs : List Expr) (gens : List Comprehension) (scope : Scope) (pos : Pos) (d : Nat) (it acc : Value) (env : Env) (v : Value) : Sem Fin := do
 letOwnedTupleGo target it v
 assign target env v
 let ok ← forIn ifs true fun c r => if r = true then do let ok ← PySem.isTrue c env (eval c env); pure (ForInStep.yield ok) else pure (ForInStep.yield r)
 if ok = true then cEmit elt gens scope pos d it acc env
 else again (.compLoop (.ListComp elt gens scope pos) d it acc env)
theorem compTurn_eq {elt target iter : Expr} {gens : List Comprehension} {scope : Scope} {pos : Pos} {d : Nat} {it acc : Value} {env : Env} {ifs : List Expr} (hg : gens[d]? = some ⟨target, iter, ifs, 0⟩) :
  compTurn (.ListComp elt gens scope pos) d it acc env = (do
   standAt iter.pos
   match ← pyNext it with
   | none => pure (.done .next)
   | some v => cItem elt target ifs gens scope pos d it acc env v : Sem Fin) := by
 unfold compTurn
 simp only [hg, bne_self_eq_false, Bool.false_eq_true, if_false]
 rfl
theorem It.chg {P : Addr → Prop} {h h' : Heap} {I : Addr} {o : Option PV} {items : List CV} (c : Chg P h h') (hP : ∀ a, P a → gh.D a ∧ a ≠ I) (x : It cx gh st h I o items) : It cx gh st h' I o items := by
 have X := c.ext (D := gh.D) fun a z => (hP a z).1
 have kI : ∀ o, h.get? I = some o → h'.get? I = some o := fun o e => c.kept I o (fun z => (hP I z).2 rfl) e
 cases x with
 | walk W hS hfp hn hP' hT =>
  refine .walk W (W.frame _ _ _ hS fun b hb ob e => ?_) (fun b hb => (hfp b hb).imp id fun q => ⟨q.1, Nat.lt_of_lt_of_le q.2 c.size⟩) hn (fun j v hj p hjn => ?_) hT
  ·rcases hfp b hb with rfl | ⟨hd, _⟩
   ·exact kI ob e
   ·exact c.kept b ob (fun z => hd (hP b z).1) e
  ·obtain ⟨x, h1, h2⟩ := hP' j v hj p hjn
   exact ⟨x, h1, h2.ext X⟩
 | live hit ha hl he => exact .live (hit.at kI) ha hl he
theorem ItG.chg {P : Addr → Prop} {h h' : Heap} {I : Addr} (c : Chg P h h') (hP : ∀ a, P a → a ≠ I) (G : ItG gh h I) : ItG gh h' I :=
 ⟨G.D, G.U, let ⟨o, fs, T, h1, h2, h3, h4⟩ := G.obj; ⟨o, fs, T, c.kept I o (fun z => hP I z rfl) h1, h2, h3, h4⟩⟩
theorem AccR.chg {P : Addr → Prop} {h h' : Heap} {acc : Addr} {ps : List PV} (c : Chg P h h') (hP : ∀ a, P a → gh.D a ∧ a ≠ acc) (A : AccR gh h acc ps) : AccR gh h' acc ps :=
 ⟨A.D, A.U, let ⟨vs, n, h1, r⟩ := A.obj; ⟨vs, n, c.kept acc _ (fun z => (hP acc z).2 rfl) h1, r.ext (c.ext (D := gh.D) fun a z => (hP a z).1)⟩⟩
theorem acc_ok (R : Rel cx gh st s) {acc : Addr} {ps : List PV} {v : Value} {p : PV} {E : Value → Shared → Prop} (A : AccR gh s.heap acc ps) (r : PRel gh s.heap v p) (hz : ps.length ≤ 1000000) :
  wpAny cx.M cx.A (PySem.call (.builtin "list.append") [.ref acc, v]) (fun _ s' => Rel cx gh st s' ∧ Chg (· = acc) s.heap s'.heap ∧ Same s s' ∧ AccR gh s'.heap acc (ps ++ [p])) E s := by
 obtain ⟨vs, n, ho, rs⟩ := A.obj
 have e := rs.len
 rw [Array.length_toList] at e
 refine call_meets F.slot_list_append ⟨_, ho, rfl⟩ F.entry_list_append (F.args_list_append_2 _ _) (list_append acc vs n _ (by rw [sizeLine_eq]; omega)) ⟨ho, ?_⟩
 have sb : Heap.SameBut acc s.heap (s.heap.update acc (Obj.mapSeq (·.push v))) := .update ..
 have c := Chg.same sb
 have hP : ∀ a, a = acc → gh.D a ∧ a ∉ gh.mu ∧ ∀ o, s.heap.get? a = some o → (∃ fs, o.data = .fields fs) ∨ ∃ vs n, o.data = .seq vs n := by
  rintro a rfl
  exact ⟨A.D, fun z => A.U (R.muU _ z), fun o e => by obtain rfl := Option.some.inj (ho.symm.trans e); exact .inr ⟨_, _, rfl⟩⟩
 have X := c.ext (D := gh.D) fun a z => (hP a z).1
 refine ⟨R.chg c hP s.toks, c, ⟨rfl, rfl, rfl⟩, A.D, A.U, vs.push v, _, IsL.update (h := s.heap) ho (·.push v), ?_⟩
 rw [Array.toList_push]
 exact (rs.ext X).snoc (r.ext X)
theorem Tr.transPlus {g₁ g₂ g₃ : Gh} {h₁ h₂ h₃ : Heap} {a c : Addr} (x : Tr g₁ h₁ g₂ h₂) (y : Tr (g₂.plus a c) h₂ g₃ h₃) (ha : g₁.U a ∨ h₁.objs.size ≤ a) (hc : g₁.U c ∨ h₁.objs.size ≤ c) : Tr g₁ h₁ g₃ h₃ where
 size := Nat.le_trans x.size y.size
 kept b o e hu := by
  have no : ∀ {a}, (g₁.U a ∨ h₁.objs.size ≤ a) → b ≠ a := fun h z => by
   rcases h with h | h
   ·exact hu (z ▸ h)
   ·exact absurd (Heap.lt_size e) (Nat.not_lt.mpr (z ▸ h))
  refine (x.kept b o e hu).trans fun o' e' => (y.kept b o' e' fun q => ?_).mono fun q => ?_
  ·rcases q with q | q | q
   ·rcases x.U b q with q | q
    ·exact hu q
    ·exact absurd (Heap.lt_size e) (Nat.not_lt.mpr q)
   ·exact no ha q
   ·exact no hc q
  ·exact (x.D b q).resolve_right (Nat.not_le.mpr (Heap.lt_size e))
 U b q := by
  rcases y.U b q with q | q
  ·rcases q with q | q | q
   ·exact x.U b q
   ·exact q ▸ ha
   ·exact q ▸ hc
  ·exact .inr (Nat.le_trans x.size q)
 D b q := by
  rcases y.D b q with q | q
  ·exact x.D b q
  ·exact .inr (Nat.le_trans x.size q)
 Dm b q := y.Dm b (x.Dm b q)
 ga := by obtain ⟨a, ha⟩ := x.ga; obtain ⟨b, hb⟩ := y.ga; have hb : g₃.ga = g₂.ga ++ b := hb; exact ⟨a ++ b, by rw [hb, ha, List.append_assoc]⟩
 la := by obtain ⟨a, ha⟩ := x.la; obtain ⟨b, hb⟩ := y.la; have hb : g₃.la = g₂.la ++ b := hb; exact ⟨a ++ b, by rw [hb, ha, List.append_assoc]⟩
inductive LoopJ (cx : Cx) (gh : Gh) (s : Shared) (I acc : Addr) (o : Option PV) (J : List CV → List PV → St → Prop) (n : Nat) (s' : Shared) : Prop
 | mk (g : Gh) (st' : St) (ps' : List PV) (r : List CV) (e : r.length = n) (R : Rel cx g st' s') (T : Tr (gh.plus I acc) s.heap g s'.heap) (S : Same s s') (i : It cx g st' s'.heap I o r) (G : ItG g s'.heap I) (A : AccR g s'.heap acc ps') (j : J r ps' st')
noncomputable def LoopQ (cx : Cx) (gh : Gh) (s : Shared) (I acc : Addr) (o : Option PV) (J : List CV → List PV → St → Prop) (Q : List PV → St → Prop) (c : Code) (n : Nat) (fin : Fin) (s' : Shared) : Prop :=
 match fin with
 | .done _ => LoopO cx gh s I acc Q s'
 | .again c' => c' = c ∧ ∃ m, m < n ∧ LoopJ cx gh s I acc o J m s'
theorem LoopQ.go {I acc : Addr} {o : Option PV} {J : List CV → List PV → St → Prop} {Q : List PV → St → Prop} {c : Code} {x : CV} {r : List CV} {s' : Shared} {E : Value → Shared → Prop} (h : LoopJ cx gh s I acc o J r.length s') : wpAny cx.M cx.A (again c) (LoopQ cx gh s I acc o J Q c (x :: r).length) E s' :=
 wpAny_pure ⟨rfl, r.length, Nat.lt_succ_self _, h⟩
structure LoopM (cx : Cx) (gh : Gh) (s : Shared) (I acc : Addr) (o : Option PV) (r : List CV) (ps : List PV) (stI : St) (g : Gh) (s' : Shared) : Prop where
 ok : g.Ok
 T : Tr (gh.plus I acc) s.heap g s'.heap
 S : Same s s'
 i : It cx g stI s'.heap I o r
 G : ItG g s'.heap I
 A : AccR g s'.heap acc ps
theorem LoopM.tr {I acc : Addr} {o : Option PV} {r : List CV} {ps : List PV} {stI stI' : St} {g g' : Gh} {s₁ s₂ : Shared} (M : LoopM cx gh s I acc o r ps stI g s₁) (ok : g'.Ok) (T : Tr g s₁.heap g' s₂.heap) (S : Same s₁ s₂) (hl : ∀ p, o = some p → itemsOf stI' p = itemsOf stI p) : LoopM cx gh s I acc o r ps stI' g' s₂ :=
 ⟨ok, M.T.trans T, M.S.trans S, M.i.tr M.ok M.G T hl, M.G.tr T, M.A.tr M.ok T⟩
theorem LoopM.same {I acc : Addr} {o : Option PV} {r : List CV} {ps : List PV} {stI : St} {g g' : Gh} {s₁ s₂ : Shared} (M : LoopM cx gh s I acc o r ps stI g s₁) (ok : g'.Ok) (T : Tr g s₁.heap g' s₂.heap) (S : Same s₁ s₂) : LoopM cx gh s I acc o r ps stI g' s₂ := M.tr ok T S fun _ _ => rfl
theorem LoopM.fin {I acc : Addr} {o : Option PV} {r : List CV} {ps : List PV} {stI st' : St} {g : Gh} {s₁ : Shared} {J : List CV → List PV → St → Prop} (M : LoopM cx gh s I acc o r ps stI g s₁) (R : Rel cx g st' s₁) (hl : ∀ p, o = some p → itemsOf st' p = itemsOf stI p) (j : J r ps st') : LoopJ cx gh s I acc o J r.length s₁ :=
 ⟨g, st', ps, r, rfl, R, M.T, M.S, M.i.tr M.ok M.G (.refl ..) hl, M.G, M.A, j⟩
section turn
variable {elt target iter : Expr} {gens : List Comprehension} {scope : Scope} {pos : Pos} {d : Nat} {I acc : Addr} {o : Option PV} {J : List CV → List PV → St → Prop} {Q : List PV → St → Prop} {E : Value → Shared → Prop} {r : List CV} {x : CV} {ps : List PV} {stI : St} {g : Gh} {s₁ : Shared}
theorem emit_elt (M : LoopM cx gh s I acc o r ps stI g s₁) (hg' : gens[d + 1]? = none) (hl : ∀ {ps st'}, J r ps st' → ∀ p, o = some p → itemsOf st' p = itemsOf stI p) (R : Rel cx g st s₁) (em : EvE cx elt st (fun p st' => ps.length ≤ 1000000 ∧ J r (ps ++ [p]) st') XF) (hIa : I ≠ acc) :
  wpAny cx.M cx.A (cEmit elt gens scope pos d (.ref I) (.ref acc) cx.env) (LoopQ cx gh s I acc o J Q (.compLoop (.ListComp elt gens scope pos) d (.ref I) (.ref acc) cx.env) (x :: r).length) E s₁ := by
 apply w_eq
 ·unfold cEmit; rewrite [hg']; rfl
 refine wpAny_bind (wpAny_bind (wpAny_mono (em g s₁ R) ?_ fun _ _ p => p.no))
 rintro w s₆ ⟨p, st₆, g₆, R₆, T₆, S₆, r₆, hz, j₆⟩
 have M₆ := M.tr R₆.ok T₆ S₆ (hl j₆)
 refine wpAny_bind (wpAny_mono (acc_ok R₆ M₆.A r₆ hz) ?_ fun _ _ x => x)
 rintro _ s₇ ⟨R₇, c₇, S₇, A₇⟩
 exact wpAny_pure (LoopQ.go ⟨g₆, st₆, _, r, rfl, R₇, M₆.T.chg c₇ fun a e => .inr (.inr (.inr e)), M₆.S.trans S₇, M₆.i.chg c₇ fun a e => ⟨e ▸ A₇.D, fun z => hIa (z ▸ e)⟩, M₆.G.chg c₇ fun a e z => hIa (z ▸ e), A₇, j₆⟩)
theorem emit_sub (C : cx.Ok) (hn : cx.hn = true) (M : LoopM cx gh s I acc o r ps stI g s₁) {gg : Comprehension} (hg' : gens[d + 1]? = some gg) (hl : ∀ {ps st'}, J r ps st' → ∀ p, o = some p → itemsOf st' p = itemsOf stI p) (R : Rel cx g st s₁)
  (ha : gg.is_async = 0) (hs : ∀ x, foldedSetIterable gg.iter cx.env x = pure x) (em : EvE cx gg.iter st (fun p st' => ∃ l, itemsOf st' p = some l ∧ LoopC cx (.ListComp elt gens scope pos) (d + 1) (liveOf p) l st' ps (J r)) XF) (hIa : I ≠ acc) :
  wpAny cx.M cx.A (cEmit elt gens scope pos d (.ref I) (.ref acc) cx.env) (LoopQ cx gh s I acc o J Q (.compLoop (.ListComp elt gens scope pos) d (.ref I) (.ref acc) cx.env) (x :: r).length) E s₁ := by
 have ha2 : (gg.is_async != 0) = false := by rw [ha]; rfl
 apply w_eq
 ·unfold cEmit; rewrite [hg']; rfl
 refine wpAny_bind (wpAny_mono (em g s₁ R) ?_ fun _ _ p => p.no)
 rintro w s₆ ⟨p, st₆, g₆, R₆, T₆, S₆, r₆, l, hit, lc⟩
 have M₆ := M.same R₆.ok T₆ S₆
 refine wpAny_bind (wpAny_standAt (w_else (ne_true_of_eq_false ha2) (wpAny_bind (wpAny_of_eq (hs w) (wpAny_bind (wpAny_holding (w_else (ne_true_of_eq_false ha2) (wpAny_mono (iter_ok (C.hn hn) R₆ r₆ hit) ?_ fun _ _ x => x))))))))
 rintro it s₇ ⟨g₇, rfl, R₇, T₇, S₇, i₇, G₇, _⟩
 have M₇ := M₆.same R₇.ok T₇ S₇
 have hne : s₆.heap.objs.size ≠ acc := fun e => let ⟨_, _, ho, _⟩ := M₆.A.obj; no_lt ho (Nat.le_of_eq e)
 have hne2 : s₆.heap.objs.size ≠ I := fun e => let ⟨_, _, _, ho, _, _, _⟩ := M₆.G.obj; no_lt ho (Nat.le_of_eq e)
 have fin : codeAny cx.M cx.A (.compLoop (.ListComp elt gens scope pos) (d + 1) (.ref s₆.heap.objs.size) (.ref acc) cx.env) (fun r' s'' => match r' with
   | .ok _ => LoopJ cx gh s I acc o J r.length s''
   | .error _ => False) s₇ := by
  refine codeAny_mono (lc g₇ s₇ _ acc R₇ i₇ G₇ M₇.A hne) fun r' s₈ h₈ => ?_
  cases r' with
  | error => exact h₈
  | ok f =>
   obtain ⟨g₈, st₈, ps₈, R₈, T₈, S₈, A₈, _, j₈⟩ := h₈
   have Gp : ItG (g₇.plus s₆.heap.objs.size acc) s₇.heap I := ⟨M₇.G.D, fun z => z.elim M₇.G.U fun z => z.elim (fun z => hne2 z.symm) hIa, M₇.G.obj⟩
   have okp : (g₇.plus s₆.heap.objs.size acc).Ok := ⟨fun b z => z.elim (R₇.ok.UD b) fun z => z.elim (fun z => z ▸ G₇.D) fun z => z ▸ M₇.A.D⟩
   exact ⟨g₈, st₈, ps₈, r, rfl, R₈, M₇.T.transPlus T₈ (.inr M₆.T.size) (.inl (.inr (.inr rfl))), M₇.S.trans S₈, M₇.i.plus.tr okp Gp T₈ (hl j₈), Gp.tr T₈, A₈, j₈⟩
 refine wpAny_bind (wpAny_runOwn (compStart_ok hg' ha ?_ (It.self R₇ i₇ ?_)))
 ·refine codeAny_mono fin fun r' s₈ h₈ => ?_
  cases r' with
  | ok f => exact LoopQ.go h₈
  | error => exact h₈.elim
 ·refine codeAny_mono fin fun r' s₈ h₈ => ?_
  cases r' with
  | ok f => exact LoopQ.go h₈
  | error => exact h₈.elim
theorem emit_ok (C : cx.Ok) (hn : cx.hn = true) (M : LoopM cx gh s I acc o r ps stI g s₁) (hl : ∀ {ps st'}, J r ps st' → ∀ p, o = some p → itemsOf st' p = itemsOf stI p) (R : Rel cx g st s₁) (em : Emit cx elt gens scope pos d ps st (J r)) (hIa : I ≠ acc) :
  wpAny cx.M cx.A (cEmit elt gens scope pos d (.ref I) (.ref acc) cx.env) (LoopQ cx gh s I acc o J Q (.compLoop (.ListComp elt gens scope pos) d (.ref I) (.ref acc) cx.env) (x :: r).length) E s₁ := by
 unfold Emit at em
 cases hg' : gens[d + 1]? with
 | none => rw [hg'] at em; exact emit_elt M hg' hl R em hIa
 | some gg => rw [hg'] at em; exact emit_sub C hn M hg' hl R em.1 em.2.1 em.2.2 hIa
theorem turn_ok (C : cx.Ok) (hn : cx.hn = true) {ifs : List Expr} (hg : gens[d]? = some ⟨target, iter, ifs, 0⟩) (hlive : ∀ q, o = some q → ∃ l, ∀ r ps st, J r ps st → itemsOf st q = some l)
  (step : ∀ x r ps st, J (x :: r) ps st → AsG cx target (.c x) st (fun st₁ => EvIfs cx ifs st₁ (fun ok st₂ => (ok = false → J r ps st₂) ∧ (ok = true → Emit cx elt gens scope pos d ps st₂ (J r)))) XF)
  (done : ∀ ps st, J [] ps st → Q ps st) (hIa : I ≠ acc) {n : Nat} (L : LoopJ cx gh s I acc o J n s₁) :
  wpAny cx.M cx.A (compTurn (.ListComp elt gens scope pos) d (.ref I) (.ref acc) cx.env) (LoopQ cx gh s I acc o J Q (.compLoop (.ListComp elt gens scope pos) d (.ref I) (.ref acc) cx.env) n) E s₁ := by
 have hh := C.hn hn
 have hl2 : ∀ {r r' : List CV} {p p' : List PV} {s₁ s₂ : St}, J r p s₁ → J r' p' s₂ → ∀ q, o = some q → itemsOf s₂ q = itemsOf s₁ q := fun a b q e => let ⟨l, h⟩ := hlive q e; (h _ _ _ b).trans (h _ _ _ a).symm
 obtain ⟨g, st', ps', r, rfl, R', T', S', i', G', A', j'⟩ := L
 refine w_eq (compTurn_eq hg) (wpAny_bind (wpAny_standAt (wpAny_bind ?_)))
 cases r with
 | nil =>
  refine wpAny_mono (It.stop R' hh G' i') ?_ fun _ _ x => x
  rintro y s₃ ⟨rfl, R₃, c₃, S₃⟩
  exact wpAny_pure ⟨g, st', ps', R₃, T'.chg c₃ fun a e => .inr (.inr (.inl e)), S'.trans S₃, A'.chg c₃ (fun a e => ⟨e ▸ G'.D, fun z => hIa (e ▸ z)⟩), G'.U, done _ _ j'⟩
 | cons x r =>
  refine wpAny_mono (It.next R' hh G' i') ?_ fun _ _ x => x
  rintro y s₃ ⟨v, rfl, ⟨R₃, c₃, S₃⟩, rv, i₃, G₃⟩
  have M₃ : LoopM cx gh s I acc o r ps' st' g s₃ := ⟨R₃.ok, T'.chg c₃ fun a e => .inr (.inr (.inl e)), S'.trans S₃, i₃, G₃, A'.chg c₃ (fun a e => ⟨e ▸ G'.D, fun z => hIa (e ▸ z)⟩)⟩
  refine wpAny_bind (letGo_ok G₃.obj (wpAny_bind (wpAny_mono (step x r ps' st' j' g s₃ v R₃ (.c rv)) ?_ fun _ _ p => p.no)))
  rintro _ s₄ ⟨st₄, g₄, R₄, T₄, S₄, q₄⟩
  refine wpAny_bind (wpAny_mono (ifs_ok q₄ R₄) ?_ fun _ _ x => x)
  rintro ok s₅ ⟨st₅, g₅, R₅, T₅, S₅, q5, q6⟩
  have M₅ := (M₃.same R₄.ok T₄ S₄).same R₅.ok T₅ S₅
  cases ok with
  | false => exact w_else Bool.false_ne_true (LoopQ.go (M₅.fin R₅ (hl2 j' (q5 rfl)) (q5 rfl)))
  | true => exact w_if rfl (emit_ok C hn M₅ (fun j => hl2 j' j) R₅ (q6 rfl) hIa)
end turn
theorem LoopC.rule (C : cx.Ok) (hn : cx.hn = true) {elt target iter : Expr} {gens : List Comprehension} {scope : Scope} {pos : Pos} {d : Nat} {ifs : List Expr} {o : Option PV} {items : List CV} {ps : List PV} {Q : List PV → St → Prop} (hg : gens[d]? = some ⟨target, iter, ifs, 0⟩)
  (J : List CV → List PV → St → Prop) (h0 : J items ps st) (hlive : ∀ q, o = some q → ∃ l, ∀ r ps st, J r ps st → itemsOf st q = some l)
  (step : ∀ x r ps st, J (x :: r) ps st → AsG cx target (.c x) st (fun st₁ => EvIfs cx ifs st₁ (fun ok st₂ => (ok = false → J r ps st₂) ∧ (ok = true → Emit cx elt gens scope pos d ps st₂ (J r)))) XF)
  (done : ∀ ps st, J [] ps st → Q ps st) : LoopC cx (.ListComp elt gens scope pos) d o items st ps Q := fun gh s I acc R i G A hIa =>
 codeAny_loop rfl (LoopJ cx gh s I acc o J) (fun n s' L => by
  show wpAny _ _ ((compTurn (.ListComp elt gens scope pos) d (.ref I) (.ref acc) cx.env).onRaise (fun x => do noteFrame x cx.env; theTreesLotGoes x)) _ _ s'
  exact wpAny_noted (wpAny_mono (turn_ok C hn hg hlive step done hIa L) (fun fin s' q => by cases fin <;> exact q) fun _ _ x => x)) items.length ⟨gh, st, ps, items, rfl, R, Tr.plus .., .refl _, i, G, A, h0⟩
end
section
variable {cx : Cx} {gh : Gh} {st : St} {s : Shared} {X : XV → St → Prop} {sc : List (Str × NameKind)} {usc gsc : List Str} {scope : Scope}
theorem itemsOf_same {st st' : St} (h1 : st'.glob = st.glob) (h2 : st'.loc = st.loc) (p : PV) : itemsOf st' p = itemsOf st p := by
 cases p with
 | c x => cases x <;> rfl
 | obj k => show (match st'.glob[k]? with | some (.lst l) => some l | _ => none) = _; rw [h1]; rfl
 | loc k => show st'.loc[k]? = _; rw [h2]; rfl
 | locs => rfl
 | pair => rfl
theorem It.comp {gh : Gh} {h : Heap} {I : Addr} {o : Option PV} {items : List CV} {env : Env} {st' : St} (h1 : st'.glob = st.glob) (h2 : st'.loc = st.loc) (x : It cx gh st h I o items) : It (compCx cx env sc usc gsc) gh st' h I o items := by
 cases x with
 | walk W hS hfp hn hP hT => exact .walk W hS hfp hn hP hT
 | live hit ha hl he => exact .live hit ha ((itemsOf_same h1 h2 _).trans hl) he
theorem Ups.same {st' : St} (h1 : st'.fr = st.fr) (h2 : st'.up = st.up) {xs : List Str} {cs : List CV} (u : Ups cx st xs cs) : Ups cx st' xs cs := by
 induction u with
 | nil => exact .nil
 | cell j e1 e2 _ ih => exact .cell j e1 (by rw [h1]; exact e2) ih
 | free j e1 e2 _ ih => exact .free j e1 (by rw [h2]; exact e2) ih
noncomputable def FinC (mode : Nat) (ps : List PV) (st : St) (Q : PV → St → Prop) : Prop :=
 match mode with
 | 0 => ∃ l : List CV, ps = l.map .c ∧ Q (.c (.lst l)) st
 | 1 => ∃ l : List CV, ps = l.map .c ∧ Q (.loc st.loc.length) { st with loc := st.loc ++ [l] }
 | _ => ∃ l : List Nat, ps = l.map .loc ∧ Q (.locs l) st
theorem PRels.locs {h : Heap} {vs : List Value} {l : List Nat} (r : PRels gh h vs (l.map .loc)) : Locs gh.la vs l := by
 induction l generalizing vs with
 | nil => obtain rfl := r.inv; exact .nil
 | cons i l ih =>
  obtain ⟨v, ws, rfl, a, b⟩ := r.inv
  obtain ⟨ad, rfl, e⟩ := a.inv
  exact .cons (.mk e) (ih b)
inductive Mid (cx : Cx) (gh : Gh) (s : Shared) (C : Addr) (Q : PV → St → Prop) (v : Value) (s' : Shared) : Prop
 | mk (p : PV) (st : St) (gx : Gh) (m : Str → Option Value) (R : Rel cx gx st s') (T : Tr gh s.heap gx s'.heap) (S : Same s s') (r : PRel gx s'.heap v p) (q : Q p st) (hD : gx.D C) (hU : ¬ gx.U C) (hn : s'.heap.Ns C m) (B : Below cx C) (hlo : s.heap.objs.size ≤ C)
theorem Mid.chg {C : Addr} {Q : PV → St → Prop} {v : Value} {s' : Shared} (M : Mid cx gh s C Q v s') {h' : Heap} (hs : Heap.SameBut C s'.heap h') : PostV cx gh s Q v { s' with heap := h' } := by
 obtain ⟨p, st, gx, m, R, T, S, r, q, hD, hU, ⟨o, es, ep, ho, hd, _⟩, B, hlo⟩ := M
 have c := Chg.same hs
 have X := c.ext (D := gx.D) fun a e => e ▸ hD
 exact ⟨p, st, gx, R.chgN B c (fun a e => by subst e; exact ⟨hD, fun z => hU (R.muU _ z), Nat.le_refl _, fun o' e' v => by obtain rfl := Option.some.inj (ho.symm.trans e'); rw [hd]; nofun⟩) s'.toks, T.chg c fun a e => .inl (e ▸ hlo), ⟨S.gens, S.drawn, S.os⟩, r.ext X, q⟩
theorem compEnv_at {M : Model} {A : Around} {E : Value → Shared → Prop} {s : Shared} {scope : Scope} {cl cs : List (Str × Addr)} {env : Env} {qual : Str} {globals : Addr} {Q : Env → Shared → Prop} {n : Nat} (hn : s.heap.objs.size = n) (hc : cellsFrom (n + 1) scope.names cl = cs)
  (h : Q (newEnv scope n globals cs qual none .none (some env) builtinsNs) { s with heap := pushCells (s.heap.push { cls := .type "dict", data := .dict #[] }) scope.names }) :
  wpAny M A (newFunctionEnv scope globals cl [] qual none .none (some env)) Q E s := by
 subst hn hc; exact compEnv_ok h
theorem comp_mid (C : cx.Ok) (hn : cx.hn = true) {elt target iter : Expr} {ifs : List Expr} {rest : List Comprehension} {pos p2 : Pos} {Q : PV → St → Prop} {use : Option (Value → Sem Unit)} {up : List CV} {E : Value → Shared → Prop} {QQ : Value → Shared → Prop} (mode : Nat)
  (S : CompOk scope sc usc gsc) (u : Ups cx st usc up) (R : Rel cx gh st s) (hE : ∀ v s', PostX cx gh s X v s' → E v s') (hs : ∀ x, foldedSetIterable iter cx.env x = pure x)
  (h : EvE cx iter st (fun p st₁ => ∃ l, itemsOf st₁ p = some l ∧ st₁.fr = st.fr ∧ st₁.up = st.up ∧ ∀ env, env.scope = relabel scope cx.env → (compCx cx env sc usc gsc).Ok →
   LoopC (compCx cx env sc usc gsc) (.ListComp elt (⟨target, iter, ifs, 0⟩ :: rest) scope pos) 0 (liveOf p) l ⟨st₁.glob, st₁.loc, List.replicate sc.length none, up⟩ []
    (fun ps st₂ => FinC mode ps { st₁ with glob := st₂.glob, loc := st₂.loc } Q)) X)
  (hq : ∀ Ca v s', Mid cx gh s Ca Q v s' → compPost cx.M cx.A E use QQ v Ca (.ok .next) s') :
  wpAny cx.M cx.A (comprehension (.ListComp elt (⟨target, iter, ifs, 0⟩ :: rest) scope pos) scope cx.env p2 (newList []) false (eval iter cx.env) use) QQ E s := by
 obtain ⟨cl, hcl, hcl2⟩ := closureFor_ok (scope := scope) (env := cx.env) fun p hp hf => by
  obtain ⟨i, hi⟩ := List.getElem?_of_mem (S.ufree p hp hf)
  obtain ⟨c, _, _, _, e, _⟩ := u.at R hi
  exact ⟨c, e⟩
 refine wpAny_comprehension_free rfl hs hcl S.kind S.names (wpAny_mono (h gh s R) ?_ hE)
 rintro v s₁ ⟨p, st₁, g₁, R₁, T₁, S₁, r₁, l, hl, hfr, hup, lc⟩
 refine wpAny_mono (iter_ok (C.hn hn) R₁ r₁ hl) ?_ fun _ _ x => x
 rintro it s₂ ⟨g₂, rfl, R₂, T₂, S₂, I₂, G₂, hz2⟩
 refine wpAny_newObj_type ?_ (by size_fits)
 generalize hI : s₁.heap.objs.size = I at I₂ G₂ hz2
 have hoI : lstObj (([] : List Value).toArray) 0 = { cls := .type "list", dict := none, data := .seq ([] : List Value).toArray } := rfl
 let s₃ : Shared := { s₂ with heap := s₂.heap.push { cls := .type "list", dict := none, data := .seq ([] : List Value).toArray } }
 have c₃ : Chg (fun _ => False) s₂.heap s₃.heap := .push ..
 have hP₃ : ∀ b, b = s₂.heap.objs.size → s₂.heap.objs.size ≤ b ∧ b < s₃.heap.objs.size := fun b e => by
  show _ ∧ b < (s₂.heap.push _).objs.size
  rw [Heap.size_push]; omega
 have R₃ := R₂.alloc c₃ hP₃ s₂.toks
 have T₃ : Tr g₂ s₂.heap (g₂.dead (· = s₂.heap.objs.size)) s₃.heap := Tr.alloc c₃ fun b z => (hP₃ b z).1
 generalize hacc : s₂.heap.objs.size = acc at R₃ T₃ hP₃
 have hIa : I ≠ acc := by omega
 have hacc3 : s₃.heap.get? acc = some (lstObj #[] 0) := hacc ▸ Heap.get?_push_size _ rfl
 have u₁ : Ups cx st₁ usc up := u.same hfr hup
 have ent := comp_enter (n := sc.length) (show Rel cx (g₂.dead (· = acc)) st₁ s₃ from R₃) S u₁ hcl2
 dsimp only at ent
 generalize hCa : s₃.heap.objs.size = Ca at ent
 obtain ⟨R₄, T₄, U₄⟩ := ent
 have hsz3 : Ca = s₂.heap.objs.size + 1 := by rw [← hCa]; exact Heap.size_push ..
 refine compEnv_at hCa (cellsFrom_app scope.names (Ca + 1) [] cl) ?_
 show codeAny cx.M cx.A (.compStart (.ListComp elt (⟨target, iter, ifs, 0⟩ :: rest) scope pos) 0 (.ref I) (.ref acc) (compEnv' cx scope Ca cl (cellsFrom (Ca + 1) scope.names []))) (compPost cx.M cx.A E use QQ (.ref acc) Ca)
  { s₃ with heap := pushCells (s₃.heap.push { cls := .type "dict", data := .dict #[] }) scope.names }
 generalize hcs : cellsFrom (Ca + 1) scope.names [] = cs at R₄ T₄ U₄ ⊢
 have C' : (compCx cx (compEnv' cx scope Ca cl cs) sc usc gsc).Ok := compCx_ok C S
 have loop := lc (compEnv' cx scope Ca cl cs) rfl C'
 have e23 : ∀ b o, s₂.heap.get? b = some o → s₃.heap.get? b = some o := fun b o e => Heap.get?_push_of_some _ e
 have e34 : ∀ b o, s₃.heap.get? b = some o → (pushCells (s₃.heap.push { cls := .type "dict", data := .dict #[] }) scope.names).get? b = some o := fun b o e => pushCells_keeps _ _ b o (Heap.get?_push_of_some _ e)
 have I₃ := I₂.tr (st' := st₁) R₂.ok G₂ T₃ fun _ _ => rfl
 have G₃ := G₂.tr T₃
 have I₄ := (I₃.tr (st' := st₁) R₃.ok G₃ T₄ fun _ _ => rfl).comp (st := st₁) (sc := sc) (usc := usc) (gsc := gsc) (env := compEnv' cx scope Ca cl cs) (st' := ⟨st₁.glob, st₁.loc, List.replicate sc.length none, up⟩) rfl rfl
 have G₄ := G₃.tr T₄
 have A₃ : AccR (g₂.dead (· = acc)) s₃.heap acc [] := ⟨.inr rfl, fun z => absurd (R₂.din _ (R₂.ok.UD _ z)) (by rw [hacc]; exact Nat.lt_irrefl _), #[], 0, hacc3, .nil⟩
 have A₄ := A₃.tr R₃.ok T₄
 have run := loop _ _ I acc R₄ I₄ G₄ A₄ hIa
 have fin : codeAny cx.M cx.A (.compLoop (.ListComp elt (⟨target, iter, ifs, 0⟩ :: rest) scope pos) 0 (.ref I) (.ref acc) (compEnv' cx scope Ca cl cs)) (fun r s' => compPost cx.M cx.A E use QQ (.ref acc) Ca r s')
   { s₃ with heap := pushCells (s₃.heap.push { cls := .type "dict", data := .dict #[] }) scope.names } := by
  refine codeAny_mono run fun r s₅ h₅ => ?_
  cases r with
  | error => exact h₅.elim
  | ok f =>
   obtain ⟨g₅, st₅, ps, R₅, T₅, S₅, A₅, hIU, q⟩ := h₅
   have mid : Mid cx gh s Ca Q (.ref acc) s₅ := by
    have lt2 : ∀ {b : Addr} {o}, s₂.heap.get? b = some o → @LT.lt Nat instLTNat b acc := fun {b o} e => hacc ▸ Heap.lt_size e
    have hsz3 : @Eq Nat Ca (acc + 1) := by rw [← hacc]; exact hsz3
    have kept : ∀ b o, s₂.heap.get? b = some o → b ∉ g₂.mu → b ≠ I → Kept (g₂.D b) o (s₅.heap.get? b) := by
     intro b o e hb hbI
     have hlt := lt2 e
     refine (T₅.kept b o (e34 b o (e23 b o e)) fun z => ?_).mono fun z => ?_
     ·rcases z with z | z | z
      ·rcases U₄ b z with z | z
       ·exact hb z
       ·have z : @LE.le Nat instLENat Ca b := z
        omega
      ·exact hbI z
      ·have z : @Eq Nat b acc := z
       omega
     ·rcases T₄.D b z with z | z
      ·rcases z with z | z
       ·exact z
       ·exact absurd hlt (by rw [z]; exact Nat.lt_irrefl _)
      ·rw [hCa] at z
       have z : @LE.le Nat instLENat Ca b := z
       omega
    have hIacc : I < acc := by omega
    have mem : ∀ b, b ∈ g₅.mu → b ≠ acc ∧ (b ∈ g₂.mu ∨ acc ≤ b) := by
     intro b hb
     have hU := R₅.muU b hb
     have hba : b ≠ acc := fun z => A₅.U (z ▸ hU)
     refine ⟨hba, ?_⟩
     rcases T₅.U b hU with z | z
     ·rcases z with z | z | z
      ·rcases U₄ b z with z | z
       ·exact .inl z
       ·right
        have z : @LE.le Nat instLENat Ca b := z
        show @LE.le Nat instLENat acc b
        omega
      ·exact absurd (z ▸ hU) hIU
      ·exact absurd z hba
     ·right
      have t4 := T₄.size
      rw [hCa] at t4
      show @LE.le Nat instLENat acc b
      have t4 : @LE.le Nat instLENat Ca _ := t4
      have z : @LE.le Nat instLENat _ b := z
      exact Nat.le_trans (by omega) (Nat.le_trans t4 z)
    have Ddn : ∀ b, g₅.D b → g₂.D b ∨ (acc ≤ b ∧ b < s₅.heap.objs.size) := by
     intro b z
     have hb := R₅.din b z
     rcases T₅.D b z with z | z
     ·rcases T₄.D b z with z | z
      ·rcases z with z | z
       ·exact .inl z
       ·exact .inr ⟨Nat.le_of_eq z.symm, hb⟩
      ·rw [hCa] at z
       have z : @LE.le Nat instLENat Ca b := z
       exact .inr ⟨by show @LE.le Nat instLENat acc b; omega, hb⟩
     ·have t4 := T₄.size
      rw [hCa] at t4
      have t4 : @LE.le Nat instLENat Ca _ := t4
      have z : @LE.le Nat instLENat _ b := z
      exact .inr ⟨Nat.le_trans (by omega) (Nat.le_trans t4 z), hb⟩
    have Dup : ∀ b, g₂.D b → g₅.D b ∧ b ≠ acc := fun b z => ⟨T₅.Dm b (T₄.Dm b (.inl z)), fun e => absurd (R₂.din b z) (by rw [hacc, e]; exact Nat.lt_irrefl _)⟩
    obtain ⟨xga, hga⟩ := T₅.ga
    obtain ⟨xla, hla⟩ := T₅.la
    have hga : g₅.ga = g₂.ga ++ xga := hga
    have hla : g₅.la = g₂.la ++ xla := hla
    have sz25 : s₂.heap.objs.size ≤ s₅.heap.objs.size := Nat.le_trans T₃.size (Nat.le_trans T₄.size T₅.size)
    obtain ⟨vs, n, hacc5, rs⟩ := A₅.obj
    have nd := List.nodup_cons.mp R₅.apart
    have back : ∀ D' : Addr → Prop, (∀ b, D' b → g₅.D b) → (∀ b, g₅.D b → b ≠ acc → D' b) → 
      Rel cx { ga := g₅.ga, la := g₅.la, D := D', U := fun b => g₂.U b ∨ b ∈ g₅.mu } { st₁ with glob := st₅.glob, loc := st₅.loc } s₅ ∧
      Tr gh s.heap { ga := g₅.ga, la := g₅.la, D := D', U := fun b => g₂.U b ∨ b ∈ g₅.mu } s₅.heap := by
     intro D' d1 d2
     have R₆ := Rel.resume (g' := { ga := g₅.ga, la := g₅.la, D := D', U := g₅.U }) (glob' := st₅.glob) (loc' := st₅.loc) (Z := (· = I)) R₂ sz25 R₅.base
      (fun b e => by
       subst e
       refine ⟨G₂.D, fun z => G₂.U (R₂.muU _ z), fun o e => ?_⟩
       obtain ⟨o', fs, T, h1, h2, h3, h4⟩ := G₂.obj
       obtain rfl := Option.some.inj (e.symm.trans h1)
       exact .inl ⟨fs, h3⟩) kept (fun b z => (Ddn b (d1 b z)).imp id fun q => ⟨hacc ▸ q.1, q.2⟩) (fun b z => d2 b (Dup b z).1 (Dup b z).2) ⟨xga, hga⟩ ⟨xla, hla⟩
      (fun b hb => (mem b hb).2.imp id fun q => hacc ▸ q) (fun b hb => d2 b (R₅.muD hb) (mem b hb).1) nd.2
      (GRels.sub (g := g₅) (g' := { ga := g₅.ga, la := g₅.la, D := D', U := g₅.U }) (fun v c r => r.sub d1) (fun _ _ e => e) (fun _ _ _ e => e) R₅.glob)
      (LRels.map (gh := g₅) (gh' := { ga := g₅.ga, la := g₅.la, D := D', U := g₅.U }) (fun _ _ r => r.sub d1) (fun _ _ _ e => e) R₅.loc)
     refine ⟨R₆, T₁.trans (T₂.transPlus (a := I) (c := I) ⟨sz25, fun b o e hu => ?_, fun b z => ?_, fun b z => ?_, fun b z => d2 b (Dup b z).1 (Dup b z).2, ⟨xga, hga⟩, ⟨xla, hla⟩⟩ (.inr (Nat.le_of_eq hI)) (.inr (Nat.le_of_eq hI)))⟩
     ·exact kept b o e (fun z => hu (.inl (R₂.muU b z))) fun z => hu (.inr (.inl z))
     ·rcases z with z | z
      ·exact .inl (.inl z)
      ·rcases (mem b z).2 with z | z
       ·exact .inl (.inl (R₂.muU b z))
       ·exact .inr (hacc ▸ z)
     ·exact (Ddn b (d1 b z)).imp id fun q => hacc ▸ q.1
    have S : Same s s₅ := (S₁.trans S₂).trans ⟨S₅.gens, S₅.drawn, S₅.os⟩
    have hCaD : g₅.D Ca := T₅.Dm Ca (.inr (.inl rfl))
    have hCaU : ¬ (g₂.U Ca ∨ Ca ∈ g₅.mu) := by
     rintro (z | z)
     ·have := R₂.din _ (R₂.ok.UD _ z)
      rw [hacc] at this
      have : @LT.lt Nat instLTNat Ca acc := this
      omega
     ·exact nd.1 z
    have hCaA : Ca ≠ acc := by omega
    obtain ⟨m, hns, _⟩ := R₅.cur
    have Bl : Below cx Ca := R₂.below.mono (by omega)
    have hlo : s.heap.objs.size ≤ Ca := by
     have := T₁.size
     omega
    cases mode with
    | zero =>
     obtain ⟨l, hl, q⟩ := q
     obtain ⟨R₆, T₆⟩ := back (fun b => g₅.D b ∧ b ≠ acc) (fun _ z => z.1) (fun _ z w => ⟨z, w⟩)
     rw [hl] at rs
     exact ⟨_, _, _, m, R₆, T₆, S, .c (.lst hacc5 (fun z => z.2 rfl) (rs.cs.sub fun _ z => z.1)), q, ⟨hCaD, hCaA⟩, hCaU, hns, Bl, hlo⟩
    | succ mode =>
     cases mode with
     | zero =>
     obtain ⟨l, hl, q⟩ := q
     obtain ⟨R₆, T₆⟩ := back g₅.D (fun _ z => z) (fun _ z _ => z)
     rw [hl] at rs
     have hm : acc ∉ Gh.mu { ga := g₅.ga, la := g₅.la, D := g₅.D, U := fun b => g₂.U b ∨ b ∈ g₅.mu } := fun z => (mem acc z).1 rfl
     have R₇ := R₆.addLoc hacc5 A₅.D hm rs.cs
     have hlen := R₆.loc.len
     refine ⟨_, _, _, m, R₇, ⟨T₆.size, T₆.kept, ?_, T₆.D, T₆.Dm, T₆.ga, ?_⟩, S, .loc ?_, q, hCaD, ?_, hns, Bl, hlo⟩
     ·rintro b (z | rfl)
      ·exact T₆.U b z
      ·right
       have := T₁.size
       omega
     ·obtain ⟨x, hx⟩ := T₆.la
      exact ⟨x ++ [acc], by rw [← List.append_assoc, ← hx]⟩
     ·show (g₅.la ++ [acc])[_]? = some acc
      have hlen : g₅.la.length = st₅.loc.length := hlen
      rw [← hlen, List.getElem?_append_right (Nat.le_refl _), Nat.sub_self]; rfl
     ·rintro (z | z)
      ·exact hCaU z
      ·exact hCaA z
     | succ _ =>
     obtain ⟨l, hl, q⟩ := q
     obtain ⟨R₆, T₆⟩ := back (fun b => g₅.D b ∧ b ≠ acc) (fun _ z => z.1) (fun _ z w => ⟨z, w⟩)
     rw [hl] at rs
     exact ⟨_, _, _, m, R₆, T₆, S, .locs hacc5 (fun z => z.2 rfl) rs.locs, q, ⟨hCaD, hCaA⟩, hCaU, hns, Bl, hlo⟩
   have := hq Ca (.ref acc) s₅ mid
   cases use <;> exact this
 exact compStart_ok (cx := cx) (g := ⟨target, iter, ifs, 0⟩) rfl rfl fin (It.self (cx := compCx cx (compEnv' cx scope Ca cl cs) sc usc gsc) R₄ I₄ fin)
theorem ev_comp (C : cx.Ok) (hn : cx.hn = true) {elt target iter : Expr} {ifs : List Expr} {rest : List Comprehension} {pos : Pos} {Q : PV → St → Prop} {up : List CV} (mode : Nat) (sc : List (Str × NameKind)) (usc gsc : List Str)
  (S : CompOk scope sc usc gsc) (u : Ups cx st usc up)
  (h : EvE cx iter st (fun p st₁ => ∃ l, itemsOf st₁ p = some l ∧ st₁.fr = st.fr ∧ st₁.up = st.up ∧ ∀ env, env.scope = relabel scope cx.env → (compCx cx env sc usc gsc).Ok →
   LoopC (compCx cx env sc usc gsc) (.ListComp elt (⟨target, iter, ifs, 0⟩ :: rest) scope pos) 0 (liveOf p) l ⟨st₁.glob, st₁.loc, List.replicate sc.length none, up⟩ []
    (fun ps st₂ => FinC mode ps { st₁ with glob := st₂.glob, loc := st₂.loc } Q)) X) (hs : ∀ x, foldedSetIterable iter cx.env x = pure x := by intro _; rfl) : EvE cx (.ListComp elt (⟨target, iter, ifs, 0⟩ :: rest) scope pos) st Q X := fun gh s R => by
 rw [eval_ListComp]
 refine comp_mid C hn mode S u R (fun _ _ x => x) hs h fun Ca v s' M => ?_
 obtain ⟨p, st', gx, m, a, b, c, d, e, f, g, hns, r⟩ := id M
 exact ⟨m, hns, fun h' hs' => M.chg hs'⟩
theorem asgComp (C : cx.Ok) (hn : cx.hn = true) {i : Nat} {y : Str} {py : Pos} {elt target iter : Expr} {ifs : List Expr} {rest : List Comprehension} {pos spos : Pos} {Q : Fl → St → Prop} {up : List CV} (mode : Nat) (sc : List (Str × NameKind)) (usc gsc : List Str)
  (S : CompOk scope sc usc gsc) (u : Ups cx st usc up) (hy : cx.sc[i]? = some (y, .local))
  (h : EvE cx iter st (fun p st₁ => ∃ l, itemsOf st₁ p = some l ∧ st₁.fr = st.fr ∧ st₁.up = st.up ∧ ∀ env, env.scope = relabel scope cx.env → (compCx cx env sc usc gsc).Ok →
   LoopC (compCx cx env sc usc gsc) (.ListComp elt (⟨target, iter, ifs, 0⟩ :: rest) scope pos) 0 (liveOf p) l ⟨st₁.glob, st₁.loc, List.replicate sc.length none, up⟩ []
    (fun ps st₂ => FinC mode ps { st₁ with glob := st₂.glob, loc := st₂.loc } (fun p st₃ => Q .next { st₃ with fr := st₃.fr.set i (some p) }))) X)
  (hsw : swapsWith (.ListComp elt (⟨target, iter, ifs, 0⟩ :: rest) scope pos) (some (.Name y py)) spos.line cx.env = pure true)
  (hs : ∀ x, foldedSetIterable iter cx.env x = pure x := by intro _; rfl) : ExS cx (.Assign [.Name y py] (.ListComp elt (⟨target, iter, ifs, 0⟩ :: rest) scope pos) spos) st Q X := fun gh s R => by
 rw [exec_Assign_Name_used _ _ _ _ hsw]
 refine wpAny_bind (wpAny_standAt (wpAny_bind ?_))
 show wpAny _ _ (do let _ ← comprehension (.ListComp elt (⟨target, iter, ifs, 0⟩ :: rest) scope pos) scope cx.env _ (newList []) false (eval iter cx.env) (some (assign (.Name y py) cx.env))) _ _ s
 refine wpAny_bind (wpAny_mono (comp_mid (QQ := fun _ s' => PostF cx gh s Q .next s') (use := some (assign (.Name y py) cx.env)) C hn mode S u R (fun _ _ x => x) hs h fun Ca v s' M => ?_) (fun _ s' hq => wpAny_pure (wpAny_pure hq)) fun _ _ e => e)
 obtain ⟨p, st', gx, m, R', T', S', r', q, hD, hU, hns, B, hlo⟩ := id M
 show wpAny _ _ (assign (.Name y py) cx.env v) (fun _ s'' => ∃ m, s''.heap.Ns Ca m ∧ ∀ h', Heap.SameBut Ca s''.heap h' → PostF cx gh s Q .next { s'' with heap := h' }) _ _
 refine wpAny_assign_Name (wpAny_mono (storeName_ok C hy (.inl rfl) R' r' (Q := fun st => Q .next st) q) ?_ fun _ _ x => x)
 rintro _ s'' ⟨st'', g'', R'', T'', S'', q''⟩
 obtain ⟨o, es, ep, ho, hd, hk⟩ := hns
 obtain ⟨o', ho', _, hd'⟩ := (T''.kept Ca o ho hU).like
 refine ⟨m, ⟨o', es, ep, ho', hd'.trans hd, hk⟩, fun h' hs' => ?_⟩
 have c := Chg.same hs'
 have hD'' : g''.D Ca := T''.Dm _ hD
 have hm'' : Ca ∉ g''.mu := fun z => by
  rcases T''.U _ (R''.muU _ z) with z | z
  ·exact hU z
  ·exact absurd (Heap.lt_size ho) (Nat.not_lt.mpr z)
 have X := c.ext (D := g''.D) fun a e => e ▸ hD''
 exact ⟨.next, st'', g'', R''.chgN B c (fun a e => by subst e; exact ⟨hD'', hm'', Nat.le_refl _, fun o2 e' v => by obtain rfl := Option.some.inj (ho'.symm.trans e'); rw [hd', hd]; nofun⟩) s''.toks, (T'.trans T'').chg c fun a e => .inl (e ▸ hlo), (S'.trans S'').trans ⟨rfl, rfl, rfl⟩, .next, q''⟩
end
structure Def where
 params : Arguments
 body : List Stmt
 scope : Scope
noncomputable def stE : Stmt → Expr
 | .Assign _ e _ => e
 | .Return (some e) _ => e
 | .Expr e _ => e
 | .If e _ _ _ => e
 | .While e _ _ _ => e
 | _ => .Constant .none 0 default
noncomputable def exE : Expr → List Expr
 | .ListComp e _ _ _ => [e]
 | .BinOp a _ b _ => [a, b]
 | .Call _ es _ _ => es
 | .Compare a _ es _ => a :: es
 | .BoolOp _ es _ => es
 | .IfExp t _ _ _ => [t]
 | _ => []
noncomputable def exS : Expr → Scope
 | .ListComp _ _ s _ => s
 | _ => default
noncomputable def scAt (s : Stmt) (p : List Nat) : Scope := exS (p.foldl (fun e i => (exE e).getD i (.Constant .none 0 default)) (stE s))
noncomputable def whBody : Stmt → List Stmt
 | .While _ b _ _ => b
 | .For _ _ b _ _ => b
 | .If _ b _ _ => b
 | _ => []
noncomputable def defOf : Stmt → Def
 | .FunctionDef _ a b _ _ _ s _ _ _ => ⟨a, b, s⟩
 | _ => ⟨⟨[], [], none, [], [], none, []⟩, [], default⟩
noncomputable def stmts : List Stmt := PySem.Challenge.pw_wo0078_01.main.body
noncomputable def defAt (k : Nat) : Def := defOf (stmts.getD k (.Pass default))
noncomputable def methAt (k m : Nat) : Def := match stmts.getD k (.Pass default) with
 | .ClassDef _ _ _ b .. => defOf (b.getD m (.Pass default))
 | _ => defOf (.Pass default)
structure FnAt (W : Wd) (a : Addr) (d : Def) (dflt : Value) (fd : FuncData) : Prop where
 ok : FnOk W a fd d.body
 params : fd.params = d.params
 scope : fd.scope = d.scope
 dflt : fd.defaults = dflt
 kwd : fd.kwdefaults = .none
theorem FnAt.to {W : Wd} {a : Addr} {d : Def} {dflt : Value} {fd : FuncData} (F : FnAt W a d dflt fd) {s : Shared} {args : Args} {b : List (Str × Value)} (h : BindsTo s { fd with params := d.params, defaults := dflt, kwdefaults := .none } args b) : BindsTo s fd args b := by
 have e : { fd with params := d.params, defaults := dflt, kwdefaults := .none } = fd := by rw [← F.params, ← F.dflt, ← F.kwd]
 exact e ▸ h
noncomputable def gi (s : String) (c : CV) : Str × CV := (PySem.Str.ofString s, c)
noncomputable def GT : List (Str × CV) := [
 gi "_CASE_COST" (.int 1), gi "_MOVE_COST" (.int 2), gi "_MAX_STRING_SIZE" (.int 40), gi "_substitution_cost" (.con (.ref 45)), gi "_levenshtein_distance" (.con (.ref 52)),
 gi "len" (.con (.builtin "len")), gi "min" (.con (.builtin "min")), gi "range" (.con (.type "range")), gi "list" (.con (.type "list")), gi "str" (.con (.type "str")), gi "int" (.con (.type "int")), gi "type" (.con (.type "type")), gi "sum" (.con (.builtin "sum")),
 gi "parse229" (.con (.ref 96)), gi "parse257" (.con (.ref 103)), gi "error_reply" (.con (.ref 75)), gi "error_proto" (.con (.ref 87)), gi "Headers" (.con (.ref 236)), gi "_name_disallowed_re" (.con (.ref 108)), gi "_value_disallowed_re" (.con (.ref 113)),
 gi "_escape_attrib" (.con (.ref 254)), gi "_law_names" (.con (.ref 261)), gi "_law_order" (.con (.ref 266)), gi "_law_round" (.con (.ref 273)), gi "_law_read" (.con (.ref 280)), gi "_law_bare" (.con (.ref 287)), gi "_law_costs" (.con (.ref 292)), gi "_law_written" (.con (.ref 297)),
 gi "_law_far" (.con (.ref 302)), gi "_law_ways" (.con (.ref 307)), gi "_law_late" (.con (.ref 312)), gi "ValueError" (.con (.type "ValueError")), gi "TypeError" (.con (.type "TypeError")), gi "AttributeError" (.con (.type "AttributeError"))]
structure Top (W : Wd) : Prop where
 gt : W.gt = GT
 f45 : ∃ fd, FnAt W 45 (defAt 6) .none fd
 f52 : ∃ fd, FnAt W 52 (defAt 7) .none fd
noncomputable def scSub : List (Str × NameKind) := [("ch_a", .local), ("ch_b", .local)]
noncomputable def gscSub : List Str := ["_CASE_COST", "_MOVE_COST"]
theorem sc_sub : ScOk (defAt 6).scope scSub gscSub := .of (by decide +kernel)
noncomputable def subCost (a b : Str) : Int := if (a == b) = true then 0 else if (Txt.lower a == Txt.lower b) = true then 1 else 2
theorem call_sub {W : Wd} (T : Top W) {lv : Nat} {a b : Str} {glob : List GObj} (ha : Builtin.Str.tooLong (Txt.lower a).length = false) (hb : Builtin.Str.tooLong (Txt.lower b).length = false) :
  CallOk W (lv + 1) (.ref 45) [.c (.str a), .c (.str b)] [] glob (fun r fr g => r = .int (subCost a b) ∧ fr = false ∧ g = glob) (fun _ _ => False) := by
 obtain ⟨fd, F⟩ := T.f45
 refine CallOk.def (bs := [("ch_a", .c (.str a)), ("ch_b", .c (.str b))]) F.ok (by rw [F.scope]; exact sc_sub) rfl ?_ ?_
 ·intro gh s vs ks _ r _
  refine ⟨vs, r, ?_⟩
  replace r := r.to2; obtain ⟨_, _, rfl, r1, r2⟩ := r
  exact F.to (BindsTo.of_eq rfl)
 ·rintro ⟨wd, A, env, fenv, outer, sc, usc, gsc, lv', hn⟩ C rfl rfl rfl rfl rfl rfl hs he
  have hgt : wd.gt = GT := T.gt
  refine ExB.cons (ExS.ite (EvT.cmp (EvE.loc (i := 0) C rfl (.inl rfl) rfl (EvE.loc (i := 1) C rfl (.inl rfl) rfl ⟨_, _, _, rfl, rfl, rfl, fun h => ?_, fun h => ?_⟩))))
  ·refine ExB.cons (ExS.ret (EvE.int ?_))
   exact ⟨_, false, rfl, xff, .inl rfl, by unfold subCost; rw [if_pos h], rfl, List.take_length⟩
  ·refine ExB.nil (ExB.cons (ExS.ite (EvT.cmp (EvE.meth PySem.F.plainAttrs_str PySem.F.slot_str_lower PySem.F.type_str_lower (EvE.loc (i := 0) C rfl (.inl rfl) rfl ⟨.str, EvL.nil (Prim.lower ha ?_)⟩)))))
   refine EvE.meth PySem.F.plainAttrs_str PySem.F.slot_str_lower PySem.F.type_str_lower (EvE.loc (i := 1) C rfl (.inl rfl) rfl ⟨.str, EvL.nil (Prim.lower hb ?_)⟩)
   refine ⟨_, _, _, rfl, rfl, rfl, fun h2 => ?_, fun h2 => ?_⟩
   ·refine ExB.cons (ExS.ret (EvE.glob (i := 0) (j := 0) C rfl (by rw [hgt]; rfl) ?_))
    exact ⟨_, false, rfl, xff, .inl rfl, by unfold subCost; rw [if_neg (by rw [h]; decide), if_pos h2], rfl, List.take_length⟩
   ·refine ExB.nil (ExB.cons (ExS.ret (EvE.glob (i := 1) (j := 1) C rfl (by rw [hgt]; rfl) ?_)))
    exact ⟨_, false, rfl, xff, .inl rfl, by unfold subCost; rw [if_neg (by rw [h]; decide), if_neg (by rw [h2]; decide)], rfl, List.take_length⟩
noncomputable def S (l : List Nat) : Str := ⟨l.toArray⟩
theorem S_len (l : List Nat) : (S l).length = l.length := List.size_toArray
theorem S_list (x : Str) : x = S x.cps.toList := by cases x; rfl
theorem S_inj {a b : List Nat} (h : S a = S b) : a = b := by
 have := congrArg (fun x : Str => x.cps.toList) h
 simpa [S] using this
theorem S_beq (a b : List Nat) : (S a == S b) = (a == b) := by
 rw [Bool.eq_iff_iff, beq_iff_eq, beq_iff_eq]
 exact ⟨S_inj, congrArg S⟩
theorem S_app (a b : List Nat) : S a ++ S b = S (a ++ b) := by
 show (⟨a.toArray ++ b.toArray⟩ : Str) = ⟨(a ++ b).toArray⟩
 rw [List.append_toArray]
noncomputable def clip1 (i : Int) (n : Nat) : Int := max 0 (min (if i < 0 then i + n else i) (n : Int))
noncomputable def clipI (v : Option Int) (d n : Nat) : Int :=
 match v with
 | none => d
 | some i => clip1 i n
noncomputable def clipN (v : Option Int) (d n : Nat) : Nat := (clipI v d n).toNat
theorem clip1_nat (k n : Nat) : clip1 k n = (min k n : Nat) := by
 unfold clip1
 rw [if_neg (Int.not_lt.mpr (Int.natCast_nonneg k)), ← Lean.Omega.Int.ofNat_min, Int.max_eq_right (Int.natCast_nonneg _)]
theorem clip1_neg {j n : Nat} (h0 : 0 < j) (h : j ≤ n) : clip1 (-(j : Int)) n = (n - j : Nat) := by
 unfold clip1
 rw [if_pos (Int.neg_neg_of_pos (Int.ofNat_lt.mpr h0)), Int.add_comm, ← Int.sub_eq_add_neg, ← Int.ofNat_sub h, ← Lean.Omega.Int.ofNat_min, Int.max_eq_right (Int.natCast_nonneg _), Nat.min_eq_left (Nat.sub_le _ _)]
theorem clipN_le {v : Option Int} {d n : Nat} (h : d ≤ n) : clipN v d n ≤ n := by
 cases v with
 | none => exact h
 | some i => exact Int.toNat_le.mpr (Int.max_le.mpr ⟨Int.natCast_nonneg n, Int.min_le_right _ _⟩)
theorem clipI_N (v : Option Int) {d n : Nat} (h : d ≤ n) : clipI v d n = clip1 (clipN v d n : Nat) n := by
 rw [clip1_nat, Nat.min_eq_left (clipN_le h)]
 cases v with
 | none => rfl
 | some i => exact (Int.toNat_of_nonneg (Int.le_max_left _ _)).symm
theorem indices_I (lo hi : Option Int) (n : Nat) : Builtin.Str.strSliceIndices lo hi 1 n = sliceRange (clipI lo 0 n) (clipI hi n n) 1 := by
 cases lo <;> cases hi <;> rfl
theorem sliceRange_no {a b : Nat} (h : b ≤ a) : sliceRange a b 1 = [] := by
 unfold sliceRange
 rw [if_pos (by decide), if_neg (Int.not_lt.mpr (Int.ofNat_le.mpr h))]; rfl
theorem sliceS_ab (l : List Nat) {a b : Nat} (ha : a ≤ l.length) (hb : b ≤ l.length) {I : List Nat} (e : I = Builtin.Str.strSliceIndices (some (a : Int)) (some (b : Int)) 1 l.length) :
  (if I.length == l.length then S l else ⟨(I.filterMap ((S l).cps[·]?)).toArray⟩) = S ((l.drop a).take (b - a)) := by
 by_cases hab : a ≤ b
 ·have hp := StrLaws.sliced_plain (S l) hab (by rw [S_len]; exact hb)
  rw [S_len, ← e] at hp
  rw [hp]
  have hl : I.length = b - a := by rw [e, StrLaws.strSliceIndices_plain hab hb]; simp
  rw [hl]
  by_cases h : b - a = l.length
  ·have h0 : a = 0 := by omega
   subst h0
   rw [if_pos (beq_iff_eq.mpr h), List.drop_zero, List.take_of_length_le (Nat.le_of_eq h.symm)]
  ·rw [if_neg fun z => h (beq_iff_eq.mp z)]; rfl
 ·have hba := Nat.le_of_not_le hab
  have e : I = [] := by
   rw [e, indices_I]
   show sliceRange (clip1 a _) (clip1 b _) 1 = []
   rw [clip1_nat, clip1_nat, Nat.min_eq_left ha, Nat.min_eq_left hb]; exact sliceRange_no hba
  rw [e, Nat.sub_eq_zero_of_le hba, List.take_zero, if_neg]; rfl
  intro z
  have z : 0 = l.length := beq_iff_eq.mp z
  exact hab (Nat.le_trans (z ▸ ha) (Nat.zero_le _))
theorem sliceS_S (l : List Nat) (lo hi : Option Int) : sliceS (S l) lo hi = S ((l.drop (clipN lo 0 l.length)).take (clipN hi l.length l.length - clipN lo 0 l.length)) := by
 unfold sliceS
 rw [S_len]
 refine sliceS_ab l (clipN_le (Nat.zero_le _)) (clipN_le (Nat.le_refl _)) ?_
 rw [indices_I, indices_I, clipI_N lo (Nat.zero_le _), clipI_N hi (Nat.le_refl _)]; rfl
theorem clip_nat (k d n : Nat) : clipN (some (k : Int)) d n = min k n := congrArg Int.toNat (clip1_nat k n)
theorem from_S (l : List Nat) (k : Nat) (h : k ≤ l.length) : sliceS (S l) (some k) none = S (l.drop k) := by
 rw [sliceS_S, clip_nat, Nat.min_eq_left h]
 show S ((l.drop k).take (l.length - k)) = _
 rw [List.take_of_length_le (Nat.le_of_eq List.length_drop)]
theorem to_S (l : List Nat) (j : Nat) (h0 : 0 < j) (h : j ≤ l.length) : sliceS (S l) none (some (-(j : Int))) = S (l.take (l.length - j)) := by
 rw [sliceS_S, show clipN (some (-(j : Int))) l.length l.length = l.length - j from congrArg Int.toNat (clip1_neg h0 h)]
 rfl
theorem all_S (l : List Nat) : sliceS (S l) none none = S l := by
 rw [sliceS_S]
 show S ((l.drop 0).take (l.length - 0)) = _
 rw [List.drop_zero, Nat.sub_zero, List.take_length]
theorem charAt_S (l : List Nat) (i : Int) : Txt.charAt (S l) i = (seqIndex? i l.length).bind (l[·]?) := by
 unfold Txt.charAt
 rw [S_len]
 congr 1
 funext k
 show l.toArray[k]? = l[k]?
 simp
theorem item_nat (l : List Nat) (k : Nat) (c : Nat) (h : l[k]? = some c) : Txt.charAt (S l) (k : Int) = some c ∧ Txt.item (S l) (k : Int) = S [c] := by
 have hk := (List.getElem?_eq_some_iff.mp h).1
 have : Txt.charAt (S l) (k : Int) = some c := by
  rw [charAt_S]
  unfold seqIndex?
  simp only [show ¬ ((k : Int) < 0) from by omega, if_false]
  rw [if_pos (by rw [Bool.and_eq_true, decide_eq_true_eq, decide_eq_true_eq]; omega)]
  exact h
 exact ⟨this, by unfold Txt.item; rw [this]; rfl⟩
theorem item_neg (l : List Nat) (j : Nat) (c : Nat) (h0 : 0 < j) (hj : j ≤ l.length) (h : l[l.length - j]? = some c) : Txt.charAt (S l) (-(j : Int)) = some c ∧ Txt.item (S l) (-(j : Int)) = S [c] := by
 have : Txt.charAt (S l) (-(j : Int)) = some c := by
  rw [charAt_S]
  unfold seqIndex?
  simp only [show (-(j : Int) < 0) from by omega, if_true]
  rw [if_pos (by rw [Bool.and_eq_true, decide_eq_true_eq, decide_eq_true_eq]; omega)]
  show l[(-(j : Int) + l.length).toNat]? = _
  rw [show (-(j : Int) + l.length).toNat = l.length - j from by omega]
  exact h
 exact ⟨this, by unfold Txt.item; rw [this]; rfl⟩
section
variable {cx : Cx} {st : St} {X : XV → St → Prop}
inductive CatS (p q : PV) (K : List Nat → Prop) : Prop
 | mk (x y : List Nat) (a : p = .c (.str (S x))) (b : q = .c (.str (S y))) (c : x.length + y.length ≤ 1000) (k : K (x ++ y))
inductive IdxS (p q : PV) (K : Nat → Prop) : Prop
 | mk (l : List Nat) (i c : Nat) (a : p = .c (.str (S l))) (b : q = .c (.int (i : Nat))) (d : l[i]? = some c) (e : i < 1000) (k : K c)
theorem ev_addS {e1 e2 : Expr} {pos : Pos} {Q : PV → St → Prop} (h : EvE cx e1 st (fun p st₁ => EvE cx e2 st₁ (fun q st₂ => CatS p q fun r => Q (.c (.str (S r))) st₂) X) X) : EvE cx (.BinOp e1 .Add e2 pos) st Q X := by
 refine EvE.bin (EvE.mono h (fun p st₁ h => EvE.mono h ?_ fun _ _ x => x) fun _ _ x => x)
 rintro q st₂ ⟨x, y, rfl, rfl, hz, hq⟩
 refine ⟨_, _, _, rfl, rfl, rfl, ?_, ?_⟩
 ·show (S _).length + (S _).length ≤ sizeLine
  rw [S_len, S_len, sizeLine_eq]; omega
 ·rw [S_app]; exact hq
theorem ev_idxS {e1 e2 : Expr} {pos : Pos} {Q : PV → St → Prop} (h : EvE cx e1 st (fun p st₁ => EvE cx e2 st₁ (fun q st₂ => IdxS p q fun c => Q (.c (.str (S [c]))) st₂) X) X)
  (hb : ∀ o i, subscripted e2 false o i = operate [o, i] (getItem o i) := by intro _ _; rfl) : EvE cx (.Subscript e1 e2 pos) st Q X := by
 refine EvE.idx (EvE.mono h (fun p st₁ h => EvE.mono h ?_ fun _ _ x => x) fun _ _ x => x) hb
 rintro q st₂ ⟨l, i, c, rfl, rfl, hc, hi, hq⟩
 obtain ⟨a1, a2⟩ := item_nat l i c hc
 refine ⟨i, .c (.str (S [c])), rfl, by omega, by omega, ?_, hq⟩
 show (Txt.charAt (S l) (i : Int)).map (fun _ => PV.c (.str (Txt.item (S l) (i : Int)))) = _
 rw [a1, a2]; rfl
inductive CutS (p : PV) (lo hi : Option Int) (K : List Nat → Prop) : Prop
 | mk (l r : List Nat) (a : p = .c (.str (S l))) (b : l.length ≤ 1000) (c : Mine.sliceS (S l) lo hi = S r) (k : K r)
theorem ev_cutS {value : Expr} {lower upper : Option Expr} {p pos : Pos} {Q : PV → St → Prop}
  (h : EvE cx value st (fun p st₁ => EvO cx lower st₁ (fun lo st₂ => EvO cx upper st₂ (fun hi st₃ => CutS p lo hi fun r => Q (.c (.str (S r))) st₃) X) X) X) : EvE cx (.Subscript value (.Slice lower upper none p) pos) st Q X := by
 refine ev_sliceS (EvE.mono h (fun p st₁ h gh s R => wpAny_mono (h gh s R) ?_ fun _ _ x => x) fun _ _ x => x)
 rintro v s' ⟨lo, st', gh', a, b, c, d, q⟩
 refine ⟨lo, st', gh', a, b, c, d, fun gh s R => wpAny_mono (q gh s R) ?_ fun _ _ x => x⟩
 rintro v s' ⟨hi, st', gh', a, b, c, d, l, r, e, hl, hr, k⟩
 exact ⟨hi, st', gh', a, b, c, d, S l, e, hr ▸ k, by rw [S_len, sizeLine_eq]; omega⟩
end
noncomputable def EvV (cx : Cx) (e : Expr) (st : St) (p : PV) : Prop := ∀ (Q : PV → St → Prop) (X : XV → St → Prop), Q p st → EvE cx e st Q X
noncomputable def EvTV (cx : Cx) (e : Expr) (st : St) (b : Bool) : Prop := ∀ (Q : Bool → St → Prop) (X : XV → St → Prop), Q b st → EvT cx e st Q X
noncomputable def EvLV (cx : Cx) (es : List Expr) (st : St) (ps : List PV) : Prop := ∀ (Q : List PV → St → Prop) (X : XV → St → Prop), Q ps st → EvL cx es st Q X
noncomputable def EvOV (cx : Cx) (e : Option Expr) (st : St) (i : Option Int) : Prop := ∀ (Q : Option Int → St → Prop) (X : XV → St → Prop), Q i st → EvO cx e st Q X
noncomputable def PrimV (cx : Cx) (f : Value) (ps : List PV) (st : St) (p : PV) : Prop := ∀ (Q : PV → St → Prop) (X : XV → St → Prop), Q p st → Prim cx f ps st Q X
section
variable {cx : Cx} {st : St} {X : XV → St → Prop}
theorem EvV.int {i : Int} {k : Nat} {pos : Pos} : EvV cx (.Constant (.int i) k pos) st (.c (.int i)) := fun _ _ h => EvE.int h
theorem EvV.str {x : Str} {k : Nat} {pos : Pos} : EvV cx (.Constant (.str x) k pos) st (.c (.str x)) := fun _ _ h => EvE.str h
theorem EvV.lit {x : Str} {l : List Nat} {k : Nat} {pos : Pos} (e : x = S l) : EvV cx (.Constant (.str x) k pos) st (.c (.str (S l))) := fun _ _ h => EvE.str (e ▸ h)
theorem EvV.bin {op : Operator} {a b : Expr} {pos : Pos} {x y r : CV} (ha : EvV cx a st (.c x)) (hb : EvV cx b st (.c y)) (e : binB op x y = some r) (s : binS op x y) : EvV cx (.BinOp a op b pos) st (.c r) :=
 fun _ _ h => EvE.bin (ha _ _ (hb _ _ ⟨x, y, r, rfl, rfl, e, s, h⟩))
theorem EvTV.cmp {op : CmpOp} {a b : Expr} {pos : Pos} {x y : CV} {r : Bool} (ha : EvV cx a st (.c x)) (hb : EvV cx b st (.c y)) (e : cmpB op x y = some r) (hm : behindInMarks op b = false := by with_unfolding_all rfl) : EvTV cx (.Compare a [op] [b] pos) st r :=
 fun _ _ h => EvT.cmp (ha _ _ (hb _ _ ⟨x, y, r, rfl, rfl, e, h⟩)) hm
theorem EvV.idx {value slice : Expr} {pos : Pos} {p r : PV} {i : Int} (hv : EvV cx value st p) (hi : EvV cx slice st (.c (.int i))) (b : -(2 ^ 62) ≤ i) (c : i < 2 ^ 62) (d : idxB st p i = some r) (hb : ∀ o i, subscripted slice false o i = operate [o, i] (getItem o i) := by intro _ _; rfl) : EvV cx (.Subscript value slice pos) st r :=
 fun _ _ h => EvE.idx (hv _ _ (hi _ _ ⟨i, r, rfl, b, c, d, h⟩)) hb
theorem EvV.addS {e1 e2 : Expr} {pos : Pos} {x y : List Nat} (h1 : EvV cx e1 st (.c (.str (S x)))) (h2 : EvV cx e2 st (.c (.str (S y)))) (hz : x.length + y.length ≤ 1000) : EvV cx (.BinOp e1 .Add e2 pos) st (.c (.str (S (x ++ y)))) :=
 fun _ _ h => ev_addS (h1 _ _ (h2 _ _ ⟨x, y, rfl, rfl, hz, h⟩))
theorem EvV.idxS {e1 e2 : Expr} {pos : Pos} {l : List Nat} {i c : Nat} (h1 : EvV cx e1 st (.c (.str (S l)))) (h2 : EvV cx e2 st (.c (.int (i : Nat)))) (hc : l[i]? = some c) (hi : i < 1000) (hb : ∀ o i, subscripted e2 false o i = operate [o, i] (getItem o i) := by intro _ _; rfl) : EvV cx (.Subscript e1 e2 pos) st (.c (.str (S [c]))) :=
 fun _ _ h => ev_idxS (h1 _ _ (h2 _ _ ⟨l, i, c, rfl, rfl, hc, hi, h⟩)) hb
theorem EvOV.none : EvOV cx none st none := fun _ _ h => evO_none h
theorem EvOV.some {e : Expr} {i : Int} (h : EvV cx e st (.c (.int i))) : EvOV cx (some e) st (some i) := fun _ _ q => evO_some (h _ _ q)
theorem EvV.cut {value : Expr} {lower upper : Option Expr} {p pos : Pos} {l r : List Nat} {lo hi : Option Int} (hv : EvV cx value st (.c (.str (S l)))) (h1 : EvOV cx lower st lo) (h2 : EvOV cx upper st hi) (hz : l.length ≤ 1000) (e : Mine.sliceS (S l) lo hi = S r) : EvV cx (.Subscript value (.Slice lower upper Option.none p) pos) st (.c (.str (S r))) :=
 fun _ _ h => ev_cutS (hv _ _ (h1 _ _ (h2 _ _ ⟨l, r, rfl, hz, e, h⟩)))
theorem EvLV.nil : EvLV cx [] st [] := fun _ _ h => EvL.nil h
theorem EvLV.cons {e : Expr} {es : List Expr} {p : PV} {ps : List PV} (h : EvV cx e st p) (hs : EvLV cx es st ps) (he : ∀ env, starEach (e :: es) env = (false, eval e env) :: starEach es env := by intro _; rfl) : EvLV cx (e :: es) st (p :: ps) :=
 fun _ _ q => EvL.cons (h _ _ (hs _ _ q)) he
theorem EvV.meth {o : Expr} {name : Str} {apos pos : Pos} {es : List Expr} {T id : String} {p r : PV} {ps : List PV} (pa : PlainAttrs T) (slot : Slot T name id) (hty : typeOf (.builtin id) = pure (.type "method_descriptor"))
  (ho : EvV cx o st p) (ht : HasT cx T p st) (hs : EvLV cx es st ps) (hr : PrimV cx (.builtin id) (p :: ps) st r)
  (hbase : attributeBase o name cx.env (eval o cx.env) = eval o cx.env := by rfl)
  (hfew : ((backTo pos (starEach es cx.env)).all (fun x => !x.1) && (backToKw pos (keywordEach [] cx.env)).all (fun x => x.1.isSome)
   && decide (es.length + ([] : List Keyword).length + (if ([] : List Keyword).isEmpty then 0 else 1) < 30)) = true := by rfl)
  (hline : (apos.endLine == pos.line) = true := by rfl)
  (hp : (backTo pos (starEach es cx.env)).any (·.1) = false := by rfl) : EvV cx (.Call (.Attribute o name apos) es [] pos) st r :=
 fun _ _ q => EvE.meth pa slot hty (ho _ _ ⟨ht, hs _ _ (hr _ _ q)⟩) hbase hfew hline hp
theorem EvV.tup {es : List Expr} {k : Nat} {pos : Pos} {ps : List PV} {l : List CV} (h : EvLV cx es st ps) (e : ps = l.map .c) (hz : l.length ≤ 1000) : EvV cx (.Tuple es k pos) st (.c (.tup l)) := fun _ _ q => EvE.tup (h _ _ ⟨l, e, hz, q⟩)
theorem EvV.lst {es : List Expr} {pos : Pos} {ps : List PV} {l : List CV} (h : EvLV cx es st ps) (e : ps = l.map .c) (hz : l.length ≤ 1000) : EvV cx (.List es pos) st (.c (.lst l)) := fun _ _ q => EvE.lst (h _ _ ⟨l, e, hz, q⟩)
theorem EvE.v {e : Expr} {p : PV} {Q : PV → St → Prop} (h : EvV cx e st p) (q : Q p st) : EvE cx e st Q X := h _ _ q
theorem EvL.v {es : List Expr} {ps : List PV} {Q : List PV → St → Prop} (h : EvLV cx es st ps) (q : Q ps st) : EvL cx es st Q X := h _ _ q
theorem EvT.v {e : Expr} {b : Bool} {Q : Bool → St → Prop} (h : EvTV cx e st b) (q : Q b st) : EvT cx e st Q X := h _ _ q
theorem ExB.ite {t : Expr} {a b bs : List Stmt} {pos : Pos} {c : Bool} {Q : Fl → St → Prop} (h : EvTV cx t st c) (h1 : c = true → ExB cx a st (fun f st₁ => match f with | .next => ExB cx bs st₁ Q X | f => Q f st₁) X) (h2 : c = false → ExB cx b st (fun f st₁ => match f with | .next => ExB cx bs st₁ Q X | f => Q f st₁) X) : ExB cx (.If t a b pos :: bs) st Q X :=
 ExB.cons (ExS.ite (h _ _ ⟨h1, h2⟩))
theorem ExB.ifp {t : Expr} {a bs : List Stmt} {pos : Pos} {c : Bool} {Q : Fl → St → Prop} (h : EvTV cx t st c) (h1 : c = true → ExB cx a st (fun f st₁ => match f with | .next => ExB cx bs st₁ Q X | f => Q f st₁) X) (h2 : c = false → ExB cx bs st Q X) : ExB cx (.If t a [] pos :: bs) st Q X :=
 ExB.ite h h1 fun e => ExB.nil (h2 e)
theorem ExB.ret {e : Expr} {bs : List Stmt} {pos : Pos} {p : PV} {Q : Fl → St → Prop} (h : EvV cx e st p) (q : Q (.ret p) st) : ExB cx (.Return (some e) pos :: bs) st Q X := ExB.cons (ExS.ret (h _ _ q))
theorem EvTV.val {a : Expr} {x : CV} {r : Bool} (h : EvV cx a st (.c x)) (e : truB x = Option.some r) (z : truS x) (he : PySem.isTrue a cx.env (eval a cx.env) = (do let v ← eval a cx.env; standAt a.pos; holding [v] (truthy v)) := by rfl) : EvTV cx a st r :=
 fun _ _ q => EvT.val (h _ _ ⟨x, r, rfl, e, z, q⟩) he
theorem EvTV.not {a : Expr} {pos : Pos} {b : Bool} (h : EvTV cx a st b) : EvTV cx (.UnaryOp .Not a pos) st (!b) := fun _ _ q => EvT.not (h _ _ q)
theorem EvTV.or2 {a b : Expr} {pos : Pos} {p q : Bool} (ha : EvTV cx a st p) (hb : EvTV cx b st q) : EvTV cx (.BoolOp .Or [a, b] pos) st (p || q) :=
 fun _ _ k => EvT.bop (EvAll.or (ha _ _ ⟨fun e => by subst e; exact k, fun e => EvAll.or (hb _ _ ⟨fun e2 => by subst e e2; exact k, fun e2 => EvAll.orNil (by subst e e2; exact k)⟩)⟩))
theorem EvTV.and2 {a b : Expr} {pos : Pos} {p q : Bool} (ha : EvTV cx a st p) (hb : EvTV cx b st q) : EvTV cx (.BoolOp .And [a, b] pos) st (p && q) :=
 fun _ _ k => EvT.bop (EvAll.and (ha _ _ ⟨fun e => EvAll.and (hb _ _ ⟨fun e2 => EvAll.andNil (by subst e e2; exact k), fun e2 => by subst e e2; exact k⟩), fun e => by subst e; exact k⟩))
theorem EvV.loc {i : Nat} {x : Str} {pos : Pos} {k : NameKind} {p : PV} (C : cx.Ok) (hx : cx.sc[i]? = some (x, k)) (hk : k = .local ∨ k = .cell) (hp : st.fr[i]? = some (some p)) : EvV cx (.Name x pos) st p := fun _ _ h => EvE.loc C hx hk hp h
theorem EvV.app {id : Str} {p pos : Pos} {f : Value} {e : Expr} {es : List Expr} {ps : List PV} {r : PV} (hg : EvV cx (.Name id p) st (.c (.con f))) (hc : Callee cx f) (h : EvLV cx (e :: es) st ps) (hr : PrimV cx f ps st r)
  (he : ∀ env, backTo pos (starEach (e :: es) env) = (false, eval e env) :: (backTo pos (starEach (e :: es) env)).tail := by intro _; rfl)
  (hq : ∀ env, (backTo pos (starEach (e :: es) env)).any (·.1) = false := by intro _; rfl) : EvV cx (.Call (.Name id p) (e :: es) [] pos) st r :=
 fun _ _ q => EvE.app (hg _ _ ⟨f, rfl, hc, h _ _ (hr _ _ q)⟩) he hq
theorem ExB.bset (C : cx.Ok) {i : Nat} {x : Str} {k : NameKind} {p' pos : Pos} {e : Expr} {bs : List Stmt} {p : PV} {Q : Fl → St → Prop} (hx : cx.sc[i]? = some (x, k)) (hk : k = .local ∨ k = .cell) (h : EvV cx e st p) (q : ExB cx bs { st with fr := st.fr.set i (some p) } Q X) (hs : swapsWith e (some (.Name x p')) pos.line cx.env = pure false) : ExB cx (.Assign [.Name x p'] e pos :: bs) st Q X :=
 ExB.cons (ExS.asgName C hx hk (h _ _ q) hs)
end
noncomputable def cpre : List Nat → List Nat → Nat
 | x :: xs, y :: ys => if x = y then cpre xs ys + 1 else 0
 | _, _ => 0
theorem cpre_cons (x y : Nat) (xs ys : List Nat) : cpre (x :: xs) (y :: ys) = if x = y then cpre xs ys + 1 else 0 := rfl
theorem cpre_le : ∀ (a b : List Nat), cpre a b ≤ a.length ∧ cpre a b ≤ b.length
 | [], b => by cases b <;> exact ⟨Nat.zero_le _, Nat.zero_le _⟩
 | _ :: _, [] => ⟨Nat.zero_le _, Nat.zero_le _⟩
 | x :: xs, y :: ys => by
  have k := cpre_le xs ys
  rw [cpre_cons]
  split
  ·exact ⟨Nat.succ_le_succ k.1, Nat.succ_le_succ k.2⟩
  ·exact ⟨Nat.zero_le _, Nat.zero_le _⟩
noncomputable def eqAt (a b : List Nat) (k : Nat) : Bool := match a[k]?, b[k]? with
 | some x, some y => x == y
 | _, _ => false
theorem eqAt_no (x : Nat) (xs : List Nat) (k : Nat) : eqAt (x :: xs) [] k = false := by
 show (match (x :: xs)[k]?, ([] : List Nat)[k]? with | some x, some y => x == y | _, _ => false) = false
 cases (x :: xs)[k]? <;> rfl
theorem cpre_step : ∀ (k : Nat) (a b : List Nat), cpre a b ≥ k → (eqAt a b k = true → cpre a b ≥ k + 1) ∧ (eqAt a b k = false → cpre a b = k)
 | k, [], b, h => by
  have h0 : cpre [] b = 0 := by cases b <;> rfl
  rw [h0] at h ⊢
  exact ⟨fun e => xff e, fun _ => (Nat.le_zero.mp h).symm⟩
 | k, x :: xs, [], h => by
  have h0 : cpre (x :: xs) [] = 0 := rfl
  rw [h0] at h ⊢
  exact ⟨fun e => xff ((eqAt_no x xs k).symm.trans e), fun _ => (Nat.le_zero.mp h).symm⟩
 | 0, x :: xs, y :: ys, _ => by
  rw [cpre_cons, show eqAt (x :: xs) (y :: ys) 0 = (x == y) from rfl]
  by_cases e : x = y
  ·rw [if_pos e]
   exact ⟨fun _ => Nat.succ_le_succ (Nat.zero_le _), fun q => absurd e (beq_eq_false_iff_ne.mp q)⟩
  ·rw [if_neg e]
   exact ⟨fun q => absurd (beq_iff_eq.mp q) e, fun _ => rfl⟩
 | k + 1, x :: xs, y :: ys, h => by
  rw [cpre_cons] at h ⊢
  by_cases e : x = y
  ·rw [if_pos e] at h ⊢
   obtain ⟨h1, h2⟩ := cpre_step k xs ys (Nat.le_of_succ_le_succ h)
   exact ⟨fun q => Nat.succ_le_succ (h1 q), fun q => congrArg Nat.succ (h2 q)⟩
  ·rw [if_neg e] at h
   exact absurd h (Nat.not_succ_le_zero _)
noncomputable def scLev : List (Str × NameKind) := [("a", .local), ("b", .local), ("max_cost", .local), ("pre", .local), ("post", .local), ("row", .local), ("result", .local), ("bindex", .local), ("bchar", .local), ("distance", .local), ("minimum", .local), ("index", .local), ("substitute", .local), ("insert_delete", .local)]
noncomputable def gscLev : List Str := ["_MOVE_COST", "len", "_MAX_STRING_SIZE", "list", "range", "_substitution_cost", "min"]
theorem sc_lev : ScOk (defAt 7).scope scLev gscLev := .of (by decide +kernel)
noncomputable abbrev I (i : Int) : Option PV := some (.c (.int i))
noncomputable abbrev m' (m : Int) : Option PV := some (.c (.int m))
noncomputable abbrev T (l : List Nat) : Option PV := some (.c (.str (S l)))
section
variable {cx : Cx} {X : XV → St → Prop}
theorem Prim.lenS {cx : Cx} {st : St} {X : XV → St → Prop} {l : List Nat} {Q : PV → St → Prop} (hz : l.length ≤ 1000) (h : Q (.c (.int l.length)) st) : Prim cx (.builtin "len") [.c (.str (S l))] st Q X := .lenStr (by rw [S_len, sizeLine_eq]; omega) ((S_len l).symm ▸ h)
theorem truS_S {l : List Nat} (h : l.length ≤ 1000) : truS (.str (S l)) := by
 show (S l).length ≤ sizeLine
 rw [S_len, sizeLine_eq]; omega
theorem truB_S (l : List Nat) : truB (.str (S l)) = some (!l.isEmpty) := by
 show some ((((S l).length : Nat) : Int) != 0) = _
 rw [S_len]
 cases l with
 | nil => rfl
 | cons x l => simp; omega
structure LevCx (cx : Cx) : Prop where
 ok : cx.Ok
 sc : cx.sc = scLev
 gsc : cx.gsc = gscLev
 gt : cx.wd.gt = GT
 hn : cx.hn = true
 ce : cx.env = cx.fenv
 scope : cx.env.scope = (defAt 7).scope
 top : Top cx.wd
 lv : 1 ≤ cx.lv
theorem LevCx.s (L : LevCx cx) (i : Nat) {q : Str × NameKind} (h : scLev[i]? = some q) : cx.sc[i]? = some q := by rw [L.sc]; exact h
theorem LevCx.g (L : LevCx cx) (i : Nat) {q : Str} (h : gscLev[i]? = some q) : cx.gsc[i]? = some q := by rw [L.gsc]; exact h
theorem LevCx.t (L : LevCx cx) (i : Nat) {q : Str × CV} (h : GT[i]? = some q) : cx.wd.gt[i]? = some q := by rw [L.gt]; exact h
theorem eqAt_drop {a b : List Nat} {k : Nat} (h : eqAt a b k = true) : k < a.length ∧ k < b.length := by
 unfold eqAt at h
 split at h
 ·rename_i x y h1 h2
  exact ⟨(List.getElem?_eq_some_iff.mp h1).1, (List.getElem?_eq_some_iff.mp h2).1⟩
 ·cases h
theorem drop_empty {a : List Nat} {k : Nat} : (!(a.drop k).isEmpty) = decide (k < a.length) := by
 rw [Bool.eq_iff_iff]
 simp [List.isEmpty_iff]
noncomputable def levSt (k : Nat) : Stmt := (defAt 7).body.getD k (.Pass default)
theorem LevCx.vv (L : LevCx cx) {st : St} (i : Nat) {x : Str} {pos : Pos} {p : PV} (hx : scLev[i]? = some (x, .local)) (hp : st.fr[i]? = some (some p)) : EvV cx (.Name x pos) st p := .loc L.ok (L.s i hx) (.inl rfl) hp
theorem LevCx.gv (L : LevCx cx) {st : St} (i j : Nat) {x : Str} {pos : Pos} {p : CV} (hx : gscLev[i]? = some x) (hp : GT[j]? = some (x, p)) : EvV cx (.Name x pos) st (.c p) := fun _ _ h => EvE.glob L.ok (L.g i hx) (L.t j hp) h
theorem LevCx.bset (L : LevCx cx) {st : St} (i : Nat) {x : Str} {p' pos : Pos} {e : Expr} {bs : List Stmt} {p : PV} {Q : Fl → St → Prop} (h : EvV cx e st p) (q : ExB cx bs { st with fr := st.fr.set i (some p) } Q X) (hx : scLev[i]? = some (x, .local) := by rfl) (hs : swapsWith e (some (.Name x p')) pos.line cx.env = pure false := by rfl) : ExB cx (.Assign [.Name x p'] e pos :: bs) st Q X :=
 .bset L.ok (L.s i hx) (.inl rfl) h q hs
theorem testW1 (L : LevCx cx) {st : St} {la lb : List Nat} {k : Nat} (h0 : st.fr[0]? = some (T la)) (h1 : st.fr[1]? = some (T lb)) (h3 : st.fr[3]? = some (I k)) (ha : la.length ≤ 1000) (hb : lb.length ≤ 1000) (hka : k ≤ la.length) (hkb : k ≤ lb.length) : EvTV cx (stE (levSt 2)) st (eqAt la lb k) := by
 intro Q X q
 have no : ∀ {c : List Nat}, (!(c.drop k).isEmpty) = false → (c = la ∨ c = lb) → eqAt la lb k = false := fun {c} e hc => by
  rw [drop_empty, decide_eq_false_iff_not] at e
  cases hq : eqAt la lb k with
  | false => rfl
  | true =>
   have := eqAt_drop hq
   rcases hc with rfl | rfl
   ·exact absurd this.1 e
   ·exact absurd this.2 e
 have tz : ∀ {c : List Nat}, c.length ≤ 1000 → truS (.str (S (c.drop k))) := fun {c} hc => truS_S (by rw [List.length_drop]; omega)
 refine EvT.bop (EvAll.and (EvT.v (.val (.cut (L.vv 0 rfl h0) (.some (L.vv 3 rfl h3)) .none ha (from_S _ _ hka)) (truB_S _) (tz ha)) ⟨fun e1 => ?_, fun e1 => no e1 (.inl rfl) ▸ q⟩))
 refine EvAll.and (EvT.v (.val (.cut (L.vv 1 rfl h1) (.some (L.vv 3 rfl h3)) .none hb (from_S _ _ hkb)) (truB_S _) (tz hb)) ⟨fun e2 => ?_, fun e2 => no e2 (.inr rfl) ▸ q⟩)
 rw [drop_empty, decide_eq_true_eq] at e1 e2
 obtain ⟨x, hx⟩ : ∃ x, la[k]? = some x := ⟨_, List.getElem?_eq_getElem e1⟩
 obtain ⟨y, hy⟩ : ∃ y, lb[k]? = some y := ⟨_, List.getElem?_eq_getElem e2⟩
 have hxy : (S [x] == S [y]) = eqAt la lb k := by
  rw [S_beq]; unfold eqAt; rw [hx, hy]
  rw [Bool.eq_iff_iff]; simp
 rw [← hxy] at q
 exact EvAll.and (EvT.v (.cmp (.idxS (L.vv 0 rfl h0) (L.vv 3 rfl h3) hx (Nat.lt_of_lt_of_le e1 ha)) (.idxS (L.vv 1 rfl h1) (L.vv 3 rfl h3) hy (Nat.lt_of_lt_of_le e2 hb)) rfl) ⟨fun e => EvAll.andNil (e ▸ q), fun e => e ▸ q⟩)
inductive JW1 (g : List GObj) (la lb : List Nat) (m : Int) (r : List (Option PV)) (n : Nat) (st : St) : Prop
 | mk (k : Nat) (e : st = ⟨g, [], T la :: T lb :: m' m :: I k :: r, []⟩) (hk : k ≤ cpre la lb) (hn : n = la.length - k)
theorem lev_w1 (L : LevCx cx) {g : List GObj} {la lb : List Nat} {m : Int} {r : List (Option PV)} {Q : Fl → St → Prop} (ha : la.length ≤ 1000) (hb : lb.length ≤ 1000)
  (h : Q .next ⟨g, [], T la :: T lb :: m' m :: I (cpre la lb) :: r, []⟩) : ExS cx (levSt 2) ⟨g, [], T la :: T lb :: m' m :: I 0 :: r, []⟩ Q X := by
 refine ExS.while L.ok L.ce (JW1 g la lb m r) la.length ⟨0, rfl, Nat.zero_le _, rfl⟩ ?_
 rintro n _ ⟨k, rfl, hk, rfl⟩
 refine EvT.v (testW1 L (la := la) (lb := lb) (k := k) rfl rfl rfl ha hb (Nat.le_trans hk (cpre_le la lb).1) (Nat.le_trans hk (cpre_le la lb).2)) ⟨fun e => ?_, fun e => ?_⟩
 ·have h1 := (eqAt_drop e).1
  exact ExB.cons (ExS.aug (i := 3) (a := (k : Int)) L.ok (L.s 3 rfl) rfl (EvE.int ⟨1, rfl, .inl ⟨rfl, ExB.nil ⟨la.length - (k + 1), by omega, k + 1, rfl, (cpre_step k la lb hk).1 e, rfl⟩⟩⟩))
 ·rw [← (cpre_step k la lb hk).2 e]; exact h
theorem ev_upto (C : cx.Ok) {st : St} {i j : Nat} {x y : Str} {px py ps pp pb pk : Pos} {kk : Nat} {l r : List Nat} {n : Nat} {Q : PV → St → Prop} (hx : cx.sc[i]? = some (x, .local)) (hfx : st.fr[i]? = some (T l)) (hy : cx.sc[j]? = some (y, .local)) (hfy : st.fr[j]? = some (I (-(n : Int))))
  (hn : n ≤ l.length) (hl : l.length ≤ 1000) (er : l.take (l.length - n) = r) (h : Q (.c (.str (S r))) st) :
  EvE cx (.Subscript (.Name x px) (.Slice none (some (.BoolOp .Or [.Name y py, .Constant .none kk pk] pb)) none ps) pp) st Q X := by
 refine ev_cutS (EvE.loc (i := i) C hx (.inl rfl) hfx (evO_none (evO_some (ev_or (EvE.loc (i := j) C hy (.inl rfl) hfy ⟨_, _, rfl, rfl, trivial, fun e => ⟨l, r, rfl, hl, ?_, h⟩, fun e => EvE.none ⟨l, r, rfl, hl, ?_, h⟩⟩)))))
 ·rw [to_S l n (Nat.pos_of_ne_zero fun z => by subst z; simp at e) hn, er]
 ·have hn0 : n = 0 := Decidable.byContradiction fun z => xtf ((show (-(n : Int) != 0) = true by simp; omega).symm.trans e)
  subst hn0
  rw [all_S, ← er, Nat.sub_zero, List.take_length]
theorem EvV.upto (L : LevCx cx) {st : St} {i j : Nat} {x y : Str} {px py ps pp pb pk : Pos} {kk : Nat} {l r : List Nat} {n : Nat} (hx : scLev[i]? = some (x, .local)) (hfx : st.fr[i]? = some (T l)) (hy : scLev[j]? = some (y, .local)) (hfy : st.fr[j]? = some (I (-(n : Int))))
  (hn : n ≤ l.length) (hl : l.length ≤ 1000) (er : l.take (l.length - n) = r) : EvV cx (.Subscript (.Name x px) (.Slice none (some (.BoolOp .Or [.Name y py, .Constant .none kk pk] pb)) none ps) pp) st (.c (.str (S r))) := fun _ _ q => ev_upto L.ok (L.s i hx) hfx (L.s j hy) hfy hn hl er q
theorem testW2 (L : LevCx cx) {st : St} {la lb : List Nat} {j : Nat} (h0 : st.fr[0]? = some (T la)) (h1 : st.fr[1]? = some (T lb)) (h4 : st.fr[4]? = some (I (-(j : Int)))) (ha : la.length ≤ 1000) (hb : lb.length ≤ 1000) (hja : j ≤ la.length) (hjb : j ≤ lb.length) : EvTV cx (stE (levSt 6)) st (eqAt la.reverse lb.reverse j) := by
 intro Q X q
 have emp : ∀ {c : List Nat}, j ≤ c.length → (!(c.take (c.length - j)).isEmpty) = decide (j < c.length) := by
  intro c hc
  rw [Bool.eq_iff_iff]
  simp [List.isEmpty_iff, List.take_eq_nil_iff]
  constructor
  ·intro ⟨h1, h2⟩; omega
  ·intro h1
   refine ⟨by omega, ?_⟩
   rintro rfl
   simp at h1
 have no : ∀ {c : List Nat}, ¬ j < c.length → (c = la ∨ c = lb) → eqAt la.reverse lb.reverse j = false := fun {c} e hc => by
  cases hq : eqAt la.reverse lb.reverse j with
  | false => rfl
  | true =>
   have := eqAt_drop hq
   rw [List.length_reverse, List.length_reverse] at this
   rcases hc with rfl | rfl
   ·exact absurd this.1 e
   ·exact absurd this.2 e
 have tz : ∀ {c : List Nat}, c.length ≤ 1000 → truS (.str (S (c.take (c.length - j)))) := fun {c} hc => truS_S (by rw [List.length_take]; omega)
 refine EvT.bop (EvAll.and (EvT.v (.val (.upto L (i := 0) (j := 4) rfl h0 rfl h4 hja ha rfl) (truB_S _) (tz ha)) ⟨fun e1 => ?_, fun e1 => no (by rw [emp hja, decide_eq_false_iff_not] at e1; exact e1) (.inl rfl) ▸ q⟩))
 refine EvAll.and (EvT.v (.val (.upto L (i := 1) (j := 4) rfl h1 rfl h4 hjb hb rfl) (truB_S _) (tz hb)) ⟨fun e2 => ?_, fun e2 => no (by rw [emp hjb, decide_eq_false_iff_not] at e2; exact e2) (.inr rfl) ▸ q⟩)
 rw [emp hja, decide_eq_true_eq] at e1
 rw [emp hjb, decide_eq_true_eq] at e2
 obtain ⟨x, hx⟩ : ∃ x, la[la.length - (j + 1)]? = some x := ⟨_, List.getElem?_eq_getElem (by omega)⟩
 obtain ⟨y, hy⟩ : ∃ y, lb[lb.length - (j + 1)]? = some y := ⟨_, List.getElem?_eq_getElem (by omega)⟩
 have ej : -(j : Int) - 1 = -((j + 1 : Nat) : Int) := by omega
 have hxy : (S [x] == S [y]) = eqAt la.reverse lb.reverse j := by
  rw [S_beq]; unfold eqAt
  rw [List.getElem?_reverse e1, List.getElem?_reverse e2, show la.length - 1 - j = la.length - (j + 1) from by omega, show lb.length - 1 - j = lb.length - (j + 1) from by omega, hx, hy]
  rw [Bool.eq_iff_iff]; simp
 have i1 : (Txt.charAt (S la) (-(j : Int) - 1)).map (fun _ => PV.c (.str (Txt.item (S la) (-(j : Int) - 1)))) = some (.c (.str (S [x]))) := by
  obtain ⟨a1, a2⟩ := item_neg la (j + 1) x (by omega) (by omega) hx
  rw [ej, a1, a2]; rfl
 have i2 : (Txt.charAt (S lb) (-(j : Int) - 1)).map (fun _ => PV.c (.str (Txt.item (S lb) (-(j : Int) - 1)))) = some (.c (.str (S [y]))) := by
  obtain ⟨a1, a2⟩ := item_neg lb (j + 1) y (by omega) (by omega) hy
  rw [ej, a1, a2]; rfl
 have z1 : -(2 ^ 62) ≤ -(j : Int) - 1 := by omega
 have z2 : -(j : Int) - 1 < 2 ^ 62 := by omega
 rw [← hxy] at q
 exact EvAll.and (EvT.v (.cmp (.idx (L.vv 0 rfl h0) (.bin (L.vv 4 rfl h4) .int rfl trivial) z1 z2 i1) (.idx (L.vv 1 rfl h1) (.bin (L.vv 4 rfl h4) .int rfl trivial) z1 z2 i2) rfl) ⟨fun e => EvAll.andNil (e ▸ q), fun e => e ▸ q⟩)
inductive JW2 (g : List GObj) (la lb : List Nat) (m k : Int) (r : List (Option PV)) (n : Nat) (st : St) : Prop
 | mk (j : Nat) (e : st = ⟨g, [], T la :: T lb :: m' m :: I k :: I (-(j : Int)) :: r, []⟩) (hk : j ≤ cpre la.reverse lb.reverse) (hn : n = la.length - j)
theorem lev_w2 (L : LevCx cx) {g : List GObj} {la lb : List Nat} {m k : Int} {r : List (Option PV)} {Q : Fl → St → Prop} (ha : la.length ≤ 1000) (hb : lb.length ≤ 1000)
  (h : Q .next ⟨g, [], T la :: T lb :: m' m :: I k :: I (-((cpre la.reverse lb.reverse : Nat) : Int)) :: r, []⟩) : ExS cx (levSt 6) ⟨g, [], T la :: T lb :: m' m :: I k :: I 0 :: r, []⟩ Q X := by
 refine ExS.while L.ok L.ce (JW2 g la lb m k r) la.length ⟨0, rfl, Nat.zero_le _, rfl⟩ ?_
 rintro n _ ⟨j, rfl, hk, rfl⟩
 have hja : j ≤ la.length := List.length_reverse ▸ Nat.le_trans hk (cpre_le la.reverse lb.reverse).1
 have hjb : j ≤ lb.length := List.length_reverse ▸ Nat.le_trans hk (cpre_le la.reverse lb.reverse).2
 refine EvT.v (testW2 L (la := la) (lb := lb) (j := j) rfl rfl rfl ha hb hja hjb) ⟨fun e => ?_, fun e => ?_⟩
 ·have h1 := (eqAt_drop e).1
  rw [List.length_reverse] at h1
  refine ExB.cons (ExS.aug (i := 4) (a := -(j : Int)) L.ok (L.s 4 rfl) rfl (EvE.int ⟨1, rfl, .inr ⟨rfl, ExB.nil ⟨la.length - (j + 1), by omega, j + 1, ?_, (cpre_step j _ _ hk).1 e, rfl⟩⟩⟩))
  rw [show -(j : Int) - 1 = -((j + 1 : Nat) : Int) from by omega]; rfl
 ·rw [← (cpre_step j _ _ hk).2 e]; exact h
end
theorem CallOk.mono {W : Wd} {lv : Nat} {f : Value} {args : List PV} {kws : List (Str × PV)} {glob : List GObj} {Q Q' : CV → Bool → List GObj → Prop} {X X' : XV → List GObj → Prop} (h : CallOk W lv f args kws glob Q X) (hQ : ∀ x fr g, Q x fr g → Q' x fr g) (hX : ∀ x g, X x g → X' x g) :
  CallOk W lv f args kws glob Q' X' := fun A fr gh s vs ks P r1 r2 => by
 refine codeAny_mono (h A fr gh s vs ks P r1 r2) fun r s' p => ?_
 cases r with
 | error e => obtain ⟨a, px, g, D', h1, h2, h3, h4⟩ := p; exact ⟨a, px, g, D', h1, h2, h3, hX _ _ h4⟩
 | ok f =>
  cases f with
  | ret v =>
   rcases p with ⟨x, g, h1, h2, h3⟩ | ⟨a, vs, n, l, g, h1, h2, h3, h4, h5, h6⟩
   ·exact .inl ⟨x, g, h1, h2, hQ _ _ _ h3⟩
   ·exact .inr ⟨a, vs, n, l, g, h1, h2, h3, h4, h5, hQ _ _ _ h6⟩
  | next => exact p
  | brk => exact p
  | cont => exact p
set_option maxRecDepth 100000 in
theorem CallOk.at {W : Wd} {lv : Nat} {f : Value} {args : List PV} {kws : List (Str × PV)} {glob gl : List GObj} {a : CV} {b : Bool} {Q : CV → Bool → List GObj → Prop} {X : XV → List GObj → Prop} (h : CallOk W lv f args kws glob (fun r fr g => r = a ∧ fr = b ∧ g = gl) (fun _ _ => False)) (k : Q a b gl) :
  CallOk W lv f args kws glob Q X := h.mono (by rintro _ _ _ ⟨rfl, rfl, rfl⟩; exact k) fun _ _ h => h.elim
theorem CallOk.atE {W : Wd} {lv : Nat} {f : Value} {args : List PV} {kws : List (Str × PV)} {glob gl : List GObj} {a a' : CV} {b : Bool} {Q : CV → Bool → List GObj → Prop} {X : XV → List GObj → Prop} (h : CallOk W lv f args kws glob (fun r fr g => r = a ∧ fr = b ∧ g = gl) (fun _ _ => False)) (e : a = a') (k : Q a' b gl) :
  CallOk W lv f args kws glob Q X := h.at (e ▸ k)
theorem range_small {n : Nat} (h : n ≤ 1000000) : Builtin.Range.small 0 n 1 = true ∧ Builtin.Range.rangeSize 0 n 1 = n := by
 have e : Builtin.Range.rangeSize 0 n 1 = n := by rw [rangeSize_nat]; simp
 exact ⟨small_one (by omega) (by omega) (by omega) (by omega), e⟩
theorem itemsOf_range {st : St} {n : Nat} (h : n ≤ 1000000) : itemsOf st (.c (.range 0 n 1)) = some (rangeItems 0 n 1) := by
 have sm := range_small h
 show (if Builtin.Range.small 0 n 1 = true ∧ 0 ≤ Builtin.Range.rangeSize 0 n 1 then some (rangeItems 0 n 1) else none) = _
 rw [if_pos]
 exact ⟨sm.1, by rw [sm.2]; exact Int.natCast_nonneg n⟩
theorem rangeItems_drop {n k : Nat} (hn : n ≤ 1000000) (h : k < n) : (rangeItems 0 n 1).drop k = .int k :: (rangeItems 0 n 1).drop (k + 1) := by
 have e := (range_small hn).2
 have hl : k < (rangeItems 0 n 1).length := by unfold rangeItems; rw [e]; simpa using h
 rw [List.drop_eq_getElem_cons hl]
 congr 1
 simp [rangeItems]
section
variable {cx : Cx} {st : St} {X : XV → St → Prop}
theorem ExS.forRange (C : cx.Ok) (hn : cx.hn = true) (hce : cx.env = cx.fenv) {target iter : Expr} {body : List Stmt} {pos : Pos} {Q : Fl → St → Prop} {n : Nat} (P : Nat → St → Prop) (hz : n ≤ 1000000)
  (h : EvE cx iter st (fun p st₁ => p = .c (.range 0 n 1) ∧ P 0 st₁) X)
  (step : ∀ k st₂, k < n → P k st₂ → AsG cx target (.c (.int k)) st₂ (fun st₃ => ExB cx body st₃ (bodyQ Q (P (k + 1))) X) X)
  (done : ∀ st₂, P n st₂ → Q .next st₂) (hs : ∀ x, foldedSetIterable iter cx.env x = pure x := by intro _; rfl) : ExS cx (.For target iter body [] pos) st Q X := by
 have sm := range_small hz
 have hl : (rangeItems 0 n 1).length = n := by unfold rangeItems; rw [sm.2]; simp
 refine ExS.for C hn hce (fun items st => ∃ k, items = (rangeItems 0 n 1).drop k ∧ k ≤ n ∧ P k st) ?_ ?_ ?_ hs
 ·refine EvE.mono h (fun p st₁ ⟨hp, h0⟩ => ?_) fun _ _ x => x
  subst hp
  refine ⟨rangeItems 0 n 1, ?_, ⟨0, rfl, Nat.zero_le _, h0⟩, fun q e => xns e⟩
  exact itemsOf_range hz
 ·rintro x r st₂ ⟨k, e, hk, hp⟩
  have hk : k < n := by
   rcases Nat.lt_or_ge k n with z | z
   ·exact z
   ·rw [List.drop_eq_nil_of_le (by omega)] at e; cases e
  rw [rangeItems_drop hz hk] at e
  cases e
  have := step k st₂ hk hp
  intro gh s v R rv
  refine wpAny_mono (this gh s v R rv) ?_ fun _ _ x => x
  rintro _ s' ⟨st', gh', a, b, c, q⟩
  refine ⟨st', gh', a, b, c, ExB.mono q (fun f st h => ?_) fun _ _ x => x⟩
  cases f with
  | next => exact ⟨k + 1, rfl, hk, h⟩
  | cont => exact ⟨k + 1, rfl, hk, h⟩
  | brk => exact h
  | ret => exact h
 ·rintro st₂ ⟨k, e, hk, hp⟩
  have : k = n := by
   have := congrArg List.length e
   rw [List.length_drop, hl] at this
   simp at this; omega
  subst this
  exact done _ hp
end
noncomputable def sc (bc c : Nat) : Int := subCost (S [bc]) (S [c])
noncomputable def inner (bc : Nat) : List Nat → List Int → Int → Int → Int → List Int × Int × Int
 | c :: as, x :: row, d, r, mn =>
  let r' := min (min r x + 2) (d + sc bc c)
  let q := inner bc as row x r' (if r' < mn then r' else mn)
  (r' :: q.1, q.2)
 | _, row, _, r, mn => (row, r, mn)
noncomputable def outer (a : List Nat) (m : Int) : List Nat → Nat → List Int → Int → Int
 | [], _, _, r => r
 | bc :: bs, k, row, _ =>
  let q := inner bc a row (k * 2) (k * 2) 9223372036854775807
  if m < q.2.2 then m + 1 else outer a m bs (k + 1) q.1 q.2.1
noncomputable def LowerOk (l : List Nat) : Prop := ∀ c ∈ l, Builtin.Str.tooLong (Txt.lower (S [c])).length = false
section
variable {cx : Cx} {X : XV → St → Prop}
theorem inner_len (bc : Nat) : ∀ (as : List Nat) (row : List Int) (d r mn : Int), as.length = row.length → (inner bc as row d r mn).1.length = row.length
 | [], [], _, _, _, _ => rfl
 | [], _ :: _, _, _, _, h => Nat.noConfusion h
 | _ :: _, [], _, _, _, h => Nat.noConfusion h
 | c :: as, x :: row, d, r, mn, h => by
  exact congrArg Nat.succ (inner_len bc as row _ _ _ (Nat.succ.inj h))
noncomputable def Ob (p : Option PV) : Prop := True
noncomputable abbrev frD (la lb : List Nat) (m : Int) (p3 p4 : Option PV) (r : Int) (b7 b8 : Option PV) (d mn : Int) (o11 o12 o13 : Option PV) : List (Option PV) :=
 [T la, T lb, m' m, p3, p4, some (.loc 0), I r, b7, b8, I d, I mn, o11, o12, o13]
inductive MinG (p q : PV) (K : Int → Prop) : Prop
 | mk (a b : Int) (e : p = .c (.int a)) (f : q = .c (.int b)) (k : K (min a b))
theorem ev_min (L : LevCx cx) {st : St} {e1 e2 : Expr} {p pos : Pos} {Q : PV → St → Prop}
  (h : EvE cx e1 st (fun p1 st₁ => EvE cx e2 st₁ (fun p2 st₂ => MinG p1 p2 fun r => Q (.c (.int r)) st₂) X) X)
  (h1 : ∀ env, starEach [e1, e2] env = (false, eval e1 env) :: starEach [e2] env := by intro _; rfl) (h2 : ∀ env, starEach [e2] env = (false, eval e2 env) :: starEach [] env := by intro _; rfl) : EvE cx (.Call (.Name "min" p) [e1, e2] [] pos) st Q X := by
 refine EvE.app (EvE.glob (i := 6) (j := 6) L.ok (L.g 6 rfl) (L.t 6 rfl) ⟨_, rfl, .builtin, EvL.cons (EvE.mono h (fun p1 st₁ h => EvL.cons (EvE.mono h (fun p2 st₂ h => EvL.nil ?_) fun _ _ x => x) h2) fun _ _ x => x) h1⟩) (fun env => by rw [h1, h2]; rfl) (fun env => by rw [h1, h2]; rfl)
 obtain ⟨a, b, rfl, rfl, hq⟩ := h
 exact Prim.min2 (L.ok.hn L.hn) hq
noncomputable def innSt : Stmt := (whBody (levSt 15)).getD 3 (.Pass default)
theorem ints_set (done : List Int) (x y : Int) (rest : List Int) : ((done ++ x :: rest).map CV.int).set done.length (.int y) = (done ++ y :: rest).map CV.int := by
 rw [← List.map_set, List.set_append_right _ _ (Nat.le_refl _), Nat.sub_self]; rfl
theorem LevCx.vmin (L : LevCx cx) {st : St} {e1 e2 : Expr} {p pos : Pos} {a b : Int} (ha : EvV cx e1 st (.c (.int a))) (hb : EvV cx e2 st (.c (.int b)))
  (h1 : ∀ env, starEach [e1, e2] env = (false, eval e1 env) :: starEach [e2] env := by intro _; rfl) (h2 : ∀ env, starEach [e2] env = (false, eval e2 env) :: starEach [] env := by intro _; rfl) : EvV cx (.Call (.Name "min" p) [e1, e2] [] pos) st (.c (.int (min a b))) :=
 fun _ _ q => ev_min L (ha _ _ (hb _ _ ⟨a, b, rfl, rfl, q⟩)) h1 h2
theorem pick_mid (done tl : List Int) (x : Int) : (pick ((done ++ x :: tl).map CV.int) ((done.length : Nat) : Int)).map PV.c = some (.c (.int x)) := by
 unfold pick seqIndex?
 simp only [show ¬ (((done.length : Nat) : Int) < 0) from by omega, if_false]
 rw [if_pos (by rw [Bool.and_eq_true, decide_eq_true_eq, decide_eq_true_eq, List.length_map, List.length_append, List.length_cons]; omega)]
 show (((done ++ x :: tl).map CV.int)[((done.length : Nat) : Int).toNat]?).map PV.c = _
 rw [Int.toNat_natCast, List.getElem?_map, List.getElem?_append_right (Nat.le_refl _), Nat.sub_self]; rfl
theorem stepInn (L : LevCx cx) {g : List GObj} {la lb : List Nat} {m : Int} {p3 p4 b7 o12 o13 : Option PV} {bc c : Nat} {done tl : List Int} {x r mn d : Int} {Q : Fl → St → Prop} {J : St → Prop} (hc : la[done.length]? = some c) (hz : (done ++ x :: tl).length ≤ 1000) (lc : Builtin.Str.tooLong (Txt.lower (S [c])).length = false) (lb' : Builtin.Str.tooLong (Txt.lower (S [bc])).length = false)
  (h : ∀ r' mn', r' = min (min r x + 2) (d + sc bc c) → mn' = (if r' < mn then r' else mn) → ∀ o11 o12 o13, J ⟨g, [((done ++ [r']) ++ tl).map .int], frD la lb m p3 p4 r' b7 (T [bc]) x mn' o11 o12 o13, []⟩) :
  ExB cx (whBody innSt) ⟨g, [(done ++ x :: tl).map .int], frD la lb m p3 p4 r b7 (T [bc]) d mn (I (done.length : Nat)) o12 o13, []⟩ (bodyQ Q J) X := by
 obtain ⟨fd, F⟩ := L.top.f45
 obtain ⟨o, ho, hd'⟩ := F.ok.obj
 have hl : done.length < (done ++ x :: tl).length := by rw [List.length_append, List.length_cons]; omega
 have hk : done.length < 1000 := Nat.lt_of_lt_of_le hl hz
 have hk2 : ((done.length : Nat) : Int) < 2 ^ 62 := by omega
 have hlen : ((done ++ x :: tl).map CV.int).length = (done ++ x :: tl).length := List.length_map _
 have hsub : ∀ st, PrimV cx (.ref 45) [.c (.str (S [bc])), .c (.str (S [c]))] st (.c (.int (sc bc c))) := fun st _ _ q => Prim.fn (lv := 1) L.ok L.hn L.lv rfl ((call_sub (lv := 0) L.top lb' lc).mono (by rintro _ _ _ ⟨rfl, rfl, rfl⟩; exact q) fun _ _ h => h.elim)
 refine L.bset 12 (.bin (L.vv 9 rfl rfl) (.app (L.gv 5 3 rfl rfl) (.fn ho hd') (.cons (L.vv 8 rfl rfl) (.cons (.idxS (L.vv 0 rfl rfl) (L.vv 11 rfl rfl) hc hk) .nil)) (hsub _)) rfl trivial) ?_
 refine L.bset 9 (.idx (L.vv 5 rfl rfl) (L.vv 11 rfl rfl) (nz _) hk2 (pick_mid done tl x)) ?_
 refine L.bset 13 (.bin (L.vmin (L.vv 6 rfl rfl) (L.vv 9 rfl rfl)) (L.gv 0 1 rfl rfl) rfl trivial) ?_
 refine L.bset 6 (L.vmin (L.vv 13 rfl rfl) (L.vv 12 rfl rfl)) ?_
 refine ExB.cons (ExS.setIdx (EvE.v (L.vv 6 rfl rfl) (EvE.v (L.vv 5 rfl rfl) (EvE.v (L.vv 11 rfl rfl) ⟨_, done.length, (done ++ x :: tl).map .int, rfl, rfl, rfl, rfl, Int.natCast_nonneg _, Int.ofNat_lt.mpr (hlen ▸ hl), hlen ▸ Nat.le_trans hz (by decide), ?_⟩))) rfl)
 have hst : ((done ++ x :: tl).map CV.int).set (((done.length : Nat) : Int)).toNat (.int (min (min r x + 2) (d + sc bc c))) = ((done ++ [min (min r x + 2) (d + sc bc c)]) ++ tl).map CV.int := by
  rw [Int.toNat_natCast, ints_set, List.append_assoc]; rfl
 refine ExB.ifp (.cmp (L.vv 6 rfl rfl) (L.vv 10 rfl rfl) rfl) (fun e => ?_) fun e => ?_
 ·refine L.bset 10 (L.vv 6 rfl rfl) (ExB.nil (ExB.nil ?_))
  have := h _ _ rfl (if_pos (of_decide_eq_true e)).symm (I (done.length : Nat)) (I (d + sc bc c)) (I (min r x + 2))
  rw [← hst] at this
  exact this
 ·refine ExB.nil ?_
  have := h _ _ rfl (if_neg (of_decide_eq_false e)).symm (I (done.length : Nat)) (I (d + sc bc c)) (I (min r x + 2))
  rw [← hst] at this
  exact this
inductive JInn (g : List GObj) (la lb : List Nat) (m : Int) (p3 p4 b7 : Option PV) (bc : Nat) (row0 : List Int) (R : List Int × Int × Int) (k : Nat) (st : St) : Prop
 | mk (done : List Int) (r mn d : Int) (o11 o12 o13 : Option PV) (hd : done.length = k) (e : st = ⟨g, [(done ++ row0.drop k).map .int], frD la lb m p3 p4 r b7 (T [bc]) d mn o11 o12 o13, []⟩)
   (he : R = (done ++ (inner bc (la.drop k) (row0.drop k) d r mn).1, (inner bc (la.drop k) (row0.drop k) d r mn).2))
theorem lev_inner (L : LevCx cx) {g : List GObj} {la lb : List Nat} {m : Int} {p3 p4 b7 o11 o12 o13 : Option PV} {bc : Nat} {row0 : List Int} {d0 r0 mn0 : Int} {Q : Fl → St → Prop} (hl : la.length = row0.length) (hz : la.length ≤ 1000) (lo : LowerOk (bc :: la))
  (h : ∀ o11 o12 o13 d, Q .next ⟨g, [((inner bc la row0 d0 r0 mn0).1.map .int)], frD la lb m p3 p4 (inner bc la row0 d0 r0 mn0).2.1 b7 (T [bc]) d (inner bc la row0 d0 r0 mn0).2.2 o11 o12 o13, []⟩) :
  ExS cx innSt ⟨g, [row0.map .int], frD la lb m p3 p4 r0 b7 (T [bc]) d0 mn0 o11 o12 o13, []⟩ Q X := by
 generalize hR : inner bc la row0 d0 r0 mn0 = R at h
 refine ExS.forRange L.ok L.hn L.ce (n := la.length) (JInn g la lb m p3 p4 b7 bc row0 R) (Nat.le_trans hz (by decide)) ?_ ?_ ?_
 ·exact EvE.v (.app (L.gv 4 7 rfl rfl) .type (.cons (.app (L.gv 1 5 rfl rfl) .builtin (.cons (L.vv 0 rfl rfl) .nil) fun _ _ q => Prim.lenS hz q) .nil) fun _ _ q => Prim.range1 q) ⟨rfl, [], r0, mn0, d0, o11, o12, o13, rfl, rfl, hR.symm⟩
 ·rintro k _ hk ⟨done, r, mn, d, o11, o12, o13, rfl, rfl, he⟩
  obtain ⟨c, hc⟩ : ∃ c, la[done.length]? = some c := ⟨_, List.getElem?_eq_getElem hk⟩
  have hkr : done.length < row0.length := hl ▸ hk
  have dl : la.drop done.length = c :: la.drop (done.length + 1) := by rw [List.drop_eq_getElem_cons hk]; obtain rfl := Option.some.inj ((List.getElem?_eq_getElem hk).symm.trans hc); rfl
  have dr : row0.drop done.length = row0[done.length] :: row0.drop (done.length + 1) := List.drop_eq_getElem_cons hkr
  rw [dl, dr] at he
  rw [dr]
  have hz2 : (done ++ row0[done.length] :: row0.drop (done.length + 1)).length ≤ 1000 := by rw [← dr, List.length_append, List.length_drop]; omega
  refine AsG.name (i := 11) L.ok (L.s 11 rfl) (.inl rfl) (stepInn L hc hz2 (lo c (.tail _ (List.mem_of_getElem? hc))) (lo bc (.head _)) fun r' mn' e1 e2 o11 o12 o13 => ⟨done ++ [r'], r', mn', row0[done.length], o11, o12, o13, List.length_append, rfl, ?_⟩)
  subst e1 e2
  rw [he, List.append_assoc]; rfl
 ·rintro _ ⟨done, r, mn, d, o11, o12, o13, hd, rfl, he⟩
  rw [show la.drop la.length = [] from List.drop_length, show row0.drop la.length = [] by rw [hl, List.drop_length]] at he
  rw [show row0.drop la.length = [] by rw [hl, List.drop_length]]
  subst he
  exact h ..
end
section
variable {cx : Cx} {X : XV → St → Prop}
noncomputable abbrev frO (la lb : List Nat) (m : Int) (p3 p4 : Option PV) (r : Int) (o7 o8 o9 o10 o11 o12 o13 : Option PV) : List (Option PV) :=
 [T la, T lb, m' m, p3, p4, some (.loc 0), I r, o7, o8, o9, o10, o11, o12, o13]
inductive JOut (g : List GObj) (la lb : List Nat) (m : Int) (p3 p4 : Option PV) (R : Int) (k : Nat) (st : St) : Prop
 | mk (row : List Int) (r : Int) (o7 o8 o9 o10 o11 o12 o13 : Option PV) (hr : row.length = la.length) (e : st = ⟨g, [row.map .int], frO la lb m p3 p4 r o7 o8 o9 o10 o11 o12 o13, []⟩) (he : R = outer la m (lb.drop k) k row r)
theorem stepOut (L : LevCx cx) {g : List GObj} {la lb : List Nat} {m : Int} {p3 p4 o8 o9 o10 o11 o12 o13 : Option PV} {c k : Nat} {row : List Int} {r : Int} {Q : Fl → St → Prop} {J : St → Prop} (hc : lb[k]? = some c) (hk : k < 1000) (hr : la.length = row.length) (hz : la.length ≤ 1000) (lo : LowerOk (c :: la))
  (hret : m < (inner c la row (k * 2) (k * 2) 9223372036854775807).2.2 → ∀ loc fr, Q (.ret (.c (.int (m + 1)))) ⟨g, loc, fr, []⟩)
  (h : ¬ m < (inner c la row (k * 2) (k * 2) 9223372036854775807).2.2 → ∀ o8 o9 o10 o11 o12 o13, J ⟨g, [(inner c la row (k * 2) (k * 2) 9223372036854775807).1.map .int], frO la lb m p3 p4 (inner c la row (k * 2) (k * 2) 9223372036854775807).2.1 (I k) o8 o9 o10 o11 o12 o13, []⟩) :
  ExB cx (whBody (levSt 15)) ⟨g, [row.map .int], frO la lb m p3 p4 r (I k) o8 o9 o10 o11 o12 o13, []⟩ (bodyQ Q J) X := by
 refine L.bset 8 (.idxS (L.vv 1 rfl rfl) (L.vv 7 rfl rfl) hc hk) ?_
 refine ExB.cons (ExS.asg2 (i := 9) (j := 6) L.ok (L.s 9 rfl) (.inl rfl) (L.s 6 rfl) (.inl rfl) (EvE.v (.bin (L.vv 7 rfl rfl) (L.gv 0 1 rfl rfl) rfl (.inr (by decide))) ?_) rfl)
 refine L.bset 10 .int ?_
 refine ExB.cons (lev_inner (X := X) L (g := g) (la := la) (lb := lb) (m := m) (p3 := p3) (p4 := p4) (b7 := I k) (o11 := o11) (o12 := o12) (o13 := o13) (bc := c) (row0 := row) (d0 := k * 2) (r0 := k * 2) (mn0 := 9223372036854775807) hr hz lo fun o11 o12 o13 d => ?_)
 exact ExB.ifp (.cmp (L.vv 10 rfl rfl) (L.vv 2 rfl rfl) rfl) (fun e => ExB.ret (.bin (L.vv 2 rfl rfl) .int rfl trivial) (hret (of_decide_eq_true e) _ _)) fun e => ExB.nil (h (of_decide_eq_false e) ..)
theorem lev_outer (L : LevCx cx) {g : List GObj} {la lb : List Nat} {m : Int} {p3 p4 o7 o8 o9 o10 o11 o12 o13 : Option PV} {row0 : List Int} {r0 : Int} {Q : Fl → St → Prop} (hl : la.length = row0.length) (hz : la.length ≤ 1000) (hb : lb.length ≤ 1000) (lo : LowerOk (lb ++ la))
  (hret : outer la m lb 0 row0 r0 = m + 1 → ∀ loc fr, Q (.ret (.c (.int (m + 1)))) ⟨g, loc, fr, []⟩)
  (hnext : ∀ row o7 o8 o9 o10 o11 o12 o13, Q .next ⟨g, [row], frO la lb m p3 p4 (outer la m lb 0 row0 r0) o7 o8 o9 o10 o11 o12 o13, []⟩) :
  ExS cx (levSt 15) ⟨g, [row0.map .int], frO la lb m p3 p4 r0 o7 o8 o9 o10 o11 o12 o13, []⟩ Q X := by
 generalize hR : outer la m lb 0 row0 r0 = R at hret hnext
 refine ExS.forRange L.ok L.hn L.ce (n := lb.length) (JOut g la lb m p3 p4 R) (Nat.le_trans hb (by decide)) ?_ ?_ ?_
 ·exact EvE.v (.app (L.gv 4 7 rfl rfl) .type (.cons (.app (L.gv 1 5 rfl rfl) .builtin (.cons (L.vv 1 rfl rfl) .nil) fun _ _ q => Prim.lenS hb q) .nil) fun _ _ q => Prim.range1 q) ⟨rfl, row0, r0, o7, o8, o9, o10, o11, o12, o13, hl.symm, rfl, hR.symm⟩
 ·rintro k _ hk ⟨row, r, o7, o8, o9, o10, o11, o12, o13, hr, rfl, he⟩
  obtain ⟨c, hc⟩ : ∃ c, lb[k]? = some c := ⟨_, List.getElem?_eq_getElem hk⟩
  have dl : lb.drop k = c :: lb.drop (k + 1) := by rw [List.drop_eq_getElem_cons hk]; obtain rfl := Option.some.inj ((List.getElem?_eq_getElem hk).symm.trans hc); rfl
  have lo' : LowerOk (c :: la) := fun x hx => by
   rcases List.mem_cons.mp hx with rfl | hx
   ·exact lo x (List.mem_append_left _ (List.mem_of_getElem? hc))
   ·exact lo x (List.mem_append_right _ hx)
  rw [dl] at he
  replace he : R = if m < (inner c la row (k * 2) (k * 2) 9223372036854775807).2.2 then m + 1 else outer la m (lb.drop (k + 1)) (k + 1) (inner c la row (k * 2) (k * 2) 9223372036854775807).1 (inner c la row (k * 2) (k * 2) 9223372036854775807).2.1 := he
  exact AsG.name (i := 7) L.ok (L.s 7 rfl) (.inl rfl) (stepOut L hc (Nat.lt_of_lt_of_le hk hb) hr.symm hz lo' (fun e => hret (he.trans (if_pos e))) fun e o8 o9 o10 o11 o12 o13 => ⟨_, _, I k, o8, o9, o10, o11, o12, o13, (inner_len _ _ _ _ _ _ hr.symm).trans hr, rfl, he.trans (if_neg e)⟩)
 ·rintro _ ⟨row, r, o7, o8, o9, o10, o11, o12, o13, hr, rfl, he⟩
  rw [show lb.drop lb.length = [] from List.drop_length] at he
  subst he
  exact hnext ..
end
noncomputable def strip (a b : List Nat) : List Nat × List Nat :=
 let a1 := a.drop (cpre a b)
 let b1 := b.drop (cpre a b)
 let j := cpre a1.reverse b1.reverse
 (a1.take (a1.length - j), b1.take (b1.length - j))
noncomputable def levT (x y : List Nat) (m : Int) : Int :=
 if ((y.length : Int) - x.length) * 2 > m then m + 1 else outer x m y 0 ((List.range x.length).map fun (i : Nat) => 2 + (i : Int) * 2) 0
noncomputable def levD (a b : List Nat) (m : Int) : Int :=
 if a = b then 0 else
 let x := (strip a b).1
 let y := (strip a b).2
 if x = [] ∨ y = [] then 2 * ((x.length : Int) + y.length) else
 if x.length > 40 ∨ y.length > 40 then m + 1 else
 if y.length < x.length then levT y x m else levT x y m
theorem range2 {n : Nat} (h0 : 0 < n) (h : n ≤ 1000) : Builtin.Range.small 2 (2 * ((n : Int) + 1)) 2 = true ∧ Builtin.Range.rangeSize 2 (2 * ((n : Int) + 1)) 2 = n := by
 have e : Builtin.Range.rangeSize 2 (2 * ((n : Int) + 1)) 2 = n := by
  unfold Builtin.Range.rangeSize
  rw [if_pos (by decide), if_pos (by omega)]
  omega
 refine ⟨?_, e⟩
 have fit : ∀ x : Int, -(2 ^ 62) ≤ x → x < 2 ^ 62 → Builtin.Range.rangeFitsLong x = true := by
  intro x h1 h2
  unfold Builtin.Range.rangeFitsLong
  rw [decide_eq_true (by omega), decide_eq_true (by omega)]; rfl
 unfold Builtin.Range.small
 rw [e, fit 2 (by omega) (by omega), fit (2 * ((n : Int) + 1)) (by omega) (by omega), fit n (by omega) (by omega), if_pos (by decide), fit _ (by omega) (by omega)]
 simp
theorem LowerOk.sub {l l' : List Nat} (h : LowerOk l) (s : ∀ x ∈ l', x ∈ l) : LowerOk l' := fun c hc => h c (s c hc)
section
variable {cx : Cx} {X : XV → St → Prop}
theorem Prim.listRangeE {cx : Cx} {st : St} {X : XV → St → Prop} (hh : cx.A.handled = none) {a b c : Int} {n : Nat} {l : List CV} {Q : PV → St → Prop} (hs : Builtin.Range.small a b c = true) (hn : Builtin.Range.rangeSize a b c = n) (hl : n ≤ 2 ^ 24) (e : rangeItems a b c = l) (h : Q (.loc st.loc.length) { st with loc := st.loc ++ [l] }) : Prim cx (.type "list") [.c (.range a b c)] st Q X := by
 subst e; exact Prim.listRange hh hs hn hl h
theorem LevCx.vlen (L : LevCx cx) {st : St} {p q pos : Pos} {x : Str} {l : List Nat} (h : EvV cx (.Name x q) st (.c (.str (S l)))) (hz : l.length ≤ 1000) : EvV cx (.Call (.Name "len" p) [.Name x q] [] pos) st (.c (.int l.length)) := .app (L.gv 1 5 rfl rfl) .builtin (.cons h .nil) fun _ _ q => Prim.lenS hz q
theorem lev_tail (L : LevCx cx) {g : List GObj} {x y : List Nat} {m : Int} {p3 p4 o6 o7 o8 o9 o10 o11 o12 o13 : Option PV} {Q : Fl → St → Prop} (hx0 : 0 < x.length) (hx : x.length ≤ 1000) (hy : y.length ≤ 1000) (lo : LowerOk (y ++ x))
  (h : ∀ loc fr, Q (.ret (.c (.int (levT x y m)))) ⟨g, loc, fr, []⟩) :
  ExB cx ((defAt 7).body.drop 12) ⟨g, [], [T x, T y, m' m, p3, p4, none, o6, o7, o8, o9, o10, o11, o12, o13], []⟩ Q X := by
 refine ExB.ifp (.cmp (.bin (.bin (L.vlen (L.vv 1 rfl rfl) hy) (L.vlen (L.vv 0 rfl rfl) hx) rfl trivial) (L.gv 0 1 rfl rfl) rfl (.inr (by decide))) (L.vv 2 rfl rfl) rfl) (fun e => ?_) fun e => ?_
 ·exact ExB.ret (.bin (L.vv 2 rfl rfl) .int rfl trivial) ((show levT x y m = m + 1 from if_pos (of_decide_eq_true e)) ▸ h _ _)
 ·rw [show levT x y m = outer x m y 0 ((List.range x.length).map fun (i : Nat) => 2 + (i : Int) * 2) 0 from if_neg (of_decide_eq_false e)] at h
  have r2 := range2 hx0 hx
  have hri : rangeItems 2 (2 * ((x.length : Int) + 1)) 2 = ((List.range x.length).map fun (i : Nat) => 2 + (i : Int) * 2).map .int := by
   unfold rangeItems
   rw [r2.2, Int.toNat_natCast, List.map_map]; rfl
  refine ExB.cons (ExS.asgName (i := 5) L.ok (L.s 5 rfl) (.inl rfl) (EvE.app (EvE.glob (i := 3) (j := 8) L.ok (L.g 3 rfl) (L.t 8 rfl) ⟨_, rfl, .type, EvL.cons (EvE.v (.app (L.gv 4 7 rfl rfl) .type (.cons (L.gv 0 1 rfl rfl) (.cons (.bin (L.gv 0 1 rfl rfl) (.bin (L.vlen (L.vv 0 rfl rfl) hx) .int rfl trivial) rfl (.inl (by decide))) (.cons (L.gv 0 1 rfl rfl) .nil))) fun _ _ q => Prim.range3 (by decide) (PyProof.noPylong_small (by decide)) q)
   (EvL.nil (Prim.listRangeE (L.ok.hn L.hn) r2.1 r2.2 (Nat.le_trans hx (by decide)) hri ?_)))⟩)) rfl)
  refine L.bset 6 .int ?_
  exact ExB.cons (lev_outer L (g := g) (la := x) (lb := y) (m := m) (p3 := p3) (p4 := p4) (o7 := o7) (o8 := o8) (o9 := o9) (o10 := o10) (o11 := o11) (o12 := o12) (o13 := o13) (r0 := 0) (row0 := (List.range x.length).map fun (i : Nat) => 2 + (i : Int) * 2) (by simp) hx hy lo (fun e loc fr => e ▸ h loc fr) fun row o7 o8 o9 o10 o11 o12 o13 => ExB.ret (L.vv 6 rfl rfl) (h ..))
end
theorem RetOk.c {n : Nat} {Q : CV → Bool → List GObj → Prop} {x : CV} {st : St} (hg : st.glob.length = n) (h : Q x false st.glob) : RetOk n Q (.ret (.c x)) st :=
 ⟨x, false, rfl, xff, .inl hg, by rw [← hg, List.take_length]; exact h⟩
section
variable {cx : Cx} {X : XV → St → Prop}
theorem EvT.mono {e : Expr} {st : St} {Q Q' : Bool → St → Prop} (h : EvT cx e st Q X) (hQ : ∀ b st, Q b st → Q' b st) : EvT cx e st Q' X :=
 fun gh s R => wpAny_mono (h gh s R) (fun _ _ ⟨st, g, a, b, c, q⟩ => ⟨st, g, a, b, c, hQ _ _ q⟩) fun _ _ x => x
theorem EvT.yes {e : Expr} {st : St} {Q : Bool → St → Prop} {P : Prop} (h : EvT cx e st (fun c st' => st' = st ∧ (c = true ↔ P)) X) (h1 : P → Q true st) (h2 : ¬ P → Q false st) : EvT cx e st Q X :=
 EvT.mono h fun c st' ⟨e, hc⟩ => by
  subst e
  cases c with
  | true => exact h1 (hc.mp rfl)
  | false => exact h2 fun p => xff (hc.mpr p)
noncomputable def levX (x y : List Nat) (m : Int) : Int :=
 if x = [] ∨ y = [] then 2 * ((x.length : Int) + y.length) else
 if x.length > 40 ∨ y.length > 40 then m + 1 else
 if y.length < x.length then levT y x m else levT x y m
theorem lev_head2 (L : LevCx cx) {g : List GObj} {x y : List Nat} {m : Int} {o3 o4 : Option PV} {Q : Fl → St → Prop} (hx : x.length ≤ 1000) (hy : y.length ≤ 1000) (lyx : LowerOk (y ++ x)) (lxy : LowerOk (x ++ y))
  (h : ∀ loc fr, Q (.ret (.c (.int (levX x y m)))) ⟨g, loc, fr, []⟩) :
  ExB cx ((defAt 7).body.drop 9) ⟨g, [], [T x, T y, m' m, o3, o4, none, none, none, none, none, none, none, none, none], []⟩ Q X := by
 unfold levX at h
 refine ExB.ifp (.or2 (.not (.val (L.vv 0 rfl rfl) (truB_S x) (truS_S hx))) (.not (.val (L.vv 1 rfl rfl) (truB_S y) (truS_S hy)))) (fun e => ?_) fun e => ?_
 ·rw [if_pos (by simpa using e)] at h
  exact ExB.ret (.bin (L.gv 0 1 rfl rfl) (.bin (L.vlen (L.vv 0 rfl rfl) hx) (L.vlen (L.vv 1 rfl rfl) hy) rfl trivial) rfl (.inl (by decide))) (h _ _)
 have hxy : ¬ (x = [] ∨ y = []) := by simpa using e
 rw [if_neg hxy] at h
 clear e
 refine ExB.ifp (.or2 (.cmp (L.vlen (L.vv 0 rfl rfl) hx) (L.gv 2 2 rfl rfl) rfl) (.cmp (L.vlen (L.vv 1 rfl rfl) hy) (L.gv 2 2 rfl rfl) rfl)) (fun e => ?_) fun e => ?_
 ·rw [if_pos (by rw [Bool.or_eq_true, decide_eq_true_eq, decide_eq_true_eq] at e; omega)] at h
  exact ExB.ret (.bin (L.vv 2 rfl rfl) .int rfl trivial) (h _ _)
 rw [if_neg (by rw [Bool.or_eq_false_iff, decide_eq_false_iff_not, decide_eq_false_iff_not] at e; omega)] at h
 clear e
 refine ExB.ite (.cmp (L.vlen (L.vv 1 rfl rfl) hy) (L.vlen (L.vv 0 rfl rfl) hx) rfl) (fun e => ?_) fun e => ?_
 ·rw [if_pos (Int.ofNat_lt.mp (of_decide_eq_true e))] at h
  refine ExB.cons (ExS.swap2 (i := 0) (j := 1) L.ok L.hn (L.s 0 rfl) (L.s 1 rfl) (EvE.v (.tup (l := [.str (S y), .str (S x)]) (.cons (L.vv 1 rfl rfl) (.cons (L.vv 0 rfl rfl) .nil)) rfl (by simp)) ⟨_, _, rfl, ?_⟩) rfl ?_)
  ·exact ExB.nil (lev_tail L (List.length_pos_iff.mpr fun z => hxy (.inr z)) hy hx lxy h)
  ·have hs := L.scope
   revert hs
   generalize cx.env = E
   intro hs
   cases E
   dsimp only at hs
   subst hs
   rfl
 ·rw [if_neg fun z => of_decide_eq_false e (Int.ofNat_lt.mpr z)] at h
  exact ExB.nil (lev_tail L (List.length_pos_iff.mpr fun z => hxy (.inl z)) hx hy lyx h)
inductive StripOk (la lb : List Nat) : Prop
 | mk (a b x y : List Nat) (sa : Mine.sliceS (S la) (some (cpre la lb : Nat)) none = S a) (sb : Mine.sliceS (S lb) (some (cpre la lb : Nat)) none = S b) (ha : a.length ≤ 1000) (hb : b.length ≤ 1000)
   (ja : cpre a.reverse b.reverse ≤ a.length) (jb : cpre a.reverse b.reverse ≤ b.length) (ex : a.take (a.length - cpre a.reverse b.reverse) = x) (ey : b.take (b.length - cpre a.reverse b.reverse) = y)
   (hx : x.length ≤ 1000) (hy : y.length ≤ 1000) (lyx : LowerOk (y ++ x)) (lxy : LowerOk (x ++ y)) (hD : ∀ m, ¬ la = lb → levD la lb m = levX x y m)
theorem strip_ok {la lb : List Nat} (ha : la.length ≤ 1000) (hb : lb.length ≤ 1000) (lo : LowerOk (la ++ lb)) : StripOk la lb := by
 have ja := (cpre_le (la.drop (cpre la lb)).reverse (lb.drop (cpre la lb)).reverse).1
 have jb := (cpre_le (la.drop (cpre la lb)).reverse (lb.drop (cpre la lb)).reverse).2
 rw [List.length_reverse] at ja jb
 have lox : ∀ c ∈ (strip la lb).1, c ∈ la := fun c hc => List.mem_of_mem_drop (List.mem_of_mem_take hc)
 have loy : ∀ c ∈ (strip la lb).2, c ∈ lb := fun c hc => List.mem_of_mem_drop (List.mem_of_mem_take hc)
 have d1 : (la.drop (cpre la lb)).length ≤ 1000 := Nat.le_trans (List.length_drop ▸ Nat.sub_le ..) ha
 have d2 : (lb.drop (cpre la lb)).length ≤ 1000 := Nat.le_trans (List.length_drop ▸ Nat.sub_le ..) hb
 refine ⟨_, _, (strip la lb).1, (strip la lb).2, from_S la _ (cpre_le la lb).1, from_S lb _ (cpre_le la lb).2, d1, d2, ja, jb, rfl, rfl, Nat.le_trans (List.length_take ▸ Nat.min_le_right ..) d1, Nat.le_trans (List.length_take ▸ Nat.min_le_right ..) d2, lo.sub fun c hc => ?_, lo.sub fun c hc => ?_, fun m h => if_neg h⟩
 ·exact (List.mem_append.mp hc).elim (fun z => List.mem_append_right _ (loy c z)) fun z => List.mem_append_left _ (lox c z)
 ·exact (List.mem_append.mp hc).elim (fun z => List.mem_append_left _ (lox c z)) fun z => List.mem_append_right _ (loy c z)
theorem lev_head (L : LevCx cx) {g : List GObj} {la lb : List Nat} {m : Int} {Q : Fl → St → Prop} (ha : la.length ≤ 1000) (hb : lb.length ≤ 1000) (lo : LowerOk (la ++ lb))
  (h : ∀ loc fr, Q (.ret (.c (.int (levD la lb m)))) ⟨g, loc, fr, []⟩) :
  ExB cx (defAt 7).body ⟨g, [], [T la, T lb, m' m, none, none, none, none, none, none, none, none, none, none, none], []⟩ Q X := by
 refine ExB.ifp (.cmp (L.vv 0 rfl rfl) (L.vv 1 rfl rfl) rfl) (fun e => ?_) fun e => ?_
 ·rw [S_beq, beq_iff_eq] at e
  exact ExB.ret .int ((show levD la lb m = 0 from if_pos e) ▸ h _ _)
 have hne : ¬ la = lb := fun z => by subst z; rw [S_beq] at e; simp at e
 clear e
 obtain ⟨a, b, x, y, sa, sb, la1, lb1, ja, jb, ex, ey, hx, hy, lyx, lxy, hD⟩ := strip_ok ha hb lo
 rw [hD m hne] at h
 refine L.bset 3 .int ?_
 refine ExB.cons (lev_w1 L (r := [none, none, none, none, none, none, none, none, none, none]) ha hb ?_)
 refine L.bset 0 (.cut (L.vv 0 rfl rfl) (.some (L.vv 3 rfl rfl)) .none ha sa) ?_
 refine L.bset 1 (.cut (L.vv 1 rfl rfl) (.some (L.vv 3 rfl rfl)) .none hb sb) ?_
 refine L.bset 4 .int ?_
 refine ExB.cons (lev_w2 L (la := a) (lb := b) (k := (cpre la lb : Nat)) (r := [none, none, none, none, none, none, none, none, none]) la1 lb1 ?_)
 refine ExB.cons (ExS.asgName (i := 0) L.ok (L.s 0 rfl) (.inl rfl) (ev_upto L.ok (i := 0) (j := 4) (r := x) (L.s 0 rfl) rfl (L.s 4 rfl) rfl ja la1 ex ?_) rfl)
 refine ExB.cons (ExS.asgName (i := 1) L.ok (L.s 1 rfl) (.inl rfl) (ev_upto L.ok (i := 1) (j := 4) (r := y) (L.s 1 rfl) rfl (L.s 4 rfl) rfl jb lb1 ey ?_) rfl)
 exact lev_head2 L hx hy lyx lxy h
end
theorem call_lev {W : Wd} (Tp : Top W) {lv : Nat} {la lb : List Nat} {m : Int} {glob : List GObj} (ha : la.length ≤ 1000) (hb : lb.length ≤ 1000) (lo : LowerOk (la ++ lb)) :
  CallOk W (lv + 2) (.ref 52) [.c (.str (S la)), .c (.str (S lb)), .c (.int m)] [] glob (fun r fr g => r = .int (levD la lb m) ∧ fr = false ∧ g = glob) (fun _ _ => False) := by
 obtain ⟨fd, F⟩ := Tp.f52
 refine CallOk.def (bs := [("a", .c (.str (S la))), ("b", .c (.str (S lb))), ("max_cost", .c (.int m))]) F.ok (by rw [F.scope]; exact sc_lev) rfl ?_ ?_
 ·intro gh s vs ks _ r _
  refine ⟨vs, r, ?_⟩
  replace r := r.to3; obtain ⟨_, _, _, rfl, r1, r2, r3⟩ := r
  exact F.to (BindsTo.of_eq rfl)
 ·intro cx C hw hsc _ hgsc hlv hn hs hce
  refine lev_head ⟨C, hsc, hgsc, by rw [hw]; exact Tp.gt, hn, hce, hs.trans F.scope, by rw [hw]; exact Tp, by rw [hlv]; omega⟩ ha hb lo fun loc fr => ?_
  exact RetOk.c rfl ⟨rfl, rfl, rfl⟩
section
open PySem.SeqAt
noncomputable def pl : Nat → CV → Bool
 | _, .none => true
 | _, .bool _ => true
 | _, .int _ => true
 | _, .str _ => true
 | n + 1, .lst l => l.all (pl n)
 | n + 1, .tup l => l.all (pl n)
 | _, _ => false
theorem both_at {D : Addr → Prop} {h : Heap} {vs ws : Array Value} {l : List CV} (r1 : CRels D h vs.toList l) (r2 : CRels D h ws.toList l) (j : Nat) (h1 : j < vs.size) (h2 : j < ws.size) : ∃ c ∈ l, CRel D h vs[j] c ∧ CRel D h ws[j] c := by
 obtain ⟨x, hx, rx⟩ := r1.get j vs[j] (by rw [Array.getElem?_toList]; exact Array.getElem?_eq_getElem h1)
 obtain ⟨y, hy, ry⟩ := r2.get j ws[j] (by rw [Array.getElem?_toList]; exact Array.getElem?_eq_getElem h2)
 obtain rfl := Option.some.inj (hx.symm.trans hy)
 exact ⟨x, List.mem_of_getElem? hx, rx, ry⟩
theorem all_true (n : Nat) : (List.range n).all (fun _ => true) = true := by simp
theorem eq_lsts {s : Shared} {D : Addr → Prop} {A : Around} {l : List CV} {v w : Value} (hu : A.units < cLine) (r1 : LstI D s.heap v l) (r2 : LstI D s.heap w l) (k : ∀ c ∈ l, ∀ v w, CRel D s.heap v c → CRel D s.heap w c → EqAt A.in1 s v w true) : EqAt A s v w true := by
 obtain ⟨a1, vs1, n1, e1, h1, _, rs1⟩ := r1
 obtain ⟨a2, vs2, n2, e2, h2, _, rs2⟩ := r2
 rw [e1, e2]
 by_cases hab : a1 = a2
 ·exact hab ▸ EqAt.same _
 ·have := RcAt.lists (A := A) (e := fun _ => true) (⟨_, h1, rfl, n1, rfl⟩ : s.heap.IsList a1 vs1) (⟨_, h2, rfl, n2, rfl⟩ : s.heap.IsList a2 vs2) (rs1.len.trans rs2.len.symm) hu fun j q1 q2 => by
   obtain ⟨c, hc, ra, rb⟩ := both_at rs1 rs2 j q1 q2
   exact k c hc _ _ ra rb
  rw [all_true] at this
  exact .of_refs hab this
theorem eq_tups {s : Shared} {D : Addr → Prop} {A : Around} {l : List CV} {v w : Value} (hu : A.units < cLine) (r1 : TupI D s.heap v l) (r2 : TupI D s.heap w l) (k : ∀ c ∈ l, ∀ v w, CRel D s.heap v c → CRel D s.heap w c → EqAt A.in1 s v w true) : EqAt A s v w true := by
 obtain ⟨a1, vs1, e1, h1, _, rs1⟩ := r1
 obtain ⟨a2, vs2, e2, h2, _, rs2⟩ := r2
 rw [e1, e2]
 by_cases hab : a1 = a2
 ·exact hab ▸ EqAt.same _
 ·have := RcAt.tuples (A := A) (e := fun _ => true) (show s.heap.IsTuple a1 vs1 from h1) (show s.heap.IsTuple a2 vs2 from h2) hu fun j q1 q2 => by
   obtain ⟨c, hc, ra, rb⟩ := both_at rs1 rs2 j q1 q2
   exact k c hc _ _ ra rb
  rw [all_true, show (vs1.size == vs2.size) = true from beq_iff_eq.mpr (rs1.len.trans rs2.len.symm)] at this
  exact .of_refs hab this
theorem eq_step {s : Shared} {D : Addr → Prop} {n : Nat} {A : Around} {c : CV} {v w : Value} (ih : ∀ m, n = m + 1 → ∀ c, pl m c = true → ∀ v w, CRel D s.heap v c → CRel D s.heap w c → EqAt A.in1 s v w true) (hp : pl n c = true) (hu : A.units < cLine)
  (r1 : CRel.Inv D s.heap v c) (r2 : CRel.Inv D s.heap w c) : EqAt A s v w true := by
 cases c with
 | none => exact (r1.trans r2.symm) ▸ EqAt.same _
 | bool b => exact (r1.trans r2.symm) ▸ EqAt.same _
 | int i =>
  obtain ⟨t, e1⟩ := r1
  obtain ⟨u, e2⟩ := r2
  have := EqAt.int_int (A := A) (s := s) i t i u
  rwa [beq_self_eq_true, ← e1, ← e2] at this
 | str x =>
  obtain ⟨t, e1⟩ := r1
  obtain ⟨u, e2⟩ := r2
  have := EqAt.str_str (A := A) (s := s) x t x u
  rwa [beq_self_eq_true, ← e1, ← e2] at this
 | lst l =>
  cases n with
  | zero => exact xff hp
  | succ m => exact eq_lsts hu r1 r2 fun c hc => ih m rfl c (List.all_eq_true.mp hp c hc)
 | tup l =>
  cases n with
  | zero => exact xff hp
  | succ m => exact eq_tups hu r1 r2 fun c hc => ih m rfl c (List.all_eq_true.mp hp c hc)
 | _ => cases n <;> exact xff hp
theorem eq_same {s : Shared} {D : Addr → Prop} (n : Nat) : ∀ {A : Around} {c : CV} {v w : Value}, pl n c = true → A.units + n < cLine → CRel D s.heap v c → CRel D s.heap w c → EqAt A s v w true := by
 induction n with
 | zero => exact fun hp hu r1 r2 => eq_step (fun m e => Nat.noConfusion e) hp hu r1.inv r2.inv
 | succ n ih =>
  intro A c v w hp hu r1 r2
  exact eq_step (fun m e c hp v w => by
   obtain rfl : n = m := Nat.succ.inj e
   exact ih hp (show A.units + 1 + n < cLine from Nat.add_right_comm A.units 1 n ▸ hu)) hp (Nat.lt_of_le_of_lt (Nat.le_add_right ..) hu) r1.inv r2.inv
section
variable {cx : Cx} {st : St} {X : XV → St → Prop}
theorem eqL_ok (C : cx.Ok) {gh : Gh} {s : Shared} (R : Rel cx gh st s) {op : CmpOp} (hop : op = .Eq ∨ op = .NotEq) {v w : Value} {p q : PV} {l : List CV} (r1 : PRel gh s.heap v p) (r2 : PRel gh s.heap w q) (h1 : itemsOf st p = some l) (h2 : itemsOf st q = some l) (i1 : p.isL) (i2 : q.isL) (hp : l.all (pl 8) = true)
  {Q : Value → Shared → Prop} {E : Value → Shared → Prop} (hq : Q (.bool (op == .Eq)) s) : wpAny cx.M cx.A (compareOp op v w) Q E s := by
 obtain ⟨a1, vs1, n1, rfl, ho1, rs1⟩ := listAt R r1 h1 i1
 obtain ⟨a2, vs2, n2, rfl, ho2, rs2⟩ := listAt R r2 h2 i2
 have e1 := rs1.len
 have e2 := rs2.len
 rw [Array.length_toList] at e1 e2
 have hu : cx.A.units + 100 ≤ cLine := by have := C.lv; omega
 have he : ∀ j (q1 : j < vs1.size) (q2 : j < vs2.size), EqAt cx.A.in1 s vs1[j] vs2[j] true := fun j q1 q2 => by
  obtain ⟨c, hc, ra, rb⟩ := both_at rs1 rs2 j q1 q2
  exact eq_same 8 (List.all_eq_true.mp hp c hc) (show cx.A.units + 1 + 8 < cLine by omega) ra rb
 rcases hop with rfl | rfl
 ·refine eq_listAt (e := fun _ => true) (⟨_, ho1, rfl, n1, rfl⟩ : s.heap.IsList a1 vs1) (⟨_, ho2, rfl, n2, rfl⟩ : s.heap.IsList a2 vs2) (by omega) (by omega) he ?_
  rw [all_true]; exact hq
 ·have := RcNeAt.lists (A := cx.A) (e := fun _ => true) (⟨_, ho1, rfl, n1, rfl⟩ : s.heap.IsList a1 vs1) (⟨_, ho2, rfl, n2, rfl⟩ : s.heap.IsList a2 vs2) (by omega) (by omega) he
  rw [all_true] at this
  exact this _ _ _ _ hq
inductive EqG (st : St) (p q : PV) (K : Prop) : Prop
 | mk (l : List CV) (a : itemsOf st p = some l) (b : itemsOf st q = some l) (c : p.isL) (d : q.isL) (e : l.all (pl 8) = true) (k : K)
theorem EvT.eqL (C : cx.Ok) {op : CmpOp} (hop : op = .Eq ∨ op = .NotEq) {a b : Expr} {pos : Pos} {Q : Bool → St → Prop}
  (h : EvE cx a st (fun p st₁ => EvE cx b st₁ (fun q st₂ => EqG st₂ p q (Q (op == .Eq) st₂)) X) X) (hm : behindInMarks op b = false := by with_unfolding_all rfl) : EvT cx (.Compare a [op] [b] pos) st Q X := fun gh s R => by
 refine wpAny_isTrue_Compare1 (wpAny_mono (h gh s R) ?_ fun _ _ x => x) hm
 rintro v s₁ ⟨p, st₁, g₁, R₁, T₁, S₁, r₁, q₁⟩
 refine wpAny_mono (q₁ g₁ s₁ R₁) ?_ fun _ _ x => x.up T₁ S₁
 rintro w s₂ ⟨q, st₂, g₂, R₂, T₂, S₂, r₂, l, h1, h2, i1, i2, hp, hq⟩
 exact eqL_ok C R₂ hop (r₁.tr R₁.ok T₂) r₂ h1 h2 i1 i2 hp (wpAny_truthy_bool ⟨st₂, g₂, R₂, T₁.trans T₂, S₁.trans S₂, hq⟩)
theorem EvE.eqL (C : cx.Ok) {op : CmpOp} (hop : op = .Eq ∨ op = .NotEq) {a b : Expr} {pos : Pos} {Q : PV → St → Prop}
  (h : EvE cx a st (fun p st₁ => EvE cx b st₁ (fun q st₂ => EqG st₂ p q (Q (.c (.bool (op == .Eq))) st₂)) X) X) (hm : behindInMarks op b = false := by with_unfolding_all rfl) : EvE cx (.Compare a [op] [b] pos) st Q X := fun gh s R => by
 refine wpAny_Compare1 (wpAny_mono (h gh s R) ?_ fun _ _ x => x) hm
 rintro v s₁ ⟨p, st₁, g₁, R₁, T₁, S₁, r₁, q₁⟩
 refine wpAny_mono (q₁ g₁ s₁ R₁) ?_ fun _ _ x => x.up T₁ S₁
 rintro w s₂ ⟨q, st₂, g₂, R₂, T₂, S₂, r₂, l, h1, h2, i1, i2, hp, hq⟩
 exact eqL_ok C R₂ hop (r₁.tr R₁.ok T₂) r₂ h1 h2 i1 i2 hp ((PostV.same R₂ hq (.c (.bool _)) s₂.toks).up (T₁.trans T₂) (S₁.trans S₂))
noncomputable def memB : CV → CV → Option Bool
 | .int a, .lst l => some (l.any fun x => match x with | .int b => b == a | _ => false)
 | .str a, .tup l => some (l.any fun x => match x with | .str b => b == a | _ => false)
 | _, _ => none
noncomputable def memS : CV → CV → Prop
 | .int _, .lst l => ∀ x ∈ l, ∃ b, x = .int b
 | .str _, .tup l => ∀ x ∈ l, ∃ b, x = .str b
 | _, _ => False
theorem any_rel {D : Addr → Prop} {h : Heap} {f : CV → Bool} {e : Value → Bool} {vs : List Value} {l : List CV} (r : CRels D h vs l) (he : ∀ v c, c ∈ l → CRel D h v c → e v = f c) : vs.any e = l.any f := by
 replace r := r.all
 induction r with
 | nil => rfl
 | cons a _ ih => rw [List.any_cons, List.any_cons, he _ _ (.head _) a, ih fun v c hc => he v c (.tail _ hc)]
noncomputable def vInt (a : Int) : Value → Bool
 | .int b _ => b == a
 | _ => false
noncomputable def vStr (a : Str) : Value → Bool
 | .str b _ => b == a
 | _ => false
section
variable {A : Around} {prog : Program} {w : World} {s : Shared} {D : Addr → Prop} {op : CmpOp} {v : Value} {Q : Value → Shared → Prop} {E : Value → Shared → Prop}
noncomputable def MemK (A : Around) (s : Shared) (D : Addr → Prop) (v : Value) (l : List CV) (f : CV → Bool) (g : Value → Bool) : Prop := ∀ c ∈ l, ∀ z, CRel D s.heap z c → EqAt A.in1 s z v (g z) ∧ g z = f c
theorem MemK.any {vs : Array Value} {l : List CV} {f : CV → Bool} {g : Value → Bool} (rs : CRels D s.heap vs.toList l) (k : MemK A s D v l f g) : vs.any g = l.any f := by
 rw [← Array.any_toList]; exact any_rel rs fun v c hc rc => (k c hc v rc).2
theorem MemK.at {vs : Array Value} {l : List CV} {f : CV → Bool} {g : Value → Bool} (rs : CRels D s.heap vs.toList l) (k : MemK A s D v l f g) : ∀ z, z ∈ vs → EqAt A.in1 s z v (g z) := fun z hz => by
 obtain ⟨i, hi, rfl⟩ := Array.mem_iff_getElem.mp hz
 obtain ⟨c, hc, rc⟩ := rs.get i vs[i] (by rw [Array.getElem?_toList]; exact Array.getElem?_eq_getElem hi)
 exact (k c (List.mem_of_getElem? hc) _ rc).1
theorem mem_lst (hop : op = .In ∨ op = .NotIn) {u : Value} {l : List CV} {f : CV → Bool} {g : Value → Bool} (r : LstI D s.heap u l) (k : MemK A s D v l f g) (hq : Q (.bool (if op == .In then l.any f else !l.any f)) s) : wpAny (model prog w) A (compareOp op v u) Q E s := by
 obtain ⟨ad, vs, n, rfl, ho, hd, rs⟩ := r
 rw [← k.any rs] at hq
 rcases hop with rfl | rfl
 ·exact in_listAt _ ⟨_, ho, rfl, n, rfl⟩ (k.at rs) hq
 ·exact notIn_listAt _ ⟨_, ho, rfl, n, rfl⟩ (k.at rs) hq
theorem mem_tup (hop : op = .In ∨ op = .NotIn) {u : Value} {l : List CV} {f : CV → Bool} {g : Value → Bool} (r : TupI D s.heap u l) (k : MemK A s D v l f g) (hq : Q (.bool (if op == .In then l.any f else !l.any f)) s) : wpAny (model prog w) A (compareOp op v u) Q E s := by
 obtain ⟨ad, vs, rfl, ho, hd, rs⟩ := r
 rw [← k.any rs] at hq
 rcases hop with rfl | rfl
 ·exact in_tupleAt _ ho (k.at rs) hq
 ·exact notIn_tupleAt _ ho (k.at rs) hq
theorem mem_ok (hop : op = .In ∨ op = .NotIn) {x y : CV} {b : Bool} {u : Value} (e : memB x y = some b) (sd : memS x y) (r1 : CRel.Inv D s.heap v x) (r2 : CRel.Inv D s.heap u y) (hq : Q (.bool (if op == .In then b else !b)) s) : wpAny (model prog w) A (compareOp op v u) Q E s := by
 cases x with
 | int a =>
  obtain ⟨t, rfl⟩ := r1
  cases y with
  | lst l =>
   obtain rfl := Option.some.inj e
   refine mem_lst hop r2 (g := vInt a) (fun c hc z rc => ?_) hq
   obtain ⟨b, rfl⟩ := sd c hc
   obtain ⟨u, rfl⟩ := rc.inv
   exact ⟨EqAt.int_int b u a t, rfl⟩
  | _ => exact xns e
 | str a =>
  obtain ⟨t, rfl⟩ := r1
  cases y with
  | tup l =>
   obtain rfl := Option.some.inj e
   refine mem_tup hop r2 (g := vStr a) (fun c hc z rc => ?_) hq
   obtain ⟨b, rfl⟩ := sd c hc
   obtain ⟨u, rfl⟩ := rc.inv
   exact ⟨EqAt.str_str b u a t, rfl⟩
  | _ => exact xns e
 | _ => exact xns e
end
inductive MemG (p q : PV) (K : Bool → Prop) : Prop
 | mk (x y : CV) (r : Bool) (a : p = .c x) (b : q = .c y) (c : memB x y = some r) (d : memS x y) (k : K r)
theorem EvT.mem {op : CmpOp} (hop : op = .In ∨ op = .NotIn) {a b : Expr} {pos : Pos} {Q : Bool → St → Prop}
  (h : EvE cx a st (fun p st₁ => EvE cx b st₁ (fun q st₂ => MemG p q fun c => Q (if op == .In then c else !c) st₂) X) X) (hm : behindInMarks op b = false := by with_unfolding_all rfl) : EvT cx (.Compare a [op] [b] pos) st Q X := fun gh s R => by
 refine wpAny_isTrue_Compare1 (wpAny_mono (h gh s R) ?_ fun _ _ x => x) hm
 rintro v s₁ ⟨p, st₁, g₁, R₁, T₁, S₁, r₁, q₁⟩
 refine wpAny_mono (q₁ g₁ s₁ R₁) ?_ fun _ _ x => x.up T₁ S₁
 rintro w s₂ ⟨q, st₂, g₂, R₂, T₂, S₂, r₂, x, y, c, rfl, rfl, e, sd, hq⟩
 exact mem_ok hop e sd (r₁.tr R₁.ok T₂).toC.inv r₂.toC.inv (wpAny_truthy_bool ⟨st₂, g₂, R₂, T₁.trans T₂, S₁.trans S₂, hq⟩)
end
end
structure Grown (h h' : Heap) : Prop where
 size : h.objs.size ≤ h'.objs.size
 gone : ∀ a, a < h.objs.size → h.get? a = none → h'.get? a = none
theorem Grown.refl (h : Heap) : Grown h h := ⟨Nat.le_refl _, fun _ _ e => e⟩
theorem Grown.trans {a b c : Heap} (x : Grown a b) (y : Grown b c) : Grown a c := ⟨Nat.le_trans x.size y.size, fun i hi e => y.gone i (Nat.lt_of_lt_of_le hi x.size) (x.gone i hi e)⟩
theorem Grown.push (h : Heap) (o : Obj) : Grown h (h.push o) := ⟨by rw [Heap.size_push]; exact Nat.le_succ _, fun a ha e => by
 cases q : (h.push o).get? a with
 | none => rfl
 | some o' =>
  obtain ⟨h1, h2⟩ := Heap.get?_some_iff.mp q
  have : h.get? a = some o' := Heap.get?_some_iff.mpr ⟨by
   cases h
   simp only [Heap.push] at h1 ⊢
   rw [Array.getElem?_push] at h1
   rw [if_neg (Nat.ne_of_lt ha)] at h1
   exact h1, h2⟩
  exact xns (e.symm.trans this)⟩
theorem Grown.update {h : Heap} {b : Addr} (f : Obj → Obj) (hb : (h.get? b).isSome = true) : Grown h (h.update b f) := ⟨by rw [Heap.size_after_update]; exact Nat.le_refl _, fun a _ e => by
 by_cases hab : a = b
 ·subst hab; rw [e] at hb; cases hb
 ·rw [(Heap.SameBut.update h b f).2 a hab]; exact e⟩
theorem runs_grown {M : Model} {Γ : Ctx} {p : Pos} {t : Sem Fin} {fs : List Frame} {s s' : Shared} {e : End} (h : Runs M Γ p t fs s e s') : Grown s.heap s'.heap := by
 induction h with
 | update h _ ih => exact (Grown.update _ h).trans ih
 | alloc _ ih => exact (Grown.push _ _).trans ih
 | call _ _ ih1 ih2 => exact ih1.trans ih2
 | resumeFresh _ _ _ _ ih1 ih2 => exact Grown.trans (b := _) ih1 ih2
 | resumeSuspended _ _ _ _ ih1 ih2 => exact Grown.trans ih1 ih2
 | segRet _ _ ih1 ih2 => exact ih1.trans ih2
 | segGen _ _ ih1 ih2 => exact Grown.trans ih1 ih2
 | segSuspGen _ _ _ _ ih1 ih2 => exact Grown.trans ih1 ih2
 | _ => first | exact Grown.refl _ | assumption
theorem wakes_grown {M : Model} {Γ : Ctx} {p : Pos} {g : Nat} {r : Resume} {s s' : Shared} {res : GenResult} (h : Wakes M Γ p g r s res s') : Grown s.heap s'.heap := by
 unfold Wakes at h
 split at h
 ·exact h.elim
 ·split at h
  ·obtain ⟨e₁, s₁, hr, _, _, rfl⟩ := h; exact (runs_grown hr : Grown (s.setGen g .running).heap s₁.heap)
  ·rw [h.2]; exact Grown.refl _
  ·rw [h.2]; exact Grown.refl _
 ·obtain ⟨e₁, s₁, hr, _, _, rfl⟩ := h; exact (runs_grown hr : Grown (s.setGen g .running).heap s₁.heap)
 ·rw [h.2]; exact Grown.refl _
 ·rw [h.2]; exact Grown.refl _
theorem wp_grown {α : Type} (M : Model) (Γ : Ctx) (h₀ : Heap) (t : Sem α) : ∀ (Q : α → Pos → Shared → Prop) (E : Value → Pos → Shared → Prop) (p : Pos) (s : Shared), Grown h₀ s.heap → Sem.wp M Γ t Q E p s →
  Sem.wp M Γ t (fun a p' s' => Grown h₀ s'.heap ∧ Q a p' s') (fun e p' s' => Grown h₀ s'.heap ∧ E e p' s') p s := by
 induction t with
 | pure a => intro Q E p s hn h; exact ⟨hn, h⟩
 | raise e => intro Q E p s hn h; exact ⟨hn, h⟩
 | unsupported _ => intro Q E p s _ h; exact h
 | finish _ => intro Q E p s _ h; exact h
 | rule _ k ih => intro Q E p s hn h; exact ih () Q E p s hn h
 | «at» p' k ih => intro Q E p s hn h; exact ih () Q E p' s hn h
 | load a _ k ih => intro Q E p s hn h; obtain ⟨o, ho, h⟩ := h; exact ⟨o, ho, ih o Q E p s hn h⟩
 | update a _ f k ih => intro Q E p s hn h; exact ⟨h.1, ih () Q E p _ (hn.trans (Grown.update f h.1)) h.2⟩
 | loadIfAlive a k ih => intro Q E p s hn h; exact ih _ Q E p s hn h
 | point _ k ih => intro Q E p s hn h; exact ih () Q E p s hn h
 | register _ _ => intro Q E p s _ h; exact h
 | alloc o k ih => intro Q E p s hn h; exact ih _ Q E p _ (hn.trans (Grown.push ..)) h
 | fresh k ih => intro Q E p s hn h; exact ih _ Q E p _ hn h
 | ask k ih => intro Q E p s hn h; exact ih _ Q E p s hn h
 | choose src m k ih => intro Q E p s hn h; exact ⟨h.1, ih _ Q E p _ hn h.2⟩
 | os q _ k ih => intro Q E p s hn h; exact ih _ Q E p _ hn h
 | call c hd _ _ k ih => intro Q E p s hn h; obtain ⟨r, s', hr, h⟩ := h; exact ⟨r, s', hr, ih r Q E p s' (hn.trans (runs_grown hr)) h⟩
 | handled own k ih => intro Q E p s hn h; exact ih _ Q E p s hn h
 | genState g k ih => intro Q E p s hn h; obtain ⟨st, hs, h⟩ := h; exact ⟨st, hs, ih _ Q E p s hn h⟩
 | newGen c k ih => intro Q E p s hn h; exact ih _ Q E p _ hn h
 | resume g r _ k ih => intro Q E p s hn h; obtain ⟨res, s', hw, h⟩ := h; exact ⟨res, s', hw, ih res Q E p s' (hn.trans (wakes_grown hw)) h⟩
 | yield _ _ _ _ => intro Q E p s _ h; exact h
 | stack k ih => intro Q E p s hn h; exact ih _ Q E p s hn h
 | fork _ _ => intro Q E p s _ h; exact h
 | thread k ih => intro Q E p s hn h; exact ih _ Q E p s hn h
 | await _ _ _ _ _ => intro Q E p s _ h; exact h
theorem wpAny_grown {α : Type} {M : Model} {A : Around} {s : Shared} {t : Sem α} {Q : α → Shared → Prop} {E : Value → Shared → Prop}
  (h : wpAny M A t (fun a s' => Grown s.heap s'.heap → Q a s') (fun e s' => Grown s.heap s'.heap → E e s') s) : wpAny M A t Q E s := fun Γ p hΓ =>
 Sem.wp_mono M Γ _ (fun _ _ _ x => x.2 x.1) (fun _ _ _ x => x.2 x.1) _ _ (wp_grown M Γ s.heap t _ _ p s (Grown.refl _) (h Γ p hΓ))
theorem Grown.fresh {h h' : Heap} (g : Grown h h') {a : Addr} {o : Obj} (h0 : h.get? a = none) (h1 : h'.get? a = some o) : h.objs.size ≤ a := by
 rcases Nat.lt_or_ge a h.objs.size with q | q
 ·exact xns ((g.gone a q h0).symm.trans h1)
 ·exact q
section
variable {cx : Cx} {gh : Gh} {st : St} {s : Shared} {X : XV → St → Prop}
theorem made_ok (R : Rel cx gh st s) {h' : Heap} {e t : Addr} {cls : Value} {vs : List Value} {l : List CV} (g : Grown s.heap h') (k : ∀ b o, s.heap.get? b = some o → h'.get? b = some o) (n : s.heap.get? e = none) (nt : s.heap.get? t = none)
  (he : h'.get? e = some { cls := cls, data := .fields #[.ref t, .none, .none, .none, .bool false, .none] }) (ht : h'.get? t = some { cls := .type "tuple", data := .seq vs.toArray }) (r : CRels gh.D s.heap vs l) (q : X ⟨cls, l⟩ st) :
  PostX cx gh s X (.ref e) { s with heap := h' } := by
 have hx : Chg (fun _ => False) s.heap h' := .of g.size k
 have he0 := g.fresh n he
 have ht0 := g.fresh nt ht
 have hP : ∀ b, b = e → s.heap.objs.size ≤ b ∧ b < h'.objs.size := fun b z => z ▸ ⟨he0, Heap.lt_size he⟩
 have R₁ := R.alloc hx hP s.toks
 have hte : t ≠ e := by rintro rfl; exact nomatch he.symm.trans ht
 have nb : ∀ b, s.heap.objs.size ≤ b → cx.wd.base.get? b = none := fun b hb => by
  cases q : cx.wd.base.get? b with
  | none => rfl
  | some o => exact absurd (Heap.lt_size (R.base _ o q)) (Nat.not_lt.mpr hb)
 refine ⟨e, ⟨cls, l⟩, st, _, rfl, R₁, Tr.alloc hx fun b z => (hP b z).1, ⟨rfl, rfl, rfl⟩, ⟨⟨_, _, t, vs.toArray, he, rfl, rfl, rfl, rfl, ⟨_, ht, rfl, _, rfl⟩, ?_, ?_, .inl rfl⟩, he0, nb e he0, .inr rfl, ?_⟩, q⟩
 ·rintro (z | z)
  ·exact absurd (R.din _ z) (Nat.not_lt.mpr ht0)
  ·exact hte z
 ·exact r.ext (hx.extDead fun b z => (hP b z).1)
 ·exact fun hm => absurd (R.muLt (b := e) hm) (Nat.not_lt.mpr he0)
noncomputable abbrev errTail : List Value := [.ref 62, .type "Exception", .type "BaseException", .type "object"]
inductive ErrNs (W : Wd) (N : Addr) : Prop
 | mk (mN) (a : W.base.Ns N mN) (b : mN "__init__" = none) (c : mN "__str__" = none)
inductive ErrC (W : Wd) (C : Addr) : Prop
 | mk (nm q N bs hdct sn sub ab col dd k0 k1 k2 k3 k5) (a : W.base.get? C = some (excClassObj nm q C N bs errTail hdct sn sub ab col dd k0 k1 k2 k3 k5 "Exception.__new__")) (b : ErrNs W N)
inductive ErrTop (W : Wd) : Prop
 | mk (c0 dd cd sl mA) (a : W.base.get? 62 = some { cls := c0, dict := dd, data := .cls cd, slots := sl }) (b : W.base.Ns cd.ns mA) (c : mA "__init__" = none) (d : mA "__str__" = none)
structure ErrAt (W : Wd) (C : Addr) : Prop where
 cls : ErrC W C
 top : ErrTop W
theorem ErrAt.tail {W : Wd} {C : Addr} (F : ErrAt W C) : OwnTail W.base [.type "Exception", .type "BaseException", .type "object"] errTail :=
 let ⟨_, _, _, _, _, h1, h2, h3, _⟩ := F.top; .own h1 h2 h3 .base
theorem evalArgs_eq {M : Model} {A : Around} {E : Value → Shared → Prop} {s : Shared} {f : Value} {args : List (Bool × Sem Value)} {Q : Args → Shared → Prop} (he : args = (false, args.head!.2) :: args.tail)
  (h : wpAny M A (spliced args) (fun vs s' => Q ⟨vs, []⟩ s') E s) : wpAny M A (evalArgs f true args []) Q E s := by
 rw [he]; refine evalArgs_plain ?_; rw [← he]; exact h
theorem callWith_machine {M : Model} {A : Around} {E : Value → Shared → Prop} {s : Shared} {pos : Pos} {f : Value} {args : List (Bool × Sem Value)} {Q : Value → Shared → Prop} (hp : args.any (·.1) = false) (he : args = (false, args.head!.2) :: args.tail)
  (h : wpAny M A (spliced args) (fun vs s₂ => (∀ Q' : Keeper → Shared → Prop, Q' .machine s₂ → wpAny M A (keeperOf f) Q' E s₂) ∧ wpAny M A (PySem.call f vs) Q E s₂) E s) : wpAny M A (callWith pos f [] args []) Q E s := by
 unfold callWith
 rw [he]
 refine wpAny_bind (wpAny_holding (evalArgs_plain ?_))
 rw [← he]
 refine wpAny_mono h ?_ fun _ _ x => x
 rintro vs s₂ ⟨hk, hc⟩
 refine wpAny_bind (wpAny_standAt ?_)
 simp only [hp]
 refine wpAny_bind (hk _ ?_)
 exact wpAny_bind (wpAny_mono hc (fun v s h => wpAny_bind (wpAny_holding (wpAny_point (wpAny_pure h)))) fun _ _ x => x)
theorem wpAny_Raise_own {M : Model} {A : Around} {E : Value → Shared → Prop} {env : Env} {s : Shared} {x : Expr} {pos : Pos} {nm q : Str} {C N : Addr} {bs bm : List Value} {hdct : Bool} {sn : List Str} {sub : List Value} {ab : Bool} {col : Option Bool} {dd : Option Addr} {k0 k1 k2 k3 k5 : Option Value} {Q : Flow → Shared → Prop} (hbase : bm.contains (.type "BaseException") = true) (hh : A.handled = none)
  (h : wpAny M A (eval x env) (fun v s₁ => ∃ e t, v = .ref e ∧ s₁.heap.get? C = some (excClassObj nm q C N bs bm hdct sn sub ab col dd k0 k1 k2 k3 k5 "Exception.__new__") ∧
   s₁.heap.get? e = some { cls := .ref C, data := .fields #[.ref t, .none, .none, .none, .bool false, .none] } ∧ E (.ref e) s₁) E s) : wpAny M A (exec (.Raise (some x) none pos) env) Q E s := by
 rw [arm_exec_Raise]
 exact wpAny_bind (wpAny_standAt (wpAny_raiseStmt_made_sub hbase hh (wpAny_bind (wpAny_mono h (fun v s₃ h₃ => wpAny_bind (wpAny_standAt (wpAny_pure h₃))) fun _ _ x => x))))
theorem ExS.raiseOwn (C : cx.Ok) (hn : cx.hn = true) {c : Addr} {x : Str} {np cpos pos : Pos} {args : List Expr} {Q : Fl → St → Prop} (F : ErrAt cx.wd c)
  (h : EvE cx (.Name x np) st (fun pf st₁ => pf = .c (.con (.ref c)) ∧ EvL cx args st₁ (fun ps st₂ => SeqG ps fun l => X ⟨.ref c, l⟩ st₂) X) X)
  (hp : (backTo cpos (starEach args cx.env)).any (·.1) = false := by rfl) (he : backTo cpos (starEach args cx.env) = (false, (backTo cpos (starEach args cx.env)).head!.2) :: (backTo cpos (starEach args cx.env)).tail := by rfl) :
  ExS cx (.Raise (some (.Call (.Name x np) args [] cpos)) none pos) st Q X := fun gh s R => by
 obtain ⟨nm, q, N, bs, hdct, sn, sub, ab, col, dd, k0, k1, k2, k3, k5, hC, ⟨mN, hN, hni, _⟩⟩ := F.cls
 have T := F.tail
 have hbase : errTail.contains (.type "BaseException") = true := T.hasType (by decide)
 refine wpAny_Raise_own (C := c) (nm := nm) (q := q) (N := N) (bs := bs) (bm := errTail) (hdct := hdct) (sn := sn) (sub := sub) (ab := ab) (col := col) (dd := dd) (k0 := k0) (k1 := k1) (k2 := k2) (k3 := k3) (k5 := k5) hbase (C.hn hn) ?_
 refine wpAny_Call_ofName (wpAny_mono (h gh s R) ?_ fun _ _ x => x)
 rintro v s₁ ⟨pf, st₁, g₁, R₁, T₁, S₁, r₁, rfl, q₁⟩
 replace r₁ := r₁.toC; replace r₁ := r₁.inv; obtain rfl := r₁
 refine callWith_machine hp he (wpAny_mono (q₁ cpos g₁ s₁ R₁) ?_ fun _ _ x => x.up T₁ S₁)
 rintro vs s₂ ⟨ps, st₂, g₂, R₂, T₂, S₂, r₂, l, rfl, hl, hq⟩
 have rc := r₂.cs
 have hC₂ := R₂.base _ _ hC
 obtain ⟨hp2, gg, d, tk, os⟩ := s₂
 refine ⟨fun Q' q' => wpAny_keeperOf_exc hC₂ q', wpAny_grown (wpAny_call_exc_subT (hrest := by show vs.length ≤ _; rw [rc.len, sizeLine_eq]; omega) PySem.F.excBase_Exception (T.keeps R₂.base) hC₂ (hN.keeps R₂.base) hni fun h' e hm hg => ?_)⟩
 obtain ⟨t, ht, h0, h1⟩ := hm.there
 exact ⟨e, t, rfl, hm.keeps _ _ hC₂, ht, (made_ok R₂ hg hm.keeps hm.new h0 ht h1 rc hq).up (T₁.trans T₂) (S₁.trans S₂)⟩
theorem ExS.raiseVal (C : cx.Ok) (hn : cx.hn = true) {x : Str} {np cpos pos : Pos} {args : List Expr} {Q : Fl → St → Prop}
  (h : EvE cx (.Name x np) st (fun pf st₁ => pf = .c (.con (.type "ValueError")) ∧ EvL cx args st₁ (fun ps st₂ => SeqG ps fun l => X ⟨.type "ValueError", l⟩ st₂) X) X)
  (hp : (backTo cpos (starEach args cx.env)).any (·.1) = false := by rfl) (he : backTo cpos (starEach args cx.env) = (false, (backTo cpos (starEach args cx.env)).head!.2) :: (backTo cpos (starEach args cx.env)).tail := by rfl) :
  ExS cx (.Raise (some (.Call (.Name x np) args [] cpos)) none pos) st Q X := fun gh s R => by
 refine wpAny_Raise_made (cls := "ValueError") PySem.F.excRaise_ValueError (C.hn hn) (wpAny_Call_ofName (wpAny_mono (h gh s R) ?_ fun _ _ x => x))
 rintro v s₁ ⟨pf, st₁, g₁, R₁, T₁, S₁, r₁, rfl, q₁⟩
 replace r₁ := r₁.toC; replace r₁ := r₁.inv; obtain rfl := r₁
 show wpAny _ _ (callWith cpos (.type "ValueError") [] (backTo cpos (starEach args cx.env)) []) _ _ _
 refine callWith_excType hp (evalArgs_eq he (wpAny_mono (q₁ cpos g₁ s₁ R₁) ?_ fun _ _ x => x.up T₁ S₁))
 rintro vs s₂ ⟨ps, st₂, g₂, R₂, T₂, S₂, r₂, l, rfl, hl, hq⟩
 have rc := r₂.cs
 obtain ⟨hp2, gg, d, tk, os⟩ := s₂
 refine wpAny_grown (wpAny_call_exc (hrest := by show vs.length ≤ _; rw [rc.len, sizeLine_eq]; omega) PySem.F.excCall_ValueError fun h' e hm hg => ?_)
 obtain ⟨t, ht, h0, h1⟩ := hm.there
 exact ⟨e, t, rfl, ht, (made_ok R₂ hg hm.keeps hm.new h0 ht h1 rc hq).up (T₁.trans T₂) (S₁.trans S₂)⟩
end
section
variable {prog : Program} {w : World} {A : Around} {E : Value → Shared → Prop}
theorem match_own {W : Wd} {C C' e : Addr} {oe : Obj} {s : Shared} {Q : Bool → Shared → Prop} (F : ErrAt W C) (F' : ErrAt W C') (hb : ∀ b o, W.base.get? b = some o → s.heap.get? b = some o) (he : s.heap.get? e = some oe) (hcls : oe.cls = .ref C) (hne : (Value.ref 62 == Value.ref C') = false)
  (hq : Q (C == C') s) : wpAny (model prog w) A (excMatches (.ref e) (.ref C')) Q E s := by
 obtain ⟨nm, q, N, bs, hdct, sn, sub, ab, col, dd, k0, k1, k2, k3, k5, hC, _⟩ := F.cls
 obtain ⟨nm', q', N', bs', hdct', sn', sub', ab', col', dd', k0', k1', k2', k3', k5', hC', _⟩ := F'.cls
 have hC := hb _ _ hC
 have hC' := hb _ _ hC'
 obtain ⟨h, g, d, t, os⟩ := s
 have hcB : (Value.ref C' :: errTail).contains (.type "BaseException") = true := by rw [List.contains_cons]; simp
 have hcC : (Value.ref C :: errTail).contains (.ref C') = (C == C') := by
  rw [List.contains_cons, List.contains_cons, show (Value.ref C' == Value.ref 62) = false from by rw [Bool.eq_false_iff] at hne ⊢; intro z; exact hne (by rw [beq_iff_eq] at z ⊢; exact z.symm)]
  have : List.contains [Value.type "Exception", .type "BaseException", .type "object"] (Value.ref C') = false := by simp
  rw [this, Bool.or_false, Bool.or_false, Bool.eq_iff_iff]
  simp only [beq_iff_eq, Value.ref.injEq]
  exact eq_comm
 have f := tc_notTuple
 unfold excMatches
 repeat (first | (with_reducible refine wpAny_loadPart_at he ?_; rw [hcls]) | with_reducible refine wpAny_loadPart_at hC' ?_ | (with_reducible refine wpAny_isSubtype_exc hC' ?_; rw [hcB]) | (with_reducible refine wpAny_isSubtype_exc hC ?_; rw [hcC]) | wp_step)
 cases hb : (C == C') <;> (rw [hb] at hq; wp_walk; exact hq)
theorem bk_exc_str : builtinKind "BaseException.__str__" = some .slot := by decide +kernel
theorem sp_exc_str : splitId "BaseException.__str__" = some ("BaseException", "__str__") := by decide +kernel
theorem err_lk {W : Wd} {C : Addr} {s : Shared} (F : ErrAt W C) (hb : ∀ b o, W.base.get? b = some o → s.heap.get? b = some o) {Q : Option Value → Shared → Prop} (hq : Q (some (.builtin "BaseException.__str__")) s) : wpAny (model prog w) A (typeLookup (.ref C) (PySem.Str.ofString "__str__")) Q E s := by
 obtain ⟨nm, q, N, bs, hdct, sn, sub, ab, col, dd, k0, k1, k2, k3, k5, hC, ⟨mN, hN, _, hns⟩⟩ := F.cls
 obtain ⟨c0, dd', cd, sl, mA, h62, hN62, _, hn62⟩ := F.top
 have hB : typeLookup (.type "Exception") "__str__" = pure (some (.builtin "BaseException.__str__")) := PySem.F.excStr_Exception.str.lookup
 rw [typeLookup_eq, PySem.F.excBase_Exception.mroIs] at hB
 have hB : lookupAlong [.type "Exception", .type "BaseException", .type "object"] "__str__" = pure (some (.builtin "BaseException.__str__")) := hB
 obtain ⟨h, g, d, t, os⟩ := s
 refine w_eq (typeLookup_eq ..) (wpAny_bind (wpAny_mroOf_exc (hb _ _ hC) (w_eq (lookupAlong_cons ..) (wpAny_bind (wpAny_classOwn_exc (hb _ _ hC) (hN.keeps hb) ?_)))))
 rw [hns]
 refine w_eq (lookupAlong_cons ..) (wpAny_bind (wpAny_classOwn_cls (hb _ _ h62) (hN62.keeps hb) ?_))
 rw [hn62]
 exact w_eq hB (wpAny_pure hq)
theorem err_call {W : Wd} {C e t0 : Addr} {s : Shared} {oe : Obj} {vs : Array Value} (F : ErrAt W C) (hb : ∀ b o, W.base.get? b = some o → s.heap.get? b = some o) (he : s.heap.get? e = some oe) (hcls : oe.cls = .ref C) (hd : oe.data = .fields vs) (h0 : vs[0]? = some (.ref t0))
  {m : Str} {tk : Tok} {R : Result → Shared → Prop} (ht : s.heap.TupAt t0 [.str m tk]) (hq : R (.ok (.ret (.str m tk))) s) : codeAny (model prog w) A (.call (.builtin "BaseException.__str__") ⟨[.ref e], []⟩) R s := by
 obtain ⟨nm, q, N, bs, hdct, sn, sub, ab, col, dd, k0, k1, k2, k3, k5, hC, _⟩ := F.cls
 have hC := hb _ _ hC
 obtain ⟨h, g, d, t, os⟩ := s
 obtain ⟨c1, d1, dt1, sl1⟩ := oe
 obtain rfl : c1 = _ := hcls
 obtain rfl : dt1 = _ := hd
 obtain ⟨ot, k, hto, _, htd⟩ := ht
 have hcB : (Value.ref C :: errTail).contains (.type "BaseException") = true := by rw [List.contains_cons]; simp
 refine codeAny_call_builtin PySem.F.excStr_Exception.str.plain PySem.F.entry_bexc_str ?_
 have ha : argsOk "BaseException.__str__" ⟨[.ref e], []⟩ := PySem.F.args_bexc_str _
 simp only [checkBuiltinCall, bk_exc_str, sp_exc_str]
 refine wpAny_bind ?_
 unfold isInstance
 repeat (first | with_reducible refine wpAny_loadPart_at he ?_ | (with_reducible refine wpAny_isSubtype_exc hC ?_; rw [hcB]) | with_reducible refine wpAny_seqItems hto htd ?_ | wp_step)
 all_goals (rw [h0])
 repeat (first | with_reducible refine wpAny_loadPart_at he ?_ | (with_reducible refine wpAny_isSubtype_exc hC ?_; rw [hcB]) | with_reducible refine wpAny_seqItems hto htd ?_ | wp_step)
 exact hq
theorem strOf_own {W : Wd} {C e t0 : Addr} {s : Shared} {oe : Obj} {vs : Array Value} (F : ErrAt W C) (hb : ∀ b o, W.base.get? b = some o → s.heap.get? b = some o) (he : s.heap.get? e = some oe) (hcls : oe.cls = .ref C) (hd : oe.data = .fields vs) (h0 : vs[0]? = some (.ref t0))
  (hu : A.units < cLine) {m : Str} {tk : Tok} {Q : Value → Shared → Prop} (ht : s.heap.TupAt t0 [.str m tk]) (hq : Q (.str m tk) s) : wpAny (model prog w) A (Builtin.Str.strOf (.ref e)) Q E s := by
 have call : ∀ {A : Around} {R : Result → Shared → Prop}, R (.ok (.ret (.str m tk))) s → codeAny (model prog w) A (.call (.builtin "BaseException.__str__") ⟨[.ref e], []⟩) R s := fun hq => err_call F hb he hcls hd h0 ht hq
 have lk : ∀ {A : Around} {E : Value → Shared → Prop} {Q : Option Value → Shared → Prop}, Q (some (.builtin "BaseException.__str__")) s → wpAny (model prog w) A (typeLookup (.ref C) (PySem.Str.ofString "__str__")) Q E s := fun hq => err_lk F hb hq
 clear hb F ht h0 hd
 obtain ⟨h, g, d, t, os⟩ := s
 obtain ⟨c1, d1, dt1, sl1⟩ := oe
 obtain rfl : c1 = _ := hcls
 have hbs := PySem.F.excStr_Exception.str.bind (.ref e)
 unfold Builtin.Str.strOf callSpecial? specialOf
 repeat (first | with_reducible refine wpAny_cRoomFor hu ?_ | with_reducible refine wpAny_loadPart_at he ?_ | with_reducible refine lk ?_ | wp_step)
 refine call ?_
 repeat (first | wp_step)
 exact hq
theorem str_own {W : Wd} {C e t0 : Addr} {s : Shared} {oe : Obj} {vs : Array Value} (F : ErrAt W C) (hb : ∀ b o, W.base.get? b = some o → s.heap.get? b = some o) (he : s.heap.get? e = some oe) (hcls : oe.cls = .ref C) (hd : oe.data = .fields vs) (h0 : vs[0]? = some (.ref t0))
  (hu : A.units + 2 < cLine) {m : Str} {tk : Tok} {Q : Value → Shared → Prop} (ht : s.heap.TupAt t0 [.str m tk]) (hq : Q (.str m tk) s) : wpAny (model prog w) A (call (.type "str") [.ref e]) Q E s :=
 callType_new PySem.F.called_str (by decide) (PySem.F.typeCall_str_1 _) (PySem.F.newCall_str_1 _) (fun obj => PySem.F.args_object_init_2 obj _) PySem.F.entry_str_new
  (meets_str_new (S := fun A' R s' => A'.units + 1 < cLine ∧ s' = s ∧ R (.ok (.ret (.str m tk))) s')
   fun _ _ A' _ s' hq' => by
    obtain ⟨h1, rfl, h2⟩ := hq'
    exact strOf_own (A := A'.in1) (W := W) F hb he hcls hd h0 h1 ht h2)
  ⟨(show A.units + 1 + 1 < cLine from hu), rfl, typeIs_str _ _ _, hq⟩
end
noncomputable def Cx.handler (cx : Cx) (e : Addr) : Cx := { cx with A := cx.A.mark (some (.ref e)), hn := false }
section
variable {cx : Cx} {gh : Gh} {st : St} {s : Shared} {X : XV → St → Prop} {h' : Heap}
theorem Cx.Ok.handler (C : cx.Ok) (e : Addr) : (cx.handler e).Ok := ⟨C.wd, C.fn, C.globals, C.builtins, C.sck, C.sci, C.usk, C.gsk, C.lv, xff, C.frames⟩
theorem Rel.handle {cx' : Cx} (R : Rel cx gh st s) (e1 : cx'.env = cx.env) (e2 : cx'.sc = cx.sc) (e3 : cx'.usc = cx.usc) (e4 : cx'.wd = cx.wd) (e5 : cx'.fenv = cx.fenv) (e6 : cx'.outer = cx.outer) : Rel cx' gh st s := by
 obtain ⟨wd, A, env, fenv, outer, sc, usc, gsc, lv, hn⟩ := cx'
 cases e1; cases e2; cases e3; cases e4; cases e5; cases e6
 exact ⟨R.ok, R.base, R.fresh, R.din, R.curU, R.cur, R.cells, R.cellsA, R.ups, R.glob, R.loc, R.muU, R.apart, R.frames⟩
theorem Rel.handler (R : Rel cx gh st s) (e : Addr) : Rel (cx.handler e) gh st s := R.handle rfl rfl rfl rfl rfl rfl
theorem Rel.unhandler {e : Addr} (R : Rel (cx.handler e) gh st s) : Rel cx gh st s := R.handle rfl rfl rfl rfl rfl rfl
theorem Rel.forget (R : Rel cx gh st s) (hs : Heap.SameBut cx.env.locals s.heap h') {m : Str → Option Value} (hn : h'.Ns cx.env.locals m) (tk : Nat) : Rel cx gh { st with fr := [] } { s with heap := h', toks := tk } := by
 exact R.locals hs (fun _ => ⟨_, hn, fun j y q h1 h2 => by simp at h2⟩) (fun j y _ q h => by simp at h) tk
theorem globName_ok {prog : Program} {w : World} {A : Around} {E : Value → Shared → Prop} (C : cx.Ok) (R : Rel cx gh st s) {i j : Nat} {nm : Str} {p : Pos} {c : Value} (hg : cx.gsc[i]? = some nm) (ht : cx.wd.gt[j]? = some (nm, .con c)) {Q : Value → Shared → Prop} (hq : ∀ tk, Q c { s with toks := tk }) :
  wpAny (model prog w) A (eval (.Name nm p) cx.env) Q E s := by
 obtain ⟨mg, mb, W⟩ := C.wd
 obtain ⟨hdb, v, hv, r⟩ := W.gt nm _ (List.mem_of_getElem? ht)
 obtain rfl := (r (fun _ => False) s.heap).inv
 refine Name_function_global C.fn (C.gsk i nm hg) ?_ hdb
 rcases hv with hv | ⟨h1, h2⟩
 ·exact loadGlobal_global (by rw [C.globals]; exact W.g.keeps R.base) hv (hq _)
 ·exact loadGlobal_builtin (by rw [C.globals]; exact W.g.keeps R.base) h1 (by rw [C.builtins]; exact W.b.keeps R.base) h2 (hq _)
noncomputable def EvX (cx : Cx) (e : Addr) (x : XV) (ex : Expr) (st : St) (Q : PV → St → Prop) : Prop :=
 ∀ lo gh s, Rel cx gh st s → XRel lo cx.wd.base gh s.heap e x → wpAny cx.M cx.A (eval ex cx.env) (PostV cx gh s Q) (fun _ _ => False) s
noncomputable def ExcM (W : Wd) (x : XV) (c : Value) (b : Bool) : Prop :=
 (∃ C C', x.cls = .ref C ∧ c = .ref C' ∧ ErrAt W C ∧ ErrAt W C' ∧ (Value.ref 62 == Value.ref C') = false ∧ b = (C == C')) ∨ (x.cls = .type "ValueError" ∧ c = .type "ValueError" ∧ b = true)
theorem EvX.str {e : Addr} {x : XV} {m : Str} {i j k : Nat} {nm cg : Str} {p1 p2 pos : Pos} {Q : PV → St → Prop} (C : cx.Ok) (hu : cx.A.units + 2 < cLine) (hx : (x.cls = .type "ValueError") ∨ ∃ c, x.cls = .ref c ∧ ErrAt cx.wd c) (ha : x.args = [.str m])
  (hg : cx.gsc[i]? = some nm) (ht : cx.wd.gt[j]? = some (nm, .con (.type "str"))) (hc : cx.sc[k]? = some (cg, .local)) (hp : st.fr[k]? = some (some (.c (.con (.ref e))))) (h : Q (.c (.str m)) st) :
  EvX cx e x (.Call (.Name nm p1) [.Name cg p2] [] pos) st Q := fun lo gh s R xr => by
 refine wpAny_Call_Name_kw (globName_ok C R hg ht fun tk => ?_)
 refine PyProof.Rows.callWith_type rfl ?_
 refine evalArgs_plain (x := eval (.Name cg p2) cx.env) ?_
 refine wpAny_items_cons (pos := pos) (e := .Name cg p2) (rest := []) (env := cx.env) ?_
 obtain ⟨hkd, hdb2⟩ := C.sck k cg _ hc
 obtain ⟨m0, hn, hm⟩ := R.cur
 obtain ⟨v2, hv2, r2⟩ := hm k cg _ hc hp
 replace r2 := r2.toC; replace r2 := r2.inv; obtain rfl := r2
 refine wpAny_Name ?_ hdb2
 refine wpAny_loadName_local C.fn hkd hn hv2 (wpAny_items_nil ?_)
 obtain ⟨⟨o, fs, t, vs, h1, h2, h3, h4, h5, h6, h7, h8, _⟩, _⟩ := id xr
 rw [ha] at h8
 obtain ⟨v8, hvs, r8⟩ := h8.to1
 obtain ⟨tk2, rfl⟩ := r8.inv
 have hT : s.heap.TupAt t [.str m tk2] := by
  obtain ⟨o, ho, hc, n, hd⟩ := h6
  refine ⟨o, n, ho, hc, ?_⟩
  rw [hd, ← hvs, Array.toArray_toList]
 have fin : PostV cx gh s Q (.str m tk2) { s with toks := tk } := PostV.same R h (.c (.str ..)) _
 rcases hx with hx | ⟨c, hx, F⟩
 ·exact P.str_of_exc_one PySem.F.excStr_ValueError hu ⟨o, fs, h1, h2.trans hx, h3, h5⟩ hT fin
 ·exact str_own (s := { s with toks := tk }) F R.base h1 (h2.trans hx) h3 h5 hu hT fin
theorem EvX.lst {e : Addr} {x : XV} {a : Str} {b : Expr} {kk : Nat} {p1 pos : Pos} {Q : PV → St → Prop} (h : EvX cx e x b st (fun p st₁ => ∃ y, p = .c y ∧ Q (.c (.lst [.str a, y])) st₁)) (he : starEach [b] cx.env = [(false, eval b cx.env)] := by rfl) :
  EvX cx e x (.List [.Constant (.str a) kk p1, b] pos) st Q := fun lo gh s R xr => by
 refine wpAny_List_spliced ?_
 refine wpAny_items_cons (pos := pos) (e := .Constant (.str a) kk p1) (rest := [b]) (env := cx.env) (Constant_str ?_) rfl
 refine wpAny_items_cons (pos := pos) (e := b) (rest := []) (env := cx.env) (wpAny_mono (h lo gh _ (R.toks (s.toks + 1)) xr) ?_ fun _ _ x => x) he
 rintro v s₁ ⟨p, st₁, g₁, R₁, T₁, S₁, r₁, y, rfl, hq⟩
 replace r₁ := r₁.toC
 refine wpAny_items_nil ⟨by simp [sizeLine_eq], ?_⟩
 refine (newLst_ok R₁ (vs := [.str a s.toks, v]) (l := [.str a, y]) (.cons (.str ..) (.cons r₁ .nil)) hq 0).up (s := s) (s₁ := s₁) T₁ ⟨S₁.gens, S₁.drawn, S₁.os⟩
theorem ve_nt : isSubtype (.type ((Manifest.find? "ValueError").elim "type" fun x => x.metatype)) (.type "tuple") = pure false := by kernel_rfl
theorem match_ok {A : Around} {E : Value → Shared → Prop} {QQ : Bool → Shared → Prop} {e : Addr} {x : XV} {c : Value} {b : Bool} {o : Obj} (R : Rel cx gh st s) (h1 : s.heap.get? e = some o) (h2 : o.cls = x.cls) (hm : ExcM cx.wd x c b) (hq : QQ b s) : wpAny cx.M A (excMatches (.ref e) c) QQ E s := by
 rcases hm with ⟨D, D', e1, rfl, F1, F2, e2, rfl⟩ | ⟨e1, rfl, rfl⟩
 ·exact match_own F1 F2 R.base h1 (h2.trans e1) e2 hq
 ·exact wpAny_excMatches_type (X := "ValueError") (T := "ValueError") (b := true) ⟨o, h1, h2.trans e1⟩ PySem.F.excRaise_ValueError.isExc ve_nt (PySem.F.excCall_ValueError.sub) hq
theorem clause_miss (C : cx.Ok) {X : XV → St → Prop} {g₀ : Gh} {s₀ : Shared} {e : Addr} {x : XV} {Q : Fl → St → Prop} {i j : Nat} {nm : Str} {c : Value} {p pos : Pos} {n : Option Str} {body : List Stmt} {rest : List ExceptHandler}
  (hg : cx.gsc[i]? = some nm) (ht : cx.wd.gt[j]? = some (nm, .con c)) (hm : ExcM cx.wd x c false) (F : Fly cx g₀ s₀.heap s₀ st e x s)
  (next : ∀ s, Fly cx g₀ s₀.heap s₀ st e x s → wpAny cx.M cx.A (handleBy (.ref e) cx.env rest) (PostF cx g₀ s₀ Q) (PostX cx g₀ s₀ X) s) :
  wpAny cx.M cx.A (handleBy (.ref e) cx.env (.ExceptHandler (some (.Name nm p)) n body pos :: rest)) (PostF cx g₀ s₀ Q) (PostX cx g₀ s₀ X) s := by
 obtain ⟨gh, R, T, S, xr⟩ := id F
 refine wpAny_handleBy_cons (codeAny_handlers_test (globName_ok C R hg ht fun tk => ?_)) (by intro q; cases q)
 obtain ⟨⟨o, fs, t, vs, h1, h2, _⟩, _⟩ := id xr
 exact match_ok (R.toks tk) h1 h2 hm (next _ ⟨gh, R.toks tk, T, ⟨S.gens, S.drawn, S.os⟩, xr⟩)
theorem caught_set {cx : Cx} {g : Gh} {st : St} {s : Shared} {h' : Heap} {lo : Nat} {base : Heap} {e : Addr} {x : XV} (R : Rel cx g st s) (xr : XRel lo base g s.heap e x) (hs : Heap.SameBut cx.env.locals s.heap h') : XRel lo base g h' e x := by
 obtain ⟨_, ⟨oL, esL, epL, hL, hLd, _⟩, _⟩ := R.cur
 have notL : ∀ {b : Addr} {o : Obj} {fs : Array Value}, s.heap.get? b = some o → o.data = .fields fs → ¬ b = cx.env.locals := fun h1 h2 z => by
  obtain rfl := Option.some.inj (hL.symm.trans (z ▸ h1)); exact xdict h2 rfl _ _ hLd
 obtain ⟨⟨o, fs, t, vs, h1, h2, h3, h4, h5, h6, h7, h8, h9⟩, _⟩ := id xr
 refine xr.chg (Chg.same hs) (fun a z => z ▸ R.ok.UD _ R.curU) (notL h1 h3) fun T fs' o' e1 e2 e3 => ?_
 obtain rfl := Option.some.inj (h1.symm.trans e1)
 cases h3.symm.trans e2
 rcases h9 with h9 | ⟨T', oT, ts, a1, a2, a3, _⟩
 ·exact nomatch h9.symm.trans e3
 ·cases a1.symm.trans e3; exact notL a2 a3
theorem clause_hit (C : cx.Ok) {X : XV → St → Prop} {g₀ : Gh} {s₀ : Shared} {e : Addr} {x : XV} {Q : Fl → St → Prop} {i j k : Nat} {nm n : Str} {c : Value} {p rp pos : Pos} {ex : Expr} {rest : List ExceptHandler}
  (hg : cx.gsc[i]? = some nm) (ht : cx.wd.gt[j]? = some (nm, .con c)) (hn : cx.sc[k]? = some (n, .local)) (hm : ExcM cx.wd x c true) (F : Fly cx g₀ s₀.heap s₀ st e x s)
  (q : EvX (cx.handler e) e x ex { st with fr := st.fr.set k (some (.c (.con (.ref e)))) } (fun p st₁ => p.noLoc = true ∧ Q (.ret p) { st₁ with fr := [] })) :
  wpAny cx.M cx.A (handleBy (.ref e) cx.env (.ExceptHandler (some (.Name nm p)) (some n) [.Return (some ex) rp] pos :: rest)) (PostF cx g₀ s₀ Q) (PostX cx g₀ s₀ X) s := by
 obtain ⟨gh, R, T, S, xr⟩ := id F
 refine wpAny_handleBy_cons (codeAny_handlers_test (globName_ok C R hg ht fun tk => ?_)) (by intro q; cases q)
 obtain ⟨⟨o, fs, t, vs, h1, h2, _⟩, _⟩ := id xr
 refine match_ok (R.toks tk) h1 h2 hm ?_
 refine codeAny_handlers_suite_as ?_
 have F'' : Fly (cx.handler e) g₀ s₀.heap s₀ st e x { s with toks := tk } := ⟨gh, (R.toks tk).handler e, T, ⟨S.gens, S.drawn, S.os⟩, xr⟩
 refine wpAny_mono (flight_ok (cx := cx.handler e) F'') ?_ fun _ _ x => x
 rintro _ s₁ ⟨g₁, R₁, T₁, S₁, xr₁⟩
 obtain ⟨hkd, hdb⟩ := C.sck k n _ hn
 obtain ⟨m, hns, hm'⟩ := R₁.cur
 refine wpAny_storeName_local hkd hns (fun h' hn' hs => ?_) (by rw [C.fn]; rfl)
 have R₂ := R₁.setLocal (C.handler e) (i := k) (x := n) (v := .ref e) (p := .c (.con (.ref e))) hn (.c (.con _)) hs hm' hn' (s₁.toks + 1)
 have xr₂ := caught_set R₁ xr₁ hs
 have T₂ : Tr g₁ s₁.heap g₁ h' := R₁.trSet R₁.curU hs
 refine wpAny_execs_cons (wpAny_Return_some (wpAny_mono (q _ g₁ _ R₂ xr₂) ?_ fun _ _ z => z.elim))
 rintro v s₃ ⟨p, st₃, g₃, R₃, T₃, S₃, r₃, nl, hq⟩
 obtain ⟨m3, hns3, _⟩ := R₃.cur
 refine wpAny_nameGoes hkd hns3 (by rw [C.fn]; rfl) fun h'' m'' hn'' hs'' => ?_
 have R₄ := (R₃.forget hs'' hn'' (s₃.toks + 1)).unhandler
 have T₄ : Tr g₃ s₃.heap g₃ h'' := R₃.trSet R₃.curU hs''
 exact ⟨.ret p, _, g₃, R₄, ((T₁.trans T₂).trans T₃).trans T₄, (S₁.trans ⟨rfl, rfl, rfl⟩ : Same s₀ { s₁ with heap := h', toks := s₁.toks + 1 }).trans (S₃.trans ⟨rfl, rfl, rfl⟩), .ret (r₃.tr R₃.ok T₄), hq⟩
theorem ExS.tryX (C : cx.Ok) (hce : cx.env = cx.fenv) {X : XV → St → Prop} {body : List Stmt} {h₀ : ExceptHandler} {hs : List ExceptHandler} {pos : Pos} {Q : Fl → St → Prop} {X' : XV → St → Prop} (h : ExB cx body st (fun f st₁ => f ≠ .next ∧ Q f st₁) X')
  (hh : ∀ x st₁, X' x st₁ → ∀ g₀ s₀ e s, Fly cx g₀ s₀.heap s₀ st₁ e x s → wpAny cx.M cx.A (handleBy (.ref e) cx.env (h₀ :: hs)) (PostF cx g₀ s₀ Q) (PostX cx g₀ s₀ X) s) :
  ExS cx (.Try body (h₀ :: hs) [] [] pos) st Q X := fun gh s R => by
 refine wpAny_Try_except (wpAny_mono (h gh s R) ?_ ?_)
 ·rintro f s₁ ⟨g, st₁, g₁, R₁, T₁, S₁, r₁, n, hq⟩
  cases r₁ with
  | next => exact absurd rfl n
  | brk => exact ⟨.brk, st₁, g₁, R₁, T₁, S₁, .brk, hq⟩
  | cont => exact ⟨.cont, st₁, g₁, R₁, T₁, S₁, .cont, hq⟩
  | ret r => exact ⟨.ret _, st₁, g₁, R₁, T₁, S₁, .ret r, hq⟩
 ·intro v s₁ p
  obtain ⟨e, x, st₁, rfl, F, q⟩ := p.fly
  refine wpAny_mono (note_ok C hce F) ?_ fun _ _ x => x
  rintro _ s₂ F₂
  refine wpAny_mono (flight_ok F₂.fly) ?_ fun _ _ x => x
  rintro _ s₃ F₃
  exact hh x st₁ q gh s e s₃ F₃
end
inductive HdC (W : Wd) : Prop
 | mk (nm q bs sn sub col dd k0 k1 k2 k3 k5) (a : W.base.get? 236 = some (excClassObj nm q 236 235 bs [.type "object"] true sn sub false col dd k0 k1 k2 k3 k5 "object.__new__"))
inductive HdN (W : Wd) : Prop
 | mk (mN) (a : W.base.Ns 235 mN) (b : mN "__init__" = some (.ref 128) ∧ mN "_convert_string_type" = some (.ref 135) ∧ mN "__setitem__" = some (.ref 149) ∧ mN "__delitem__" = some (.ref 154) ∧ mN "get" = some (.ref 183) ∧ mN "items" = some (.ref 200)) (c : mN "__getattribute__" = none) (d : mN "__getattr__" = none) (e : mN "__setattr__" = none) (f : mN "_headers" = none)
structure HdAt (W : Wd) : Prop where
 cls : HdC W
 ns : HdN W
 fns : ∀ f ∈ [128, 135, 149, 154, 183, 200], ∃ o fd, W.base.get? f = some o ∧ o.cls = .type "function" ∧ o.data = .func fd
noncomputable def hdMap (v : Option Value) : Str → Option Value := fun y => if y = ("_headers" : Str) then v else none
theorem Heap.Inst.of1 {h : Heap} {x d : Addr} {sl : Array (Option Value)} {od : Obj} {v : Value} {C : Addr} (hx : h.get? x = some ⟨.ref C, some d, .plain, sl⟩) (hd : h.get? d = some od) (D : HdDict od v) (hne : d ≠ x) : h.Inst x C (hdMap (some v)) := by
 obtain ⟨es, ep, h1, h2, h3, h4⟩ := D
 exact ⟨_, hx, rfl, xcls rfl rfl, .inr ⟨d, rfl, hne, od, es, ep, hd, h1, h2, h3, h4⟩⟩
theorem Heap.Inst.of00 {h : Heap} {x d : Addr} {sl : Array (Option Value)} {n : Nat} {C : Addr} (hx : h.get? x = some ⟨.ref C, some d, .plain, sl⟩) (hd : h.get? d = some { cls := .type "dict", data := .dict [].toArray n }) (hne : d ≠ x) : h.Inst x C (fun _ => none) :=
 ⟨_, hx, rfl, xcls rfl rfl, .inr ⟨d, rfl, hne, Heap.Ns1.of_empty ⟨_, _, _, hd, rfl, fun e he => absurd he (by simp), fun _ => rfl⟩⟩⟩
theorem Heap.Inst.of0 {h : Heap} {x d : Addr} {sl : Array (Option Value)} {n : Nat} {C : Addr} (hx : h.get? x = some ⟨.ref C, some d, .plain, sl⟩) (hd : h.get? d = some { cls := .type "dict", data := .dict [].toArray n }) (hne : d ≠ x) : h.Inst x C (hdMap none) := by
 have e : (hdMap none) = fun _ => none := by funext y; unfold hdMap; split <;> rfl
 rw [e]; exact Heap.Inst.of00 hx hd hne
theorem nodup_part {α β : Type} {f : α → List β} {a : α} : ∀ {l : List α}, (l.flatMap f).Nodup → a ∈ l → (f a).Nodup
 | b :: l, h, m => by
  rw [List.flatMap_cons] at h
  rcases List.mem_cons.mp m with rfl | m
  ·exact (List.nodup_append.mp h).1
  ·exact nodup_part (List.nodup_append.mp h).2.1 m
section
variable {cx : Cx} {gh : Gh} {st : St} {s : Shared} {X : XV → St → Prop} {h' : Heap}
theorem Rel.newGlob (R : Rel cx gh st s) (x : Chg (fun _ => False) s.heap h') {g : GA} {o : GObj} (hP : ∀ b, b ∈ g.addrs → s.heap.objs.size ≤ b ∧ b < h'.objs.size) (nd : g.addrs.Nodup) (r : GRel (gh.newGlob g) h' g o) (tk : Nat) :
  Rel cx (gh.newGlob g) { st with glob := st.glob ++ [o] } { s with heap := h', toks := tk } := by
 have R₁ := R.alloc x hP tk
 have fr : ∀ b, gh.D b → b ∉ g.addrs := fun b hb hm => absurd (R.din b hb) (Nat.not_lt.mpr (hP b hm).1)
 have hmem : ∀ b, b ∈ (gh.newGlob g).mu → b ∈ gh.mu ∨ b ∈ g.addrs := by
  intro b hb
  simp only [Gh.newGlob, Gh.mu, List.flatMap_append, List.flatMap_cons, List.flatMap_nil, List.append_nil, List.mem_append] at hb ⊢
  rcases hb with (hb | hb) | hb
  ·exact .inl (.inl hb)
  ·exact .inr hb
  ·exact .inl (.inr hb)
 have X : Ext gh.D (fun _ => False) s.heap (gh.dead (· ∈ g.addrs)).D h' := x.extDead fun b z => (hP b z).1
 refine R.move (gh' := gh.newGlob g) ⟨fun b z => z.imp (R.ok.UD b) id⟩ R₁.base R₁.fresh R₁.din (fun _ => .inl) (fun b o d u e q z => z.elim u (fr b d)) (fun _ => .inl) (fun b o _ e _ => ⟨o, x.kept b o id e, rfl⟩) (fun _ _ r => r.map (gh := gh) (gh' := gh.newGlob g) X ⟨_, rfl⟩ app_nil) (fun _ _ r => r.ext X) (GRels.snoc (gh := gh.newGlob g) r R₁.glob.moreGlob) (LRels.cast (gh := gh.dead (· ∈ g.addrs)) (gh' := gh.newGlob g) rfl R₁.loc) (fun b hb => (hmem b hb).imp (R.muU b) id) ?_
 have hp : (cx.env.locals :: (gh.newGlob g).mu).Perm (g.addrs ++ (cx.env.locals :: gh.mu)) := by
  refine List.Perm.trans ?_ List.perm_middle.symm
  refine List.Perm.cons _ ?_
  simp only [Gh.newGlob, Gh.mu, List.flatMap_append, List.flatMap_cons, List.flatMap_nil, List.append_nil, List.append_assoc]
  refine List.Perm.trans (List.perm_append_comm_assoc _ _ _) ?_
  exact List.Perm.refl _
 refine (hp.nodup_iff).mpr (List.nodup_append.mpr ⟨nd, R.apart, fun a ha b hb e => ?_⟩)
 subst e
 rcases List.mem_cons.mp hb with z | z
 ·exact fr _ (R.ok.UD _ R.curU) (z ▸ ha)
 ·exact fr _ (R.muD z) ha
theorem Tr.newGlob (x : Chg (fun _ => False) s.heap h') {g : GA} (hP : ∀ b, b ∈ g.addrs → s.heap.objs.size ≤ b) : Tr gh s.heap (gh.newGlob g) h' :=
 ⟨x.size, fun b o e _ => .inl (x.kept b o id e), fun b z => z.imp id (hP b), fun b z => z.imp id (hP b), fun _ z => .inl z, ⟨_, rfl⟩, ⟨[], by simp [Gh.newGlob]⟩⟩
theorem Rel.partNd (R : Rel cx gh st s) {k : Nat} {g : GA} (hg : gh.ga[k]? = some g) : g.addrs.Nodup := nodup_part (List.nodup_append.mp (List.nodup_cons.mp R.apart).2).1 (List.mem_of_getElem? hg)
theorem ne_of_nd {x d : Addr} (h : (GA.i x d).addrs.Nodup) : d ≠ x := fun e => (List.nodup_cons.mp h).1 (List.mem_singleton.mpr e.symm)
inductive InstG (gh : Gh) (h : Heap) (k : Nat) (C : Addr) (hd : Option PV) (v : Value) : Prop
 | mk (x d : Addr) (vo : Option Value) (sl) (e : v = .ref x) (g : gh.ga[k]? = some (.i x d)) (o : h.get? x = some ⟨.ref C, some d, .plain, sl⟩) (I : h.Inst x C (hdMap vo)) (p : ∀ p, hd = some p → ∃ u, vo = some u ∧ PRel gh h u p)
theorem instAt (R : Rel cx gh st s) {k : Nat} {C : Addr} {hd : Option PV} {v : Value} (r : PRel gh s.heap v (.obj k)) (hk : st.glob[k]? = some (.inst C hd)) : InstG gh s.heap k C hd v := by
 obtain ⟨g, ev, hg⟩ := r.inv
 have nd := R.partNd hg
 cases R.glob.get k _ _ hg hk with
 | inst0 hx hd => exact ⟨_, _, none, _, ev, hg, hx, Heap.Inst.of0 hx hd (ne_of_nd nd), xnl rfl⟩
 | inst1 hx hd D r nl => exact ⟨_, _, some _, _, ev, hg, hx, Heap.Inst.of1 hx hd D (ne_of_nd nd), fun p' e => ⟨_, rfl, Option.some.inj e ▸ r⟩⟩
inductive Inst0 (gh : Gh) (h : Heap) (k : Nat) (C : Addr) (v : Value) : Prop
 | mk (x d : Addr) (sl) (n : Nat) (e : v = .ref x) (g : gh.ga[k]? = some (.i x d)) (o : h.get? x = some ⟨.ref C, some d, .plain, sl⟩) (od : h.get? d = some { cls := .type "dict", data := .dict [].toArray n }) (ne : d ≠ x)
theorem inst0At (R : Rel cx gh st s) {k : Nat} {C : Addr} {v : Value} (r : PRel gh s.heap v (.obj k)) (hk : st.glob[k]? = some (.inst C none)) : Inst0 gh s.heap k C v := by
 obtain ⟨g, ev, hg⟩ := r.inv
 have nd := R.partNd hg
 cases R.glob.get k _ _ hg hk with
 | inst0 hx hd => exact ⟨_, _, _, _, ev, hg, hx, hd, ne_of_nd nd⟩
theorem lk_headers : typeLookup (.type "object") "_headers" = pure none := by rw [typeLookup_type, builtinLookup_eq_fast]; kernel_rfl
theorem handedOut_ref (a : Addr) : handedOut (.ref a) = pure (.ref a) := rfl
inductive HedG (st : St) (p : PV) (K : PV → Prop) : Prop
 | mk (k : Nat) (q : PV) (a : p = .obj k) (b : st.glob[k]? = some (.inst 236 (some q))) (c : q.isL) (h : K q)
inductive OwnG (st : St) (p : PV) (K : Nat → Prop) : Prop
 | mk (k : Nat) (hd : Option PV) (a : p = .obj k) (b : st.glob[k]? = some (.inst 236 hd)) (h : K k)
inductive NewG (st : St) (p q : PV) (K : Nat → Prop) : Prop
 | mk (k : Nat) (a : p = .obj k) (b : st.glob[k]? = some (.inst 236 none)) (c : q.noLoc = true) (h : K k)
theorem own_load (H : HdAt cx.wd) (hb : ∀ b o, cx.wd.base.get? b = some o → s.heap.get? b = some o) {x : Addr} {v : Value} (I : s.heap.Inst x 236 (hdMap (some v))) (hh : handedOut v = pure v) {A : Around} {ex : Bool} {Q : Value → Shared → Prop} {E : Value → Shared → Prop} (hq : Q v { s with toks := s.toks + 1 }) :
  wpAny cx.M A (getAttr (.ref x) "_headers" ex) Q E s := by
 obtain ⟨nm, qq, bs, sn, sub, col, dd, k0, k1, k2, k3, k5, hC⟩ := H.cls
 obtain ⟨mN, hN, _, hga, _, _, hna⟩ := H.ns
 obtain ⟨h, g, d, t, os⟩ := s
 exact load_attr (hb _ _ hC) (hN.keeps hb) hga hna lk_headers I rfl hh hq
theorem EvE.attrH (H : HdAt cx.wd) {n : Str} {np pos : Pos} {Q : PV → St → Prop}
  (h : EvE cx (.Name n np) st (fun p st₁ => HedG st₁ p fun q => Q q st₁) X) : EvE cx (.Attribute (.Name n np) "_headers" pos) st Q X := fun gh s R => by
 refine PyProof.Rows.Attribute_name (wpAny_mono (h gh s R) ?_ fun _ _ x => x)
 rintro v s₁ ⟨p, st₁, g₁, R₁, T₁, S₁, r₁, k, q, rfl, hk, hl, hq⟩
 obtain ⟨x, d, vo, sl, rfl, _, _, I, hv⟩ := instAt R₁ r₁ hk
 obtain ⟨u, rfl, ru⟩ := hv q rfl
 exact own_load H R₁.base I (by obtain ⟨a, rfl⟩ := hl.ref ru; exact handedOut_ref a) ((PostV.same R₁ hq ru (s₁.toks + 1)).up T₁ S₁)
noncomputable def hdMeth : List (Str × Addr) := [("_convert_string_type", 135), ("__setitem__", 149), ("__delitem__", 154), ("get", 183), ("items", 200)]
theorem lk_meth : ∀ m ∈ hdMeth, m.1 ≠ ("_headers" : Str) ∧ ∃ y, typeLookup (.type "object") m.1 = pure y := by
 have k : ∀ m ∈ hdMeth, m.1 ≠ ("_headers" : Str) := by decide +kernel
 have a : ∀ {n : Str}, typeLookup (.type "object") n = pure none → ∃ y, typeLookup (.type "object") n = pure y := fun h => ⟨none, h⟩
 have l : ∀ m ∈ hdMeth, ∃ y, typeLookup (.type "object") m.1 = pure y :=
  List.forall_mem_cons.mpr ⟨a (by rw [typeLookup_type, builtinLookup_eq_fast]; kernel_rfl), List.forall_mem_cons.mpr ⟨a (by rw [typeLookup_type, builtinLookup_eq_fast]; kernel_rfl), List.forall_mem_cons.mpr ⟨a (by rw [typeLookup_type, builtinLookup_eq_fast]; kernel_rfl),
   List.forall_mem_cons.mpr ⟨a (by rw [typeLookup_type, builtinLookup_eq_fast]; kernel_rfl), List.forall_mem_cons.mpr ⟨a (by rw [typeLookup_type, builtinLookup_eq_fast]; kernel_rfl), fun _ h => (List.not_mem_nil h).elim⟩⟩⟩⟩⟩
 exact fun m hm => ⟨k m hm, l m hm⟩
inductive HdM (W : Wd) (m : Str × Addr) : Prop
 | mk (mN) (of : Obj) (fd : FuncData) (n : W.base.Ns 235 mN) (f : mN m.1 = some (.ref m.2)) (ga : mN "__getattribute__" = none) (gt : mN "__getattr__" = none) (o : W.base.get? m.2 = some of) (c : of.cls = .type "function") (d : of.data = .func fd)
theorem HdAt.meth {W : Wd} (H : HdAt W) {m : Str × Addr} (hm : m ∈ hdMeth) : HdM W m := by
 obtain ⟨mN, hN, ⟨_, h2, h3, h4, h5, h6⟩, ga, gt, _⟩ := H.ns
 have hf : ∀ m ∈ hdMeth, mN m.1 = some (.ref m.2) := List.forall_mem_cons.mpr ⟨h2, List.forall_mem_cons.mpr ⟨h3, List.forall_mem_cons.mpr ⟨h4, List.forall_mem_cons.mpr ⟨h5, List.forall_mem_cons.mpr ⟨h6, fun _ h => (List.not_mem_nil h).elim⟩⟩⟩⟩⟩
 have hp : ∀ m ∈ hdMeth, m.2 ∈ [128, 135, 149, 154, 183, 200] := by decide
 obtain ⟨o, fd, a, b, c⟩ := H.fns m.2 (hp m hm)
 exact ⟨mN, o, fd, hN, hf m hm, ga, gt, a, b, c⟩
theorem own_method (H : HdAt cx.wd) {m : Str × Addr} (hm : m ∈ hdMeth) (hb : ∀ b o, cx.wd.base.get? b = some o → s.heap.get? b = some o) {x : Addr} {vo : Option Value} (I : s.heap.Inst x 236 (hdMap vo)) {A : Around} {pl : Sem Bool} {Q : Value × List Value → Shared → Prop} {E : Value → Shared → Prop} (hq : Q (.ref m.2, [.ref x]) s) :
  wpAny cx.M A (getMethod (.ref x) m.1 pl) Q E s := by
 obtain ⟨nm, qq, bs, sn, sub, col, dd, k0, k1, k2, k3, k5, hC⟩ := H.cls
 obtain ⟨mN, of, fd, hN, hf, hga, hgt, hfo, hfc, hfd⟩ := H.meth hm
 obtain ⟨hne, y, hy⟩ := lk_meth m hm
 obtain ⟨h, g, d, t, os⟩ := s
 exact method_of (hb _ _ hC) (hN.keeps hb) hga hgt hf (hb _ _ hfo) hfc hy I (if_neg hne) hq
noncomputable abbrev toSt (Q : PV → St → Prop) (st : St) : CV → Bool → List GObj → Prop := fun x fr glob => match fr, x with
 | true, .lst l => Q (.loc st.loc.length) { st with glob := glob, loc := st.loc ++ [l] }
 | false, x => Q (.c x) { st with glob := glob }
 | _, _ => False
noncomputable abbrev toStX (X : XV → St → Prop) (st : St) : XV → List GObj → Prop := fun px glob => X px { st with glob := glob }
structure KwEv (env : Env) (pos : Pos) (kws : List Keyword) (ks : List (Str × PV)) : Prop where
 all : (backToKw pos (keywordEach kws env)).all (·.1.isSome) = true
 names : (backToKw pos (keywordEach kws env)).filterMap (·.1) = ks.map (·.1)
 low : ks.all (fun k => k.2.noLoc) = true
 ev : ∀ {M : Model} {A : Around} {E : Value → Shared → Prop} {Q : List Value → Shared → Prop} {gh : Gh} {s : Shared}, (∀ vs, ARs gh s.heap vs (ks.map (·.2)) → Q vs s) → wpAny M A (evalAll ((backToKw pos (keywordEach kws env)).map (·.2))) Q E s
theorem KwEv.nil {env : Env} {pos : Pos} : KwEv env pos [] [] := ⟨rfl, rfl, rfl, fun h => wpAny_evalAll_nil (h [] .nil)⟩
theorem KwEv.one {env : Env} {pos p1 p2 : Pos} {n : Str} {b : Bool} {kk : Nat} : KwEv env pos [⟨some n, .Constant (.bool b) kk p1, p2⟩] [(n, .c (.bool b))] := ⟨rfl, rfl, rfl, fun {M A E Q gh s} h => by
 show wpAny _ _ (evalAll [(do let v ← eval (.Constant (.bool b) kk p1) env; standAt pos; pure v)]) _ _ _
 exact wpAny_evalAll_cons (wpAny_bind (wpAny_pure (wpAny_bind (wpAny_standAt (wpAny_pure (wpAny_evalAll_nil (h [.bool b] (.cons (.c (.bool b)) .nil))))))))⟩
theorem evalArgs_kw_nil' {M : Model} {A : Around} {E : Value → Shared → Prop} {s : Shared} {f : Value} {keywords : List (Option Str × Sem Value)} {Q : Args → Shared → Prop} (hall : keywords.all (·.1.isSome) = true)
  (h : wpAny M A (spliced []) (fun vs s₁ => wpAny M A (evalAll (keywords.map (·.2))) (fun ks s₂ => Q ⟨vs, (keywords.filterMap (·.1)).zip ks⟩ s₂) E s₁) E s) : wpAny M A (evalArgs f true [] keywords) Q E s := by
 unfold evalArgs
 show wpAny M A (spliced [] >>= _) Q E s
 refine wpAny_bind (wpAny_mono h (fun vs s₁ h₁ => ?_) fun _ _ x => x)
 refine wpAny_bind (wpAny_pure ?_)
 refine wpAny_holding ?_
 simp only [hall, if_true]
 exact wpAny_bind (wpAny_mono h₁ (fun ks s₂ h₂ => wpAny_bind (wpAny_pure (wpAny_pure h₂))) fun _ _ x => x)
theorem evalArgs_own {M : Model} {A : Around} {E : Value → Shared → Prop} {s : Shared} {f : Value} {args : List (Bool × Sem Value)} {keywords : List (Option Str × Sem Value)} {Q : Args → Shared → Prop} (he : args = [] ∨ args = (false, args.head!.2) :: args.tail) (hall : keywords.all (·.1.isSome) = true)
  (h : wpAny M A (spliced args) (fun vs s₁ => wpAny M A (evalAll (keywords.map (·.2))) (fun ks s₂ => Q ⟨vs, (keywords.filterMap (·.1)).zip ks⟩ s₂) E s₁) E s) : wpAny M A (evalArgs f true args keywords) Q E s := by
 rcases he with rfl | he
 ·exact evalArgs_kw_nil' hall h
 ·rw [he]; refine evalArgs_kw hall ?_; rw [← he]; exact h
theorem eval_own {M : Model} {A : Around} {E : Value → Shared → Prop} {s : Shared} {env : Env} {o : Expr} {n : Str} {apos pos : Pos} {es : List Expr} {kws : List Keyword} {Q : Value → Shared → Prop}
  (hbase : attributeBase o n env (eval o env) = eval o env)
  (hfew : methodCallForm (es.length + kws.length) (backTo pos (starEach es env)) (backToKw pos (keywordEach kws env)) = true)
  (hline : (apos.endLine == pos.line) = true)
  (h : wpAny M A (eval o env) (fun v s₁ => wpAny M A (calleeOf true o env v n) (fun p s₂ => wpAny M A (callWith pos p.1 p.2 (backTo pos (starEach es env)) (backToKw pos (keywordEach kws env))) Q E s₂) E s₁) E s) :
  wpAny M A (eval (.Call (.Attribute o n apos) es kws pos) env) Q E s := by
 have hpos : methodCallPos true o env apos pos = pure pos := by unfold methodCallPos; simp [hline]
 rw [arm_eval_Call, hbase]
 refine wpAny_bind (wpAny_mono h (fun v s₁ h₁ => wpAny_bind (wpAny_standAt ?_)) fun _ _ x => x)
 unfold methodCall
 rw [hfew]
 refine wpAny_bind (wpAny_holding (wpAny_mono h₁ (fun p s₂ h₂ => ?_) fun _ _ x => x))
 exact wpAny_bind (wpAny_of_eq hpos h₂)
theorem EvE.own (C : cx.Ok) (hn : cx.hn = true) (H : HdAt cx.wd) {lv : Nat} (hl : lv ≤ cx.lv) {o : Expr} {m : Str × Addr} {apos pos : Pos} {es : List Expr} {kws : List Keyword} {ks : List (Str × PV)} {Q : PV → St → Prop} (hm : m ∈ hdMeth) (K : KwEv cx.env pos kws ks)
  (h : EvE cx o st (fun p st₁ => OwnG st₁ p fun k => EvL cx es st₁ (fun ps st₂ => ps.all PV.noLoc = true ∧ CallOk cx.wd lv (.ref m.2) (.obj k :: ps) ks st₂.glob (toSt Q st₂) (toStX X st₂)) X) X)
  (hbase : attributeBase o m.1 cx.env (eval o cx.env) = eval o cx.env := by rfl)
  (hfew : methodCallForm (es.length + kws.length) (backTo pos (starEach es cx.env)) (backToKw pos (keywordEach kws cx.env)) = true := by rfl)
  (hline : (apos.endLine == pos.line) = true := by rfl)
  (he : es = [] ∨ backTo pos (starEach es cx.env) = (false, (backTo pos (starEach es cx.env)).head!.2) :: (backTo pos (starEach es cx.env)).tail := by first | exact .inl rfl | exact .inr rfl) :
  EvE cx (.Call (.Attribute o m.1 apos) es kws pos) st Q X := fun gh s R => by
 refine eval_own hbase hfew hline (wpAny_mono (h gh s R) ?_ fun _ _ x => x)
 rintro v s₁ ⟨p, st₁, g₁, R₁, T₁, S₁, r₁, k, hd, rfl, hk, q₁⟩
 obtain ⟨x, d, vo, sl, rfl, _, _, I, _⟩ := instAt R₁ r₁ hk
 obtain ⟨_, of, fd, _, _, _, _, hfo, _, hfd⟩ := H.meth hm
 refine own_method H hm R₁.base I ?_
 refine callWith_function_kw (o := of) (fd := fd) (evalArgs_own (he.imp (fun z => by subst z; rfl) id) K.all (wpAny_mono (q₁ pos g₁ _ R₁) ?_ fun _ _ x => x.up T₁ S₁))
 rintro vs s₂ ⟨ps, st₂, g₂, R₂, T₂, S₂, r₂, hp, q⟩
 refine K.ev (gh := g₂) fun kv rk => ⟨⟨R₂.base _ _ hfo, hfd⟩, ?_⟩
 rw [K.names]
 exact wpAny_mono (call_ok C hn hl R₂ (.cons (AR.of (r₁.tr R₁.ok T₂) rfl) (ARs.of r₂ hp)) rk q) (fun _ _ x => x.up (T₁.trans T₂) (S₁.trans S₂)) fun _ _ x => x.up (T₁.trans T₂) (S₁.trans S₂)
theorem Rel.mutI (R : Rel cx gh st s) {d : Addr} {od : Obj} {tk : Nat} {glob' : List GObj} (hm : d ∈ gh.mu) (ho : s.heap.get? d = some od) (hd : isDict od) (x : Chg (· = d) s.heap h') (hg : GRels gh h' gh.ga glob') (hl : LRels gh h' gh.la st.loc) :
  Rel cx gh { st with glob := glob' } { s with heap := h', toks := tk } := by
 have ha := R.muU d hm
 have hD := R.muD hm
 have X := x.ext (D := gh.D) fun a z => z ▸ hD
 exact R.move R.ok (fun b o e => x.kept b o (fun z => xns ((R.fresh b (z ▸ hD)).symm.trans e)) (R.base b o e)) R.fresh (fun b z => Nat.lt_of_lt_of_le (R.din b z) x.size) (fun _ u => u) (fun _ _ _ u _ _ => u) (fun _ d => d) (fun b o hb e _ => ⟨o, x.kept b o (fun z => hb ((show b = d from z) ▸ hm)) e, rfl⟩)
  (fun _ _ r => r.ext X) (fun _ _ r => r.ext X) hg hl R.muU R.apart
inductive Stored (hp h' : Heap) (x d : Addr) (v : Value) : Prop
 | mk (sl) (od' : Obj) (a : h'.get? x = some ⟨.ref 236, some d, .plain, sl⟩) (c : Chg (· = d) hp h') (o : h'.get? d = some od') (D : HdDict od' v)
theorem storedH {hp h' : Heap} {x d : Addr} {v : Value} {sl} (hx : hp.get? x = some ⟨.ref 236, some d, .plain, sl⟩) (hz : hp.objs.size ≤ h'.objs.size) (I : h'.Inst x 236 (fun y => if y = ("_headers" : Str) then some v else none))
  (hk : ∀ b o, b ≠ x → (∀ o₀ dx, hp.get? x = some o₀ → o₀.dict = some dx → b ≠ dx) → hp.get? b = some o → h'.get? b = some o)
  (hsm : ∀ o₀, hp.get? x = some o₀ → ∃ o₁, h'.get? x = some o₁ ∧ o₁.cls = o₀.cls ∧ o₁.data = o₀.data ∧ o₁.slots = o₀.slots ∧ ∀ dx, o₀.dict = some dx → o₁.dict = some dx) : Stored hp h' x d v := by
 obtain ⟨o₁, ho₁, c1, c2, c3, c4⟩ := hsm _ hx
 have c4 := c4 d rfl
 have hx' : h'.get? x = some ⟨.ref 236, some d, .plain, sl⟩ := by
  obtain ⟨a, b, c, e⟩ := o₁
  dsimp only at c1 c2 c3 c4
  rw [ho₁, c1, c2, c3, c4]
 obtain ⟨o2, h2, _, _, h3⟩ := I
 obtain rfl := Option.some.inj (hx'.symm.trans h2)
 rcases h3 with ⟨h3, _⟩ | ⟨dx, h3, _, o3, es, ep, e1, e2, e3, e4, e5⟩
 ·exact xsn h3
 ·obtain rfl : d = dx := Option.some.inj h3
  refine ⟨sl, o3, hx', ⟨hz, fun b ob hb e => ?_⟩, e1, es, ep, e2, e3, e4, e5⟩
  by_cases hbx : b = x
  ·rw [hbx] at e ⊢; exact hx'.trans (hx.symm.trans e)
  ·exact hk b ob hbx (fun o₀ dx e1 e2 z => by obtain rfl := Option.some.inj (hx.symm.trans e1); exact hb (z.trans (Option.some.inj e2).symm)) e
theorem own_store (H : HdAt cx.wd) (hb : ∀ b o, cx.wd.base.get? b = some o → s.heap.get? b = some o) {x d : Addr} {sl} {n : Nat} {v : Value} (hx : s.heap.get? x = some ⟨.ref 236, some d, .plain, sl⟩) (hd : s.heap.get? d = some { cls := .type "dict", data := .dict [].toArray n }) (hne : d ≠ x) (hxC : x ≠ 236)
  {A : Around} {Q : Unit → Shared → Prop} {E : Value → Shared → Prop} (hq : ∀ h' tk, Stored s.heap h' x d v → Q () { s with heap := h', toks := tk }) : wpAny cx.M A (setAttr (.ref x) "_headers" v) Q E s := by
 obtain ⟨nm, qq, bs, sn, sub, col, dd, k0, k1, k2, k3, k5, hC⟩ := H.cls
 obtain ⟨mN, hN, _, _, _, hsa, hna⟩ := H.ns
 obtain ⟨hp, gg, dr, tk, os⟩ := s
 exact wpAny_sized (store_attr F.store_object (hb _ _ hC) (hN.keeps hb) hsa hna lk_headers hxC (Heap.Inst.of00 hx hd hne) (v := v) (fun h' tk' I' hkp hsm hz => hq h' tk' (storedH hx hz I' hkp hsm)) (ns := []) (hw := Within.nil) (hsz := Nat.zero_le _))
theorem ExS.asgH (H : HdAt cx.wd) {o value : Expr} {p' pos : Pos} {Q : Fl → St → Prop}
  (h : EvE cx value st (fun q st₁ => EvE cx o st₁ (fun p st₂ => NewG st₂ p q fun k => Q .next { st₂ with glob := st₂.glob.set k (.inst 236 (some q)) }) X) X)
  (hs : swapsWith value (some (.Attribute o "_headers" p')) pos.line cx.env = pure false := by rfl) : ExS cx (.Assign [.Attribute o "_headers" p'] value pos) st Q X := fun gh s R => by
 refine plainObj_wpAny_Assign_Attribute (wpAny_mono (h gh s R) ?_ fun _ _ x => x) hs
 rintro v s₁ ⟨q, st₁, g₁, R₁, T₁, S₁, r₁, q₁⟩
 refine wpAny_mono (q₁ g₁ s₁ R₁) ?_ fun _ _ x => x.up T₁ S₁
 rintro ov s₂ ⟨p, st₂, g₂, R₂, T₂, S₂, r₂, k, rfl, hk, nl, hq⟩
 obtain ⟨x, d, sl, n, rfl, hg, hx, hod, hne⟩ := inst0At R₂ r₂ hk
 have hmu : ∀ b, b ∈ (GA.i x d).addrs → b ∈ g₂.mu := fun b hb => List.mem_append_left _ (List.mem_flatMap.mpr ⟨_, List.mem_of_getElem? hg, hb⟩)
 have hdm := hmu d (.tail _ (.head _))
 refine own_store H R₂.base hx hod hne (fun z => ?_) fun h' tk' ⟨sl', od', hx', c, hod', HD⟩ => ?_
 ·obtain ⟨nm, qq, bs, sn, sub, col, dd, k0, k1, k2, k3, k5, hC⟩ := H.cls
  exact xns ((R₂.fresh x (R₂.muD (hmu x (.head _)))).symm.trans (z ▸ hC))
 have X' := c.ext (D := g₂.D) fun a z => z ▸ R₂.muD hdm
 have nd := List.nodup_append.mp (List.nodup_cons.mp R₂.apart).2
 have G' := GRels.put X' (.tail _ (.head _)) c (.inst1 hx' hod' HD ((r₁.tr R₁.ok T₂).ext X') nl) R₂.glob nd.1 hg
 have L' : LRels g₂ h' g₂.la st₂.loc := R₂.loc.ext X' fun b hb ob e => c.kept b ob (fun z => nd.2.2 d (List.mem_flatMap.mpr ⟨_, List.mem_of_getElem? hg, .tail _ (.head _)⟩) b hb (Eq.symm z)) e
 exact ⟨.next, _, g₂, R₂.mutI (tk := tk') hdm hod ⟨_, _, rfl⟩ c G' L', (T₁.trans T₂).chg c fun a z => (T₂.U a (z ▸ R₂.muU d hdm)).elim (fun q => (T₁.U a q).elim .inr .inl) fun q => .inl (Nat.le_trans T₁.size q), (S₁.trans S₂).trans ⟨rfl, rfl, rfl⟩, .next, hq⟩
end
noncomputable abbrev newDict : Obj := { cls := .type "dict", data := .dict #[] }
noncomputable abbrev newInst (C d : Addr) : Obj := { cls := .ref C, dict := some d, data := .plain }
section
variable {prog : Program} {w : World} {A : Around} {E : Value → Shared → Prop} {h : Heap} {g : Array GenState} {d : Drawn} {t : Nat} {os : OsState}
variable {nm q : Str} {C N : Addr} {bs : List Value} {sn : List Str} {sub : List Value} {col : Option Bool} {dd : Option Addr} {k0 k1 k2 k3 k5 : Option Value}
theorem call_new {mN : Str → Option Value} {rest : List Value} {fI : Addr} {oI : Obj} {Q : Value → Shared → Prop}
  (hC : h.get? C = some (excClassObj nm q C N bs [.type "object"] true sn sub false col dd k0 k1 k2 k3 k5 "object.__new__")) (hn : h.Ns N mN) (hi : mN "__init__" = some (.ref fI))
  (hfI : h.get? fI = some oI) (hfc : oI.cls = .type "function")
  (hq : wpAny (model prog w) (A.under (.builtin "type.__call__" ⟨.ref C :: rest, []⟩)) (call (.ref fI) (.ref (h.objs.size + 1) :: rest)) (fun r s' => r = .none ∧ Q (.ref (h.objs.size + 1)) s') E ⟨(h.push newDict).push (newInst C h.objs.size), g, d, t, os⟩) :
  wpAny (model prog w) A (call (.ref C) rest) Q E ⟨h, g, d, t, os⟩ := by
 have hmro : mroOf (.type "object") = pure [.type "object"] := F.mro_object
 have hlk : typeLookup (.type "object") "__init__" = pure (some (.builtin "object.__init__")) := by rw [typeLookup_type, builtinLookup_eq_fast]; kernel_rfl
 have f1 := tc_lookup
 have f2 := tc_bind (.ref C)
 have hT : (⟨h, g, d, t, os⟩ : Shared).TypeIs (.ref C) "type" := ⟨_, hC, rfl⟩
 have keep : ∀ b o, h.get? b = some o → ((h.push newDict).push (newInst C h.objs.size)).get? b = some o := fun b o e => Heap.get?_push_of_some _ (Heap.get?_push_of_some _ e)
 have hget : ((h.push newDict).push (newInst C h.objs.size)).get? (h.objs.size + 1) = some (newInst C h.objs.size) := by heap_get
 refine wpAny_call (codeAny_of_tree ?_)
 show wpAny _ _ (callAny (.ref C) _) _ _ _
 repeat (any_goals (first | assumption | with_reducible refine wpAny_loadPart_at hC ?_ | wp_step))
 refine ⟨rfl, codeAny_call_builtin_at (Code.quiet_builtin _ (by decide +kernel)) entry_typeCall (wpAny_check_type_call_sub hC ?_)⟩
 repeat (first | with_reducible refine wpAny_loadPart_at hC ?_ | with_reducible refine wpAny_madeBy_exc hC ?_ | wp_step)
 refine codeAny_call_builtin_code (Code.quiet_builtin _ F.objNew.quiet) (wpAny_check_obj_new F.objNew hC (codeAny_obj_new F.objNew hC hn hi ?_))
 show wpAny _ _ _ _ _ _
 have hcC : (Value.ref C :: [Value.type "object"]).contains (.ref C) = true := by simp
 have hC₁ := keep _ _ hC
 unfold isInstance
 repeat (first | with_reducible refine wpAny_loadPart_at hget ?_ | (with_reducible refine wpAny_isSubtype_exc hC₁ ?_; rw [hcC]) | wp_step)
 show wpAny _ _ (typeLookup (.ref C) _) _ _ _
 refine wpAny_typeLookup_exc hC₁ (hn.keeps keep) hmro hlk ?_
 rw [hi]
 refine wpAny_holding (wpAny_bind ?_)
 unfold bindSpecial
 refine wpAny_bind (wpAny_typeOf (T := "function") ⟨_, keep _ _ hfI, hfc⟩ ?_)
 rw [if_pos (by decide)]
 refine wpAny_pure (wpAny_bind (wpAny_mono hq (fun r s' hr => ?_) fun _ _ x => x))
 obtain ⟨rfl, hQ⟩ := hr
 wp_walk
 exact hQ
end
section
variable {cx : Cx} {gh : Gh} {st : St} {s : Shared} {X : XV → St → Prop} {h' : Heap}
theorem under_tc (A : Around) (C : Addr) (rest : List Value) : (A.under (.builtin "type.__call__" ⟨.ref C :: rest, []⟩)).handled = A.handled ∧ (A.under (.builtin "type.__call__" ⟨.ref C :: rest, []⟩)).frames = A.frames ∧ (A.under (.builtin "type.__call__" ⟨.ref C :: rest, []⟩)).depth ≤ A.depth + 10 ∧ (A.under (.builtin "type.__call__" ⟨.ref C :: rest, []⟩)).units ≤ A.units + 10 := by
 have hw : (Code.builtin "type.__call__" ⟨.ref C :: rest, []⟩).weight ≤ 10 := Nat.le_of_ble_eq_true (by kernel_rfl)
 have hu : (Code.builtin "type.__call__" ⟨.ref C :: rest, []⟩).cUnits ≤ 10 := Nat.le_of_ble_eq_true (by kernel_rfl)
 have he : (Code.builtin "type.__call__" ⟨.ref C :: rest, []⟩).envs = [] := by kernel_rfl
 refine ⟨rfl, ?_, ?_, ?_⟩
 ·unfold Around.under
  dsimp only
  rw [he, pushEnvs_eq]; cases A.frames <;> rfl
 ·unfold Around.under; dsimp only; omega
 ·unfold Around.under; dsimp only; omega
theorem newInst_ok (R : Rel cx gh st s) {C : Addr} :
  let g : GA := .i (s.heap.objs.size + 1) s.heap.objs.size
  let s' : Shared := { s with heap := (s.heap.push newDict).push (newInst C s.heap.objs.size) }
  Rel cx (gh.newGlob g) { st with glob := st.glob ++ [.inst C none] } s' ∧ Tr gh s.heap (gh.newGlob g) s'.heap ∧ PRel (gh.newGlob g) s'.heap (.ref (s.heap.objs.size + 1)) (.obj st.glob.length) := by
 intro g s'
 have x : Chg (fun _ => False) s.heap s'.heap := (Chg.push ..).trans (.push ..)
 have hsz : s'.heap.objs.size = s.heap.objs.size + 1 + 1 := by
  show ((s.heap.push newDict).push _).objs.size = _
  rw [Heap.size_push, Heap.size_push]
 have hP : ∀ b, b ∈ g.addrs → s.heap.objs.size ≤ b ∧ b < s'.heap.objs.size := by
  intro b hb
  simp only [g, GA.addrs, List.mem_cons, List.not_mem_nil, or_false] at hb
  rw [hsz]
  rcases hb with rfl | rfl
  ·exact ⟨Nat.le_succ _, Nat.lt_succ_self _⟩
  ·exact ⟨Nat.le_refl _, Nat.lt_succ_of_lt (Nat.lt_succ_self _)⟩
 have nd : g.addrs.Nodup := by simp [g, GA.addrs]
 have hd : s'.heap.get? s.heap.objs.size = some newDict := Heap.get?_push_of_some _ (Heap.get?_push_size _ rfl)
 have hx : s'.heap.get? (s.heap.objs.size + 1) = some (newInst C s.heap.objs.size) := Heap.get?_push_at (by simp only [Heap.size_push]) rfl
 refine ⟨R.newGlob x hP nd (.inst0 hx hd) s.toks, Tr.newGlob x fun b hb => (hP b hb).1, ?_⟩
 have hlen := R.glob.len
 refine .obj (g := g) ?_
 show (gh.ga ++ [g])[st.glob.length]? = some g
 rw [← hlen, List.getElem?_append_right (Nat.le_refl _), Nat.sub_self]; rfl
inductive NewQ (cx : Cx) (lv : Nat) (Q : PV → St → Prop) (X : XV → St → Prop) (p : PV) (st : St) : Prop
 | mk (a : p.noLoc = true) (b : CallOk cx.wd lv (.ref 128) [.obj st.glob.length, p] [] (st.glob ++ [.inst 236 none]) (fun x fr glob => x = .none ∧ fr = false ∧ Q (.obj st.glob.length) { st with glob := glob }) (toStX X st))
theorem ev_new (C : cx.Ok) (hn : cx.hn = true) (H : HdAt cx.wd) {lv : Nat} (hl : lv + 1 ≤ cx.lv) {nm : Str} {np pos : Pos} {e : Expr} {Q : PV → St → Prop}
  (h : EvE cx (.Name nm np) st (fun pf st₁ => pf = .c (.con (.ref 236)) ∧ EvE cx e st₁ (NewQ cx lv Q X) X) X)
  (he : starEach [e] cx.env = [(false, eval e cx.env)] := by rfl) :
  EvE cx (.Call (.Name nm np) [e] [] pos) st Q X := fun gh s R => by
 refine wpAny_Call_Name_kw (wpAny_mono (h gh s R) ?_ fun _ _ x => x)
 rintro v s₁ ⟨pf, st₁, g₁, R₁, T₁, S₁, r₁, rfl, q₁⟩
 replace r₁ := r₁.toC; replace r₁ := r₁.inv; obtain rfl := r₁
 obtain ⟨nm, qq, bs, sn, sub, col, dd, k0, k1, k2, k3, k5, hC⟩ := H.cls
 obtain ⟨mN, hN, ⟨hi, _⟩, _⟩ := H.ns
 obtain ⟨oI, fdI, hfI, hfc, _⟩ := H.fns 128 (by simp)
 have hb : backTo pos (starEach [e] cx.env) = [(false, eval e cx.env)] := by rw [he]; rfl
 refine callWith_machine (by rw [hb]; rfl) (by rw [hb]; rfl) (wpAny_items_cons (pos := pos) (e := e) (rest := []) (env := cx.env) (wpAny_mono (q₁ g₁ s₁ R₁) ?_ fun _ _ x => x.up T₁ S₁) he)
 rintro v s₂ ⟨p, st₂, g₂, R₂, T₂, S₂, r₂, nl, q₂⟩
 refine wpAny_items_nil ?_
 obtain ⟨R₃, T₃, ro⟩ := newInst_ok R₂ (C := 236)
 have hC₂ := R₂.base _ _ hC
 have rp := (r₂.tr R₂.ok T₃)
 obtain ⟨hp, gg, dr, tk, os⟩ := s₂
 refine ⟨fun Q' q' => wpAny_keeperOf_exc hC₂ q', ?_⟩
 have T := T₁.trans (T₂.trans T₃)
 have S : Same s ⟨(hp.push newDict).push (newInst 236 hp.objs.size), gg, dr, tk, os⟩ := (S₁.trans S₂).trans ⟨rfl, rfl, rfl⟩
 obtain ⟨u1, u2, u3, u4⟩ := under_tc cx.A 236 [v]
 have P := R₃.pre C hn (Nat.le_refl _)
 have P' : Pre cx.wd (cx.A.under (.builtin "type.__call__" ⟨.ref 236 :: [v], []⟩)) (cx.fenv :: cx.outer) lv _ _ _ := ⟨P.ok, P.base, P.fresh, P.din, P.glob, P.muU, P.apart, by rw [u2]; exact P.frames, by have := C.lv; omega, by rw [u1]; exact P.hn, P.wd⟩
 refine call_new (rest := [v]) hC₂ (hN.keeps R₂.base) hi (R₂.base _ _ hfI) hfc ?_
 refine wpAny_call (codeAny_mono (q₂ _ _ _ _ [.ref (hp.objs.size + 1), v] [] P' (.cons (.of ro rfl) (.cons (.of rp nl) .nil)) .nil) fun r s' p => ?_)
 cases r with
 | error e =>
  obtain ⟨a, px, glob, D', rfl, O, xr, q⟩ := p
  exact (call_x R₃ O xr q).up (s₁ := ⟨(hp.push newDict).push (newInst 236 hp.objs.size), gg, dr, tk, os⟩) T S
 | ok f =>
  cases f with
  | ret v' =>
   rcases p with ⟨x, glob, O, rv, rfl, _, q⟩ | ⟨a, vs', n, l, glob, rfl, ha, ho, O, rv, _, hf, _⟩
   ·cases rv
    refine ⟨rfl, ?_⟩
    have ro' : PRel (g₂.newGlob (.i (hp.objs.size + 1) hp.objs.size)) s'.heap (.ref (hp.objs.size + 1)) (.obj st₂.glob.length) := by
     generalize hw : Value.ref (hp.objs.size + 1) = w at ro
     replace ro := ro.inv; obtain ⟨_, rfl, hg⟩ := ro; exact .obj hg
    exact PostV.up (s₁ := ⟨(hp.push newDict).push (newInst 236 hp.objs.size), gg, dr, tk, os⟩) T S ⟨_, _, _, R₃.back O, R₃.backTr O, O.same, ro', q⟩
   ·cases hf
  | next => exact p.elim
  | brk => exact p.elim
  | cont => exact p.elim
end
section
variable {cx : Cx} {gh : Gh} {st : St} {s : Shared} {X : XV → St → Prop} {h' : Heap}
theorem anyM_no {M : Model} {A : Around} {E : Value → Shared → Prop} {α : Type} {f : α → Sem Bool} {s : Shared} {Q : Bool → Shared → Prop} : ∀ {l : List α}, (∀ a ∈ l, ∀ {Q : Bool → Shared → Prop}, Q false s → wpAny M A (f a) Q E s) → Q false s → wpAny M A (l.anyM f) Q E s
 | [], _, h => wpAny_pure h
 | a :: l, hf, h => by
  show wpAny M A (f a >>= _) Q E s
  refine wpAny_bind (hf a (.head _) ?_)
  exact anyM_no (fun b hb => hf b (.tail _ hb)) h
theorem special_ok (H : HdAt cx.wd) {m : Str × Addr} (hm : m ∈ hdMeth) {A : Around} {E : Value → Shared → Prop} {x : Addr} {args : List Value} {Q : Option Value → Shared → Prop} (hb : ∀ b o, cx.wd.base.get? b = some o → s.heap.get? b = some o) {ox : Obj} (hx : s.heap.get? x = some ox) (hc : ox.cls = .ref 236)
  (h : wpAny cx.M A (call (.ref m.2) ([.ref x] ++ args)) (fun v s' => Q (some v) s') E s) : wpAny cx.M A (callSpecial? (.ref x) m.1 args) Q E s := by
 obtain ⟨nm, qq, bs, sn, sub, col, dd, k0, k1, k2, k3, k5, hC⟩ := H.cls
 obtain ⟨mN, of, fd, hN, hf, _, _, hfo, hfc, _⟩ := H.meth hm
 obtain ⟨_, y, hy⟩ := lk_meth m hm
 have hC := hb _ _ hC
 have hN := hN.keeps hb
 have hfo := hb _ _ hfo
 have hT : s.TypeIs (.ref m.2) "function" := ⟨_, hfo, hfc⟩
 obtain ⟨hp, g, d, t, os⟩ := s
 unfold callSpecial? specialOf
 refine wpAny_bind (wpAny_bind ?_)
 refine wpAny_mono (Q := fun v s' => v = .ref 236 ∧ s' = ⟨hp, g, d, t, os⟩) ?_ ?_ fun _ _ e => e
 ·unfold typeOf
  repeat (first | (with_reducible refine wpAny_loadPart_at hx ?_; rw [hc]) | wp_step)
  exact ⟨rfl, rfl⟩
 ·rintro v s' ⟨rfl, rfl⟩
  refine wpAny_typeLookup_exc hC hN F.mro_object hy ?_
  rw [hf]
  dsimp only
  refine wpAny_holding (wpAny_bind ?_)
  unfold bindSpecial
  refine wpAny_bind (wpAny_typeOf (T := "function") hT ?_)
  rw [if_pos (by decide)]
  exact wpAny_pure (wpAny_bind (wpAny_mono h (fun v s' hq => wpAny_pure hq) fun _ _ e => e))
theorem seqKey_ok (H : HdAt cx.wd) {A : Around} {E : Value → Shared → Prop} {x : Addr} {k : Value} {name : Str} {Q : Value → Shared → Prop} (hb : ∀ b o, cx.wd.base.get? b = some o → s.heap.get? b = some o) {ox : Obj} (hx : s.heap.get? x = some ox) (hc : ox.cls = .ref 236)
  (h : Q k s) : wpAny cx.M A (sequenceKey (.ref x) k name) Q E s := by
 obtain ⟨nm, qq, bs, sn, sub, col, dd, k0, k1, k2, k3, k5, hC⟩ := H.cls
 have hC := hb _ _ hC
 obtain ⟨hp, g, d, t, os⟩ := s
 unfold sequenceKey
 refine wpAny_bind ?_
 refine wpAny_mono (Q := fun v s' => v = .ref 236 ∧ s' = ⟨hp, g, d, t, os⟩) ?_ ?_ fun _ _ e => e
 ·unfold typeOf
  repeat (first | (with_reducible refine wpAny_loadPart_at hx ?_; rw [hc]) | wp_step)
  exact ⟨rfl, rfl⟩
 ·rintro v s' ⟨rfl, rfl⟩
  dsimp only
  refine wpAny_bind (anyM_no (fun n hn Q hq => ?_) ?_)
  ·refine wpAny_isSubtype_exc hC ?_
   have : (Value.ref 236 :: [Value.type "object"]).contains (.type n) = false := by
    revert n; decide +kernel
   rw [this]; exact hq
  ·exact wpAny_pure h
noncomputable abbrev toF (Q : Fl → St → Prop) (st : St) : CV → Bool → List GObj → Prop := fun _ fr glob => fr = false ∧ Q .next { st with glob := glob }
theorem callOwn_ok (C : cx.Ok) (hn : cx.hn = true) {lv : Nat} (hl : lv ≤ cx.lv) {f : Value} {args : List PV} {vs : List Value} {Q : Fl → St → Prop} (R : Rel cx gh st s) (ra : ARs gh s.heap vs args)
  (h : CallOk cx.wd lv f args [] st.glob (toF Q st) (toStX X st)) : wpAny cx.M cx.A (call f vs) (fun _ s' => PostF cx gh s Q .next s') (PostX cx gh s X) s := by
 refine wpAny_call (codeAny_mono (h cx.A _ gh s vs [] (R.pre C hn hl) ra .nil) fun r s' p => ?_)
 cases r with
 | error e =>
  obtain ⟨a, px, glob, D', rfl, O, xr, q⟩ := p
  exact call_x R O xr q
 | ok f =>
  cases f with
  | ret v =>
   rcases p with ⟨x, glob, O, rv, _, q⟩ | ⟨a, vs', n, l, glob, rfl, ha, ho, O, rv, hf, _⟩
   ·exact ⟨.next, _, _, R.back O, R.backTr O, O.same, .next, q⟩
   ·cases hf
  | next => exact p.elim
  | brk => exact p.elim
  | cont => exact p.elim
theorem instObj (R : Rel cx gh st s) {k : Nat} {C : Addr} {hd : Option PV} {v : Value} (r : PRel gh s.heap v (.obj k)) (hk : st.glob[k]? = some (.inst C hd)) : ∃ x ox, v = .ref x ∧ s.heap.get? x = some ox ∧ ox.cls = .ref C := by
 obtain ⟨x, d, vo, sl, rfl, _, hx, _⟩ := instAt R r hk
 exact ⟨x, _, rfl, hx, rfl⟩
inductive SetG (st : St) (pv p : PV) (K : List CV → Prop) : Prop
 | mk (x l : List CV) (a : pv = .c (.lst x)) (b : p.live = true) (c : itemsOf st p = some l) (d : l.length + x.length ≤ 1000000) (h : K x)
inductive OwnS (st : St) (p q pv : PV) (K : Nat → Prop) : Prop
 | mk (k : Nat) (hd : Option PV) (a : p = .obj k) (b : st.glob[k]? = some (.inst 236 hd)) (c : q.noLoc = true) (d : pv.noLoc = true) (h : K k)
inductive OwnD (st : St) (p q : PV) (K : Nat → Prop) : Prop
 | mk (k : Nat) (hd : Option PV) (a : p = .obj k) (b : st.glob[k]? = some (.inst 236 hd)) (c : q.noLoc = true) (h : K k)
theorem ExS.setOwn (C : cx.Ok) (hn : cx.hn = true) (H : HdAt cx.wd) {lv : Nat} (hl : lv ≤ cx.lv) {o i value : Expr} {p' pos : Pos} {Q : Fl → St → Prop}
  (h : EvE cx value st (fun pv st₁ => EvE cx o st₁ (fun p st₂ => EvE cx i st₂ (fun q st₃ => OwnS st₃ p q pv fun k => CallOk cx.wd lv (.ref 149) [.obj k, q, pv] [] st₃.glob (toF Q st₃) (toStX X st₃)) X) X) X)
  (hs : swapsWith value (some (.Subscript o i p')) pos.line cx.env = pure false := by rfl) : ExS cx (.Assign [.Subscript o i p'] value pos) st Q X := fun gh s R => by
 refine wpAny_Assign_Subscript (wpAny_mono (h gh s R) ?_ fun _ _ x => x) hs
 rintro v s₁ ⟨pv, st₁, g₁, R₁, T₁, S₁, r₁, q₁⟩
 refine wpAny_mono (q₁ g₁ s₁ R₁) ?_ fun _ _ x => x.up T₁ S₁
 rintro ov s₂ ⟨p, st₂, g₂, R₂, T₂, S₂, r₂, q₂⟩
 refine wpAny_mono (q₂ g₂ s₂ R₂) ?_ fun _ _ x => x.up (T₁.trans T₂) (S₁.trans S₂)
 rintro iv s₃ ⟨q, st₃, g₃, R₃, T₃, S₃, r₃, k, hd, rfl, hk, n1, n2, hq⟩
 have ro := r₂.tr R₂.ok T₃
 obtain ⟨x, ox, rfl, hx, hc⟩ := instObj R₃ ro hk
 have rv := r₁.tr R₁.ok (T₂.trans T₃)
 unfold setItem
 refine wpAny_holding (wpAny_bind (seqKey_ok H R₃.base hx hc (wpAny_bind (special_ok H (m := ("__setitem__", 149)) (by decide) R₃.base hx hc ?_))))
 refine wpAny_mono (callOwn_ok C hn hl R₃ (.cons (.of ro rfl) (.cons (.of r₃ n1) (.cons (.of rv n2) .nil))) hq) (fun v s' p => wpAny_pure (p.up ((T₁.trans T₂).trans T₃) ((S₁.trans S₂).trans S₃))) fun _ _ x => x.up ((T₁.trans T₂).trans T₃) ((S₁.trans S₂).trans S₃)
theorem ExS.delOwn (C : cx.Ok) (hn : cx.hn = true) (H : HdAt cx.wd) {lv : Nat} (hl : lv ≤ cx.lv) {o i : Expr} {p' pos : Pos} {Q : Fl → St → Prop}
  (h : EvE cx o st (fun p st₂ => EvE cx i st₂ (fun q st₃ => OwnD st₃ p q fun k => CallOk cx.wd lv (.ref 154) [.obj k, q] [] st₃.glob (toF Q st₃) (toStX X st₃)) X) X) :
  ExS cx (.Delete [.Subscript o i p'] pos) st Q X := fun gh s R => by
 refine wpAny_Delete (wpAny_deleteEach_cons (wpAny_delete_Subscript (wpAny_mono (h gh s R) ?_ fun _ _ x => x)))
 rintro ov s₂ ⟨p, st₂, g₂, R₂, T₂, S₂, r₂, q₂⟩
 refine wpAny_mono (q₂ g₂ s₂ R₂) ?_ fun _ _ x => x.up T₂ S₂
 rintro iv s₃ ⟨q, st₃, g₃, R₃, T₃, S₃, r₃, k, hd, rfl, hk, n1, hq⟩
 have ro := r₂.tr R₂.ok T₃
 obtain ⟨x, ox, rfl, hx, hc⟩ := instObj R₃ ro hk
 unfold delItem
 refine wpAny_holding (wpAny_bind (seqKey_ok H R₃.base hx hc (wpAny_bind (special_ok H (m := ("__delitem__", 154)) (by decide) R₃.base hx hc ?_))))
 exact wpAny_mono (callOwn_ok C hn hl R₃ (.cons (.of ro rfl) (.cons (.of r₃ n1) .nil)) hq) (fun v s' p => wpAny_pure (wpAny_deleteEach_nil (p.up (T₂.trans T₃) (S₂.trans S₃)))) fun _ _ x => x.up (T₂.trans T₃) (S₂.trans S₃)
theorem setAll_ok {prog : Program} {w : World} {A : Around} {E : Value → Shared → Prop} {l sl b : Addr} {items vs : Array Value} {n m : Nat} {Q : Unit → Shared → Prop} (ho : s.heap.get? l = some (lstObj items n)) (hb : s.heap.get? b = some (lstObj vs m)) (hne : l ≠ b)
  (hs : s.heap.IsSliceOf sl .none .none .none) (hz : items.size + vs.size ≤ sizeLine) (hQ : ∀ h' k, Heap.SameBut l s.heap h' → h'.get? l = some (lstObj vs k) → Q () { s with heap := h' }) :
  wpAny (model prog w) A (setItem (.ref l) (.ref sl) (.ref b)) Q E s := by
 have hT : s.TypeIs (.ref l) "list" := ⟨_, ho, rfl⟩
 obtain ⟨os, h1, h2, h3⟩ := id hs
 have hTs : s.TypeIs (.ref sl) "slice" := ⟨os, h1, h2⟩
 unfold setItem
 refine wpAny_holding (wpAny_bind (wpAny_sequenceKey hT (by decide) ?_))
 refine wpAny_bind (wpAny_callSpecial?_slot (name := Str.ofString "__setitem__") hT slot_list_setitem
  (wpAny_call_entry slot_list_setitem hT entry_list_setitem ?_ (args_list_setitem _ _ _)))
 have hTb : s.TypeIs (.ref b) "list" := ⟨_, hb, rfl⟩
 show wpAny _ _ (Builtin.List.listSubscript? (.ref sl) >>= _) _ _ s
 refine wpAny_bind ?_
 unfold Builtin.List.listSubscript?
 refine wpAny_bind (wpAny_specialOf hTs slice_no_index ?_)
 simp only [Option.isNone_none, if_true]
 refine wpAny_pure ?_
 show wpAny _ _ (typeOf (.ref sl) >>= _) _ _ s
 refine wpAny_bind (wpAny_typeOf hTs ?_)
 rw [if_neg (by decide)]
 rw [listSliceParts_eq]
 refine wpAny_bind (wpAny_bind (wpAny_field h1 h3 (x := .none) rfl (wpAny_bind (wpAny_listPart .none ?_))))
 rw [if_neg (by decide)]
 refine wpAny_bind (wpAny_field h1 h3 (x := .none) rfl (wpAny_bind (wpAny_listPart .none ?_)))
 refine wpAny_bind (wpAny_field h1 h3 (x := .none) rfl (wpAny_bind (wpAny_listPart .none (wpAny_pure ?_))))
 have hsame : Builtin.List.listSameRef (.ref l) (.ref b) = false := by
  show (l == b) = false
  simp [hne]
 have items_ok : ∀ {a : Addr} {xs : Array Value} {k : Nat} {A : Around} {E : Value → Shared → Prop} {Q : Array Value → Shared → Prop}, s.heap.get? a = some (lstObj xs k) → Q xs s → wpAny (model prog w) A (Builtin.List.listItems (.ref a)) Q E s := by
  intro a xs k A E Q ha hq
  unfold Builtin.List.listItems
  exact wpAny_bind (wpAny_seqItems ha rfl (wpAny_pure hq))
 dsimp only
 rw [hsame]
 refine wpAny_bind ?_
 have all_ok : ∀ {msg : String} {A : Around} {E : Value → Shared → Prop} {Q : Array Value → Shared → Prop}, Q vs s → wpAny (model prog w) A (Builtin.List.listAllItems (.ref b) msg) Q E s := by
  intro msg A E Q hq
  unfold Builtin.List.listAllItems
  refine wpAny_bind (wpAny_typeOf hTb ?_)
  have hc : (Value.type "list" == Value.type "list" || Value.type "list" == Value.type "tuple") = true := by decide
  simp only [hc, if_true]
  exact items_ok hb hq
 refine all_ok ?_
 refine wpAny_bind (items_ok ho ?_)
 refine wpAny_bind (wpAny_of_eq (sliceIndices_raw Option.none Option.none Option.none items.size (by decide)) ?_)
 have hb1 : sliceBounds Option.none Option.none Option.none items.size = (0, (items.size : Int), 1) := rfl
 rw [hb1]
 dsimp only
 have htl : Builtin.List.listTooLong (items.size + vs.size) = false := by
  unfold Builtin.List.listTooLong; exact decide_eq_false (by omega)
 rw [htl]
 simp only [beq_self_eq_true, if_true, Bool.false_eq_true, if_false]
 refine wpAny_bind (wpAny_rule ?_)
 have hf : (fun xs : Array Value => xs.extract 0 (0 : Int).toNat ++ vs ++ xs.extract (max 0 (items.size : Int)).toNat) = fun xs => vs ++ xs.extract items.size := by
  funext xs
  have e1 : (max 0 (items.size : Int)).toNat = items.size := by omega
  rw [e1]; simp
 rw [hf]
 refine wpAny_bind ?_
 show wpAny _ _ (updateSeq l _) _ _ _
 refine wpAny_updateSeq ho rfl ?_ (by omega) (by
  have : (vs ++ items.extract items.size).size ≤ vs.size := by simp
  omega)
 have up := IsL.update (h := s.heap) ho (fun xs : Array Value => vs ++ xs.extract items.size)
 rw [show vs ++ items.extract items.size = vs from by simp] at up
 exact wpAny_bind (wpAny_letGo (wpAny_pure ⟨_, rfl, wpAny_pure (hQ _ _ (Heap.SameBut.update ..) up)⟩))
theorem ExS.setAll {o value : Expr} {sp p' pos : Pos} {Q : Fl → St → Prop}
  (h : EvE cx value st (fun pv st₁ => EvE cx o st₁ (fun p st₂ => SetG st₂ pv p fun x => Q .next (st₂.put p x)) X) X)
  (hs : swapsWith value (some (.Subscript o (.Slice Option.none Option.none Option.none sp) p')) pos.line cx.env = pure false := by rfl) : ExS cx (.Assign [.Subscript o (.Slice Option.none Option.none Option.none sp) p'] value pos) st Q X := fun gh s R => by
 refine wpAny_Assign_Subscript (wpAny_mono (h gh s R) ?_ fun _ _ x => x) hs
 rintro v s₁ ⟨pv, st₁, g₁, R₁, T₁, S₁, r₁, q₁⟩
 refine wpAny_mono (q₁ g₁ s₁ R₁) ?_ fun _ _ x => x.up T₁ S₁
 rintro ov s₂ ⟨p, st₂, g₂, R₂, T₂, S₂, r₂, x, l, rfl, hp, hl, hz, hq⟩
 have rv := r₁.tr R₁.ok T₂
 have ev : ∀ {E : Value → Shared → Prop} {Q : Value → Shared → Prop}, Q (.ref s₂.heap.objs.size) { s₂ with heap := s₂.heap.push { cls := .type "slice", data := .fields #[.none, .none, .none] } } → wpAny cx.M cx.A (eval (.Slice Option.none Option.none Option.none sp) cx.env) Q E s₂ := fun hq => by
  refine wpAny_Slice ?_
  rw [evalPart_none]
  exact wpAny_pure (wpAny_pure (wpAny_pure hq))
 refine ev ?_
 have R₃ : Rel cx g₂ st₂ _ := R₂.newObj { cls := .type "slice", data := .fields #[.none, .none, .none] }
 have T₃ := Tr.newObj g₂ s₂.heap { cls := .type "slice", data := .fields #[.none, .none, .none] }
 obtain ⟨a, vs, n, rfl, ha, ho, rs⟩ := live_of (r₂.tr R₂.ok T₃) hp R₃ hl
 have rc := (rv.tr R₂.ok T₃).toC; replace rc := rc.inv; obtain ⟨b, vsb, nb, rfl, hb, hd, rb⟩ := rc
 have hU : g₂.U a := let ⟨_, _, _, _, hU⟩ := liveList R₃ ha hl; hU
 have hne : a ≠ b := by rintro rfl; exact hd (R₃.ok.UD _ hU)
 have e1 := rs.len
 have e2 := rb.len
 rw [Array.length_toList] at e1 e2
 refine setAll_ok ho hb hne (Heap.IsSliceOf.new ..) (by rw [sizeLine_eq]; omega) fun h' k hs' ho' => ?_
 obtain ⟨R', T'⟩ := mut_ok (tk := s₂.toks) R₃ ha hl ho hs' ho' rb
 exact ⟨.next, _, g₂, R', ((T₁.trans T₂).trans T₃).trans T', ((S₁.trans S₂).trans ⟨rfl, rfl, rfl⟩), .next, hq⟩
end
noncomputable def codeN : Array Nat := #[14, 10, 4, 1, 1, 22, 0, 31, 16, 127, 0, 13, 7, 22, 0, 31, 16, 127, 0, 1]
noncomputable def codeV : Array Nat := #[14, 14, 4, 1, 1, 9, 4294966783, 0, 0, 2147483648, 0, 0, 0, 0, 0, 13, 11, 9, 4294966783, 0, 0, 2147483648, 0, 0, 0, 0, 0, 1]
noncomputable def setN (c : Nat) : Bool := decide (c ≤ 31) || c == 127
noncomputable def setV (c : Nat) : Bool := decide (c < 256) && (codeV.getD (5 + (1 + c / 32)) 0).testBit (c % 32)
noncomputable def thr (a b : Bool) (s1 s2 s3 : Sre.Seen) : Except String (Bool × Sre.Seen) := if a = true then .ok (true, s1) else if b = true then .ok (true, s2) else .ok (false, s3)
theorem thr_ok (a b : Bool) (s1 s2 s3 : Sre.Seen) : ∃ s', thr a b s1 s2 s3 = .ok (a || b, s') := by cases a <;> cases b <;> exact ⟨_, rfl⟩
theorem inN {c i : Nat} {seen : Sre.Seen} (hi : i = 5 ∨ i = 13) : ∃ s', Sre.inSet codeN c codeN.size i true seen = .ok (setN c, s') := by
 obtain ⟨s1, s2, s3, e⟩ : ∃ s1 s2 s3, Sre.inSet codeN c codeN.size i true seen = thr (decide (0 ≤ c) && decide (c ≤ 31)) (c == 127) s1 s2 s3 := by rcases hi with rfl | rfl <;> exact ⟨_, _, _, rfl⟩
 rw [e, decide_eq_true (Nat.zero_le c), Bool.true_and]
 exact thr_ok ..
theorem wordV {k : Nat} : k < 8 → codeV.getD (17 + (1 + k)) 0 = codeV.getD (5 + (1 + k)) 0 := by
 revert k; decide
theorem inV {c i : Nat} {seen : Sre.Seen} (hi : i = 5 ∨ i = 17) : ∃ s', Sre.inSet codeV c codeV.size i true seen = .ok (setV c, s') := by
 obtain ⟨s1, s2, e⟩ : ∃ s1 s2, Sre.inSet codeV c codeV.size i true seen = thr (decide (c < 256) && (codeV.getD (i + (1 + c / 32)) 0).testBit (c % 32)) false s1 s1 s2 := by rcases hi with rfl | rfl <;> exact ⟨_, _, rfl⟩
 have e2 : (decide (c < 256) && (codeV.getD (i + (1 + c / 32)) 0).testBit (c % 32)) = setV c := by
  unfold setV
  rcases hi with rfl | rfl
  ·rfl
  ·by_cases h : c < 256
   ·rw [wordV (Nat.div_lt_of_lt_mul h)]
   ·rw [decide_eq_false h, Bool.false_and, Bool.false_and]
 have := thr_ok (setV c) false s1 s1 s2
 rw [Bool.or_false] at this
 rw [e, e2]; exact this
inductive OneF (l : List Sre.Frame) : Prop
 | mk (f : Sre.Frame) (fr : l = [f]) (fw : f.wait = .nextStart)
structure Rdy (code : Array Nat) (pc : Nat) (M : Sre.M) : Prop where
 c : M.code = code
 o : M.outcome = none
 a : M.answer = none
 p : M.pc = pc
 f : OneF M.frames
 w : M.wholeText = false
 ma : M.mustAdvance = false
structure Dne (M : Sre.M) : Prop where
 o : M.outcome = none
 a : M.answer = some true
 f : OneF M.frames
structure PatC (code : Array Nat) (set : Nat → Bool) (body : Nat) : Prop where
 head : Sre.header code = (1, body)
 fs : ∀ {m : Sre.M}, m.code = code → m.hasFirstSet = true
 first : ∀ c seen, ∃ s', Sre.inSet code c code.size 5 true seen = .ok (set c, s')
 again : ∀ c seen, ∃ s', Sre.inSet code c code.size (body + 2) true seen = .ok (set c, s')
 hit : ∀ {m : Sre.M}, Rdy code body m → m.pos < m.lim → (∀ sn, ∃ s', Sre.inSet code (m.text.getD m.pos 0) code.size (body + 2) true sn = .ok (true, s')) → Rdy code (body + (1 + code.getD (body + 1) 0)) m.exec
 stop : ∀ {m : Sre.M}, Rdy code (body + (1 + code.getD (body + 1) 0)) m → Dne m.exec
 size1 : body < code.size
 size2 : body + (1 + code.getD (body + 1) 0) < code.size
theorem accN (c : Nat) (sn : Sre.Seen) : Sre.accepts codeN 11 c sn = Sre.inSet codeN c codeN.size (11 + 2) true sn := rfl
theorem accV (c : Nat) (sn : Sre.Seen) : Sre.accepts codeV 15 c sn = Sre.inSet codeV c codeV.size (15 + 2) true sn := rfl
theorem hitN {m : Sre.M} (r : Rdy codeN 11 m) (hp : m.pos < m.lim) (e : ∀ sn, ∃ s', Sre.inSet codeN (m.text.getD m.pos 0) codeN.size (11 + 2) true sn = .ok (true, s')) : Rdy codeN (11 + (1 + codeN.getD (11 + 1) 0)) m.exec := by
 obtain ⟨c, o, a, p, f, w, ma⟩ := r
 cases m
 dsimp only at c p hp e
 subst c p
 show Rdy _ _ (if _ then _ else _)
 dsimp only
 rw [if_neg (Nat.not_le.mpr hp), accN]
 generalize Sre.Seen.add _ _ = sn
 obtain ⟨s', e⟩ := e sn
 rw [e]
 exact ⟨rfl, o, a, rfl, f, w, ma⟩
theorem hitV {m : Sre.M} (r : Rdy codeV 15 m) (hp : m.pos < m.lim) (e : ∀ sn, ∃ s', Sre.inSet codeV (m.text.getD m.pos 0) codeV.size (15 + 2) true sn = .ok (true, s')) : Rdy codeV (15 + (1 + codeV.getD (15 + 1) 0)) m.exec := by
 obtain ⟨c, o, a, p, f, w, ma⟩ := r
 cases m
 dsimp only at c p hp e
 subst c p
 show Rdy _ _ (if _ then _ else _)
 dsimp only
 rw [if_neg (Nat.not_le.mpr hp), accV]
 generalize Sre.Seen.add _ _ = sn
 obtain ⟨s', e⟩ := e sn
 rw [e]
 exact ⟨rfl, o, a, rfl, f, w, ma⟩
theorem stopN {m : Sre.M} (r : Rdy codeN (11 + (1 + codeN.getD (11 + 1) 0)) m) : Dne m.exec := by
 obtain ⟨c, o, a, p, f, w, ma⟩ := r
 cases m
 dsimp only at c p w ma
 subst c p w ma
 show Dne (if _ then _ else _)
 rw [if_neg (by rw [Bool.false_and, Bool.false_and, Bool.or_false, Bool.and_false]; exact Bool.false_ne_true)]
 exact ⟨o, rfl, f⟩
theorem stopV {m : Sre.M} (r : Rdy codeV (15 + (1 + codeV.getD (15 + 1) 0)) m) : Dne m.exec := by
 obtain ⟨c, o, a, p, f, w, ma⟩ := r
 cases m
 dsimp only at c p w ma
 subst c p w ma
 show Dne (if _ then _ else _)
 rw [if_neg (by rw [Bool.false_and, Bool.false_and, Bool.or_false, Bool.and_false]; exact Bool.false_ne_true)]
 exact ⟨o, rfl, f⟩
theorem patN : PatC codeN setN 11 := ⟨rfl, fun h => by rename_i m; cases m; cases h; rfl, fun _ _ => inN (.inl rfl), fun _ _ => inN (.inr rfl), hitN, stopN, by decide, by decide⟩
theorem patV : PatC codeV setV 15 := ⟨rfl, fun h => by rename_i m; cases m; cases h; rfl, fun _ _ => inV (.inl rfl), fun _ _ => inV (.inr rfl), hitV, stopV, by decide, by decide⟩
inductive Adm (m : Sre.M) (set : Nat → Bool) (s : Nat) (r : Except String (Option Nat × Sre.Seen)) : Prop
 | yes (j : Nat) (s' : Sre.Seen) (e : r = .ok (some j, s')) (b : j < m.lim) (c : set (m.text.getD j 0) = true)
 | no (s' : Sre.Seen) (e : r = .ok (none, s')) (k : ∀ j, s ≤ j → j < m.lim → set (m.text.getD j 0) = false)
theorem adm_over {m : Sre.M} {n s : Nat} {seen : Sre.Seen} (h : m.lim ≤ s) : m.admitted (n + 1) s seen = .ok (none, seen) := by
 show (if _ then _ else _) = _
 exact if_pos h
theorem adm_hit {m : Sre.M} {n s : Nat} {seen s' : Sre.Seen} (h : ¬ m.lim ≤ s) (e : Sre.inSet m.code (m.text.getD s 0) m.code.size 5 true seen = .ok (true, s')) : m.admitted (n + 1) s seen = .ok (some s, s') := by
 show (if _ then _ else _) = _
 rw [if_neg h, e]
theorem adm_next {m : Sre.M} {n s : Nat} {seen s' : Sre.Seen} (h : ¬ m.lim ≤ s) (e : Sre.inSet m.code (m.text.getD s 0) m.code.size 5 true seen = .ok (false, s')) : m.admitted (n + 1) s seen = m.admitted n (s + 1) s' := by
 show (if _ then _ else _) = _
 rw [if_neg h, e]
theorem admitted_ok {code : Array Nat} {set : Nat → Bool} {body : Nat} (P : PatC code set body) {m : Sre.M} (hc : m.code = code) (n : Nat) : ∀ (s : Nat) (seen : Sre.Seen), m.lim ≤ s + n → Adm m set s (m.admitted (n + 1) s seen) := by
 induction n with
 | zero => exact fun s seen h => .no seen (adm_over h) fun j a b => absurd b (Nat.not_lt.mpr (Nat.le_trans h a))
 | succ n ih =>
  intro s seen h
  by_cases hs : m.lim ≤ s
  ·exact .no seen (adm_over hs) fun j a b => absurd b (Nat.not_lt.mpr (Nat.le_trans hs a))
  ·obtain ⟨s', e⟩ := P.first (m.text.getD s 0) seen
   rw [← hc] at e
   cases hset : set (m.text.getD s 0) with
   | true => exact .yes s s' (adm_hit hs (hset ▸ e)) (Nat.lt_of_not_le hs) hset
   | false =>
    rw [adm_next hs (hset ▸ e)]
    refine (ih (s + 1) s' (Nat.add_right_comm s 1 n ▸ h)).rec (fun j s2 e b c => .yes j s2 e b c) fun s2 e k => .no s2 e fun j a b => ?_
    exact (Nat.eq_or_lt_of_le a).elim (fun z => z ▸ hset) fun a => k j a b
theorem run_step {n : Nat} {m : Sre.M} (h : m.outcome = none) : m.runFor (n + 1) = m.step.runFor n := by
 show (if _ then _ else _) = _
 rw [h]; rfl
theorem run_over {n : Nat} {m : Sre.M} {o : Sre.Outcome} (h : m.outcome = some o) : (m.runFor n).outcome = some o := by
 cases n with
 | zero => exact h
 | succ n =>
  show Sre.M.outcome (if _ then _ else _) = _
  rw [if_pos (by rw [h]; rfl)]; exact h
theorem step_exec {m : Sre.M} (h : m.outcome = none) (ha : m.answer = none) (hp : m.pc < m.code.size) : m.step = m.exec := by
 cases m
 cases h; cases ha
 show (if _ then _ else _) = _
 exact if_pos hp
theorem said_no {m : Sre.M} (h : m.outcome = none) (hf : m.frames = []) : (((m.say false).runFor 4)).outcome = some .failed := by
 rw [run_step (n := 3) (m := m.say false) h]
 refine run_over ?_
 cases m
 cases h; cases hf; rfl
theorem Dne.run {m : Sre.M} (r : Dne m) : (m.runFor 2).outcome = some .matched := by
 obtain ⟨o, a, f, fr, fw⟩ := r
 cases m; cases f
 cases o; cases a; cases fr; cases fw; rfl
theorem Rdy.run {code : Array Nat} {set : Nat → Bool} {body : Nat} (P : PatC code set body) {m : Sre.M} (r : Rdy code body m) (hp : m.pos < m.lim) (hs : set (m.text.getD m.pos 0) = true) : (m.runFor 4).outcome = some .matched := by
 have r2 := P.hit r hp (hs ▸ P.again (m.text.getD m.pos 0))
 have d := P.stop r2
 rw [run_step (n := 3) r.o, step_exec r.o r.a (by rw [r.p, r.c]; exact P.size1)]
 generalize m.exec = m2 at r2 d ⊢
 rw [run_step (n := 2) r2.o, step_exec r2.o r2.a (by rw [r2.p, r2.c]; exact P.size2)]
 generalize m2.exec = m3 at d ⊢
 exact d.run
structure Ini (code text : Array Nat) (body : Nat) (M : Sre.M) : Prop where
 c : M.code = code
 t : M.text = text
 l : M.lim = text.size
 o : M.outcome = none
 a : M.answer = none
 p : M.pc = body
 f : M.frames = []
 w : M.wholeText = false
 ww : M.weight = 0
inductive SeaR (text : Array Nat) (set : Nat → Bool) (r : Option Sre.Outcome) : Prop
 | yes (e : r = some .matched) (h : text.any set = true)
 | no (e : r = some .failed) (h : text.any set = false)
theorem from_no {m : Sre.M} {s' : Sre.Seen} (h : m.hasFirstSet = true) (e : m.admitted (m.lim + 1 - 0) 0 m.seen = .ok (none, s')) : ∃ m2 : Sre.M, m.attemptFrom 0 true = m2.say false ∧ m2.outcome = m.outcome ∧ m2.frames = m.frames := by
 unfold Sre.M.attemptFrom
 rw [h, e]
 exact ⟨_, rfl, rfl, rfl⟩
theorem from_yes {code text : Array Nat} {body j : Nat} {m : Sre.M} {s' : Sre.Seen} (I : Ini code text body m) (h : m.hasFirstSet = true) (e : m.admitted (m.lim + 1 - 0) 0 m.seen = .ok (some j, s')) : ∃ m2 : Sre.M, m.attemptFrom 0 true = m2 ∧ Rdy code body m2 ∧ m2.pos = j ∧ m2.lim = m.lim ∧ m2.text = m.text := by
 refine ⟨_, rfl, ?_⟩
 unfold Sre.M.attemptFrom
 rw [h, e]
 obtain ⟨c, t, l, o, a, p, f, w, ww⟩ := I
 cases m
 cases f; cases ww
 exact ⟨⟨c, o, a, p, ⟨_, rfl, rfl⟩, w, rfl⟩, rfl, rfl, rfl⟩
theorem search_ok {code : Array Nat} {set : Nat → Bool} {body : Nat} (P : PatC code set body) (text : Array Nat) :
  SeaR text set ((Sre.forSearch code text 0 0 text.size false).runFor 4).outcome := by
 obtain ⟨m0, m1, hf, o0, f0, I⟩ : ∃ m0 m1, Sre.forSearch code text 0 0 text.size false = (if (decide (0 > text.size) || decide (text.size - 0 < (Sre.header code).1)) = true then Sre.M.say m0 false else Sre.M.attemptFrom m1 0 true) ∧ m0.outcome = none ∧ m0.frames = [] ∧ Ini code text (Sre.header code).2 m1 :=
  ⟨_, _, rfl, rfl, rfl, rfl, rfl, rfl, rfl, rfl, rfl, rfl, rfl, rfl⟩
 rw [P.head] at hf I
 rw [hf]
 clear hf
 by_cases h0 : text.size = 0
 ·rw [if_pos (by rw [h0]; rfl)]
  exact .no (said_no o0 f0) (by rw [Array.eq_empty_of_size_eq_zero h0]; exact Array.any_empty)
 ·have hc : ¬ (decide (0 > text.size) || decide (text.size - 0 < (1, body).fst)) = true := fun z => h0 (Nat.lt_one_iff.mp (of_decide_eq_true ((Bool.or_eq_true_iff.mp z).resolve_left fun z => Nat.not_lt_zero _ (of_decide_eq_true z))))
  rw [if_neg hc]
  have hs := P.fs I.c
  have A := admitted_ok P I.c m1.lim 0 m1.seen (by rw [Nat.zero_add]; exact Nat.le_refl _)
  rw [← Nat.sub_zero (m1.lim + 1)] at A
  cases A with
  | yes j s' e b c =>
   obtain ⟨m2, h1, r, h2, h3, h4⟩ := from_yes I hs e
   rw [h1]
   refine .yes (r.run P (by rw [h2, h3]; exact b) (by rw [h2, h4]; exact c)) ?_
   rw [I.l] at b
   rw [I.t, Array.getD_eq_getD_getElem?, Array.getElem?_eq_getElem b] at c
   exact Array.any_eq_true.mpr ⟨j, b, c⟩
  | no s' e k =>
   obtain ⟨m2, h1, h2, h3⟩ := from_no hs e
   rw [h1]
   refine .no (said_no (h2.trans I.o) (h3.trans I.f)) (Bool.eq_false_iff.mpr fun ha => ?_)
   obtain ⟨j, hj, hs⟩ := Array.any_eq_true.mp ha
   have := k j (Nat.zero_le _) (by rw [I.l]; exact hj)
   rw [I.t, Array.getD_eq_getD_getElem?, Array.getElem?_eq_getElem hj] at this
   exact xff (this.symm.trans hs)
theorem pa_pat : PlainAttrs "re.Pattern" :=
 ⟨⟨"object.__getattribute__", by rw [typeLookup_type, builtinLookup_eq_fast]; kernel_rfl, by decide +kernel⟩, by rw [typeLookup_type, builtinLookup_eq_fast]; kernel_rfl⟩
theorem slot_search : Slot "re.Pattern" "search" "re.Pattern.search" :=
 .of (owner := "re.Pattern") (n := "search") (by rw [typeLookup_type, builtinLookup_eq_fast]; kernel_rfl) (by decide +kernel) (by decide +kernel) (by decide +kernel)
  (by first | exact .inl (by decide +kernel) | exact .inr (by decide +kernel)) (by rw [isSubtype_type]; kernel_rfl)
theorem type_search : typeOf (.builtin "re.Pattern.search") = pure (.type "method_descriptor") := by show builtinType _ = _; rw [builtinType_eq_fast]; kernel_rfl
theorem entry_search : entryFor table "re.Pattern.search" = some Builtin.«re.Pattern.search» := entryFor_of_tree (by kernel_rfl)
theorem args_search (a b : Value) : argsOk "re.Pattern.search" ⟨[a, b], []⟩ := by unfold argsOk; kernel_rfl
inductive PatO (W : Wd) (a : Addr) (set : Nat → Bool) : Prop
 | mk (code body b o0 o1 v0 v1 t0 t1) (p : PatC code set body) (ho : W.base.get? a = some o0) (hc : o0.cls = .type "re.Pattern") (hd : o0.dict = none) (hf : o0.data = .fields #[v0, v1, .int 0 t0, .none, .none, .ref b, .int 0 t1]) (hb : W.base.get? b = some o1) (hs : o1.data = .seq (code.map fun (c : Nat) => Value.int (c : Int) 0) 0)
structure PatAt (W : Wd) (a : Addr) (set : Nat → Bool) : Prop where
 code : PatO W a set
section
variable {prog : Program} {w : World} {A : Around} {E : Value → Shared → Prop} {s : Shared}
theorem rules_no {M : Model} {A : Around} {E : Value → Shared → Prop} {m : Sre.M} {Q : PUnit → Shared → Prop} (h : Q PUnit.unit s) : ∀ l : List Nat, wpAny M A (forIn l PUnit.unit fun i (_ : PUnit) => (if m.seen.has i = true then do
      rule (Sre.names.getD i "")
      pure (ForInStep.yield PUnit.unit)
     else pure (ForInStep.yield PUnit.unit) : Sem (ForInStep PUnit))) Q E s
 | [] => by rw [List.forIn_nil]; exact wpAny_pure h
 | i :: l => by
  rw [List.forIn_cons]
  refine wpAny_bind ?_
  split
  ·exact wpAny_bind (wpAny_rule (wpAny_pure (rules_no h l)))
  ·exact wpAny_pure (rules_no h l)
theorem drive_over {n : Nat} {m : Sre.M} (h : (m.runFor 4).outcome.isSome = true) : Builtin.Re.reDrive (n + 1) m = pure (m.runFor 4) := by
 show (if _ then _ else _) = _
 exact if_pos h
theorem end_yes {m : Sre.M} {Q : Option Sre.M → Shared → Prop} (ho : (m.runFor 4).outcome = some .matched) (h : Q (some (m.runFor 4)) s) : wpAny (model prog w) A (Builtin.Re.reRunToEnd m) Q E s := by
 unfold Builtin.Re.reRunToEnd
 refine wpAny_bind (w_eq (drive_over (n := 18446744073709551615) (by rw [ho]; rfl)) (wpAny_pure (wpAny_bind (rules_no ?_ _))))
 rw [ho]
 exact wpAny_pure h
theorem end_no {m : Sre.M} {Q : Option Sre.M → Shared → Prop} (ho : (m.runFor 4).outcome = some .failed) (h : Q none s) : wpAny (model prog w) A (Builtin.Re.reRunToEnd m) Q E s := by
 unfold Builtin.Re.reRunToEnd
 refine wpAny_bind (w_eq (drive_over (n := 18446744073709551615) (by rw [ho]; rfl)) (wpAny_pure (wpAny_bind (rules_no ?_ _))))
 rw [ho]
 exact wpAny_pure h
theorem match_eq (p z : Value) (i j : Nat) (m : Sre.M) : Builtin.Re.reNewMatch p z 0 i j m = (newTuple [rawInt m.start, rawInt m.handed] >>= fun v => newFields "re.Match" [z, p, rawInt i, rawInt j, rawInt m.lastindex, v]) := rfl
noncomputable def HitK (s : Shared) (Q : Value → Shared → Prop) : Prop :=
 ∀ h' m o fs, (∀ b o, s.heap.get? b = some o → h'.get? b = some o) → s.heap.objs.size ≤ m → h'.get? m = some o → o.cls = .type "re.Match" → o.data = .fields fs → Q (.ref m) { s with heap := h' }
theorem answer_ok {T : Builtin.Re.ReTarget} {m : Sre.M} {text : Array Nat} {set : Nat → Bool} {Q : Value → Shared → Prop} (hg : T.groups = 0) (r : SeaR text set (m.runFor 4).outcome) (hno : text.any set = false → Q .none s) (hyes : text.any set = true → HitK s Q) :
  wpAny (model prog w) A (Builtin.Re.reAnswer T m) (fun f s' => ∃ v, f = .done (.ret v) ∧ Q v s') E s := by
 unfold Builtin.Re.reAnswer
 cases r with
 | no e h => exact wpAny_bind (end_no e (wpAny_pure ⟨_, rfl, hno h⟩))
 | yes e h =>
  refine wpAny_bind (end_yes e (wpAny_bind ?_))
  rw [hg]
  refine w_eq (match_eq ..) (wpAny_bind (wpAny_newObj_type ?_ (by size_fits)))
  refine wpAny_newObj_type ?_ (by size_fits)
  exact wpAny_pure ⟨_, rfl, hyes h _ _ _ _ (fun b o e => Heap.get?_push_of_some _ (Heap.get?_push_of_some _ e)) (by rw [Heap.size_push]; exact Nat.le_succ _) (Heap.get?_push_size _ rfl) rfl rfl⟩
noncomputable def tgOf (a : Addr) (x : Str) (t : Tok) (r : Array Int) : Builtin.Re.ReTarget :=
 { pattern := .ref a, string := .str x t, code := r.map (·.toNat), text := x.cps, kind := 0, groups := 0, pos := min (0 : Int).toNat x.cps.size, lim := min (2 ^ 63 - 1 : Int).toNat x.cps.size }
theorem target_eq (a b : Addr) (x : Str) (t : Tok) (v0 v1 : Value) (t0 t1 : Tok) : ∃ k : Array Value → Sem Builtin.Re.ReTarget, Builtin.Re.reTarget "re.Pattern.search" "search" ⟨[.ref a, .str x t], []⟩ = (fieldsOf (.ref a) >>= k) ∧
  k #[v0, v1, .int 0 t0, .none, .none, .ref b, .int 0 t1] = (Builtin.Re.reRawItems (.ref b) >>= fun r => pure (tgOf a x t r)) := ⟨_, rfl, rfl⟩
theorem tg_code (a : Addr) (x : Str) (t : Tok) (code : Array Nat) : (tgOf a x t (code.map fun (c : Nat) => (c : Int))).code = code := by
 show (code.map fun (c : Nat) => (c : Int)).map (·.toNat) = code
 rw [Array.map_map, show ((fun z : Int => z.toNat) ∘ fun (c : Nat) => (c : Int)) = id from rfl, Array.map_id]
theorem raw_items {b : Addr} {o : Obj} {code : Array Nat} {Q : Array Int → Shared → Prop} (h : s.heap.get? b = some o) (hd : o.data = .seq (code.map fun (c : Nat) => Value.int (c : Int) 0) 0) (hq : Q (code.map fun (c : Nat) => (c : Int)) s) :
  wpAny (model prog w) A (Builtin.Re.reRawItems (.ref b)) Q E s := by
 refine wpAny_bind (wpAny_seqItems h hd (wpAny_pure ?_))
 rw [Option.getD_some, Array.map_map]; exact hq
theorem fields_at {a : Addr} {o : Obj} {fs : Array Value} {Q : Array Value → Shared → Prop} (h0 : s.heap.get? a = some o) (hd : o.data = .fields fs) (hq : Q fs s) : wpAny (model prog w) A (fieldsOf (.ref a)) Q E s := by
 obtain ⟨h, g, d, tk, os⟩ := s
 obtain ⟨oc, od, odt, osl⟩ := o
 obtain rfl : odt = _ := hd
 unfold fieldsOf
 repeat (first | with_reducible refine wpAny_loadPart_at h0 ?_ | wp_step)
 all_goals exact hq
theorem search_call {a b : Addr} {o0 o1 : Obj} {v0 v1 : Value} {t0 t1 : Tok} {code : Array Nat} {set : Nat → Bool} {body : Nat} {x : Str} {t : Tok} {Q : Value → Shared → Prop} (P : PatC code set body) (hz : x.length ≤ 1000000)
  (h0 : s.heap.get? a = some o0) (hc : o0.cls = .type "re.Pattern") (hd : o0.data = .fields #[v0, v1, .int 0 t0, .none, .none, .ref b, .int 0 t1]) (h1 : s.heap.get? b = some o1) (hd1 : o1.data = .seq (code.map fun (c : Nat) => Value.int (c : Int) 0) 0)
  (hno : x.cps.any set = false → Q .none s) (hyes : x.cps.any set = true → HitK s Q) :
  wpAny (model prog w) A (call (.builtin "re.Pattern.search") [.ref a, .str x t]) Q E s := by
 refine wpAny_call_entry slot_search (⟨_, h0, hc⟩ : s.TypeIs (.ref a) "re.Pattern") entry_search ?_ (args_search _ _)
 obtain ⟨k, e1, e2⟩ := target_eq a b x t v0 v1 t0 t1
 refine wpAny_bind (w_eq e1 (wpAny_bind (fields_at h0 hd (w_eq e2 (wpAny_bind (raw_items h1 hd1 (wpAny_pure ?_)))))))
 refine answer_ok (T := tgOf a x t _) rfl ?_ hno hyes
 rw [tg_code]
 have hlim : min (2 ^ 63 - 1 : Int).toNat x.cps.size = x.cps.size := Nat.min_eq_right (Nat.le_trans (show x.cps.size ≤ 1000000 from hz) (by decide))
 show SeaR _ _ ((Sre.forSearch code x.cps 0 (min 0 x.cps.size) (min (2 ^ 63 - 1 : Int).toNat x.cps.size) false).runFor 4).outcome
 rw [hlim, Nat.zero_min]
 exact search_ok P x.cps
end
noncomputable def isMatch (_ : Addr) (o : Obj) : Prop := o.cls = .type "re.Match" ∧ ∃ fs, o.data = .fields fs
theorem lk_match_bool : typeLookup (.type "re.Match") "__bool__" = pure none := by rw [typeLookup_type, builtinLookup_eq_fast]; kernel_rfl
theorem lk_match_len : typeLookup (.type "re.Match") "__len__" = pure none := by rw [typeLookup_type, builtinLookup_eq_fast]; kernel_rfl
section
variable {cx : Cx} {gh : Gh} {st : St} {s : Shared} {X : XV → St → Prop}
theorem HasT.pat {a : Addr} {set : Nat → Bool} (P : PatAt cx.wd a set) : HasT cx "re.Pattern" (.c (.con (.ref a))) st := fun gh s v R r => by
 obtain ⟨code, body, b, o0, o1, v0, v1, t0, t1, PC, h0, hc, hdn, _⟩ := P.code
 replace r := r.toC; replace r := r.inv; obtain rfl := r
 exact ⟨⟨o0, R.base _ _ h0, hc⟩, fun b e => by cases e; exact ⟨o0, R.base _ _ h0, hdn⟩⟩
theorem Prim.search {a : Addr} {set : Nat → Bool} {x : Str} {Q : PV → St → Prop} (P : PatAt cx.wd a set) (hz : x.length ≤ 1000000) (h0 : x.cps.any set = false → Q (.c .none) st) (h1 : x.cps.any set = true → Q (.c (.ob isMatch)) st) :
  Prim cx (.builtin "re.Pattern.search") [.c (.con (.ref a)), .c (.str x)] st Q X := by
 intro gh s vs R r
 obtain ⟨code, body, b, o0, o1, v0, v1, t0, t1, PC, ho, hc, hdn, hd, hb, hdb⟩ := P.code
 replace r := r.to2; obtain ⟨_, _, rfl, r, r2⟩ := r; replace r := r.toC; replace r2 := r2.toC; replace r := r.inv; obtain rfl := r; replace r2 := r2.inv; obtain ⟨t, rfl⟩ := r2
 refine search_call PC hz (R.base _ _ ho) hc hd (R.base _ _ hb) hdb (fun hn => PostV.same R (h0 hn) (.c .none) s.toks) fun hy h' m o fs hk hm hmo hmc hmd => ?_
 have hlt := Heap.lt_size hmo
 refine PostV.grow R (.of (Nat.le_of_lt (Nat.lt_of_le_of_lt hm hlt)) hk) (h1 hy) s.toks (.c (.ob hmo ⟨hmc, fs, hmd⟩ fun z => absurd (R.din _ z) (Nat.not_lt.mpr hm)))
theorem EvT.match {a : Expr} {Q : Bool → St → Prop} (h : EvE cx a st (fun p st₁ => (p = .c .none ∧ Q false st₁) ∨ (p = .c (.ob isMatch) ∧ Q true st₁)) X)
  (he : PySem.isTrue a cx.env (eval a cx.env) = (do let v ← eval a cx.env; standAt a.pos; holding [v] (truthy v)) := by rfl) : EvT cx a st Q X := fun gh s R => by
 refine wpAny_isTrue_value (wpAny_mono (h gh s R) ?_ fun _ _ x => x) he
 rintro v s₁ ⟨p, st₁, g₁, R₁, T₁, S₁, r₁, h⟩
 rcases h with ⟨rfl, q⟩ | ⟨rfl, q⟩
 ·replace r₁ := r₁.toC; cases r₁ with | none =>
  exact wpAny_pure ⟨st₁, g₁, R₁, T₁, S₁, q⟩
 ·replace r₁ := r₁.toC; replace r₁ := r₁.inv; obtain ⟨a, o, rfl, ho, hp, hd⟩ := r₁
  obtain ⟨hc, fs, hd⟩ := hp
  have hT : s₁.TypeIs (.ref a) "re.Match" := ⟨o, ho, hc⟩
  have f1 := lk_match_bool
  have f2 := lk_match_len
  unfold truthy
  refine wpAny_bind (wpAny_callSpecial?_none hT lk_match_bool ?_)
  dsimp only
  refine wpAny_bind (wpAny_specialOf hT lk_match_len ?_)
  exact wpAny_pure ⟨st₁, g₁, R₁, T₁, S₁, q⟩
noncomputable def EvE1 (cx : Cx) (e : Expr) (st : St) (Q : PV → St → Prop) (X : XV → St → Prop) : Prop :=
 ∀ gh s, Rel cx gh st s → 0 < s.toks → wpAny cx.M cx.A (eval e cx.env) (PostV cx gh s Q) (PostX cx gh s X) s
inductive RepG (p : PV) (z : Str) (K : Str → Prop) : Prop
 | mk (x : Str) (a : p = .c (.str x)) (b : x.length + (x.length + 1) * z.length ≤ 16777216) (h : K x)
inductive CatG (x : Str) (q : PV) (K : Str → Prop) : Prop
 | mk (y : Str) (a : q = .c (.str y)) (b : x.length + y.length ≤ sizeLine) (h : K y)
theorem ev_replace {o : Expr} {y z : Str} {k1 k2 : Nat} {p1 p2 apos pos : Pos} {Q : PV → St → Prop} (hyz : (y == z) = false)
  (h : EvE cx o st (fun p st₁ => RepG p z fun x => Q (.c (.str (Txt.replace x y z))) st₁) X)
  (hbase : attributeBase o "replace" cx.env (eval o cx.env) = eval o cx.env := by rfl)
  (hline : (apos.endLine == pos.line) = true := by rfl) : EvE1 cx (.Call (.Attribute o "replace" apos) [.Constant (.str y) k1 p1, .Constant (.str z) k2 p2] [] pos) st Q X := fun gh s R h0 => by
 refine wpAny_Call_method_lateS hbase rfl hline (wpAny_toksed (wpAny_mono (h gh s R) ?_ fun _ _ x _ => x))
 rintro v s₁ ⟨p, st₁, g₁, R₁, T₁, S₁, r₁, x, rfl, hb, hq⟩ ht
 replace r₁ := r₁.toC; replace r₁ := r₁.inv; obtain ⟨t, rfl⟩ := r₁
 refine ⟨"str", "str.replace", PySem.F.plainAttrs_str, PySem.F.slot_str_replace, PySem.F.type_str_replace, typeIs_str _ _ _, (fun _ e => nomatch e), ?_⟩
 refine callWith_builtin rfl (evalArgs_plain ?_)
 refine wpAny_items_cons (pos := pos) (e := .Constant (.str y) k1 p1) (rest := [.Constant (.str z) k2 p2]) (env := cx.env) (Constant_str ?_) rfl
 refine wpAny_items_cons (pos := pos) (e := .Constant (.str z) k2 p2) (rest := []) (env := cx.env) (Constant_str (wpAny_items_nil ?_)) rfl
 refine PySem.SC.replace (by show s₁.toks ≠ 0; omega) (by show s₁.toks + 1 ≠ 0; omega) (by show s₁.toks ≠ s₁.toks + 1; omega) hyz hb fun t' k => ?_
 exact (PostV.same R₁ hq (.c (.str ..)) k).up T₁ S₁
theorem EvE1.of {e : Expr} {Q : PV → St → Prop} (h : EvE cx e st Q X) : EvE1 cx e st Q X := fun gh s R _ => h gh s R
theorem ev_addC {x : Str} {k : Nat} {p pos : Pos} {b : Expr} {Q : PV → St → Prop}
  (h : EvE1 cx b st (fun q st₂ => CatG x q fun y => Q (.c (.str (x ++ y))) st₂) X) : EvE cx (.BinOp (.Constant (.str x) k p) .Add b pos) st Q X := fun gh s R => by
 refine wpAny_BinOp (Constant_str (wpAny_mono (h gh _ (R.toks (s.toks + 1)) (Nat.succ_pos _)) ?_ fun _ _ x => PostX.up (s := s) (s₁ := { s with toks := s.toks + 1 }) (Tr.refl ..) ⟨rfl, rfl, rfl⟩ x))
 rintro w s₂ ⟨q, st₂, g₂, R₂, T₂, S₂, r₂, y, rfl, hz, hq⟩
 replace r₂ := r₂.toC
 exact binB_ok (op := .Add) (p := .str x) (q := .str y) rfl hz (.str x s.toks) r₂ fun u t hu => (PostV.same R₂ hq (.c (hu ..)) t).up (s := s) (s₁ := s₂) T₂ ⟨S₂.gens, S₂.drawn, S₂.os⟩
inductive CatC (a : List Nat) (q : PV) (K : List Nat → Prop) : Prop
 | mk (y : Str) (b : List Nat) (e : q = .c (.str y)) (f : y = S b) (z : a.length + b.length ≤ 1000) (k : K (a ++ b))
theorem ev_addCS {x : Str} {a : List Nat} {k : Nat} {p pos : Pos} {b : Expr} {Q : PV → St → Prop} (hx : x = S a)
  (h : EvE1 cx b st (fun q st₂ => CatC a q fun r => Q (.c (.str (S r))) st₂) X) : EvE cx (.BinOp (.Constant (.str x) k p) .Add b pos) st Q X := by
 subst hx
 refine ev_addC fun gh s R z => wpAny_mono (h gh s R z) ?_ fun _ _ x => x
 rintro v s' ⟨p, st', gh', a1, b1, c1, d1, y, l, rfl, rfl, hz, k⟩
 exact ⟨_, st', gh', a1, b1, c1, d1, S l, rfl, by rw [S_len, S_len, sizeLine_eq]; omega, (S_app a l).symm ▸ k⟩
theorem ExS.ifReplace (C : cx.Ok) {i : Nat} {n : Str} {x y z : Str} {k0 k1 k2 : Nat} {q1 q2 q3 q4 q5 q6 q7 q8 q9 q0 qa : Pos} {Q : Fl → St → Prop} (hn : cx.sc[i]? = some (n, .local)) (hf : st.fr[i]? = some (some (.c (.str x)))) (hyz : (y == z) = false) (hb : x.length + (x.length + 1) * z.length ≤ 16777216)
  (h1 : (!(Builtin.Str.occurrences x y 0 x.length 1).isEmpty) = true → Q .next { st with fr := st.fr.set i (some (.c (.str (Txt.replace x y z)))) }) (h2 : (!(Builtin.Str.occurrences x y 0 x.length 1).isEmpty) = false → Q .next st)
  (hline : (q4.endLine == q5.line) = true := by rfl) (hs : swapsWith (.Call (.Attribute (.Name n q3) "replace" q4) [.Constant (.str y) k1 q6, .Constant (.str z) k2 q7] [] q5) (some (.Name n q8)) q9.line cx.env = pure false := by rfl) :
  ExS cx (.If (.Compare (.Constant (.str y) k0 qa) [.In] [.Name n q1] q2) [.Assign [.Name n q8] (.Call (.Attribute (.Name n q3) "replace" q4) [.Constant (.str y) k1 q6, .Constant (.str z) k2 q7] [] q5) q9] [] q0) st Q X := fun gh s R => by
 refine wpAny_If (wpAny_isTrue_Compare1 (Constant_str ?_) rfl)
 have ld : ∀ {s : Shared} {gh : Gh}, Rel cx gh st s → ∀ {E : Value → Shared → Prop} {QQ : Value → Shared → Prop}, (∀ t tk, s.toks ≤ tk → QQ (.str x t) { s with toks := tk }) → ∀ p, wpAny cx.M cx.A (eval (.Name n p) cx.env) QQ E s := by
  intro s gh R E QQ hq p
  obtain ⟨hkd, hdb⟩ := C.sck i n _ hn
  obtain ⟨m, hns, hm⟩ := R.cur
  obtain ⟨v, hv, r⟩ := hm i n _ hn hf
  replace r := r.toC; replace r := r.inv; obtain ⟨t, rfl⟩ := r
  exact wpAny_Name (wpAny_loadName_local C.fn hkd hns hv (hq t s.toks (Nat.le_refl _))) hdb
 refine ld (R.toks (s.toks + 1)) (fun t tk htk => ?_) q1
 have R₁ := R.toks tk
 have htk : s.toks + 1 ≤ tk := htk
 refine cmpB_ok (op := .In) (p := .str y) (q := .str x) rfl (.str (D := gh.D) (h := s.heap) y s.toks) (.str x t) (wpAny_truthy_bool ?_)
 generalize hbb : (!(Builtin.Str.occurrences x y 0 x.length 1).isEmpty) = bb at h1 h2
 cases bb with
 | false => exact wpAny_execs_nil ⟨.next, st, gh, R₁, .refl .., ⟨rfl, rfl, rfl⟩, .next, h2 rfl⟩
 | true =>
  refine wpAny_execs_cons (wpAny_Assign_Name (wpAny_mono (ev_replace (cx := cx) (st := st) (X := X) (Q := fun p st₁ => Q .next { st₁ with fr := st₁.fr.set i (some p) }) hyz (EvE.loc C hn (.inl rfl) hf ⟨x, rfl, hb, h1 rfl⟩) rfl hline gh _ R₁ (by show 0 < tk; omega)) ?_ fun _ _ x => PostX.up (s := s) (s₁ := { s with toks := tk }) (Tr.refl ..) ⟨rfl, rfl, rfl⟩ x) hs)
  rintro v s₂ ⟨p, st₂, g₂, R₂, T₂, S₂, r₂, hq⟩
  refine wpAny_mono (storeName_ok C hn (.inl rfl) R₂ r₂ (Q := fun st => Q .next st) hq) ?_ fun _ _ x => x
  rintro _ s₃ ⟨st₃, g₃, R₃, T₃, S₃, q₃⟩
  exact wpAny_execs_nil ⟨.next, st₃, g₃, R₃, T₂.trans T₃, ⟨S₃.gens.trans S₂.gens, S₃.drawn.trans S₂.drawn, S₃.os.trans S₂.os⟩, .next, q₃⟩
end
noncomputable def DictP (W : Wd) (l : List (Str × Str)) : Addr → Obj → Prop := fun a o => (a == sysModules) = false ∧ ∃ kvs : List (Str × Value), (∀ h : Heap, h.get? a = some o → h.DictOf (PySem.strKind W.prog W.w) a kvs) ∧
 kvs.map (·.1) = l.map (·.1) ∧ ∀ (i : Nat) k v, kvs[i]? = some (k, v) → ∃ y t, l[i]? = some (k, y) ∧ v = .str y t
noncomputable def lookS (l : List (Str × Str)) (k : Str) : Option Str := (l.find? fun p => p.1 = k).map (·.2)
theorem look_ok {k : Str} : ∀ {kvs : List (Str × Value)} {l : List (Str × Str)}, kvs.map (·.1) = l.map (·.1) → (∀ (i : Nat) k v, kvs[i]? = some (k, v) → ∃ y t, l[i]? = some (k, y) ∧ v = .str y t) →
  match lookS l k with | none => valueAt kvs k = none | some y => ∃ t, valueAt kvs k = some (.str y t)
 | [], [], _, _ => rfl
 | [], _ :: _, e, _ => by simp at e
 | _ :: _, [], e, _ => by simp at e
 | (k1, v1) :: kvs, (k2, y2) :: l, e, h => by
  simp only [List.map_cons, List.cons.injEq] at e
  obtain ⟨rfl, e⟩ := e
  obtain ⟨y, t, h1, rfl⟩ := h 0 k1 v1 rfl
  simp only [List.getElem?_cons_zero, Option.some.injEq, Prod.mk.injEq] at h1
  obtain ⟨_, rfl⟩ := h1
  have ih := look_ok (k := k) e fun i k v hi => by simpa using h (i + 1) k v (by simpa using hi)
  by_cases hk : k1 = k
  ·have e1 : lookS ((k1, y2) :: l) k = some y2 := by simp [lookS, List.find?_cons, hk]
   rw [e1]
   exact ⟨t, by simp [valueAt, List.find?_cons, hk]⟩
  ·have e1 : lookS ((k1, y2) :: l) k = lookS l k := by simp [lookS, List.find?_cons, hk]
   have e2 : valueAt ((k1, Value.str y2 t) :: kvs) k = valueAt kvs k := by simp [valueAt, List.find?_cons, hk]
   rw [e1, e2]; exact ih
theorem stored_new {k : Str} {v : Value} {kvs : List (Str × Value)} (h : k ∉ kvs.map (·.1)) : stored kvs k v = kvs ++ [(k, v)] := by
 unfold stored
 rw [if_neg]
 simp only [List.any_eq_true, decide_eq_true_eq, not_exists, not_and]
 exact fun x hx e => h (List.mem_map.mpr ⟨x, hx, e⟩)
theorem merged_new : ∀ {more kvs : List (Str × Value)}, ((kvs ++ more).map (·.1)).Nodup → merged kvs more = kvs ++ more
 | [], kvs, _ => by simp [merged]
 | (k, v) :: more, kvs, h => by
  have hk : k ∉ kvs.map (·.1) := by
   rw [List.map_append, List.nodup_append] at h
   exact fun hm => h.2.2 k hm k (by simp) rfl
  show merged (stored kvs k v) more = _
  rw [stored_new hk, merged_new (by rw [List.append_assoc]; exact h), List.append_assoc]; rfl
inductive ConstP : List (Option Expr) → List Expr → List (Str × Str) → Prop
 | nil : ConstP [] [] []
 | cons {ks vs l k v a1 a2 b1 b2} : ConstP ks vs l → ConstP (some (.Constant (.str k) a1 a2) :: ks) (.Constant (.str v) b1 b2 :: vs) ((k, v) :: l)
section
variable {cx : Cx} {gh : Gh} {st : St} {s : Shared} {X : XV → St → Prop}
theorem constPairs_ok {prog : Program} {w : World} {A : Around} {E : Value → Shared → Prop} {env : Env} {pos : Pos} {ks : List (Option Expr)} {vs : List Expr} {l : List (Str × Str)} (c : ConstP ks vs l) : ∀ {s : Shared} {Q : List (Value × Value) → Shared → Prop},
  (∀ r tk kvs, Carries (PySem.strKind prog w) r kvs → kvs.map (·.1) = l.map (·.1) → (∀ (i : Nat) k v, kvs[i]? = some (k, v) → ∃ y t, l[i]? = some (k, y) ∧ v = .str y t) → Q r { s with toks := tk }) → wpAny (model prog w) A (evalPairs (pairTrees ks vs env pos)) Q E s := by
 induction c with
 | nil =>
  intro s Q h
  exact pairTrees_nil_walk (h [] s.toks [] trivial rfl fun i k v hi => by simp at hi)
 | cons _ ih =>
  rename_i k v _ _ _ _ _
  intro s Q h
  refine pairTrees_cons_walk (Constant_str (Constant_str ?_))
  refine ih fun r tk kvs hc hk hv => ?_
  refine h _ tk ((k, .str v (s.toks + 1)) :: kvs) ⟨by simp [PySem.strKind, Value.isStrOf], rfl, hc⟩ (by simp [hk]) fun i k' v' hi => ?_
  cases i with
  | zero => simp at hi; obtain ⟨rfl, rfl⟩ := hi; exact ⟨v, _, rfl, rfl⟩
  | succ i => simpa using hv i k' v' (by simpa using hi)
theorem ev_dict {keys : List (Option Expr)} {values : List Expr} {pos : Pos} {l : List (Str × Str)} {Q : PV → St → Prop} (hp : ConstP keys values l) (hall : keys.all (·.isSome) = true) (hl : keys.length = values.length) (h0 : keys ≠ []) (hlen : keys.length ≤ 15) (nd : (l.map (·.1)).Nodup)
  (hb : ∃ o, cx.wd.base.get? 45 = some o) (h : Q (.c (.ob (DictP cx.wd l))) st) : EvE cx (.Dict keys values pos) st Q X := fun gh s R => by
 refine wpAny_Dict_walk (knd := strKind cx.wd.prog cx.wd.w) hall hl h0 hlen ?_
 refine constPairs_ok hp fun r tk kvs hc hk hv => ?_
 refine ⟨kvs, hc, Heap.DictOf.new _, fun h' hd hs => ?_⟩
 obtain ⟨ob, hob⟩ := hb
 have h45 := Heap.lt_size (R.base _ _ hob)
 have hm : merged [] kvs = kvs := by
  rw [merged_new (by rw [List.nil_append, hk]; exact nd), List.nil_append]
 rw [hm] at hd
 have hx : Chg (fun _ => False) s.heap h' := .of (by rw [hs.1]; show _ ≤ (s.heap.push _).objs.size; rw [Heap.size_push]; exact Nat.le_succ _) fun b o e => by
  refine (hs.2 b fun z => ?_).trans (Heap.get?_push_of_some _ e)
  rw [z] at e; exact absurd (Heap.lt_size e) (Nat.lt_irrefl _)
 obtain ⟨o, es, ep, ho, r1⟩ := id hd
 refine PostV.grow R hx h _ (.c (.ob ho ⟨?_, kvs, fun h2 e2 => ⟨o, es, ep, e2, r1⟩, hk, hv⟩ R.notD))
 show (s.heap.objs.size == 1) = false
 have h45 : @LT.lt Nat instLTNat 45 s.heap.objs.size := h45
 rw [beq_eq_false_iff_ne]
 intro z
 omega
theorem HasT.dict {l : List (Str × Str)} : HasT cx "dict" (.c (.ob (DictP cx.wd l))) st := fun gh s v R r => by
 replace r := r.toC; replace r := r.inv; obtain ⟨_, _, rfl, ho, hp, hd⟩ := r
 obtain ⟨_, kvs, hD, _⟩ := hp
 have hD := hD _ ho
 exact ⟨hD.typeIs, hD.mapOf.noDict⟩
theorem Prim.getD {l : List (Str × Str)} {k y : Str} {Q : PV → St → Prop} (h : Q (.c (.str ((lookS l k).getD y))) st) : Prim cx (.builtin "dict.get") [.c (.ob (DictP cx.wd l)), .c (.str k), .c (.str y)] st Q X := by
 intro gh s vs R r
 replace r := r.to3; obtain ⟨_, _, _, rfl, r, r2, r3⟩ := r; replace r := r.toC; replace r2 := r2.toC; replace r3 := r3.toC; replace r2 := r2.inv; obtain ⟨t, rfl⟩ := r2; replace r3 := r3.inv; obtain ⟨u, rfl⟩ := r3
 replace r := r.inv; obtain ⟨_, _, rfl, ho, hp, hd⟩ := r
 obtain ⟨hs, kvs, hD, h1, h2⟩ := hp
 have hD := hD _ ho
 refine call_meetsIn PySem.F.slot_dict_get hD.typeIs PySem.F.entry_dict_get (PySem.F.args_dict_get_3 _ _ _) (meets_dict_get_default (PySem.strKind cx.wd.prog cx.wd.w) _ (k := k) (by simp [PySem.strKind, Value.isStrOf]) hs _) ⟨_, hD.mapOf, ?_⟩
 have lk := look_ok (k := k) h1 h2
 cases hl : lookS l k with
 | none =>
  rw [hl] at lk h
  rw [lk]
  exact PostV.same R h (.c (.str ..)) _
 | some z =>
  rw [hl] at lk h
  obtain ⟨t', lk⟩ := lk
  rw [lk]
  exact PostV.same R h (.c (.str ..)) _
end
section
variable {cx : Cx} {gh : Gh} {st : St} {s : Shared} {X : XV → St → Prop}
theorem HasT.list {p : PV} {l : List CV} (e : itemsOf st p = some l) (ht : p.isL) : HasT cx "list" p st := fun gh s v R r => by
 obtain ⟨a, vs, n, rfl, ho, _⟩ := listAt R r e ht
 exact ⟨⟨_, ho, rfl⟩, fun b e => by cases e; exact ⟨_, ho, rfl⟩⟩
inductive NonG (st : St) (p : PV) (K : Prop) : Prop
 | mk (l : List CV) (a : itemsOf st p = some l) (b : p.isL) (k : K)
inductive PairG (p q : PV) (K : CV → Nat → Prop) : Prop
 | mk (x : CV) (i : Nat) (a : p = .c x) (b : q = .loc i) (k : K x i)
theorem EvT.notNone {a : Expr} {kk : Nat} {p1 pos : Pos} {Q : Bool → St → Prop}
  (h : EvE cx a st (fun p st₁ => NonG st₁ p (Q true st₁)) X) : EvT cx (.Compare a [.IsNot] [.Constant .none kk p1] pos) st Q X := fun gh s R => by
 refine wpAny_isTrue_Compare1 (wpAny_mono (h gh s R) ?_ fun _ _ x => x) rfl
 rintro v s₁ ⟨p, st₁, g₁, R₁, T₁, S₁, r₁, l, hl, hi, hq⟩
 obtain ⟨a, vs, n, rfl, ho, _⟩ := listAt R₁ r₁ hl hi
 refine wpAny_pure ?_
 exact isNot_none (wpAny_truthy_bool ⟨st₁, g₁, R₁, T₁, S₁, hq⟩)
theorem Prim.tyL {p : PV} {l : List CV} {Q : PV → St → Prop} (e : itemsOf st p = some l) (ht : p.isL) (h : Q (.c (.con (.type "list"))) st) : Prim cx (.type "type") [p] st Q X := by
 intro gh s vs R r
 replace r := r.to1; obtain ⟨_, rfl, r⟩ := r
 obtain ⟨a, vs, n, rfl, ho, _⟩ := listAt R r e ht
 exact call_type_of ⟨_, ho, rfl⟩ (by decide) (PostV.same R h (.c (.con _)) s.toks)
theorem ev_addG {a b : Expr} {pos : Pos} {Q : PV → St → Prop}
  (h : EvE cx a st (fun p st₁ => EvE cx b st₁ (fun q st₂ => AddG p q fun r => Q (.obj st₂.glob.length) { st₂ with glob := st₂.glob ++ [.lst r] }) X) X) : EvE cx (.BinOp a .Add b pos) st Q X := fun gh s R => by
 refine wpAny_BinOp (wpAny_mono (h gh s R) ?_ fun _ _ x => x)
 rintro v s₁ ⟨p, st₁, g₁, R₁, T₁, S₁, r₁, q₁⟩
 refine wpAny_mono (q₁ g₁ s₁ R₁) ?_ fun _ _ x => x.up T₁ S₁
 rintro w s₂ ⟨q, st₂, g₂, R₂, T₂, S₂, r₂, x, y, rfl, rfl, hz, hq⟩
 have r₁ := (r₁.tr R₁.ok T₂).toC; replace r₂ := r₂.toC; replace r₁ := r₁.inv; obtain ⟨_, _, _, rfl, h1, d1, rs1⟩ := r₁; replace r₂ := r₂.inv; obtain ⟨_, _, _, rfl, h2, d2, rs2⟩ := r₂
 rename_i a1 vs1 n1 a2 vs2 n2
 have e1 := rs1.len
 have e2 := rs2.len
 rw [Array.length_toList] at e1 e2
 have := newGlobLst_ok R₂ (rs1.app rs2) hq 0
 rw [show (vs1.toList ++ vs2.toList).toArray = vs1 ++ vs2 from by rw [← Array.toList_append, Array.toArray_toList]] at this
 exact P.add_list h1 h2 (this.up (T₁.trans T₂) (S₁.trans S₂)) (by omega)
theorem ev_pair {a b : Expr} {k : Nat} {pos : Pos} {Q : PV → St → Prop} (h : EvE cx a st (fun p st₁ => EvE cx b st₁ (fun q st₂ => PairG p q fun x i => Q (.pair x i) st₂) X) X)
  (h1 : starEach [a, b] cx.env = [(false, eval a cx.env), (false, eval b cx.env)] := by rfl) (h2 : starEach [b] cx.env = [(false, eval b cx.env)] := by rfl) : EvE cx (.Tuple [a, b] k pos) st Q X := fun gh s R => by
 refine wpAny_Tuple_spliced (wpAny_items_cons (pos := pos) (e := a) (rest := [b]) (env := cx.env) (wpAny_mono (h gh s R) ?_ fun _ _ x => x) (by rw [h1, h2]))
 rintro v s₁ ⟨p, st₁, g₁, R₁, T₁, S₁, r₁, q₁⟩
 refine wpAny_items_cons (pos := pos) (e := b) (rest := []) (env := cx.env) (wpAny_mono (q₁ g₁ s₁ R₁) ?_ fun _ _ x => x.up T₁ S₁) h2
 rintro w s₂ ⟨q, st₂, g₂, R₂, T₂, S₂, r₂, x, i, rfl, rfl, hq⟩
 have r₁ := (r₁.tr R₁.ok T₂).toC
 generalize hw : w = w' at r₂
 replace r₂ := r₂.inv; obtain ⟨_, rfl, hi⟩ := r₂
 subst hw
 rename_i ad
 refine wpAny_items_nil ⟨by simp [sizeLine_eq], ?_⟩
 refine PostV.up (T₁.trans T₂) (S₁.trans S₂) ⟨.pair x i, st₂, g₂, R₂.newObj { cls := .type "tuple", data := .seq #[v, .ref ad] }, Tr.newObj .., ⟨rfl, rfl, rfl⟩, .pair (isTup_new s₂.heap #[v, .ref ad] 0) R₂.notD (r₁.push _) hi, hq⟩
theorem AsG.pair (C : cx.Ok) (hn : cx.hn = true) {a b : Expr} {k : Nat} {pos : Pos} {x : CV} {i : Nat} {Q : St → Prop} (h : AsG cx a (.c x) st (fun st₁ => AsG cx b (.loc i) st₁ Q X) X)
  (he : ∀ env, (assignEach [a, b] env) = [(false, assign a env), (false, assign b env)] := by intro _; rfl) : AsG cx (.Tuple [a, b] k pos) (.pair x i) st Q X := fun gh s v R r => by
 replace r := r.inv; obtain ⟨ad, v, b', rfl, t, hd, r, e⟩ := r
 rw [arm_assign_Tuple]
 refine wpAny_bind (wpAny_standAt ?_)
 unfold unpack
 rw [he]
 show wpAny _ _ (do let items ← holding [Value.ref ad] (unpackItems (.ref ad) 2 Option.none); assignInOrder [assign a cx.env, assign b cx.env] items) _ _ _
 refine wpAny_bind (wpAny_holding (wpAny_mono (unpack_ok C hn t rfl) ?_ fun _ _ x => x))
 rintro items s₁ ⟨rfl, h', rfl, hx⟩
 have R₁ := R.grow hx s.toks
 have T₁ : Tr gh s.heap gh h' := (Tr.refl ..).chg hx fun _ z => z.elim
 have S1 : Same s { s with heap := h' } := ⟨rfl, rfl, rfl⟩
 refine wpAny_assignInOrder_more (wpAny_mono (h gh _ v R₁ (.c (r.ext (T₁.ext R.ok)))) ?_ fun _ _ x => x.up (s := s) (s₁ := { s with heap := h' }) T₁ ⟨rfl, rfl, rfl⟩)
 rintro _ s₂ ⟨st₂, g₂, R₂, T₂, S₂, q₂⟩
 have rl : PRel g₂ s₂.heap (.ref b') (.loc i) := (PRel.loc (gh := gh) (h := h') e).tr R₁.ok T₂
 refine wpAny_assignInOrder_more (wpAny_mono (q₂ g₂ s₂ _ R₂ rl) ?_ fun _ _ x => x.up (s := s) (T₁.trans T₂) (S1.trans S₂))
 rintro _ s₃ ⟨st₃, g₃, R₃, T₃, S₃, q₃⟩
 exact wpAny_assignInOrder_none ⟨st₃, g₃, R₃, (T₁.trans T₂).trans T₃, (S1.trans S₂).trans S₃, q₃⟩
end
structure TopA (W : Wd) : Prop extends Top W where
 p229 : ∃ fd, FnAt W 96 (defAt 12) .none fd
 p257 : ∃ fd, FnAt W 103 (defAt 13) .none fd
 init : ∃ fd, FnAt W 128 (methAt 17 0) (.ref 121) fd
 conv : ∃ fd, FnAt W 135 (methAt 17 1) .none fd
 seti : ∃ fd, FnAt W 149 (methAt 17 3) .none fd
 deli : ∃ fd, FnAt W 154 (methAt 17 4) .none fd
 get : ∃ fd, FnAt W 183 (methAt 17 8) (.ref 176) fd
 items : ∃ fd, FnAt W 200 (methAt 17 11) .none fd
 esc : ∃ fd, FnAt W 254 (defAt 20) .none fd
 lnames : ∃ fd, FnAt W 261 (defAt 22) .none fd
 lorder : ∃ fd, FnAt W 266 (defAt 23) .none fd
 lround : ∃ fd, FnAt W 273 (defAt 24) .none fd
 lread : ∃ fd, FnAt W 280 (defAt 25) .none fd
 lbare : ∃ fd, FnAt W 287 (defAt 26) .none fd
 lcosts : ∃ fd, FnAt W 292 (defAt 27) .none fd
 lwritten : ∃ fd, FnAt W 297 (defAt 28) .none fd
 lfar : ∃ fd, FnAt W 302 (defAt 29) .none fd
 lways : ∃ fd, FnAt W 307 (defAt 30) .none fd
 llate : ∃ fd, FnAt W 312 (defAt 31) .none fd
 e75 : ErrAt W 75
 e87 : ErrAt W 87
 hd : HdAt W
 rn : PatAt W 108 setN
 rv : PatAt W 113 setV
 d121 : IsTup W.base 121 #[.none]
 d176 : IsTup W.base 176 #[.none]
structure Ctx (cx : Cx) (sc : List (Str × NameKind)) (gsc : List Str) (lv : Nat) (scope : Scope) : Prop where
 ok : cx.Ok
 sc : cx.sc = sc
 gsc : cx.gsc = gsc
 gt : cx.wd.gt = GT
 hn : cx.hn = true
 ce : cx.env = cx.fenv
 scope : cx.env.scope = scope
 top : TopA cx.wd
 lv : cx.lv = lv
section
variable {cx : Cx} {sc : List (Str × NameKind)} {gsc : List Str} {lv : Nat} {scope : Scope} {st : St} {X : XV → St → Prop}
theorem Ctx.s (L : Ctx cx sc gsc lv scope) (i : Nat) {q : Str × NameKind} (h : sc[i]? = some q) : cx.sc[i]? = some q := by rw [L.sc]; exact h
theorem Ctx.g (L : Ctx cx sc gsc lv scope) (i : Nat) {q : Str} (h : gsc[i]? = some q) : cx.gsc[i]? = some q := by rw [L.gsc]; exact h
theorem Ctx.t (L : Ctx cx sc gsc lv scope) (i : Nat) {q : Str × CV} (h : GT[i]? = some q) : cx.wd.gt[i]? = some q := by rw [L.gt]; exact h
theorem Ctx.v (L : Ctx cx sc gsc lv scope) (i : Nat) {x : Str} {pos : Pos} {p : PV} {Q : PV → St → Prop} (hx : sc[i]? = some (x, .local)) (hp : st.fr[i]? = some (some p)) (h : Q p st) : EvE cx (.Name x pos) st Q X :=
 EvE.loc L.ok (L.s i hx) (.inl rfl) hp h
theorem Ctx.c (L : Ctx cx sc gsc lv scope) (i : Nat) {x : Str} {pos : Pos} {p : PV} {Q : PV → St → Prop} (hx : sc[i]? = some (x, .cell)) (hp : st.fr[i]? = some (some p)) (h : Q p st) : EvE cx (.Name x pos) st Q X :=
 EvE.loc L.ok (L.s i hx) (.inr rfl) hp h
theorem Ctx.n (L : Ctx cx sc gsc lv scope) (i j : Nat) {x : Str} {pos : Pos} {p : CV} {Q : PV → St → Prop} (hx : gsc[i]? = some x) (hp : GT[j]? = some (x, p)) (h : Q (.c p) st) : EvE cx (.Name x pos) st Q X :=
 EvE.glob L.ok (L.g i hx) (L.t j hp) h
theorem Ctx.set (L : Ctx cx sc gsc lv scope) (i : Nat) {x : Str} {k : NameKind} {p' pos : Pos} {e : Expr} {Q : Fl → St → Prop}
  (h : EvE cx e st (fun p st₁ => Q .next { st₁ with fr := st₁.fr.set i (some p) }) X) (hx : sc[i]? = some (x, k) := by rfl) (hk : k = .local ∨ k = .cell := by first | exact .inl rfl | exact .inr rfl) (hs : swapsWith e (some (.Name x p')) pos.line cx.env = pure false := by rfl) : ExS cx (.Assign [.Name x p'] e pos) st Q X :=
 ExS.asgName L.ok (L.s i hx) hk h hs
theorem Ctx.call (L : Ctx cx sc gsc lv scope) (i j : Nat) {x : Str} {p pos : Pos} {f : Value} {e : Expr} {es : List Expr} {Q : PV → St → Prop}
  (hc : Callee cx f) (h : EvL cx (e :: es) st (fun ps st₂ => Prim cx f ps st₂ Q X) X) (hx : gsc[i]? = some x := by rfl) (hp : GT[j]? = some (x, .con f) := by rfl)
  (he : ∀ env, backTo pos (starEach (e :: es) env) = (false, eval e env) :: (backTo pos (starEach (e :: es) env)).tail := by intro _; rfl)
  (hq : ∀ env, (backTo pos (starEach (e :: es) env)).any (·.1) = false := by intro _; rfl) : EvE cx (.Call (.Name x p) (e :: es) [] pos) st Q X :=
 EvE.app (L.n i j hx hp ⟨f, rfl, hc, h⟩) he hq
theorem FnAt.callee {cx : Cx} {a : Addr} {d : Def} {dflt : Value} (h : ∃ fd, FnAt cx.wd a d dflt fd) : Callee cx (.ref a) :=
 let ⟨_, F⟩ := h; let ⟨_, h1, h2⟩ := F.ok.obj; .fn h1 h2
theorem Ctx.prim (L : Ctx cx sc gsc (lv + 1) scope) {f : Value} {ps : List PV} {Q : PV → St → Prop} (h : CallOk cx.wd (lv + 1) f ps [] st.glob (toSt Q st) (toStX X st)) (hp : ps.all PV.noLoc = true := by rfl) : Prim cx f ps st Q X :=
 Prim.fn L.ok L.hn (by rw [L.lv]; exact Nat.le_refl _) hp h
end
theorem CallOk.ctx {W : Wd} (T : TopA W) {a : Addr} {d : Def} {dflt : Value} {fd : FuncData} {sc : List (Str × NameKind)} {gsc : List Str} {lv : Nat} {args : List PV} {kws : List (Str × PV)} {bs : List (Str × PV)} {glob : List GObj} {Q : CV → Bool → List GObj → Prop} {X : XV → List GObj → Prop}
  (F : FnAt W a d dflt fd) (S : ScOk d.scope sc gsc) (hbs : (sc.take bs.length).map (·.1) = bs.map (·.1))
  (hb : ∀ (gh : Gh) (s : Shared) vs ks, (∀ b o, W.base.get? b = some o → s.heap.get? b = some o) → ARs gh s.heap vs args → ARs gh s.heap ks (kws.map (·.2)) → ∃ ws, ARs gh s.heap ws (bs.map (·.2)) ∧ BindsTo s fd ⟨vs, (kws.map (·.1)).zip ks⟩ ((bs.map (·.1)).zip ws))
  (h : ∀ cx : Cx, Ctx cx sc gsc lv d.scope → cx.wd = W → ExB cx d.body ⟨glob, [], fr0 sc bs, []⟩ (RetOk glob.length Q) (XOk glob.length X)) : CallOk W (lv + 1) (.ref a) args kws glob Q X :=
 CallOk.def F.ok (by rw [F.scope]; exact S) hbs hb fun cx C hw hsc _ hgsc hlv hn hs hce => h cx ⟨C, hsc, hgsc, by rw [hw]; exact T.gt, hn, hce, hs.trans F.scope, by rw [hw]; exact T, hlv⟩ hw
theorem CallOk.pos {W : Wd} (T : TopA W) {a : Addr} {d : Def} {fd : FuncData} {sc : List (Str × NameKind)} {gsc : List Str} {lv : Nat} {args : List PV} {bs : List (Str × PV)} {glob : List GObj} {Q : CV → Bool → List GObj → Prop} {X : XV → List GObj → Prop}
  (F : FnAt W a d .none fd) (S : ScOk d.scope sc gsc) (hbs : (sc.take bs.length).map (·.1) = bs.map (·.1)) (ha : bs.map (·.2) = args)
  (hb : ∀ (fd : FuncData) (vs : List Value), vs.length = args.length → bindArgs { fd with params := d.params, defaults := .none, kwdefaults := .none } ⟨vs, []⟩ = pure ((bs.map (·.1)).zip vs))
  (h : ∀ cx : Cx, Ctx cx sc gsc lv d.scope → cx.wd = W → ExB cx d.body ⟨glob, [], fr0 sc bs, []⟩ (RetOk glob.length Q) (XOk glob.length X)) : CallOk W (lv + 1) (.ref a) args [] glob Q X :=
 CallOk.ctx T F S hbs (fun gh s vs ks _ r rk => ⟨vs, ha ▸ r, F.to (.of_eq (hb fd vs r.len))⟩) h
theorem XOk.c {n : Nat} {X : XV → List GObj → Prop} {px : XV} {st : St} (hg : st.glob.length = n) (h : X px st.glob) : XOk n X px st := ⟨.inl hg, by rw [← hg, List.take_length]; exact h⟩
theorem RetOk.n {n : Nat} {Q : CV → Bool → List GObj → Prop} {st : St} (hg : st.glob.length = n) (h : Q .none false st.glob) : RetOk n Q .next st := ⟨.inl hg, by rw [← hg, List.take_length]; exact h⟩
section
variable {cx : Cx} {sc : List (Str × NameKind)} {gsc : List Str} {lv : Nat} {scope : Scope} {st : St} {X : XV → St → Prop}
theorem Ctx.vv (L : Ctx cx sc gsc lv scope) (i : Nat) {x : Str} {pos : Pos} {p : PV} (hx : sc[i]? = some (x, .local)) (hp : st.fr[i]? = some (some p)) : EvV cx (.Name x pos) st p := fun _ _ h => L.v i hx hp h
theorem Ctx.vc (L : Ctx cx sc gsc lv scope) (i : Nat) {x : Str} {pos : Pos} {p : PV} (hx : sc[i]? = some (x, .cell)) (hp : st.fr[i]? = some (some p)) : EvV cx (.Name x pos) st p := fun _ _ h => L.c i hx hp h
theorem Ctx.vcall (L : Ctx cx sc gsc lv scope) (i j : Nat) {x : Str} {p pos : Pos} {f : Value} {e : Expr} {es : List Expr} {ps : List PV} {r : PV} (hc : Callee cx f) (h : EvLV cx (e :: es) st ps) (hr : PrimV cx f ps st r) (hx : gsc[i]? = some x := by rfl) (hp : GT[j]? = some (x, .con f) := by rfl)
  (he : ∀ env, backTo pos (starEach (e :: es) env) = (false, eval e env) :: (backTo pos (starEach (e :: es) env)).tail := by intro _; rfl)
  (hq : ∀ env, (backTo pos (starEach (e :: es) env)).any (·.1) = false := by intro _; rfl) : EvV cx (.Call (.Name x p) (e :: es) [] pos) st r :=
 fun _ _ q => L.call i j hc (h _ _ (hr _ _ q)) hx hp he hq
theorem Ctx.vn (L : Ctx cx sc gsc lv scope) (i j : Nat) {x : Str} {pos : Pos} {p : CV} (hx : gsc[i]? = some x) (hp : GT[j]? = some (x, p)) : EvV cx (.Name x pos) st (.c p) := fun _ _ h => L.n i j hx hp h
noncomputable abbrev CallV (W : Wd) (lv : Nat) (f : Value) (args : List PV) (kws : List (Str × PV)) (glob : List GObj) (v : CV) : Prop := CallOk W lv f args kws glob (fun r fr g => r = v ∧ fr = false ∧ g = glob) (fun _ _ => False)
theorem Ctx.vprim (L : Ctx cx sc gsc (lv + 1) scope) {f : Value} {ps : List PV} {v : CV} (h : CallV cx.wd (lv + 1) f ps [] st.glob v) (hp : ps.all PV.noLoc = true := by rfl) : PrimV cx f ps st (.c v) :=
 fun _ _ q => L.prim (CallOk.at h q) hp
theorem Ctx.vown (L : Ctx cx sc gsc lv scope) {o : Expr} {m : Str × Addr} {apos pos : Pos} {es : List Expr} {kws : List Keyword} {ks : List (Str × PV)} {k : Nat} {hd : Option PV} {ps : List PV} {v : CV} (hm : m ∈ hdMeth) (K : KwEv cx.env pos kws ks)
  (ho : EvV cx o st (.obj k)) (hk : st.glob[k]? = some (.inst 236 hd)) (hs : EvLV cx es st ps) (hn : ps.all PV.noLoc = true) (h : CallV cx.wd lv (.ref m.2) (.obj k :: ps) ks st.glob v)
  (hbase : attributeBase o m.1 cx.env (eval o cx.env) = eval o cx.env := by rfl)
  (hfew : methodCallForm (es.length + kws.length) (backTo pos (starEach es cx.env)) (backToKw pos (keywordEach kws cx.env)) = true := by rfl)
  (hline : (apos.endLine == pos.line) = true := by rfl)
  (he : es = [] ∨ backTo pos (starEach es cx.env) = (false, (backTo pos (starEach es cx.env)).head!.2) :: (backTo pos (starEach es cx.env)).tail := by first | exact .inl rfl | exact .inr rfl) :
  EvV cx (.Call (.Attribute o m.1 apos) es kws pos) st (.c v) :=
 fun _ _ q => EvE.own L.ok L.hn L.top.hd (lv := lv) (by rw [L.lv]; exact Nat.le_refl _) hm K (ho _ _ ⟨k, hd, rfl, hk, hs _ _ ⟨hn, CallOk.at h q⟩⟩) hbase hfew hline he
theorem Ctx.btup (L : Ctx cx sc gsc lv scope) (i j : Nat) {x y : Str} {k1 k2 : NameKind} {p1 p2 tp pos : Pos} {k : Nat} {e : Expr} {bs : List Stmt} {a b : CV} {Q : Fl → St → Prop} (h : EvV cx e st (.c (.tup [a, b])))
  (q : ExB cx bs { st with fr := (st.fr.set i (some (.c a))).set j (some (.c b)) } Q X) (hx : sc[i]? = some (x, k1) := by rfl) (hy : sc[j]? = some (y, k2) := by rfl) (hk1 : k1 = .local ∨ k1 = .cell := by first | exact .inl rfl | exact .inr rfl) (hk2 : k2 = .local ∨ k2 = .cell := by first | exact .inl rfl | exact .inr rfl)
  (hs : swapsWithSole [.Tuple [.Name x p1, .Name y p2] k tp] e pos.line cx.env = pure false := by rfl) (hw : swappedStores [.Tuple [.Name x p1, .Name y p2] k tp] e cx.env = pure none := by rfl) : ExB cx (.Assign [.Tuple [.Name x p1, .Name y p2] k tp] e pos :: bs) st Q X :=
 ExB.cons (ExS.asgTup (h _ _ (AsG.tup L.ok L.hn (AsG.name L.ok (L.s i hx) hk1 (AsG.name L.ok (L.s j hy) hk2 q)) rfl)) hs hw)
theorem CallOk.toV {W : Wd} {lv : Nat} {f : Value} {args : List PV} {kws : List (Str × PV)} {glob : List GObj} {Q : CV → Bool → List GObj → Prop} {E : XV → List GObj → Prop} {v : CV} (h : CallOk W lv f args kws glob Q E) (hq : ∀ r fr g, Q r fr g → r = v ∧ fr = false ∧ g = glob) (hx : ∀ x g, ¬ E x g) : CallV W lv f args kws glob v := h.mono hq hx
theorem Ctx.ni (L : Ctx cx sc gsc lv scope) : interactive cx.env = false := by unfold interactive; rw [L.ok.fn]; rfl
theorem Ctx.bset (L : Ctx cx sc gsc lv scope) (i : Nat) {x : Str} {k : NameKind} {p' pos : Pos} {e : Expr} {bs : List Stmt} {p : PV} {Q : Fl → St → Prop} (h : EvV cx e st p) (q : ExB cx bs { st with fr := st.fr.set i (some p) } Q X) (hx : sc[i]? = some (x, k) := by rfl) (hk : k = .local ∨ k = .cell := by first | exact .inl rfl | exact .inr rfl) (hs : swapsWith e (some (.Name x p')) pos.line cx.env = pure false := by rfl) : ExB cx (.Assign [.Name x p'] e pos :: bs) st Q X :=
 ExB.cons (L.set i (h _ _ q) hx hk hs)
end
theorem take_S (l : List Nat) (k : Nat) : sliceS (S l) none (some (k : Int)) = S (l.take k) := by
 rw [sliceS_S, clip_nat]
 show S (l.take (min k l.length)) = _
 rw [← List.take_take, List.take_length]
theorem mid_S (l : List Nat) (a b : Nat) (hab : a ≤ b) : sliceS (S l) (some (a : Int)) (some (b : Int)) = S ((l.drop a).take (b - a)) := by
 rw [sliceS_S, clip_nat, clip_nat]
 congr 1
 rcases Nat.le_total a l.length with h | h
 ·rw [Nat.min_eq_left h]
  rcases Nat.le_total b l.length with h2 | h2
  ·rw [Nat.min_eq_left h2]
  ·rw [Nat.min_eq_right h2, List.take_of_length_le (by simp), List.take_of_length_le (by rw [List.length_drop]; exact Nat.sub_le_sub_right h2 a)]
 ·rw [Nat.min_eq_right h, List.drop_eq_nil_of_le (Nat.le_refl _), List.drop_eq_nil_of_le h, List.take_nil, List.take_nil]
theorem lit (s : String) (l : List Nat) (h : (Str.ofString s == S l) = true) : (s : Str) = S l := by
 rw [beq_iff_eq] at h; exact h
noncomputable def run257 : List Nat → List Nat
 | [] => []
 | c :: r => if c = 34 then (match r with
  | d :: r' => if d = 34 then 34 :: run257 r' else []
  | [] => []) else c :: run257 r
theorem run_q1 : run257 [34] = [] := by decide
theorem run_q2 (d : Nat) (r : List Nat) : run257 (34 :: d :: r) = if d = 34 then 34 :: run257 r else [] := by
 rw [run257.eq_def]; simp
theorem run_c {c : Nat} (h : ¬ c = 34) (r : List Nat) : run257 (c :: r) = c :: run257 r := by
 rw [run257.eq_def]; simp [h]
noncomputable def spec257 (l : List Nat) : List Nat := if (l.drop 3).take 2 = [32, 34] then run257 (l.drop 5) else []
noncomputable def sc257 : List (Str × NameKind) := [("resp", .local), ("dirname", .local), ("i", .local), ("n", .local), ("c", .local)]
noncomputable def gsc257 : List Str := ["error_reply", "len"]
theorem scOk257 : ScOk (defAt 13).scope sc257 gsc257 := .of (by decide +kernel)
noncomputable def st257 (k : Nat) : Stmt := (defAt 13).body.getD k (.Pass default)
section
variable {cx : Cx} {X : XV → St → Prop} {lv : Nat}
theorem EvE.strE {cx : Cx} {st : St} {X : XV → St → Prop} {x y : Str} {k : Nat} {pos : Pos} {Q : PV → St → Prop} (e : x = y) (h : Q (.c (.str y)) st) : EvE cx (.Constant (.str x) k pos) st Q X := .str (e ▸ h)
theorem drop_cons {l : List Nat} {i c : Nat} (h : l[i]? = some c) : l.drop i = c :: l.drop (i + 1) := by
 obtain ⟨hi, rfl⟩ := List.getElem?_eq_some_iff.mp h
 exact List.drop_eq_getElem_cons hi
theorem run_q {l : List Nat} {i : Nat} (h : ¬ l[i]? = some 34) : run257 (34 :: l.drop i) = [] := by
 cases hd : l[i]? with
 | none => rw [List.drop_eq_nil_of_le (List.getElem?_eq_none_iff.mp hd)]; exact run_q1
 | some d => rw [drop_cons hd, run_q2, if_neg fun z => h (hd.trans (congrArg some z))]
theorem eqQ {c : Nat} : (S [c] == ("\"" : Str)) = decide (c = 34) := by
 rw [show ("\"" : Str) = S [34] from lit _ _ (by decide +kernel), S_beq]; simp; rfl
theorem not_dec {p : Prop} [Decidable p] (h : (!decide p) = false) : p := by simpa using h
theorem neQ {c : Nat} : (S [c] != ("\"" : Str)) = !decide (c = 34) := congrArg not eqQ
inductive J257 (g : List GObj) (l : List Nat) (n : Nat) (st : St) : Prop
 | mk (i : Nat) (dn : List Nat) (o : Option PV) (e : st = ⟨g, [], [T l, T dn, I i, I l.length, o], []⟩) (a : i ≤ l.length) (b : dn.length ≤ i) (c : run257 (l.drop 5) = dn ++ run257 (l.drop i)) (d : n = l.length - i)
theorem more257 (L : Ctx cx sc257 gsc257 lv (defAt 13).scope) {dn : List Nat} {c : Nat} {Q : Fl → St → Prop} {J : St → Prop} {st : St} (hf : st.fr[1]? = some (T dn)) (hc : st.fr[4]? = some (T [c])) (hz : dn.length ≤ 999)
  (k : J { st with fr := st.fr.set 1 (T (dn ++ [c])) }) : ExB cx ((whBody (st257 5)).drop 3) st (bodyQ Q J) X :=
 L.bset 1 (.addS (L.vv 1 rfl hf) (L.vv 4 rfl hc) (Nat.add_le_add hz (Nat.le_refl 1))) (ExB.nil k)
theorem step257 (L : Ctx cx sc257 gsc257 lv (defAt 13).scope) {g : List GObj} {l dn : List Nat} {i : Nat} {o : Option PV} {Q : Fl → St → Prop} (hl : l.length ≤ 1000) (hi : i < l.length) (hdn : dn.length ≤ i) (hr : run257 (l.drop 5) = dn ++ run257 (l.drop i))
  (h : ∀ i o, Q .next ⟨g, [], [T l, T (run257 (l.drop 5)), I i, I l.length, o], []⟩) : ExB cx (whBody (st257 5)) ⟨g, [], [T l, T dn, I i, I l.length, o], []⟩ (bodyQ Q fun st => ∃ m, m < l.length - i ∧ J257 g l m st) X := by
 obtain ⟨c, hc⟩ : ∃ c, l[i]? = some c := ⟨_, List.getElem?_eq_getElem hi⟩
 rw [drop_cons hc] at hr
 refine L.bset 4 (.idxS (L.vv 0 rfl rfl) (L.vv 2 rfl rfl) hc (by omega)) ?_
 refine L.bset 2 (.bin (r := .int ((i + 1 : Nat) : Int)) (L.vv 2 rfl rfl) .int rfl trivial) ?_
 refine ExB.ite (.cmp (L.vv 4 rfl rfl) .str rfl) (fun e => ?_) fun e => ?_
 ·obtain rfl : c = 34 := of_decide_eq_true (eqQ.symm.trans e)
  clear e
  refine ExB.cons (ExS.ite (EvT.yes (P := ¬ l[i + 1]? = some 34) ?_ (fun p => ⟨fun _ => ExB.cons (ExS.brk ?_), xtf⟩) fun p => ⟨xff, fun _ => ?_⟩))
  ·refine EvT.bop (EvAll.or (EvT.v (.cmp (L.vv 2 rfl rfl) (L.vv 3 rfl rfl) rfl) ⟨fun e => ⟨rfl, iff_of_true rfl ?_⟩, fun e => ?_⟩))
   ·rw [List.getElem?_eq_none (Int.ofNat_le.mp (of_decide_eq_true e))]; nofun
   ·have h1 : i + 1 < l.length := Nat.lt_of_not_le fun z => of_decide_eq_false e (Int.ofNat_le.mpr z)
    obtain ⟨d, hd⟩ : ∃ d, l[i + 1]? = some d := ⟨_, List.getElem?_eq_getElem h1⟩
    refine EvAll.or (EvT.v (.cmp (.idxS (L.vv 0 rfl rfl) (L.vv 2 rfl rfl) hd (by omega)) .str rfl) ⟨fun e2 => ⟨rfl, iff_of_true rfl fun z => ?_⟩, fun e2 => EvAll.orNil ⟨rfl, iff_of_false xff fun z => z (hd.trans (congrArg some ?_))⟩⟩)
    ·obtain rfl := Option.some.inj (hd.symm.trans z)
     exact xff (neQ.symm.trans e2)
    ·exact not_dec (neQ.symm.trans e2)
  ·rw [run_q p, List.append_nil] at hr
   exact hr ▸ h _ _
  ·have hy : l[i + 1]? = some 34 := Decidable.not_not.mp p
   have hlt := (List.getElem?_eq_some_iff.mp hy).1
   refine ExB.nil (L.bset 2 (.bin (r := .int ((i + 2 : Nat) : Int)) (L.vv 2 rfl rfl) .int rfl trivial) ?_)
   refine ExB.nil (more257 L rfl rfl (by omega) ⟨l.length - (i + 2), by omega, i + 2, dn ++ [34], _, rfl, hlt, Nat.le_trans (Nat.le_of_eq List.length_append) (Nat.add_le_add hdn (by decide)), ?_, rfl⟩)
   rw [hr, drop_cons hy, run_q2, if_pos rfl, List.append_assoc]; rfl
 ·have hc : ¬ c = 34 := of_decide_eq_false (eqQ.symm.trans e)
  refine ExB.nil (more257 L rfl rfl (by omega) ⟨l.length - (i + 1), by omega, i + 1, dn ++ [c], _, rfl, hi, Nat.le_trans (Nat.le_of_eq List.length_append) (Nat.add_le_add hdn (Nat.le_refl 1)), ?_, rfl⟩)
  rw [hr, run_c hc, List.append_assoc]; rfl
theorem loop257 (L : Ctx cx sc257 gsc257 lv (defAt 13).scope) {g : List GObj} {l : List Nat} {o : Option PV} {Q : Fl → St → Prop} (hl : l.length ≤ 1000) (h5 : 5 ≤ l.length)
  (h : ∀ i o, Q .next ⟨g, [], [T l, T (run257 (l.drop 5)), I i, I l.length, o], []⟩) : ExS cx (st257 5) ⟨g, [], [T l, T [], I 5, I l.length, o], []⟩ Q X := by
 refine ExS.while L.ok L.ce (J257 g l) (l.length - 5) ⟨5, [], o, rfl, h5, Nat.zero_le _, rfl, rfl⟩ ?_
 rintro n _ ⟨i, dn, o, rfl, hi, hdn, hr, rfl⟩
 refine EvT.cmp (L.v 2 rfl rfl (L.v 3 rfl rfl ⟨_, _, _, rfl, rfl, rfl, fun e => step257 L hl (Int.ofNat_lt.mp (of_decide_eq_true e)) hdn hr h, fun e => ?_⟩))
 obtain rfl : i = l.length := Nat.le_antisymm hi (Nat.le_of_not_lt fun z => of_decide_eq_false e (Int.ofNat_lt.mpr z))
 rw [List.drop_length, show run257 [] = [] from rfl, List.append_nil] at hr
 exact hr ▸ h _ _
theorem neS {a b : List Nat} {x : Str} (hx : x = S b) : (S a != x) = !decide (a = b) := by subst hx; exact congrArg not ((S_beq a b).trans (by rw [Bool.eq_iff_iff]; simp))
theorem body257 (L : Ctx cx sc257 gsc257 lv (defAt 13).scope) {g : List GObj} {l : List Nat} {Q : Fl → St → Prop} (hl : l.length ≤ 1000)
  (h : l.take 3 = [50, 53, 55] → ∀ fr, Q (.ret (.c (.str (S (spec257 l))))) ⟨g, [], fr, []⟩) (hx : ¬ l.take 3 = [50, 53, 55] → ∀ fr, X ⟨.ref 75, [.str (S l)]⟩ ⟨g, [], fr, []⟩) :
  ExB cx (defAt 13).body ⟨g, [], [T l, none, none, none, none], []⟩ Q X := by
 have C := L.ok
 have l1 : ("257" : Str) = S [50, 53, 55] := lit _ _ (by decide +kernel)
 have l2 : (" \"" : Str) = S [32, 34] := lit _ _ (by decide +kernel)
 have l0 : ("" : Str) = S [] := lit _ _ (by decide +kernel)
 have t3 : Mine.sliceS (S l) none (some 3) = S (l.take 3) := take_S l 3
 have t35 : Mine.sliceS (S l) (some 3) (some 5) = S ((l.drop 3).take 2) := mid_S l 3 5 (by decide)
 refine ExB.cons (ExS.ite (EvT.cmp (ev_cutS (L.v 0 rfl rfl (evO_none (evO_some (EvE.int ⟨l, _, rfl, hl, t3, EvE.str ⟨_, _, _, rfl, rfl, rfl, fun e => ?_, fun e => ?_⟩⟩)))))))
 ·replace e := (neS l1).symm.trans e
  exact ExB.cons (ExS.raiseOwn C L.hn L.top.e75 (L.n 0 15 rfl rfl ⟨rfl, EvL.cons (L.v 0 rfl rfl (EvL.nil ⟨[.str (S l)], rfl, by simp, hx (fun z => by rw [decide_eq_true z] at e; cases e) _⟩))⟩))
 replace e := (neS l1).symm.trans e
 replace h := h (not_dec e)
 clear e t3 l1
 refine ExB.nil (ExB.cons (ExS.ite (EvT.cmp (ev_cutS (L.v 0 rfl rfl (evO_some (EvE.int (evO_some (EvE.int ⟨l, _, rfl, hl, t35, EvE.str ⟨_, _, _, rfl, rfl, rfl, fun e => ?_, fun e => ?_⟩⟩)))))))))
 ·replace e := (neS l2).symm.trans e
  rw [show spec257 l = [] from if_neg (fun z => by rw [decide_eq_true z] at e; cases e), ← l0] at h
  exact ExB.cons (ExS.ret (EvE.str (h _)))
 ·replace e := (neS l2).symm.trans e
  have he : (l.drop 3).take 2 = [32, 34] := not_dec e
  rw [show spec257 l = run257 (l.drop 5) from if_pos he] at h
  have h5 : 5 ≤ l.length := by
   have := congrArg List.length he
   simp at this; omega
  clear e he t35 l2
  refine ExB.nil (ExB.cons (L.set 1 (EvE.strE (y := S []) l0 (ExB.cons (L.set 2 (EvE.int ?_))))))
  refine ExB.cons (L.set 3 (L.call 1 5 .builtin (EvL.cons (L.v 0 rfl rfl (EvL.nil (Prim.lenS hl ?_))))))
  exact ExB.cons (loop257 L (o := none) hl h5 fun i o => ExB.cons (ExS.ret (L.v 1 rfl rfl (h _))))
end
theorem call_p257 {W : Wd} (Tp : TopA W) {lv : Nat} {l : List Nat} {glob : List GObj} (hl : l.length ≤ 1000) :
  CallOk W (lv + 1) (.ref 103) [.c (.str (S l))] [] glob (fun r fr g => r = .str (S (spec257 l)) ∧ fr = false ∧ g = glob ∧ l.take 3 = [50, 53, 55]) (fun px g => px = ⟨.ref 75, [.str (S l)]⟩ ∧ g = glob ∧ ¬ l.take 3 = [50, 53, 55]) := by
 obtain ⟨fd, F⟩ := Tp.p257
 refine CallOk.pos Tp (bs := [("resp", .c (.str (S l)))]) F scOk257 rfl rfl (fun fd vs hl => by obtain ⟨_, rfl⟩ := len1 hl; rfl) ?_
 ·intro cx L hw
  exact body257 L hl (fun he fr => RetOk.c rfl ⟨rfl, rfl, rfl, he⟩) fun he fr => XOk.c rfl ⟨rfl, rfl, he⟩
inductive R229 where
 | reply | proto
 | ok (n : Int)
 deriving DecidableEq
noncomputable def parts229 (x : Str) (left right : Int) : List Str := Txt.split (sliceS x (some (left + 1)) (some right)) (Txt.item x (left + 1))
noncomputable def fit229 (x : Str) (left right : Int) : Bool :=
 let b := sliceS x (some (left + 1)) (some right)
 let y := Txt.item x (left + 1)
 !(y.length == 0) && decide (b.length ≤ 1000000) && decide ((Builtin.Str.partsBetween b (Builtin.Str.occurrences b y 0 b.length (b.length + 1)) y.length).length ≤ 1000000) && decide ((parts229 x left right).length ≤ 1000000)
noncomputable def s229i : Option Str → Option R229
 | some p => if decide (p.length ≤ 640) = true then (PySem.intText? p).map .ok else none
 | none => none
noncomputable def s229h (parts : List Str) : Option R229 := if ((parts.length : Int) != 5) = true then some .proto else s229i parts[3]?
noncomputable def s229g (x : Str) (left right : Int) : Option R229 := if fit229 x left right = false then none else s229h (parts229 x left right)
noncomputable def s229e (x : Str) (left right : Int) : Option R229 := if (Txt.item x (left + 1) != Txt.item x (right - 1)) = true then some .proto else s229g x left right
noncomputable def in229 (x : Str) (left right : Int) : Bool := (Txt.charAt x (left + 1)).isSome && (Txt.charAt x (right - 1)).isSome && decide (left < 100000) && decide (right < 100000)
noncomputable def s229d (x : Str) (left right : Int) : Option R229 := if in229 x left right = false then none else s229e x left right
noncomputable def s229c (x : Str) (left right : Int) : Option R229 := if right < 0 then some .proto else s229d x left right
noncomputable def s229b (x : Str) (left : Int) : Option R229 := if left < 0 then some .proto else s229c x left (Txt.find3 x (S [41]) (left + 1))
noncomputable def spec229 (x : Str) : Option R229 := if (sliceS x none (some 3) != S [50, 50, 57]) = true then some .reply else s229b x (Txt.find x (S [40]))
theorem pick_three {parts : List Str} {p : Str} (hp : parts[3]? = some p) : (pick (parts.map CV.str) 3).map PV.c = some (.c (.str p)) := by
 have h3 : 3 < parts.length := (List.getElem?_eq_some_iff.mp hp).1
 unfold pick seqIndex?
 simp only [show ¬ ((3 : Int) < 0) from by decide, if_false, List.length_map]
 rw [if_pos (by rw [Bool.and_eq_true, decide_eq_true_eq, decide_eq_true_eq]; omega)]
 show Option.map PV.c ((parts.map CV.str)[3]?) = _
 rw [List.getElem?_map, hp]; rfl
theorem itep {α : Type} {c : Prop} [Decidable c] {a b r : α} (h : ite c a b = r) (e : c) : a = r := (if_pos e).symm.trans h
theorem iten {α : Type} {c : Prop} [Decidable c] {a b r : α} (h : ite c a b = r) (e : ¬ c) : b = r := (if_neg e).symm.trans h
theorem bne_not {b : Bool} (h : b = false) : ¬ b = true := by subst h; nofun
theorem in229_of {x : Str} {left right : Int} (h : ¬ in229 x left right = false) : (∃ c, Txt.charAt x (left + 1) = some c) ∧ (∃ c, Txt.charAt x (right - 1) = some c) ∧ left < 100000 ∧ right < 100000 := by
 unfold in229 at h
 simp only [Bool.not_eq_false, Bool.and_eq_true, decide_eq_true_eq] at h
 exact ⟨Option.isSome_iff_exists.mp h.1.1.1, Option.isSome_iff_exists.mp h.1.1.2, h.1.2, h.2⟩
theorem fit229_of {x : Str} {left right : Int} (h : ¬ fit229 x left right = false) : (Txt.item x (left + 1)).length ≠ 0 ∧ (sliceS x (some (left + 1)) (some right)).length ≤ 1000000 ∧ (Builtin.Str.partsBetween (sliceS x (some (left + 1)) (some right)) (Builtin.Str.occurrences (sliceS x (some (left + 1)) (some right)) (Txt.item x (left + 1)) 0 (sliceS x (some (left + 1)) (some right)).length ((sliceS x (some (left + 1)) (some right)).length + 1)) (Txt.item x (left + 1)).length).length ≤ 1000000 ∧ (parts229 x left right).length ≤ 1000000 := by
 unfold fit229 at h
 simp only [Bool.not_eq_false, Bool.and_eq_true, decide_eq_true_eq, Bool.not_eq_true', beq_eq_false_iff_ne] at h
 exact ⟨h.1.1.1, h.1.1.2, h.1.2, h.2⟩
noncomputable def sc229 : List (Str × NameKind) := [("resp", .local), ("peer", .local), ("left", .local), ("right", .local), ("parts", .local), ("host", .local), ("port", .local)]
noncomputable def gsc229 : List Str := ["error_reply", "error_proto", "len", "int"]
theorem scOk229 : ScOk (defAt 12).scope sc229 gsc229 := .of (by decide +kernel)
section
variable {cx : Cx} {X : XV → St → Prop} {lv : Nat}
theorem Prim.findE {st : St} {x y : Str} {v : Int} {Q : PV → St → Prop} (e : Txt.find x y = v) (h : Q (.c (.int v)) st) : Prim cx (.builtin "str.find") [.c (.str x), .c (.str y)] st Q X := .find (e ▸ h)
theorem Prim.find3E {st : St} {x y : Str} {i v : Int} {Q : PV → St → Prop} (e : Txt.find3 x y i = v) (h : Q (.c (.int v)) st) : Prim cx (.builtin "str.find") [.c (.str x), .c (.str y), .c (.int i)] st Q X := .find3 (e ▸ h)
theorem body229c (L : Ctx cx sc229 gsc229 lv (defAt 12).scope) {g : List GObj} {x : Str} {hst : CV} {rest : List CV} {r : R229} {Q : Fl → St → Prop} {parts : List Str} {o2 o3 : Option PV} (f4 : parts.length ≤ 1000000) (hr : s229h parts = some r)
  (h : ∀ n, r = .ok n → ∀ fr, Q (.ret (.c (.tup [hst, .int n]))) ⟨g, [], fr, []⟩)
  (raise87 : ∀ {Q : Fl → St → Prop} {fr : List (Option PV)} {np cp p1 pos : Pos}, r = .proto → fr[0]? = some (some (.c (.str x))) → ExS cx (.Raise (some (.Call (.Name "error_proto" np) [.Name "resp" p1] [] cp)) none pos) ⟨g, [], fr, []⟩ Q X) :
  ExB cx ((defAt 12).body.drop 7) ⟨g, [], [some (.c (.str x)), some (.c (.tup (hst :: rest))), o2, o3, some (.c (.lst (parts.map .str))), none, none], []⟩ Q X := by
 have C := L.ok
 have e0 : (((parts.map CV.str).length : Int) != 5) = ((parts.length : Int) != 5) := by rw [List.length_map]
 refine ExB.cons (ExS.ite (EvT.cmp (L.call 2 5 .builtin (EvL.cons (L.v 4 rfl rfl (EvL.nil (Prim.len rfl trivial ?_ (EvE.int ⟨_, _, _, rfl, rfl, rfl, fun e4 => ?_, fun e4 => ?_⟩))))))))
 ·rw [List.length_map, sizeLine_eq]; omega
 ·exact ExB.cons (raise87 (Option.some.inj (itep hr (e0.symm.trans e4))).symm rfl)
 replace hr := iten hr (bne_not (e0.symm.trans e4))
 clear e4 e0
 cases hp : parts[3]? with
 | none => rw [hp] at hr; cases hr
 | some p =>
  rw [hp] at hr
  have hz : decide (p.length ≤ 640) = true := Decidable.byContradiction fun q => xns (iten hr q)
  obtain ⟨n, hn, rfl⟩ := Option.map_eq_some_iff.mp (itep hr hz)
  replace hz := of_decide_eq_true hz
  clear hr
  have h0 : (pick (hst :: rest) 0).map PV.c = some (.c hst) := by unfold pick seqIndex?; simp
  refine ExB.nil (ExB.cons (L.set 5 (EvE.idx (L.v 1 rfl rfl (EvE.int ⟨0, .c hst, rfl, by decide, by decide, h0, ?_⟩)))))
  refine ExB.cons (L.set 6 (L.call 3 10 .type (EvL.cons (EvE.idx (L.v 4 rfl rfl (EvE.int ⟨3, .c (.str p), rfl, by decide, by decide, pick_three hp, ?_⟩))))))
  refine EvL.nil (Prim.intStr hn hz ?_)
  exact ExB.cons (ExS.ret (EvE.tup (EvL.cons (L.v 5 rfl rfl (EvL.cons (L.v 6 rfl rfl (EvL.nil ⟨[hst, .int n], rfl, by simp, h n rfl _⟩)))))))
theorem body229b (L : Ctx cx sc229 gsc229 lv (defAt 12).scope) {g : List GObj} {x : Str} {hst : CV} {rest : List CV} {r : R229} {Q : Fl → St → Prop} {left right : Int} (hl : x.length ≤ 1000) (hr : s229d x left right = some r) (n1 : ¬ left < 0) (n2 : ¬ right < 0)
  (h : ∀ n, r = .ok n → ∀ fr, Q (.ret (.c (.tup [hst, .int n]))) ⟨g, [], fr, []⟩)
  (raise87 : ∀ {Q : Fl → St → Prop} {fr : List (Option PV)} {np cp p1 pos : Pos}, r = .proto → fr[0]? = some (some (.c (.str x))) → ExS cx (.Raise (some (.Call (.Name "error_proto" np) [.Name "resp" p1] [] cp)) none pos) ⟨g, [], fr, []⟩ Q X) :
  ExB cx ((defAt 12).body.drop 5) ⟨g, [], [some (.c (.str x)), some (.c (.tup (hst :: rest))), some (.c (.int left)), some (.c (.int right)), none, none, none], []⟩ Q X := by
 have C := L.ok
 have sz : x.length ≤ sizeLine := by rw [sizeLine_eq]; omega
 have hin : ¬ in229 x left right = false := fun q => xns (itep hr q)
 replace hr := iten hr hin
 obtain ⟨⟨c1, hc1⟩, ⟨c2, hc2⟩, s3, s4⟩ := in229_of hin
 clear hin
 have i1 : (Txt.charAt x (left + 1)).map (fun _ => PV.c (.str (Txt.item x (left + 1)))) = some (.c (.str (Txt.item x (left + 1)))) := by rw [hc1]; rfl
 have i2 : (Txt.charAt x (right - 1)).map (fun _ => PV.c (.str (Txt.item x (right - 1)))) = some (.c (.str (Txt.item x (right - 1)))) := by rw [hc2]; rfl
 clear hc1 hc2
 refine ExB.cons (ExS.ite (EvT.cmp (EvE.idx (L.v 0 rfl rfl (EvE.bin (L.v 2 rfl rfl (EvE.int ⟨_, _, _, rfl, rfl, rfl, trivial, ⟨left + 1, .c (.str (Txt.item x (left + 1))), rfl, by omega, by omega, i1, ?_⟩⟩)))))))
 refine EvE.idx (L.v 0 rfl rfl (EvE.bin (L.v 3 rfl rfl (EvE.int ⟨_, _, _, rfl, rfl, rfl, trivial, ⟨right - 1, .c (.str (Txt.item x (right - 1))), rfl, by omega, by omega, i2, ⟨_, _, _, rfl, rfl, rfl, fun e3 => ?_, fun e3 => ?_⟩⟩⟩))))
 ·exact ExB.cons (raise87 (Option.some.inj (itep hr e3)).symm rfl)
 replace hr := iten hr (bne_not e3)
 have hfit : ¬ fit229 x left right = false := fun q => xns (itep hr q)
 replace hr := iten hr hfit
 obtain ⟨f1, f2, f3, f4⟩ := fit229_of hfit
 clear hfit e3
 refine ExB.nil (ExB.cons (L.set 4 (EvE.meth PySem.F.plainAttrs_str PySem.F.slot_str_split PySem.F.type_str_split (ev_sliceS (L.v 0 rfl rfl (evO_some (EvE.bin (L.v 2 rfl rfl (EvE.int ⟨_, _, _, rfl, rfl, rfl, trivial, evO_some (L.v 3 rfl rfl ⟨x, rfl, ⟨.str, EvL.cons (EvE.idx (L.v 0 rfl rfl (EvE.bin (L.v 2 rfl rfl (EvE.int ⟨_, _, _, rfl, rfl, rfl, trivial, ⟨left + 1, .c (.str (Txt.item x (left + 1))), rfl, by omega, by omega, i1, ?_⟩⟩)))))⟩, sz⟩)⟩)))))))))
 have z1 : sizeLine ≥ 1000000 := by rw [sizeLine_eq]; omega
 exact EvL.nil (Prim.split (beq_eq_false_iff_ne.mpr f1) (Nat.le_trans f2 z1) (Nat.le_trans f3 z1) (body229c L f4 hr h raise87))
theorem body229 (L : Ctx cx sc229 gsc229 lv (defAt 12).scope) {g : List GObj} {x : Str} {hst : CV} {rest : List CV} {r : R229} {Q : Fl → St → Prop} (hl : x.length ≤ 1000) (hr : spec229 x = some r)
  (h : ∀ n, r = .ok n → ∀ fr, Q (.ret (.c (.tup [hst, .int n]))) ⟨g, [], fr, []⟩) (h1 : r = .reply → ∀ fr, X ⟨.ref 75, [.str x]⟩ ⟨g, [], fr, []⟩) (h2 : r = .proto → ∀ fr, X ⟨.ref 87, [.str x]⟩ ⟨g, [], fr, []⟩) :
  ExB cx (defAt 12).body ⟨g, [], [some (.c (.str x)), some (.c (.tup (hst :: rest))), none, none, none, none, none], []⟩ Q X := by
 have C := L.ok
 have sz : x.length ≤ sizeLine := by rw [sizeLine_eq]; omega
 have l1 : ("229" : Str) = S [50, 50, 57] := lit _ _ (by decide +kernel)
 have l2 : ("(" : Str) = S [40] := lit _ _ (by decide +kernel)
 have l3 : (")" : Str) = S [41] := lit _ _ (by decide +kernel)
 have raise87 : ∀ {Q : Fl → St → Prop} {fr : List (Option PV)} {np cp p1 pos : Pos}, r = .proto → fr[0]? = some (some (.c (.str x))) → ExS cx (.Raise (some (.Call (.Name "error_proto" np) [.Name "resp" p1] [] cp)) none pos) ⟨g, [], fr, []⟩ Q X := by
  intro Q fr np cp p1 pos e hf
  exact ExS.raiseOwn C L.hn L.top.e87 (L.n 1 16 rfl rfl ⟨rfl, EvL.cons (L.v 0 rfl hf (EvL.nil ⟨[.str x], rfl, by simp, h2 e _⟩))⟩)
 have e0 : (sliceS x none (some 3) != "229") = (sliceS x none (some 3) != S [50, 50, 57]) := by rw [l1]
 refine ExB.cons (ExS.ite (EvT.cmp (ev_sliceS (L.v 0 rfl rfl (evO_none (evO_some (EvE.int ⟨x, rfl, EvE.str ⟨_, _, _, rfl, rfl, rfl, fun e => ?_, fun e => ?_⟩, sz⟩)))))))
 ·obtain rfl := Option.some.inj (itep hr (e0.symm.trans e))
  exact ExB.cons (ExS.raiseOwn C L.hn L.top.e75 (L.n 0 15 rfl rfl ⟨rfl, EvL.cons (L.v 0 rfl rfl (EvL.nil ⟨[.str x], rfl, by simp, h1 rfl _⟩))⟩))
 replace hr := iten hr (bne_not (e0.symm.trans e))
 clear e e0
 obtain ⟨left, hL⟩ : ∃ l, Txt.find x (S [40]) = l := ⟨_, rfl⟩
 rw [hL] at hr
 refine ExB.nil (ExB.cons (L.set 2 (EvE.meth PySem.F.plainAttrs_str PySem.F.slot_str_find PySem.F.type_str_find (L.v 0 rfl rfl ⟨.str, EvL.cons (EvE.str (EvL.nil (Prim.findE (v := left) (by rw [l2]; exact hL) ?_)))⟩))))
 clear hL
 refine ExB.cons (ExS.ite (EvT.cmp (L.v 2 rfl rfl (EvE.int ⟨_, _, _, rfl, rfl, rfl, fun e => ?_, fun e => ?_⟩))))
 ·exact ExB.cons (raise87 (Option.some.inj (itep hr (of_decide_eq_true e))).symm rfl)
 have n1 := of_decide_eq_false e
 replace hr := iten hr n1
 clear e
 obtain ⟨right, hR⟩ : ∃ l, Txt.find3 x (S [41]) (left + 1) = l := ⟨_, rfl⟩
 rw [hR] at hr
 refine ExB.nil (ExB.cons (L.set 3 (EvE.meth PySem.F.plainAttrs_str PySem.F.slot_str_find PySem.F.type_str_find (L.v 0 rfl rfl ⟨.str, EvL.cons (EvE.str (EvL.cons (EvE.bin (L.v 2 rfl rfl (EvE.int ⟨_, _, _, rfl, rfl, rfl, trivial, EvL.nil (Prim.find3E (v := right) (by rw [l3]; exact hR) ?_)⟩)))))⟩))))
 clear hR l1 l2 l3
 refine ExB.cons (ExS.ite (EvT.cmp (L.v 3 rfl rfl (EvE.int ⟨_, _, _, rfl, rfl, rfl, fun e => ?_, fun e => ?_⟩))))
 ·exact ExB.cons (raise87 (Option.some.inj (itep hr (of_decide_eq_true e))).symm rfl)
 refine ExB.nil ?_
 exact body229b L hl (iten hr (of_decide_eq_false e)) n1 (of_decide_eq_false e) h raise87
end
theorem call_p229 {W : Wd} (Tp : TopA W) {lv : Nat} {x : Str} {hst : CV} {rest : List CV} {r : R229} {glob : List GObj} (hl : x.length ≤ 1000) (hr : spec229 x = some r) :
  CallOk W (lv + 1) (.ref 96) [.c (.str x), .c (.tup (hst :: rest))] [] glob (fun v fr g => fr = false ∧ g = glob ∧ ∃ n, r = .ok n ∧ v = .tup [hst, .int n]) (fun px g => g = glob ∧ (r = .reply ∧ px = ⟨.ref 75, [.str x]⟩ ∨ r = .proto ∧ px = ⟨.ref 87, [.str x]⟩)) := by
 obtain ⟨fd, F⟩ := Tp.p229
 refine CallOk.pos Tp (bs := [("resp", .c (.str x)), ("peer", .c (.tup (hst :: rest)))]) F scOk229 rfl rfl (fun fd vs hl => by obtain ⟨_, _, rfl⟩ := len2 hl; rfl) ?_
 ·intro cx L hw
  exact body229 L hl hr (fun n e fr => RetOk.c rfl ⟨rfl, rfl, n, e, rfl⟩) (fun e fr => XOk.c rfl ⟨rfl, .inl ⟨e, rfl⟩⟩) fun e fr => XOk.c rfl ⟨rfl, .inr ⟨e, rfl⟩⟩
noncomputable def msg229 (m : Nat) (p : Int) : Str := "229 on) (" ++ (S [m] ++ "2" ++ S [m] ++ "on" ++ S [m] ++ Str.ofString (toString p) ++ S [m]) ++ ") (or)"
noncomputable def rep1 (c : Nat) (z : List Nat) (l : List Nat) : List Nat := l.flatMap fun a => if a = c then z else [a]
theorem rep1_app (c : Nat) (z a b : List Nat) : rep1 c z (a ++ b) = rep1 c z a ++ rep1 c z b := by unfold rep1; rw [List.flatMap_append]
theorem rep1_free (c : Nat) (z : List Nat) : ∀ l : List Nat, c ∉ l → rep1 c z l = l
 | [], _ => rfl
 | k :: r, h => by
  have h1 : ¬ k = c := fun e => h (e ▸ List.mem_cons_self ..)
  unfold rep1
  rw [List.flatMap_cons, if_neg h1]
  have := rep1_free c z r fun m => h (List.mem_cons_of_mem _ m)
  unfold rep1 at this
  rw [this]; rfl
theorem rep1_join (c : Nat) (z : Str) : ∀ parts : List PySem.Str, (∀ p ∈ parts, c ∉ p.cps.toList) → rep1 c z.cps.toList (Str.join ⟨#[c]⟩ parts).cps.toList = (Str.join z parts).cps.toList
 | [], _ => rfl
 | [p], h => rep1_free c _ _ (h p (List.mem_singleton.mpr rfl))
 | p :: q :: r, h => by
  have ih := rep1_join c z (q :: r) fun a ha => h a (List.mem_cons_of_mem _ ha)
  show rep1 c _ (p ++ ⟨#[c]⟩ ++ Str.join ⟨#[c]⟩ (q :: r)).cps.toList = (p ++ z ++ Str.join z (q :: r)).cps.toList
  simp only [Str.cps_append, Array.toList_append]
  rw [rep1_app, rep1_app, ih, rep1_free c _ _ (h p (List.mem_cons_self ..))]
  have : rep1 c z.cps.toList (⟨#[c]⟩ : Str).cps.toList = z.cps.toList := by simp [rep1]
  rw [this]
theorem replace_S (l z : List Nat) (c : Nat) : Txt.replace (S l) (S [c]) (S z) = S (rep1 c z l) := by
 have hr : Txt.replace (S l) ⟨#[c]⟩ (S z) = Str.join (S z) (Txt.split (S l) ⟨#[c]⟩) := StrLaws.replace_one _ _ _
 have hj := rep1_join c (S z) _ (StrLaws.split_free (S l) c)
 rw [StrLaws.join_split] at hj
 show Txt.replace (S l) ⟨#[c]⟩ (S z) = _
 rw [hr, S_list (Str.join (S z) _), ← hj]
 simp [S]
theorem found_S (l : List Nat) (c : Nat) : (!(Builtin.Str.occurrences (S l) (S [c]) 0 (S l).length 1).isEmpty) = decide (c ∈ l) := by
 have := StrLaws.found_one (S l) c
 rw [Bool.eq_iff_iff] at this
 refine Bool.eq_iff_iff.mpr ?_
 rw [decide_eq_true_iff]
 refine (show (!(Builtin.Str.occurrences (S l) (S [c]) 0 (S l).length 1).isEmpty) = true ↔ _ from this).trans (decide_eq_true_iff.trans ?_)
 simp [S]
theorem flat_one {α : Type} (g : α → Nat) : ∀ l : List α, (l.map fun c => [g c]).flatten = l.map g
 | [] => rfl
 | a :: l => by rw [List.map_cons, List.flatten_cons, flat_one g l]; rfl
theorem placed_S (l : List Nat) (f : Nat → Nat → List Nat) (g : Nat → Nat) (h : ∀ (i : Nat) c, l[i]? = some c → f i c = [g c]) : PySem.placed (S l) f = (l.map g).toArray := by
 apply Array.toList_inj.mp
 unfold PySem.placed
 rw [Array.toList_flatten]
 have : (((S l).cps.mapIdx fun i c => (f i c).toArray).toList.map Array.toList) = l.map fun c => [g c] := by
  apply List.ext_getElem?
  intro i
  rw [List.getElem?_map, Array.getElem?_toList, Array.getElem?_mapIdx, List.getElem?_map]
  have e : (S l).cps[i]? = l[i]? := by simp [S]
  rw [e]
  cases hc : l[i]? with
  | none => rfl
  | some c => simp [h i c hc]
 rw [this, flat_one]
noncomputable def low1 (c : Nat) : Nat := if 65 ≤ c ∧ c ≤ 90 then c + 32 else c
noncomputable def up1 (c : Nat) : Nat := if 97 ≤ c ∧ c ≤ 122 then c - 32 else c
theorem low_tab : ∀ c ∈ List.range 128, Unicode.lowerOf c = [low1 c] := by decide +kernel
theorem up_tab : ∀ c ∈ List.range 128, Unicode.upperOf c = [up1 c] := by decide +kernel
theorem lower_S (l : List Nat) (h : ∀ c ∈ l, c < 128) : Txt.lower (S l) = S (l.map low1) := by
 unfold Txt.lower
 rw [placed_S l _ low1 fun i c hc => ?_]
 ·rfl
 ·have hlt := h c (List.mem_of_getElem? hc)
  unfold Unicode.lowerAt
  have e : (S l).cps[i]? = some c := by simp [S, hc]
  rw [e]
  dsimp only
  have hne : ¬ ((c == 0x3A3 && Unicode.endsWord (S l).cps i) = true) := by
   rw [Bool.and_eq_true, beq_iff_eq]; omega
  rw [if_neg hne]
  exact low_tab c (List.mem_range.mpr hlt)
theorem upper_S (l : List Nat) (h : ∀ c ∈ l, c < 128) : Txt.upper (S l) = S (l.map up1) := by
 unfold Txt.upper
 rw [placed_S l _ up1 fun i c hc => ?_]
 ·rfl
 ·exact up_tab c (List.mem_range.mpr (h c (List.mem_of_getElem? hc)))
theorem set_same {α : Type} : ∀ {l : List α} {i : Nat} {a : α}, l[i]? = some a → l.set i a = l
 | [], i, a, h => by simp at h
 | x :: l, 0, a, h => by simp at h; subst h; rfl
 | x :: l, i + 1, a, h => by
  rw [List.set_cons_succ, set_same (by simpa using h)]
section
variable {cx : Cx} {st : St} {X : XV → St → Prop} {lv : Nat}
theorem esc_if (C : cx.Ok) {i : Nat} {n : Str} {l zl : List Nat} {c : Nat} {y z : Str} {k0 k1 k2 : Nat} {q1 q2 q3 q4 q5 q6 q7 q8 q9 q0 qa : Pos} {Q : Fl → St → Prop} (ly : y = S [c]) (lz : z = S zl) (hn : cx.sc[i]? = some (n, .local)) (hf : st.fr[i]? = some (T l)) (hyz : (y == z) = false) (hb : l.length + (l.length + 1) * zl.length ≤ 16777216)
  (h : Q .next { st with fr := st.fr.set i (T (rep1 c zl l)) })
  (hline : (q4.endLine == q5.line) = true := by rfl) (hs : swapsWith (.Call (.Attribute (.Name n q3) "replace" q4) [.Constant (.str y) k1 q6, .Constant (.str z) k2 q7] [] q5) (some (.Name n q8)) q9.line cx.env = pure false := by rfl) :
  ExS cx (.If (.Compare (.Constant (.str y) k0 qa) [.In] [.Name n q1] q2) [.Assign [.Name n q8] (.Call (.Attribute (.Name n q3) "replace" q4) [.Constant (.str y) k1 q6, .Constant (.str z) k2 q7] [] q5) q9] [] q0) st Q X := by
 refine ExS.ifReplace C hn hf hyz (by rw [lz, S_len, S_len]; exact hb) (fun hy => ?_) (fun hno => ?_) hline hs
 ·rw [ly, lz, replace_S]; exact h
 ·rw [ly, found_S, decide_eq_false_iff_not] at hno
  rw [rep1_free c zl l hno, set_same hf] at h
  exact h
noncomputable def escAll (l : List Nat) : List Nat :=
 rep1 9 [38, 35, 48, 57, 59] (rep1 10 [38, 35, 49, 48, 59] (rep1 13 [38, 35, 49, 51, 59] (rep1 34 [38, 113, 117, 111, 116, 59] (rep1 62 [38, 103, 116, 59] (rep1 60 [38, 108, 116, 59] (rep1 38 [38, 97, 109, 112, 59] l))))))
theorem rep1_len (c : Nat) (z : List Nat) (hz : z.length ≤ 6) (h1 : 1 ≤ z.length) : ∀ l : List Nat, (rep1 c z l).length ≤ 6 * l.length
 | [] => by simp [rep1]
 | a :: l => by
  have ih := rep1_len c z hz h1 l
  unfold rep1 at ih ⊢
  rw [List.flatMap_cons, List.length_append, List.length_cons]
  split
  ·omega
  ·have : [a].length = 1 := rfl
   omega
noncomputable def scEsc : List (Str × NameKind) := [("text", .local)]
noncomputable def gscEsc : List Str := ["TypeError", "AttributeError", "_raise_serialization_error"]
theorem scOkEsc : ScOk (defAt 20).scope scEsc gscEsc := .of (by decide +kernel)
theorem bodyEsc (L : Ctx cx scEsc gscEsc lv (defAt 20).scope) {g : List GObj} {l : List Nat} {Q : Fl → St → Prop} (hl : l.length ≤ 10)
  (h : Q (.ret (.c (.str (S (escAll l))))) ⟨g, [], [T (escAll l)], []⟩) : ExB cx (defAt 20).body ⟨g, [], [T l], []⟩ Q X := by
 have C := L.ok
 have b : ∀ (k : Nat) (a : List Nat), a.length ≤ 10 * 6 ^ k → k ≤ 6 → ∀ n, n ≤ 6 → a.length + (a.length + 1) * n ≤ 16777216 := by
  intro k a ha hk n hn
  have : 6 ^ k ≤ 6 ^ 6 := Nat.pow_le_pow_right (by decide) hk
  have h2 : (a.length + 1) * n ≤ (a.length + 1) * 6 := Nat.mul_le_mul_left _ hn
  have : (6 : Nat) ^ 6 = 46656 := by decide
  omega
 have s1 := rep1_len 38 [38, 97, 109, 112, 59] (by decide) (by decide) l
 have s2 := rep1_len 60 [38, 108, 116, 59] (by decide) (by decide) (rep1 38 [38, 97, 109, 112, 59] l)
 have s3 := rep1_len 62 [38, 103, 116, 59] (by decide) (by decide) (rep1 60 [38, 108, 116, 59] (rep1 38 [38, 97, 109, 112, 59] l))
 have s4 := rep1_len 34 [38, 113, 117, 111, 116, 59] (by decide) (by decide) (rep1 62 [38, 103, 116, 59] (rep1 60 [38, 108, 116, 59] (rep1 38 [38, 97, 109, 112, 59] l)))
 have s5 := rep1_len 13 [38, 35, 49, 51, 59] (by decide) (by decide) (rep1 34 [38, 113, 117, 111, 116, 59] (rep1 62 [38, 103, 116, 59] (rep1 60 [38, 108, 116, 59] (rep1 38 [38, 97, 109, 112, 59] l))))
 have s6 := rep1_len 10 [38, 35, 49, 48, 59] (by decide) (by decide) (rep1 13 [38, 35, 49, 51, 59] (rep1 34 [38, 113, 117, 111, 116, 59] (rep1 62 [38, 103, 116, 59] (rep1 60 [38, 108, 116, 59] (rep1 38 [38, 97, 109, 112, 59] l)))))
 refine ExB.cons (ExS.tryX C L.ce (X' := fun _ _ => False) ?_ (fun x st₁ hx => hx.elim))
 refine ExB.cons (esc_if C (i := 0) (c := 38) (zl := [38, 97, 109, 112, 59]) (lit _ _ (by decide +kernel)) (lit _ _ (by decide +kernel)) (L.s 0 rfl) rfl (by decide +kernel) (b 0 _ (by omega) (by decide) _ (by decide)) ?_)
 refine ExB.cons (esc_if C (i := 0) (c := 60) (zl := [38, 108, 116, 59]) (lit _ _ (by decide +kernel)) (lit _ _ (by decide +kernel)) (L.s 0 rfl) rfl (by decide +kernel) (b 1 _ (by omega) (by decide) _ (by decide)) ?_)
 refine ExB.cons (esc_if C (i := 0) (c := 62) (zl := [38, 103, 116, 59]) (lit _ _ (by decide +kernel)) (lit _ _ (by decide +kernel)) (L.s 0 rfl) rfl (by decide +kernel) (b 2 _ (by omega) (by decide) _ (by decide)) ?_)
 refine ExB.cons (esc_if C (i := 0) (c := 34) (zl := [38, 113, 117, 111, 116, 59]) (lit _ _ (by decide +kernel)) (lit _ _ (by decide +kernel)) (L.s 0 rfl) rfl (by decide +kernel) (b 3 _ (by omega) (by decide) _ (by decide)) ?_)
 refine ExB.cons (esc_if C (i := 0) (c := 13) (zl := [38, 35, 49, 51, 59]) (lit _ _ (by decide +kernel)) (lit _ _ (by decide +kernel)) (L.s 0 rfl) rfl (by decide +kernel) (b 4 _ (by omega) (by decide) _ (by decide)) ?_)
 refine ExB.cons (esc_if C (i := 0) (c := 10) (zl := [38, 35, 49, 48, 59]) (lit _ _ (by decide +kernel)) (lit _ _ (by decide +kernel)) (L.s 0 rfl) rfl (by decide +kernel) (b 5 _ (by omega) (by decide) _ (by decide)) ?_)
 refine ExB.cons (esc_if C (i := 0) (c := 9) (zl := [38, 35, 48, 57, 59]) (lit _ _ (by decide +kernel)) (lit _ _ (by decide +kernel)) (L.s 0 rfl) rfl (by decide +kernel) (b 6 _ (by omega) (by decide) _ (by decide)) ?_)
 exact ExB.cons (ExS.ret (L.v 0 rfl rfl ⟨nofun, h⟩))
end
theorem call_esc {W : Wd} (Tp : TopA W) {lv : Nat} {l : List Nat} {glob : List GObj} (hl : l.length ≤ 10) :
  CallOk W (lv + 1) (.ref 254) [.c (.str (S l))] [] glob (fun r fr g => r = .str (S (escAll l)) ∧ fr = false ∧ g = glob) (fun _ _ => False) := by
 obtain ⟨fd, F⟩ := Tp.esc
 refine CallOk.pos Tp (bs := [("text", .c (.str (S l)))]) F scOkEsc rfl rfl (fun fd vs hl => by obtain ⟨_, rfl⟩ := len1 hl; rfl) ?_
 ·intro cx L hw
  exact bodyEsc L hl (RetOk.c rfl ⟨rfl, rfl, rfl⟩)
noncomputable def badN (b : Bool) (l : List Nat) : Bool := l.any (if b then setN else setV)
noncomputable def refusedT : Str := "Control characters not allowed in headers"
noncomputable abbrev ifBody := whBody
theorem any_S (l : List Nat) (f : Nat → Bool) : (S l).cps.any f = l.any f := by simp [S]
noncomputable def scConv : List (Str × NameKind) := [("self", .local), ("value", .local), ("name", .local), ("regex", .local)]
noncomputable def gscConv : List Str := ["type", "str", "_name_disallowed_re", "_value_disallowed_re", "ValueError"]
theorem scOkConv : ScOk (methAt 17 1).scope scConv gscConv := .of (by decide +kernel)
section
variable {cx : Cx} {st : St} {X : XV → St → Prop} {lv : Nat}
theorem bodyConv (L : Ctx cx scConv gscConv lv (methAt 17 1).scope) {g : List GObj} {l : List Nat} {b : Bool} {k : Nat} {Q : Fl → St → Prop} (hl : l.length ≤ 1000)
  (h : badN b l = false → ∀ fr, Q (.ret (.c (.str (S l)))) ⟨g, [], fr, []⟩) (hx : badN b l = true → ∀ fr, X ⟨.type "ValueError", [.str refusedT]⟩ ⟨g, [], fr, []⟩) :
  ExB cx (methAt 17 1).body ⟨g, [], [some (.obj k), T l, some (.c (.bool b)), none], []⟩ Q X := by
 have C := L.ok
 have sz : (S l).length ≤ 1000000 := by rw [S_len]; omega
 refine ExB.cons (ExS.ite (EvT.cmp (L.call 0 11 .type (EvL.cons (L.v 1 rfl rfl (EvL.nil (Prim.ty rfl (L.n 1 9 rfl rfl ⟨_, _, _, rfl, rfl, rfl, fun _ => ?_, fun e => ?_⟩))))))))
 ·have search : ∀ (Q' : Fl → St → Prop), (∀ p st, Q (.ret p) st → Q' (.ret p) st) → ∀ (a : Addr) (set : Nat → Bool), PatAt cx.wd a set → (if b = true then setN else setV) = set →
    ExB cx ((ifBody ((methAt 17 1).body.getD 0 (.Pass default))).drop 1) ⟨g, [], [some (.obj k), T l, some (.c (.bool b)), some (.c (.con (.ref a)))], []⟩ Q' X := by
   intro Q' hQ a set P hs
   have hb : badN b l = l.any set := by unfold badN; rw [hs]
   refine ExB.cons (ExS.ite (EvT.match (EvE.meth pa_pat slot_search type_search (L.v 3 rfl rfl ⟨HasT.pat P, EvL.cons (L.v 1 rfl rfl (EvL.nil (Prim.search P sz (fun e => .inl ⟨rfl, xff, fun _ => ?_⟩) (fun e => .inr ⟨rfl, fun _ => ?_, xtf⟩))))⟩))))
   ·rw [any_S, ← hb] at e
    exact ExB.nil (ExB.cons (ExS.ret (L.v 1 rfl rfl (hQ _ _ (h e _)))))
   ·rw [any_S, ← hb] at e
    exact ExB.cons (ExS.raiseVal C L.hn (L.n 4 31 rfl rfl ⟨rfl, EvL.cons (EvE.str (EvL.nil ⟨[.str refusedT], rfl, by simp, hx e _⟩))⟩))
  refine ExB.cons (L.set 3 (EvE.ife (EvT.val (L.v 2 rfl rfl ⟨_, b, rfl, rfl, trivial, fun e => ?_, fun e => ?_⟩))))
  ·refine L.n 2 18 rfl rfl (search _ ?_ 108 setN L.top.rn (by rw [e]; rfl))
   exact fun _ _ q => q
  ·refine L.n 3 19 rfl rfl (search _ ?_ 113 setV L.top.rv (by rw [e]; rfl))
   exact fun _ _ q => q
 ·cases e
end
theorem call_conv {W : Wd} (Tp : TopA W) {lv : Nat} {l : List Nat} {b : Bool} {k : Nat} {glob : List GObj} (hl : l.length ≤ 1000) :
  CallOk W (lv + 1) (.ref 135) [.obj k, .c (.str (S l))] [("name", .c (.bool b))] glob (fun r fr g => r = .str (S l) ∧ fr = false ∧ g = glob ∧ badN b l = false) (fun px g => px = ⟨.type "ValueError", [.str refusedT]⟩ ∧ g = glob ∧ badN b l = true) := by
 obtain ⟨fd, F⟩ := Tp.conv
 refine CallOk.ctx Tp (bs := [("self", .obj k), ("value", .c (.str (S l))), ("name", .c (.bool b))]) F scOkConv rfl ?_ ?_
 ·intro gh s vs ks _ r rk
  replace r := r.to2; obtain ⟨_, _, rfl, r1, r2⟩ := r
  replace rk := rk.to1; obtain ⟨_, rfl, k1⟩ := rk
  exact ⟨[_, _, _], .cons r1 (.cons r2 (.cons k1 .nil)), F.to (.of_eq rfl)⟩
 ·intro cx L hw
  exact bodyConv L hl (fun e fr => RetOk.c rfl ⟨rfl, rfl, rfl, e⟩) fun e fr => XOk.c rfl ⟨rfl, rfl, e⟩
noncomputable abbrev Rows : Type := List (List Nat × List Nat)
noncomputable def hdr (p : List Nat × List Nat) : CV := .tup [.str (S p.1), .str (S p.2)]
noncomputable def hdrs (l : Rows) : List CV := l.map hdr
theorem range_pick {α : Type} (l : List α) : ∀ n, n ≤ l.length → (List.range n).filterMap (fun i => l[i]?) = l.take n
 | 0, _ => by simp
 | n + 1, h => by
  rw [List.range_succ, List.filterMap_append, range_pick l n (by omega)]
  have : l[n]? = some l[n] := List.getElem?_eq_getElem (by omega)
  rw [List.take_add_one, this]
  simp [this]
theorem sliceL_all (l : List CV) : sliceL l none none none = l := by
 have e : sliceBounds none none none l.length = (0, (l.length : Int), 1) := rfl
 unfold sliceL
 rw [e]
 have e2 : sliceRange 0 (l.length : Int) 1 = List.range l.length := by
  have := sliceRange_one 0 l.length
  simpa using this
 rw [e2]
 have := range_pick l l.length (Nat.le_refl _)
 rw [List.take_length] at this
 exact this
structure Self (g : List GObj) (k : Nat) (q : PV) (rows : Rows) : Prop where
 inst : g[k]? = some (.inst 236 (some q))
 isL : q.isL
 low : q.noLoc = true
 items : itemsOf ⟨g, [], [], []⟩ q = some (hdrs rows)
theorem itemsOf_glob {st st' : St} {q : PV} (h : q.noLoc = true) (e : st'.glob = st.glob) : itemsOf st' q = itemsOf st q := by
 cases q with
 | c x => cases x <;> rfl
 | obj k => show (match st'.glob[k]? with | some (.lst l) => some l | _ => none) = _; rw [e]; rfl
 | _ => cases h
theorem Self.it {g : List GObj} {k : Nat} {q : PV} {rows : Rows} (S : Self g k q rows) {st : St} (e : st.glob = g) : itemsOf st q = some (hdrs rows) := by
 rw [itemsOf_glob (st := ⟨g, [], [], []⟩) S.low e]; exact S.items
theorem liveOf_eq {p q : PV} (h : liveOf p = some q) : q = p := by
 cases p <;> simp [liveOf] at h <;> exact h.symm
structure RowsOk (rows : Rows) : Prop where
 key : ∀ p ∈ rows, (∀ c ∈ p.1, c < 128) ∧ p.1.length ≤ 100 ∧ p.2.length ≤ 100
 len : rows.length ≤ 100
noncomputable def low (l : List Nat) : List Nat := l.map low1
theorem low_len (l : List Nat) : (low l).length = l.length := List.length_map ..
theorem lower_T {l : List Nat} (h : ∀ c ∈ l, c < 128) : Txt.lower (S l) = S (low l) := lower_S l h
theorem tooLong_S {l : List Nat} (h : l.length ≤ 1000) : Builtin.Str.tooLong (S l).length = false := by
 unfold Builtin.Str.tooLong
 rw [S_len, sizeLine_eq]
 exact decide_eq_false (by omega)
section
variable {cx : Cx} {st : St} {X : XV → St → Prop} {lv : Nat} {sc : List (Str × NameKind)} {gsc : List Str} {scope : Scope}
theorem Ctx.hds (L : Ctx cx sc gsc lv scope) {k : Nat} {q : PV} {rows : Rows} {np pos : Pos} {Q : PV → St → Prop} (S : Self st.glob k q rows) (hx : sc[0]? = some (("self" : Str), NameKind.local)) (hp : st.fr[0]? = some (some (.obj k))) (h : Q q st) : EvE cx (.Attribute (.Name "self" np) "_headers" pos) st Q X :=
 EvE.attrH L.top.hd (L.v 0 hx hp ⟨k, q, rfl, S.inst, S.isL, h⟩)
noncomputable def scItems : List (Str × NameKind) := [("self", .local)]
theorem scOkItems : ScOk (methAt 17 11).scope scItems [] := .of (by decide +kernel)
theorem bodyItems (L : Ctx cx scItems [] lv (methAt 17 11).scope) {g : List GObj} {k : Nat} {q : PV} {rows : Rows} {Q : Fl → St → Prop} (Sf : Self g k q rows) (hz : rows.length ≤ 1000)
  (h : Q (.ret (.loc 0)) ⟨g, [hdrs rows], [some (.obj k)], []⟩) : ExB cx (methAt 17 11).body ⟨g, [], [some (.obj k)], []⟩ Q X := by
 refine ExB.cons (ExS.ret (ev_sliceL true (L.hds Sf rfl rfl (evO_none (evO_none (evO_none ⟨hdrs rows, Sf.it rfl, Sf.isL, by rw [sizeLine_eq, hdrs, List.length_map]; omega, xns, xtf, fun _ => ?_⟩)))) (.inl rfl)))
 rw [sliceL_all]; exact h
noncomputable def getSpec (rows : Rows) (x : List Nat) : Option (List Nat) := (rows.find? fun p => low p.1 == x).map (·.2)
noncomputable def scGet : List (Str × NameKind) := [("self", .local), ("name", .local), ("default", .local), ("k", .local), ("v", .local)]
theorem scOkGet : ScOk (methAt 17 8).scope scGet [] := .of (by decide +kernel)
theorem Ctx.conv (L : Ctx cx sc gsc (lv + 1) scope) {k : Nat} {hd : Option PV} {b : Bool} {l : List Nat} {e : Expr} {np a1 p1 pos p2 : Pos} {kk : Nat} {Q : PV → St → Prop} (hl : l.length ≤ 1000)
  (hx : sc[0]? = some (("self" : Str), NameKind.local)) (hp : st.fr[0]? = some (some (.obj k))) (hi : st.glob[k]? = some (.inst 236 hd))
  (he : EvE cx e st (fun p st₁ => p = .c (.str (S l)) ∧ st₁ = st) X)
  (h : badN b l = false → Q (.c (.str (S l))) st) (hx2 : badN b l = true → X ⟨.type "ValueError", [.str refusedT]⟩ st)
  (hs : ∀ env, starEach [e] env = [(false, eval e env)] := by intro _; rfl)
  (hline : (a1.endLine == pos.line) = true := by rfl) :
  EvE cx (.Call (.Attribute (.Name "self" np) "_convert_string_type" a1) [e] [⟨some "name", .Constant (.bool b) kk p1, p2⟩] pos) st Q X := by
 refine EvE.own L.ok L.hn L.top.hd (lv := lv + 1) (by rw [L.lv]; exact Nat.le_refl _) (m := ("_convert_string_type", 135)) (by decide) KwEv.one (L.v 0 hx hp ⟨k, hd, rfl, hi, EvL.cons (EvE.mono he (fun p st₁ h => ?_) fun _ _ x => x) (fun env => by rw [hs]; rfl)⟩) rfl ?_ hline (.inr (by rw [hs]; rfl))
 ·obtain ⟨rfl, rfl⟩ := h
  refine EvL.nil ⟨rfl, ?_⟩
  refine CallOk.mono (call_conv L.top (l := l) (b := b) (k := k) hl) ?_ ?_
  ·rintro r fr g ⟨rfl, rfl, rfl, hb⟩
   exact h hb
  ·rintro px g ⟨rfl, rfl, hb⟩
   exact hx2 hb
 ·rw [hs]; rfl
theorem Ctx.kv (L : Ctx cx sc gsc lv scope) {i j : Nat} {x y : Str} {k : Nat} {p1 p2 pos : Pos} {p : List Nat × List Nat} {Q : St → Prop} (hx : sc[i]? = some (x, .local)) (hy : sc[j]? = some (y, .local))
  (h : Q { st with fr := (st.fr.set i (T p.1)).set j (T p.2) }) : AsG cx (.Tuple [.Name x p1, .Name y p2] k pos) (.c (hdr p)) st Q X :=
 AsG.tup L.ok L.hn (AsG.name L.ok (L.s i hx) (.inl rfl) (AsG.name L.ok (L.s j hy) (.inl rfl) h)) rfl
noncomputable def tupOf (o : Option (List Nat)) : CV := match o with
 | some v => .str (S v)
 | none => .none
inductive HdrsC (y : CV) (r : List CV) (rest : Rows) : Prop
 | mk (p : List Nat × List Nat) (rs : Rows) (a : rest = p :: rs) (b : y = hdr p) (c : r = hdrs rs)
theorem hdrs_cons {y : CV} {r : List CV} {rest : Rows} (e : y :: r = hdrs rest) : HdrsC y r rest := by
 cases rest with
 | nil => exact xcn e
 | cons p rs => exact ⟨p, rs, rfl, (List.cons.inj e).1, (List.cons.inj e).2⟩
theorem hdrs_nil {rest : Rows} (e : [] = hdrs rest) : rest = [] := List.map_eq_nil_iff.mp e.symm
theorem getSpec_hit {p : List Nat × List Nat} {rs : Rows} {x : List Nat} (e : (low p.1 == x) = true) : getSpec (p :: rs) x = some p.2 := by
 unfold getSpec; rw [List.find?_cons, e]; rfl
theorem getSpec_miss {p : List Nat × List Nat} {rs : Rows} {x : List Nat} (e : (low p.1 == x) = false) : getSpec (p :: rs) x = getSpec rs x := by
 unfold getSpec; rw [List.find?_cons, e]
inductive JRow (g : List GObj) (F : Option PV → Option PV → List (Option PV)) (rows : Rows) (R : Rows → Prop) (r : List CV) (st : St) : Prop
 | mk (a b : Option PV) (rest : Rows) (e : r = hdrs rest) (s : st = ⟨g, [], F a b, []⟩) (i : ∀ p ∈ rest, p ∈ rows) (q : R rest)
theorem JRow.it {g : List GObj} {F : Option PV → Option PV → List (Option PV)} {rows rows' : Rows} {R : Rows → Prop} {r : List CV} {k : Nat} {q q' : PV} (j : JRow g F rows R r st) (Sf : Self g k q rows') (hq : liveOf q = some q') : itemsOf st q' = some (hdrs rows') := by
 obtain ⟨_, _, _, _, e, _⟩ := j
 rw [liveOf_eq hq, e]; exact Sf.it rfl
theorem loopGet (L : Ctx cx scGet [] lv (methAt 17 8).scope) {g : List GObj} {k : Nat} {q : PV} {rows : Rows} {x : List Nat} {d : CV} {o3 o4 : Option PV} {Q : Fl → St → Prop} (Sf : Self g k q rows) (ok : RowsOk rows)
  (h1 : ∀ v, getSpec rows x = some v → ∀ fr, Q (.ret (.c (.str (S v)))) ⟨g, [], fr, []⟩)
  (h2 : getSpec rows x = none → ∀ o3 o4, Q .next ⟨g, [], [some (.obj k), T x, some (.c d), o3, o4], []⟩) :
  ExS cx ((methAt 17 8).body.getD 1 (.Pass default)) ⟨g, [], [some (.obj k), T x, some (.c d), o3, o4], []⟩ Q X := by
 have C := L.ok
 refine ExS.for C L.hn L.ce (JRow g (fun o3 o4 => [some (.obj k), T x, some (.c d), o3, o4]) rows fun rest => getSpec rows x = getSpec rest x) ?_ ?_ ?_
 ·exact L.hds Sf rfl rfl ⟨hdrs rows, Sf.it rfl, ⟨o3, o4, rows, rfl, rfl, fun _ h => h, rfl⟩, fun q' hq r st₂ j => j.it Sf hq⟩
 ·rintro y r st₂ ⟨o3, o4, rest, e, rfl, hin, hg⟩
  obtain ⟨p, rs, rfl, rfl, rfl⟩ := hdrs_cons e
  obtain ⟨ha, hn1, hn2⟩ := ok.key p (hin p (.head _))
  refine L.kv (i := 3) (j := 4) rfl rfl ?_
  refine ExB.ifp (.cmp (.meth PySem.F.plainAttrs_str PySem.F.slot_str_lower PySem.F.type_str_lower (L.vv 3 rfl rfl) .str .nil (fun _ _ q => Prim.lowerE (lower_T ha) (tooLong_S (by rw [low_len]; exact Nat.le_trans hn1 (by decide))) q)) (L.vv 1 rfl rfl) rfl) (fun e => ?_) fun e => ?_
  ·rw [S_beq] at e
   exact ExB.ret (L.vv 4 rfl rfl) (h1 p.2 (hg.trans (getSpec_hit e)) _)
  ·rw [S_beq] at e
   exact ExB.nil ⟨_, _, rs, rfl, rfl, fun z hz => hin z (.tail _ hz), hg.trans (getSpec_miss e)⟩
 ·rintro _ ⟨o3, o4, rest, e, rfl, _, hg⟩
  obtain rfl := hdrs_nil e
  exact h2 hg o3 o4
theorem bodyGet (L : Ctx cx scGet [] (lv + 1) (methAt 17 8).scope) {g : List GObj} {k : Nat} {q : PV} {rows : Rows} {x : List Nat} {Q : Fl → St → Prop} (Sf : Self g k q rows) (ok : RowsOk rows) (hx : ∀ c ∈ x, c < 128) (hl : x.length ≤ 1000) (hb : badN true (low x) = false)
  (h : ∀ fr, Q (.ret (.c (tupOf (getSpec rows (low x))))) ⟨g, [], fr, []⟩) :
  ExB cx (methAt 17 8).body ⟨g, [], [some (.obj k), T x, some (.c .none), none, none], []⟩ Q X := by
 have C := L.ok
 have hl' : (low x).length ≤ 1000 := by rw [low_len]; exact hl
 refine ExB.cons (L.set 1 (L.conv hl' rfl rfl Sf.inst (EvE.meth PySem.F.plainAttrs_str PySem.F.slot_str_lower PySem.F.type_str_lower (L.v 1 rfl rfl ⟨.str, EvL.nil (Prim.lower ?_ ⟨?_, rfl⟩)⟩)) (fun _ => ?_) fun e => ?_))
 ·rw [lower_T hx]; exact tooLong_S hl'
 ·rw [lower_T hx]
 ·refine ExB.cons (loopGet L (d := .none) (x := low x) Sf ok (fun v e fr => ?_) fun e o3 o4 => ?_)
  ·have := h fr
   rw [e] at this; exact this
  ·refine ExB.cons (ExS.ret (L.v 2 rfl rfl ?_))
   have := h [some (.obj k), T (low x), some (.c .none), o3, o4]
   rw [e] at this; exact this
 ·exact xff (hb.symm.trans e)
end
theorem call_get {W : Wd} (Tp : TopA W) {lv : Nat} {glob : List GObj} {k : Nat} {q : PV} {rows : Rows} {x : List Nat} (Sf : Self glob k q rows) (ok : RowsOk rows) (hx : ∀ c ∈ x, c < 128) (hl : x.length ≤ 1000) (hb : badN true (low x) = false) :
  CallOk W (lv + 2) (.ref 183) [.obj k, .c (.str (S x))] [] glob (fun r fr g => r = tupOf (getSpec rows (low x)) ∧ fr = false ∧ g = glob) (fun _ _ => False) := by
 obtain ⟨fd, F⟩ := Tp.get
 refine CallOk.ctx Tp (bs := [("self", .obj k), ("name", .c (.str (S x))), ("default", .c .none)]) F scOkGet rfl ?_ ?_
 ·intro gh s vs ks hb r rk
  replace r := r.to2; obtain ⟨_, _, rfl, r1, r2⟩ := r
  replace rk := rk.inv; obtain rfl := rk
  rename_i v1 v2
  refine ⟨[v1, v2, .none], .cons r1 (.cons r2 (.cons (.c .none) .nil)), ?_⟩
  obtain ⟨o, ho, hc, m, hd⟩ := Tp.d176
  exact F.to (BindsTo.of_defaults rfl (hb _ _ ho) hd rfl rfl)
 ·intro cx L hw
  exact bodyGet L Sf ok hx hl hb fun fr => RetOk.c rfl ⟨rfl, rfl, rfl⟩
theorem call_items {W : Wd} (Tp : TopA W) {lv : Nat} {glob : List GObj} {k : Nat} {q : PV} {rows : Rows} (Sf : Self glob k q rows) (ok : RowsOk rows) :
  CallOk W (lv + 1) (.ref 200) [.obj k] [] glob (fun r fr g => r = .lst (hdrs rows) ∧ fr = true ∧ g = glob) (fun _ _ => False) := by
 obtain ⟨fd, F⟩ := Tp.items
 refine CallOk.pos Tp (bs := [("self", .obj k)]) F scOkItems rfl rfl (fun fd vs hl => by obtain ⟨_, rfl⟩ := len1 hl; rfl) ?_
 ·intro cx L hw
  exact bodyItems L Sf (Nat.le_trans ok.len (by decide)) ⟨.lst (hdrs rows), true, rfl, fun _ => rfl, .inl rfl, rfl, rfl, by rw [List.take_length]⟩
section
variable {cx : Cx} {st : St} {X : XV → St → Prop}
inductive EltR (P : List (Option PV) → Prop) (g : List GObj) (loc : List (List CV)) (up : List CV) (y : Option CV) (p : PV) (st₃ : St) : Prop
 | mk (fr : List (Option PV)) (h : P fr) (e : st₃ = ⟨g, loc, fr, up⟩) (z : CV) (a : p = .c z) (b : y = some z)
inductive IfR (cx : Cx) (elt : Expr) (P : List (Option PV) → Prop) (g : List GObj) (loc : List (List CV)) (up : List CV) (y : Option CV) (st₁ : St) (ok : Bool) (st₂ : St) : Prop
 | mk (e : st₂ = st₁) (n : ok = false → y = none) (k : ok = true → EvE cx elt st₁ (EltR P g loc up y) XF)
inductive TurnI (cx : Cx) (elt : Expr) (ifs : List Expr) (P : List (Option PV) → Prop) (g : List GObj) (loc : List (List CV)) (up : List CV) (y : Option CV) (st₁ : St) : Prop
 | mk (fr : List (Option PV)) (h : P fr) (e : st₁ = ⟨g, loc, fr, up⟩) (k : EvIfs cx ifs st₁ (IfR cx elt P g loc up y st₁))
noncomputable def TurnG (cx : Cx) (target elt : Expr) (ifs : List Expr) (g : List GObj) (loc : List (List CV)) (up : List CV) (P : List (Option PV) → Prop) (x : CV) (y : Option CV) : Prop :=
 ∀ fr : List (Option PV), P fr → AsG cx target (.c x) ⟨g, loc, fr, up⟩ (TurnI cx elt ifs P g loc up y) XF
noncomputable def TurnC (cx : Cx) (target elt : Expr) (ifs : List Expr) (g : List GObj) (loc : List (List CV)) (up : List CV) (n : Nat) (x : CV) (y : Option CV) : Prop := TurnG cx target elt ifs g loc up (·.length = n) x y
inductive EltS (st : St) (y : Option CV) (p : PV) (st₃ : St) : Prop
 | mk (e : st₃ = st) (z : CV) (a : p = .c z) (b : y = some z)
inductive IfS (cx : Cx) (elt : Expr) (y : Option CV) (st₁ : St) (ok : Bool) (st₂ : St) : Prop
 | mk (e : st₂ = st₁) (n : ok = false → y = none) (k : ok = true → EvE cx elt st₁ (EltS st₁ y) XF)
theorem EvIfs.mono {ifs : List Expr} {Q Q' : Bool → St → Prop} : ∀ {st : St}, EvIfs cx ifs st Q → (∀ b st, Q b st → Q' b st) → EvIfs cx ifs st Q' := by
 induction ifs with
 | nil => intro st h hq; exact hq _ _ h
 | cons c cs ih =>
  intro st h hq
  exact EvT.mono h fun b st' ⟨h1, h2⟩ => ⟨fun e => ih (h1 e) hq, fun e => hq _ _ (h2 e)⟩
theorem AsG.mono {t : Expr} {p : PV} {Q Q' : St → Prop} {X : XV → St → Prop} (h : AsG cx t p st Q X) (hq : ∀ st, Q st → Q' st) : AsG cx t p st Q' X :=
 fun gh s v R r => wpAny_mono (h gh s v R r) (fun _ _ ⟨st', g, a, b, c, q⟩ => ⟨st', g, a, b, c, hq _ q⟩) fun _ _ x => x
theorem IfS.to {cx : Cx} {elt : Expr} {P : List (Option PV) → Prop} {g : List GObj} {loc : List (List CV)} {up : List CV} {y : Option CV} {fr : List (Option PV)} (h : P fr) {ok : Bool} {st₂ : St} (k : IfS cx elt y ⟨g, loc, fr, up⟩ ok st₂) : IfR cx elt P g loc up y ⟨g, loc, fr, up⟩ ok st₂ :=
 ⟨k.rec fun e _ _ => e, k.rec fun _ n _ => n, fun e => EvE.mono (k.rec fun _ _ k => k e) (fun _ _ q => q.rec fun e z a b => ⟨fr, h, e, z, a, b⟩) fun _ _ x => x⟩
inductive MapJ (P : List (Option PV) → Prop) (f : CV → Option CV) (g : List GObj) (loc : List (List CV)) (up : List CV) (items ps0 : List CV) (r : List CV) (ps : List PV) (st : St) : Prop
 | mk (done : List CV) (fr : List (Option PV)) (i : items = done ++ r) (h : P fr) (e : st = ⟨g, loc, fr, up⟩) (q : ps = (ps0 ++ done.filterMap f).map .c)
theorem LoopC.mapQ (C : cx.Ok) (hn : cx.hn = true) {elt target iter : Expr} {gens : List Comprehension} {d : Nat} {ifs : List Expr} {scope : Scope} {pos : Pos} {o : Option PV} {items : List CV} {g : List GObj} {loc : List (List CV)} {up : List CV} {fr0 : List (Option PV)} {ps0 : List CV} {Q : List PV → St → Prop} (P : List (Option PV) → Prop) (f : CV → Option CV)
  (hg : gens[d]? = some ⟨target, iter, ifs, 0⟩) (hg2 : gens[d + 1]? = none) (h0 : P fr0)
  (hlive : ∀ q, o = some q → ∃ l, ∀ fr, itemsOf ⟨g, loc, fr, up⟩ q = some l) (step : ∀ x ∈ items, TurnG cx target elt ifs g loc up P x (f x)) (hz : ps0.length + items.length ≤ 100000)
  (hq : ∀ fr, P fr → Q ((ps0 ++ items.filterMap f).map .c) ⟨g, loc, fr, up⟩) :
  LoopC cx (.ListComp elt gens scope pos) d o items ⟨g, loc, fr0, up⟩ (ps0.map .c) Q := by
 refine LoopC.rule C hn hg (MapJ P f g loc up items ps0) ⟨[], fr0, rfl, h0, rfl, by rw [List.filterMap_nil, List.append_nil]⟩ ?_ ?_ ?_
 ·intro q e
  obtain ⟨l, h⟩ := hlive q e
  exact ⟨l, fun r ps st j => by obtain ⟨_, fr, _, _, e, _⟩ := j; rw [e]; exact h fr⟩
 ·rintro x r ps st ⟨done, fr, hi, hf, rfl, rfl⟩
  have hx : x ∈ items := hi ▸ List.mem_append_right _ (.head _)
  have hi' : items = (done ++ [x]) ++ r := hi.trans (List.append_cons ..)
  refine AsG.mono (step x hx fr hf) ?_
  rintro _ ⟨fr', hf', rfl, h⟩
  refine EvIfs.mono h ?_
  rintro ok _ ⟨rfl, h1, h2⟩
  refine ⟨fun e => ⟨done ++ [x], fr', hi', hf', rfl, ?_⟩, fun e => ?_⟩
  ·rw [List.filterMap_append, List.filterMap_cons_none (h1 e), List.filterMap_nil, List.append_nil]
  ·unfold Emit
   rw [hg2]
   refine EvE.mono (h2 e) ?_ fun _ _ x => x
   rintro p _ ⟨fr'', hf'', rfl, z, rfl, hz'⟩
   refine ⟨?_, done ++ [x], fr'', hi', hf'', rfl, ?_⟩
   ·rw [List.length_map, List.length_append]
    exact Nat.le_trans (Nat.add_le_add_left (Nat.le_trans (List.length_filterMap_le f done) (by rw [hi, List.length_append]; exact Nat.le_add_right _ _)) _) (Nat.le_trans hz (by decide))
   ·rw [List.filterMap_append, List.filterMap_cons_some hz', List.filterMap_nil, ← List.append_assoc]; exact (List.map_append (f := PV.c) (l₁ := ps0 ++ done.filterMap f) (l₂ := [z])).symm
 ·rintro ps st ⟨done, fr, hi, hp, rfl, rfl⟩
  rw [List.append_nil] at hi
  exact hi ▸ hq fr hp
inductive MapR (g : List GObj) (loc : List (List CV)) (l : List CV) (ps : List PV) (st : St) : Prop
 | mk (a : ps = l.map .c) (b : st.glob = g) (c : st.loc = loc)
theorem LoopC.map (C : cx.Ok) (hn : cx.hn = true) {elt target iter : Expr} {ifs : List Expr} {scope : Scope} {pos : Pos} {o : Option PV} {items : List CV} {g : List GObj} {loc : List (List CV)} {up : List CV} {n : Nat} (f : CV → Option CV)
  (hlive : ∀ q, o = some q → ∃ l, ∀ fr, itemsOf ⟨g, loc, fr, up⟩ q = some l) (step : ∀ x ∈ items, TurnC cx target elt ifs g loc up n x (f x)) (hz : items.length ≤ 100000) :
  LoopC cx (.ListComp elt [⟨target, iter, ifs, 0⟩] scope pos) 0 o items ⟨g, loc, List.replicate n none, up⟩ [] (MapR g loc (items.filterMap f)) :=
 LoopC.mapQ (ps0 := []) C hn (·.length = n) f rfl rfl List.length_replicate hlive step (by rw [List.length_nil, Nat.zero_add]; exact hz) fun _ _ => ⟨rfl, rfl, rfl⟩
structure CCtx (cx : Cx) (sc : List (Str × NameKind)) (usc gsc : List Str) (lv : Nat) : Prop where
 ok : cx.Ok
 sc : cx.sc = sc
 usc : cx.usc = usc
 gsc : cx.gsc = gsc
 gt : cx.wd.gt = GT
 hn : cx.hn = true
 top : TopA cx.wd
 lv : cx.lv = lv
variable {sc : List (Str × NameKind)} {usc gsc : List Str} {lv : Nat}
theorem CCtx.v (L : CCtx cx sc usc gsc lv) (i : Nat) {x : Str} {k : NameKind} {pos : Pos} {p : PV} {Q : PV → St → Prop} (hx : sc[i]? = some (x, k)) (hp : st.fr[i]? = some (some p)) (h : Q p st) (hk : k = .local ∨ k = .cell := by first | exact .inl rfl | exact .inr rfl) : EvE cx (.Name x pos) st Q X :=
 EvE.loc L.ok (by rw [L.sc]; exact hx) hk hp h
theorem CCtx.f (L : CCtx cx sc usc gsc lv) (i : Nat) {x : Str} {pos : Pos} {p : CV} {Q : PV → St → Prop} (hx : usc[i]? = some x) (hp : st.up[i]? = some p) (h : Q (.c p) st) : EvE cx (.Name x pos) st Q X :=
 EvE.free L.ok (by rw [L.usc]; exact hx) hp h
theorem CCtx.n (L : CCtx cx sc usc gsc lv) (i j : Nat) {x : Str} {pos : Pos} {p : CV} {Q : PV → St → Prop} (hx : gsc[i]? = some x) (hp : GT[j]? = some (x, p)) (h : Q (.c p) st) : EvE cx (.Name x pos) st Q X :=
 EvE.glob L.ok (by rw [L.gsc]; exact hx) (by rw [L.gt]; exact hp) h
theorem CCtx.call (L : CCtx cx sc usc gsc lv) (i j : Nat) {x : Str} {p pos : Pos} {f : Value} {e : Expr} {es : List Expr} {Q : PV → St → Prop}
  (hc : Callee cx f) (h : EvL cx (e :: es) st (fun ps st₂ => Prim cx f ps st₂ Q X) X) (hx : gsc[i]? = some x := by rfl) (hp : GT[j]? = some (x, .con f) := by rfl)
  (he : ∀ env, backTo pos (starEach (e :: es) env) = (false, eval e env) :: (backTo pos (starEach (e :: es) env)).tail := by intro _; rfl)
  (hq : ∀ env, (backTo pos (starEach (e :: es) env)).any (·.1) = false := by intro _; rfl) : EvE cx (.Call (.Name x p) (e :: es) [] pos) st Q X :=
 EvE.app (L.n i j hx hp ⟨f, rfl, hc, h⟩) he hq
theorem CCtx.prim (L : CCtx cx sc usc gsc (lv + 1)) {f : Value} {ps : List PV} {Q : PV → St → Prop} (h : CallOk cx.wd (lv + 1) f ps [] st.glob (toSt Q st) (toStX X st)) (hp : ps.all PV.noLoc = true := by rfl) : Prim cx f ps st Q X :=
 Prim.fn L.ok L.hn (by rw [L.lv]; exact Nat.le_refl _) hp h
theorem TurnC.name (L : CCtx cx sc usc gsc lv) {i : Nat} {y : Str} {k : NameKind} {p : Pos} {elt : Expr} {ifs : List Expr} {g : List GObj} {loc : List (List CV)} {up : List CV} {n : Nat} {x : CV} {z : Option CV} (hy : sc[i]? = some (y, k))
  (h : ∀ fr : List (Option PV), fr.length = n → EvIfs cx ifs ⟨g, loc, fr.set i (some (.c x)), up⟩ (IfS cx elt z ⟨g, loc, fr.set i (some (.c x)), up⟩)) (hk : k = .local ∨ k = .cell := by first | exact .inl rfl | exact .inr rfl) : TurnC cx (.Name y p) elt ifs g loc up n x z := by
 intro fr hf
 have hf' : (fr.set i (some (PV.c x))).length = n := by rw [List.length_set]; exact hf
 exact AsG.name L.ok (by rw [L.sc]; exact hy) hk ⟨_, hf', rfl, EvIfs.mono (h fr hf) fun ok st₂ k => k.to hf'⟩
end
section
variable {cx : Cx} {st : St} {X : XV → St → Prop} {sc : List (Str × NameKind)} {usc gsc : List Str} {scope : Scope} {lv : Nat}
theorem ev_compV (C : cx.Ok) (hn : cx.hn = true) (gt : cx.wd.gt = GT) (top : TopA cx.wd) (hlv : cx.lv = lv) {elt target iter : Expr} {ifs : List Expr} {pos : Pos} {Q : PV → St → Prop} {up : List CV} (mode : Bool) (sc : List (Str × NameKind)) (usc gsc : List Str) (f : CV → Option CV)
  (S : CompOk scope sc usc gsc) (u : Ups cx st usc up)
  (h : EvE cx iter st (fun p st₁ => st₁ = st ∧ ∃ l, itemsOf st p = some l ∧ l.length ≤ 100000 ∧ (∀ cx', CCtx cx' sc usc gsc lv → cx'.wd = cx.wd → cx'.A = cx.A → ∀ x ∈ l, TurnC cx' target elt ifs st.glob st.loc up sc.length x (f x)) ∧
   (mode = false → Q (.c (.lst (l.filterMap f))) st) ∧ (mode = true → Q (.loc st.loc.length) { st with loc := st.loc ++ [l.filterMap f] })) X)
  (hs : ∀ x, foldedSetIterable iter cx.env x = pure x := by intro _; rfl) : EvE cx (.ListComp elt [⟨target, iter, ifs, 0⟩] scope pos) st Q X := by
 have key : ∀ m : Nat, m = (if mode then 1 else 0) → EvE cx (.ListComp elt [⟨target, iter, ifs, 0⟩] scope pos) st Q X := by
  intro m hm
  refine ev_comp C hn m sc usc gsc S u (EvE.mono h ?_ fun _ _ x => x) hs
  rintro p st₁ ⟨e, l, hl, hz, hstep, q1, q2⟩
  subst e
  refine ⟨l, hl, rfl, rfl, fun env _ C' => ?_⟩
  have L' : CCtx (compCx cx env sc usc gsc) sc usc gsc lv := ⟨C', rfl, rfl, rfl, gt, hn, top, hlv⟩
  have := LoopC.map (cx := compCx cx env sc usc gsc) C' hn (elt := elt) (target := target) (iter := iter) (ifs := ifs) (scope := scope) (pos := pos) (o := liveOf p) (items := l) (g := st₁.glob) (loc := st₁.loc) (up := up) (n := sc.length) f ?_ (hstep _ L' rfl rfl) hz
  ·intro gh s I acc R i G A hIa
   refine codeAny_mono (this gh s I acc R i G A hIa) fun r s' h => ?_
   cases r with
   | error => exact h
   | ok _ =>
    obtain ⟨gh', st', ps', a, b, c, d, e, rfl, hg, hl2⟩ := h
    refine ⟨gh', st', _, a, b, c, d, e, ?_⟩
    show FinC m _ { st₁ with glob := st'.glob, loc := st'.loc } Q
    rw [hg, hl2]
    subst hm
    cases mode with
    | true => exact ⟨_, rfl, q2 rfl⟩
    | false => exact ⟨_, rfl, q1 rfl⟩
  ·intro q e
   refine ⟨l, fun fr => ?_⟩
   rw [liveOf_eq e]
   rw [← hl]
   exact itemsOf_same rfl rfl p
 exact key _ rfl
end
noncomputable def scDel : List (Str × NameKind) := [("self", .local), ("name", .cell)]
theorem scOkDel : ScOk (methAt 17 4).scope scDel [] := .of (by decide +kernel)
noncomputable abbrev compScope (s : Stmt) : Scope := scAt s []
theorem compDel : CompOk (compScope ((methAt 17 4).body.getD 1 (.Pass default))) [("kv", .local)] ["name"] [] :=
 .of (by decide +kernel)
noncomputable def delRows (rows : Rows) (x : List Nat) : Rows := rows.filter fun p => low p.1 != x
noncomputable def keepF (x : List Nat) (c : CV) : Option CV := match c with
 | .tup [.str a, _] => if (Txt.lower a != S x) = true then some c else none
 | _ => none
theorem keep_rows (x : List Nat) : ∀ {rows : Rows}, (∀ p ∈ rows, ∀ c ∈ p.1, c < 128) → (hdrs rows).filterMap (keepF x) = hdrs (delRows rows x)
 | [], _ => rfl
 | p :: rows, h => by
  have ih := keep_rows x (rows := rows) fun q hq => h q (.tail _ hq)
  have e : keepF x (hdr p) = if (low p.1 != x) = true then some (hdr p) else none := by
   show (if (Txt.lower (S p.1) != S x) = true then _ else _) = _
   rw [lower_T (h p (.head _))]
   have : (S (low p.1) != S x) = (low p.1 != x) := by
    show (!(S (low p.1) == S x)) = !(low p.1 == x)
    rw [S_beq]
   rw [this]
  show (hdr p :: hdrs rows).filterMap _ = _
  rw [List.filterMap_cons, e]
  have ed : delRows (p :: rows) x = if (low p.1 != x) = true then p :: delRows rows x else delRows rows x := by
   unfold delRows
   rw [List.filter_cons]
  rw [ed]
  by_cases hc : (low p.1 != x) = true
  ·rw [if_pos hc, if_pos hc]
   show hdr p :: _ = _
   rw [ih]; rfl
  ·rw [if_neg hc, if_neg hc]
   exact ih
section
variable {cx : Cx} {st : St} {X : XV → St → Prop} {lv : Nat}
theorem bodyDel (L : Ctx cx scDel [] (lv + 1) (methAt 17 4).scope) {g : List GObj} {k kk : Nat} {rows : Rows} {x : List Nat} {Q : Fl → St → Prop} (Sf : Self g k (.obj kk) rows) (ok : RowsOk rows) (hx : ∀ c ∈ x, c < 128) (hl : x.length ≤ 1000) (hb : badN true (low x) = false)
  (h : ∀ fr, Q .next ⟨g.set kk (.lst (hdrs (delRows rows (low x)))), [], fr, []⟩) :
  ExB cx (methAt 17 4).body ⟨g, [], [some (.obj k), T x], []⟩ Q X := by
 have C := L.ok
 have hl' : (low x).length ≤ 1000 := by rw [low_len]; exact hl
 refine ExB.cons (L.set 1 (L.conv hl' rfl rfl Sf.inst (EvE.meth PySem.F.plainAttrs_str PySem.F.slot_str_lower PySem.F.type_str_lower (L.c 1 rfl rfl ⟨.str, EvL.nil (Prim.lower ?_ ⟨?_, rfl⟩)⟩)) (fun _ => ?_) fun e => ?_))
 ·rw [lower_T hx]; exact tooLong_S hl'
 ·rw [lower_T hx]
 ·have hkey : ∀ p ∈ rows, ∀ c ∈ p.1, c < 128 := fun p hp => (ok.key p hp).1
  have hlen : (hdrs rows).length ≤ 100 := by rw [hdrs, List.length_map]; exact ok.len
  refine ExB.cons (ExS.setAll (ev_compV C L.hn L.gt L.top L.lv false [("kv", .local)] ["name"] [] (keepF (low x)) compDel (.cell 1 (L.s 1 rfl) rfl .nil) (L.hds Sf rfl rfl ⟨rfl, hdrs rows, Sf.it rfl, by omega, ?_, fun _ => ?_, xff⟩)))
  ·intro cx' L' hw hA y hy
   obtain ⟨p, hp, rfl⟩ := List.mem_map.mp hy
   obtain ⟨ha, hn1, _⟩ := ok.key p hp
   refine TurnC.name L' (i := 0) rfl fun fr hf => ?_
   obtain ⟨v, rfl⟩ : ∃ v, fr = [v] := List.length_eq_one_iff.mp hf
   refine EvT.cmp (EvE.meth PySem.F.plainAttrs_str PySem.F.slot_str_lower PySem.F.type_str_lower (EvE.idx (L'.v 0 rfl rfl (EvE.int ⟨0, .c (.str (S p.1)), rfl, by decide, by decide, rfl, ⟨.str, EvL.nil (Prim.lower ?_ (L'.f 0 rfl rfl ⟨_, _, _, rfl, rfl, rfl, ?_⟩))⟩⟩))))
   ·rw [lower_T ha]; exact tooLong_S (by rw [low_len]; omega)
   ·refine ⟨fun e => ?_, fun e => ⟨rfl, fun _ => ?_, xff⟩⟩
    ·exact ⟨rfl, xtf, fun _ => L'.v 0 rfl rfl ⟨rfl, _, rfl, if_pos e⟩⟩
    ·exact if_neg (by rw [e]; decide)
  ·rw [keep_rows _ hkey]
   refine L.hds Sf rfl rfl ⟨_, hdrs rows, rfl, rfl, Sf.it rfl, ?_, ?_⟩
   ·have : (hdrs (delRows rows (low x))).length ≤ rows.length := by rw [hdrs, List.length_map]; exact List.length_filter_le _ _
    have := ok.len
    omega
   ·exact ExB.nil (h _)
 ·exact xff (hb.symm.trans e)
end
theorem call_deli {W : Wd} (Tp : TopA W) {lv : Nat} {glob : List GObj} {k kk : Nat} {rows : Rows} {x : List Nat} (Sf : Self glob k (.obj kk) rows) (ok : RowsOk rows) (hx : ∀ c ∈ x, c < 128) (hl : x.length ≤ 1000) (hb : badN true (low x) = false) :
  CallOk W (lv + 2) (.ref 154) [.obj k, .c (.str (S x))] [] glob (fun r fr g => r = .none ∧ fr = false ∧ g = glob.set kk (.lst (hdrs (delRows rows (low x))))) (fun _ _ => False) := by
 obtain ⟨fd, F⟩ := Tp.deli
 refine CallOk.ctx Tp (bs := [("self", .obj k), ("name", .c (.str (S x)))]) F scOkDel rfl ?_ ?_
 ·intro gh s vs ks hb r rk
  refine ⟨vs, r, ?_⟩
  replace r := r.to2; obtain ⟨_, _, rfl, r1, r2⟩ := r
  replace rk := rk.inv; obtain rfl := rk
  exact F.to (BindsTo.of_eq rfl)
 ·intro cx L hw
  exact bodyDel L Sf ok hx hl hb fun fr => RetOk.n (by simp) ⟨rfl, rfl, rfl⟩
noncomputable def scSet : List (Str × NameKind) := [("self", .local), ("name", .local), ("val", .local)]
theorem scOkSet : ScOk (methAt 17 3).scope scSet [] := .of (by decide +kernel)
noncomputable def setRows (rows : Rows) (x v : List Nat) : Rows := delRows rows (low x) ++ [(x, v)]
theorem Self.put {g : List GObj} {k kk : Nat} {rows rows' : Rows} (Sf : Self g k (.obj kk) rows) : Self (g.set kk (.lst (hdrs rows'))) k (.obj kk) rows' := by
 have hkk := items_obj Sf.items
 have hne : kk ≠ k := by rintro rfl; exact GObj.noConfusion (Option.some.inj (Sf.inst.symm.trans hkk))
 exact ⟨(List.getElem?_set_ne hne).trans Sf.inst, Sf.isL, Sf.low, obj_items (List.getElem?_set_self (List.getElem?_eq_some_iff.mp hkk).1)⟩
section
variable {cx : Cx} {st : St} {X : XV → St → Prop} {lv : Nat}
theorem bodySet (L : Ctx cx scSet [] (lv + 2) (methAt 17 3).scope) {g : List GObj} {k kk : Nat} {rows : Rows} {x v : List Nat} {Q : Fl → St → Prop} (Sf : Self g k (.obj kk) rows) (ok : RowsOk rows) (hx : ∀ c ∈ x, c < 128) (hl : x.length ≤ 1000) (hv : v.length ≤ 1000) (hb : badN true (low x) = false) (hb2 : badN true x = false) (hb3 : badN false v = false)
  (h : ∀ fr, Q .next ⟨g.set kk (.lst (hdrs (setRows rows x v))), [], fr, []⟩) :
  ExB cx (methAt 17 3).body ⟨g, [], [some (.obj k), T x, T v], []⟩ Q X := by
 have C := L.ok
 have Sf' := Sf.put (rows' := delRows rows (low x))
 have hdl : (delRows rows (low x)).length ≤ 100 := Nat.le_trans (List.length_filter_le _ _) ok.len
 refine ExB.cons (ExS.delOwn C L.hn L.top.hd (lv := lv + 2) (by rw [L.lv]; exact Nat.le_refl _) (L.v 0 rfl rfl (L.v 1 rfl rfl ⟨k, _, rfl, Sf.inst, rfl, ?_⟩)))
 refine CallOk.at (call_deli L.top Sf ok hx hl hb) ?_
 refine ⟨rfl, ?_⟩
 refine ExB.cons (ExS.expr (EvE.meth PySem.F.plainAttrs_list PySem.F.slot_list_append PySem.F.type_list_append (L.hds Sf' rfl rfl ⟨HasT.list (Sf'.it rfl) trivial, EvL.cons (EvE.tup (EvL.cons (L.conv hl rfl rfl Sf'.inst (L.v 1 rfl rfl ⟨rfl, rfl⟩) (fun _ => ?_) (fun e => ?_)))) ⟩)) ?_ ?_)
 ·refine EvL.cons (L.conv hv rfl rfl Sf'.inst (L.v 2 rfl rfl ⟨rfl, rfl⟩) (fun _ => EvL.nil ⟨[.str (S x), .str (S v)], rfl, by simp, ?_⟩) fun e => ?_)
  ·refine EvL.nil (Prim.append rfl (Sf'.it rfl) (by rw [hdrs, List.length_map]; omega) ?_)
   refine ExB.nil ?_
   have := h [some (.obj k), T x, T v]
   have e1 : hdrs (delRows rows (low x)) ++ [.tup [.str (S x), .str (S v)]] = hdrs (setRows rows x v) := by
    unfold setRows hdrs; rw [List.map_append]; rfl
   show Q .next ⟨(g.set kk (.lst (hdrs (delRows rows (low x))))).set kk (.lst (hdrs (delRows rows (low x)) ++ [.tup [.str (S x), .str (S v)]])), [], _, []⟩
   rw [List.set_set, e1]
   exact this
  ·exact xff (hb3.symm.trans e)
 ·exact xff (hb2.symm.trans e)
 ·unfold interactive; rw [C.fn]; rfl
 ·rfl
end
theorem call_seti {W : Wd} (Tp : TopA W) {lv : Nat} {glob : List GObj} {k kk : Nat} {rows : Rows} {x v : List Nat} (Sf : Self glob k (.obj kk) rows) (ok : RowsOk rows) (hx : ∀ c ∈ x, c < 128) (hl : x.length ≤ 1000) (hv : v.length ≤ 1000) (hb : badN true (low x) = false) (hb2 : badN true x = false) (hb3 : badN false v = false) :
  CallOk W (lv + 3) (.ref 149) [.obj k, .c (.str (S x)), .c (.str (S v))] [] glob (fun r fr g => r = .none ∧ fr = false ∧ g = glob.set kk (.lst (hdrs (setRows rows x v)))) (fun _ _ => False) := by
 obtain ⟨fd, F⟩ := Tp.seti
 refine CallOk.ctx Tp (bs := [("self", .obj k), ("name", .c (.str (S x))), ("val", .c (.str (S v)))]) F scOkSet rfl ?_ ?_
 ·intro gh s vs ks hb r rk
  refine ⟨vs, r, ?_⟩
  replace r := r.to3; obtain ⟨_, _, _, rfl, r1, r2, r3⟩ := r
  replace rk := rk.inv; obtain rfl := rk
  exact F.to (BindsTo.of_eq rfl)
 ·intro cx L hw
  exact bodySet L Sf ok hx hl hv hb hb2 hb3 fun fr => RetOk.n (by simp) ⟨rfl, rfl, rfl⟩
noncomputable def scInit : List (Str × NameKind) := [("self", .local), ("headers", .local), ("k", .local), ("v", .local)]
noncomputable def gscInit : List Str := ["type", "list", "TypeError"]
theorem scOkInit : ScOk (methAt 17 0).scope scInit gscInit := .of (by decide +kernel)
noncomputable def badRows (rows : Rows) : Bool := rows.any fun p => badN true p.1 || badN false p.2
noncomputable def FitRows (rows : Rows) : Prop := rows.length ≤ 1000 ∧ ∀ p ∈ rows, p.1.length ≤ 1000 ∧ p.2.length ≤ 1000
section
variable {cx : Cx} {st : St} {X : XV → St → Prop} {lv : Nat}
theorem loopInit (L : Ctx cx scInit gscInit (lv + 1) (methAt 17 0).scope) {g : List GObj} {k : Nat} {q : PV} {rows : Rows} {o2 o3 : Option PV} {Q : Fl → St → Prop} (Sf : Self g k q rows) (fit : FitRows rows)
  (h : badRows rows = false → ∀ o2 o3, Q .next ⟨g, [], [some (.obj k), some q, o2, o3], []⟩) (hx : badRows rows = true → ∀ fr, X ⟨.type "ValueError", [.str refusedT]⟩ ⟨g, [], fr, []⟩) :
  ExS cx ((ifBody ((methAt 17 0).body.getD 3 (.Pass default))).getD 0 (.Pass default)) ⟨g, [], [some (.obj k), some q, o2, o3], []⟩ Q X := by
 have C := L.ok
 refine ExS.for C L.hn L.ce (JRow g (fun o2 o3 => [some (.obj k), some q, o2, o3]) rows fun rest => badRows rows = badRows rest) ?_ ?_ ?_
 ·exact L.v 1 rfl rfl ⟨hdrs rows, Sf.it rfl, ⟨o2, o3, rows, rfl, rfl, fun _ h => h, rfl⟩, fun q' hq r st₂ j => j.it Sf hq⟩
 ·rintro y r st₂ ⟨o2, o3, rest, e, rfl, hin, hg⟩
  obtain ⟨p, rs, rfl, rfl, rfl⟩ := hdrs_cons e
  obtain ⟨hn1, hn2⟩ := fit.2 p (hin p (.head _))
  have hbad : badRows rows = (badN true p.1 || badN false p.2 || badRows rs) := hg.trans List.any_cons
  clear hg
  refine L.kv (i := 2) (j := 3) rfl rfl ?_
  refine ExB.cons (ExS.expr (L.conv hn1 rfl rfl Sf.inst (L.v 2 rfl rfl ⟨rfl, rfl⟩) (fun e1 => ?_) fun e1 => hx (by rw [hbad, e1]; rfl) _) L.ni rfl)
  refine ExB.cons (ExS.expr (L.conv hn2 rfl rfl Sf.inst (L.v 3 rfl rfl ⟨rfl, rfl⟩) (fun e2 => ?_) fun e2 => hx (by rw [hbad, e1, e2]; rfl) _) L.ni rfl)
  exact ExB.nil ⟨_, _, rs, rfl, rfl, fun z hz => hin z (.tail _ hz), by rw [hbad, e1, e2]; rfl⟩
 ·rintro _ ⟨o2, o3, rest, e, rfl, _, hg⟩
  obtain rfl := hdrs_nil e
  exact h hg o2 o3
theorem self_set {g : List GObj} {k : Nat} {q : PV} {rows : Rows} (hi : g[k]? = some (.inst 236 none)) (hq : q.isL) (hlow : q.noLoc = true) (hit : itemsOf ⟨g, [], [], []⟩ q = some (hdrs rows)) : Self (g.set k (.inst 236 (some q))) k q rows := by
 refine ⟨List.getElem?_set_self (List.getElem?_eq_some_iff.mp hi).1, hq, hlow, ?_⟩
 cases q with
 | c x => rw [← hit]; cases x <;> rfl
 | obj j =>
  have hit := items_obj hit
  exact obj_items ((List.getElem?_set_ne fun e => GObj.noConfusion (Option.some.inj (hi.symm.trans (e ▸ hit)))).trans hit)
 | loc => exact xff hlow
 | locs => exact xff hlow
 | pair => exact xff hlow
theorem bodyInit (L : Ctx cx scInit gscInit (lv + 1) (methAt 17 0).scope) {g : List GObj} {k : Nat} {q : PV} {rows : Rows} {Q : Fl → St → Prop} (hi : g[k]? = some (.inst 236 none)) (hq : q.isL) (hlow : q.noLoc = true) (hit : itemsOf ⟨g, [], [], []⟩ q = some (hdrs rows)) (fit : FitRows rows)
  (h : badRows rows = false → ∀ fr, Q .next ⟨g.set k (.inst 236 (some q)), [], fr, []⟩) (hx : badRows rows = true → ∀ fr, X ⟨.type "ValueError", [.str refusedT]⟩ ⟨g.set k (.inst 236 (some q)), [], fr, []⟩) :
  ExB cx (methAt 17 0).body ⟨g, [], [some (.obj k), some q, none, none], []⟩ Q X := by
 have C := L.ok
 have it0 : ∀ fr, itemsOf ⟨g, [], fr, []⟩ q = some (hdrs rows) := fun fr => (itemsOf_glob (st := ⟨g, [], [], []⟩) (st' := ⟨g, [], fr, []⟩) hlow rfl).trans hit
 have Sf := self_set hi hq hlow hit
 refine ExB.cons (L.set 1 (EvE.ife (EvT.notNone (L.v 1 rfl rfl ⟨hdrs rows, it0 _, hq, fun _ => L.v 1 rfl rfl ?_, xtf⟩))))
 refine ExB.cons (ExS.ite (EvT.cmp (L.call 0 11 .type (EvL.cons (L.v 1 rfl rfl (EvL.nil (Prim.tyL (it0 _) hq (L.n 1 8 rfl rfl ⟨_, _, _, rfl, rfl, rfl, fun e => ?_, fun _ => ?_⟩))))))))
 ·cases e
 ·refine ExB.nil (ExB.cons (ExS.asgH L.top.hd (L.v 1 rfl rfl (L.v 0 rfl rfl ⟨k, rfl, hi, hlow, ?_⟩))))
  refine ExB.cons (ExS.ite (EvT.val (EvE.bool ⟨_, true, rfl, rfl, trivial, fun _ => ?_, xtf⟩)))
  exact ExB.cons (loopInit L Sf fit (fun e o2 o3 => ExB.nil (ExB.nil (h e _))) hx)
end
theorem call_init {W : Wd} (Tp : TopA W) {lv : Nat} {glob : List GObj} {k : Nat} {q : PV} {rows : Rows} (hi : glob[k]? = some (.inst 236 none)) (hq : q.isL) (hlow : q.noLoc = true) (hit : itemsOf ⟨glob, [], [], []⟩ q = some (hdrs rows)) (fit : FitRows rows) :
  CallOk W (lv + 2) (.ref 128) [.obj k, q] [] glob (fun r fr g => r = .none ∧ fr = false ∧ g = glob.set k (.inst 236 (some q)) ∧ badRows rows = false) (fun px g => px = ⟨.type "ValueError", [.str refusedT]⟩ ∧ g = glob.set k (.inst 236 (some q)) ∧ badRows rows = true) := by
 obtain ⟨fd, F⟩ := Tp.init
 refine CallOk.ctx Tp (bs := [("self", .obj k), ("headers", q)]) F scOkInit rfl ?_ ?_
 ·intro gh s vs ks hb r rk
  refine ⟨vs, r, ?_⟩
  replace r := r.to2; obtain ⟨_, _, rfl, r1, r2⟩ := r
  replace rk := rk.inv; obtain rfl := rk
  obtain ⟨o, ho, hc, m, hd⟩ := Tp.d121
  obtain ⟨n, q, p, bd, sc, gl, cl, df, kd, dc, pm, an, co, ct, bu⟩ := fd
  have h1 : p = _ := F.params
  have h2 : df = _ := F.dflt
  have h3 : kd = _ := F.kwd
  subst h1 h2 h3
  first
   | exact BindsTo.of_eq rfl
   | exact BindsTo.of_defaults rfl (hb _ _ ho) hd rfl rfl
 ·intro cx L hw
  exact bodyInit L hi hq hlow hit fit (fun e fr => RetOk.n (by simp) ⟨rfl, rfl, rfl, e⟩) fun e fr => XOk.c (by simp) ⟨rfl, rfl, e⟩
theorem ev_headers {cx : Cx} {st : St} {X : XV → St → Prop} {lv : Nat} (C : cx.Ok) (hn : cx.hn = true) (Tp : TopA cx.wd) (hl : lv + 3 ≤ cx.lv) {nm : Str} {np pos : Pos} {e : Expr} {Q : PV → St → Prop}
  (h : EvE cx (.Name nm np) st (fun pf st₁ => pf = .c (.con (.ref 236)) ∧ EvE cx e st₁ (fun p st₂ => ∃ rows, p.noLoc = true ∧ p.isL ∧ itemsOf st₂ p = some (hdrs rows) ∧ FitRows rows ∧
   (badRows rows = false → Q (.obj st₂.glob.length) { st₂ with glob := st₂.glob ++ [.inst 236 (some p)] }) ∧ (badRows rows = true → X ⟨.type "ValueError", [.str refusedT]⟩ { st₂ with glob := st₂.glob ++ [.inst 236 (some p)] })) X) X)
  (he : starEach [e] cx.env = [(false, eval e cx.env)] := by rfl) : EvE cx (.Call (.Name nm np) [e] [] pos) st Q X := by
 refine ev_new C hn Tp.hd (lv := lv + 2) hl (EvE.mono h ?_ fun _ _ x => x) he
 rintro pf st₁ ⟨rfl, h⟩
 refine ⟨rfl, EvE.mono h ?_ fun _ _ x => x⟩
 rintro p st₂ ⟨rows, nl, hL, hit, fit, q1, q2⟩
 refine ⟨nl, ?_⟩
 have hs : (st₂.glob ++ [GObj.inst 236 Option.none]).set st₂.glob.length (.inst 236 (some p)) = st₂.glob ++ [.inst 236 (some p)] := by
  rw [List.set_append_right _ _ (Nat.le_refl _), Nat.sub_self]; rfl
 have hit' : itemsOf ⟨st₂.glob ++ [GObj.inst 236 Option.none], [], [], []⟩ p = some (hdrs rows) := by
  cases p with
  | c x => rw [← hit]; cases x <;> rfl
  | obj j =>
   have hit := items_obj hit
   exact obj_items ((List.getElem?_append_left (List.getElem?_eq_some_iff.mp hit).1).trans hit)
  | loc => cases nl
  | locs => cases nl
  | pair => cases nl
 refine CallOk.mono (call_init Tp (glob := st₂.glob ++ [.inst 236 Option.none]) (k := st₂.glob.length) (by rw [List.getElem?_append_right (Nat.le_refl _), Nat.sub_self]; rfl) hL nl hit' fit) ?_ ?_
 ·rintro r fr g ⟨rfl, rfl, rfl, hb⟩
  refine ⟨rfl, rfl, ?_⟩
  rw [hs]; exact q1 hb
 ·rintro px g ⟨rfl, rfl, hb⟩
  show X _ { st₂ with glob := _ }
  rw [hs]; exact q2 hb
theorem sMod {a b : Int} (h : b ≠ 0) : binS .Mod (.int a) (.int b) := h
theorem sFd {a b : Int} (h : 0 < b ∧ b < 100000) : binS .FloorDiv (.int a) (.int b) := h
noncomputable abbrev forBody := whBody
noncomputable def alpha : List Nat := [97, 65, 32, 34, 38, 60, 62, 10, 13, 9]
noncomputable def nameOf (c : Int) (k : Nat) : List Nat :=
 let a := alpha.getD (c.fmod 10).toNat 0
 let b := alpha.getD ((c.fdiv 10).fmod 10).toNat 0
 let p := ((c.fdiv 100).fmod 3).toNat
 [a, b].take p ++ [112 + k] ++ [a, b].drop p
noncomputable def scNames : List (Str × NameKind) := [("cells", .local), ("names", .local), ("k", .local), ("signs", .local), ("place", .local)]
noncomputable def gscNames : List Str := ["range"]
theorem scOkNames : ScOk (defAt 22).scope scNames gscNames := .of (by decide +kernel)
theorem fmod_lt (c : Int) {n : Int} (h : 0 < n) : 0 ≤ c.fmod n ∧ c.fmod n < n := ⟨Int.fmod_nonneg_of_pos c h, Int.fmod_lt_of_pos c h⟩
theorem pick_at' {α : Type} {l : List α} {i : Int} (h0 : 0 ≤ i) (h1 : i < l.length) : pick l i = l[i.toNat]? := by
 unfold pick seqIndex?
 simp only [show ¬ (i < 0) from by omega, if_false]
 rw [if_pos (by rw [Bool.and_eq_true, decide_eq_true_eq, decide_eq_true_eq]; omega)]
 rfl
theorem charAt_at {l : List Nat} {i : Int} (h0 : 0 ≤ i) (h1 : i < l.length) : Txt.charAt (S l) i = some (l.getD i.toNat 0) ∧ Txt.item (S l) i = S [l.getD i.toNat 0] := by
 have hi : i.toNat < l.length := by omega
 have : Txt.charAt (S l) i = some (l.getD i.toNat 0) := by
  rw [charAt_S]
  have := pick_at' (l := l) h0 h1
  unfold pick at this
  rw [this, List.getElem?_eq_getElem hi]
  simp [List.getD_eq_getElem?_getD, List.getElem?_eq_getElem hi]
 exact ⟨this, by unfold Txt.item; rw [this]; rfl⟩
section
variable {cx : Cx} {st : St} {X : XV → St → Prop} {lv : Nat}
theorem idx_S {x : Str} {l : List Nat} {i : Int} {a : Nat} (e : x = S l) (h0 : 0 ≤ i) (h1 : i < l.length) (h : l.getD i.toNat 0 = a) : (Txt.charAt x i).map (fun _ => PV.c (.str (Txt.item x i))) = some (.c (.str (S [a]))) := by
 subst e
 rw [(charAt_at h0 h1).1, (charAt_at h0 h1).2, h]; rfl
theorem stepNames (L : Ctx cx scNames gscNames lv (defAt 22).scope) {g : List GObj} {cs done : List CV} {k m a b : Nat} {c : Int} {o3 o4 : Option PV} {Q : Fl → St → Prop}
  (hcell : (pick cs (k : Int)).map PV.c = some (.c (.int c))) (hk : k < 4) (ha : alpha.getD (c.fmod 10).toNat 0 = a) (hb : alpha.getD ((c.fdiv 10).fmod 10).toNat 0 = b) (hm : (c.fdiv 100).fmod 3 = m) (hm3 : m < 3) (hdone : done.length ≤ 1000000)
  (h : ∀ o3 o4, Q .next ⟨g, [done ++ [.str (S ([a, b].take m ++ [112 + k] ++ [a, b].drop m))]], [some (.c (.lst cs)), some (.loc 0), some (.c (.int k)), o3, o4], []⟩) :
  ExB cx (forBody ((defAt 22).body.getD 1 (.Pass default))) ⟨g, [done], [some (.c (.lst cs)), some (.loc 0), some (.c (.int k)), o3, o4], []⟩ Q X := by
 have C := L.ok
 have la : ("aA \"&<>\n\r\t" : Str) = S alpha := lit _ _ (by decide +kernel)
 have lp : ("pqrs" : Str) = S [112, 113, 114, 115] := lit _ _ (by decide +kernel)
 have i1 := idx_S la (fmod_lt c (n := 10) (by decide)).1 (fmod_lt c (n := 10) (by decide)).2 ha
 have i2 := idx_S la (fmod_lt (c.fdiv 10) (n := 10) (by decide)).1 (fmod_lt (c.fdiv 10) (n := 10) (by decide)).2 hb
 have i3 := idx_S lp (i := k) (Int.natCast_nonneg k) (Int.ofNat_lt.mpr hk) (a := 112 + k) (by
  have : ∀ k ∈ List.range 4, ([112, 113, 114, 115] : List Nat).getD (k : Int).toNat 0 = 112 + k := by decide
  exact this k (List.mem_range.mpr hk))
 have r1 : -(2 ^ 62) ≤ c.fmod 10 ∧ c.fmod 10 < 2 ^ 62 := ⟨by have := (fmod_lt c (n := 10) (by decide)).1; omega, by have := (fmod_lt c (n := 10) (by decide)).2; omega⟩
 have r2 : -(2 ^ 62) ≤ (c.fdiv 10).fmod 10 ∧ (c.fdiv 10).fmod 10 < 2 ^ 62 := ⟨by have := (fmod_lt (c.fdiv 10) (n := 10) (by decide)).1; omega, by have := (fmod_lt (c.fdiv 10) (n := 10) (by decide)).2; omega⟩
 have r3 : -(2 ^ 62) ≤ (k : Int) ∧ (k : Int) < 2 ^ 62 := ⟨by omega, by omega⟩
 clear la lp ha hb
 have cell : ∀ {fr : List (Option PV)} {loc : List (List CV)} {p1 p2 pos : Pos} {Q : PV → St → Prop} {X : XV → St → Prop}, fr[0]? = some (some (.c (.lst cs))) → fr[2]? = some (some (.c (.int k))) → Q (.c (.int c)) ⟨g, loc, fr, []⟩ →
   EvE cx (.Subscript (.Name "cells" p1) (.Name "k" p2) pos) ⟨g, loc, fr, []⟩ Q X := fun h0 h2 hq => EvE.idx (L.v 0 rfl h0 (L.v 2 rfl h2 ⟨k, _, rfl, r3.1, r3.2, hcell, hq⟩))
 refine ExB.cons (L.set 3 (ev_addS (EvE.idx (EvE.str (EvE.bin (cell rfl rfl (EvE.int ⟨_, _, _, rfl, rfl, rfl, sMod (by decide), ⟨_, _, rfl, r1.1, r1.2, i1, ?_⟩⟩)))))))
 refine EvE.idx (EvE.str (EvE.bin (EvE.bin (cell rfl rfl (EvE.int ⟨_, _, _, rfl, rfl, rfl, sFd (by decide), EvE.int ⟨_, _, _, rfl, rfl, rfl, sMod (by decide), ⟨_, _, rfl, r2.1, r2.2, i2, ⟨_, _, rfl, rfl, Nat.le_of_ble_eq_true rfl, ?_⟩⟩⟩⟩)))))
 clear i1 i2 r1 r2
 generalize hsg : [a] ++ [b] = sg
 have hsg : sg = [a, b] := hsg.symm
 refine ExB.cons (L.set 4 (EvE.bin (EvE.bin (cell rfl rfl (EvE.int ⟨_, _, _, rfl, rfl, rfl, sFd (by decide), EvE.int ⟨_, _, .int m, rfl, rfl, congrArg (fun x => some (CV.int x)) hm, sMod (by decide), ?_⟩⟩)))))
 have t1 : Mine.sliceS (S sg) none (some (m : Int)) = S (sg.take m) := take_S sg m
 have t2 : Mine.sliceS (S sg) (some (m : Int)) none = S (sg.drop m) := from_S sg m (by rw [hsg]; simp; omega)
 have z0 : sg.length = 2 := by rw [hsg]; rfl
 have z1 : (sg.take m).length ≤ 2 := by rw [List.length_take]; omega
 have z2 : (sg.drop m).length ≤ 2 := by rw [List.length_drop]; omega
 refine ExB.cons (ExS.expr (EvE.meth PySem.F.plainAttrs_list PySem.F.slot_list_append PySem.F.type_list_append (L.v 1 rfl rfl ⟨HasT.list (l := done) rfl trivial, EvL.cons (ev_addS (ev_addS (ev_cutS (L.v 3 rfl rfl (evO_none (evO_some (L.v 4 rfl rfl ⟨sg, _, rfl, by omega, t1, ?_⟩)))))))⟩)) ?_ rfl)
 ·refine EvE.idx (EvE.str (L.v 2 rfl rfl ⟨k, _, rfl, r3.1, r3.2, i3, ⟨_, _, rfl, rfl, Nat.le_trans (Nat.add_le_add z1 (Nat.le_refl 1)) (by decide), ?_⟩⟩))
  refine ev_cutS (L.v 3 rfl rfl (evO_some (L.v 4 rfl rfl (evO_none ⟨sg, _, rfl, by omega, t2, ⟨_, _, rfl, rfl, by rw [List.length_append]; simp only [List.length_singleton]; omega, ?_⟩⟩))))
  refine EvL.nil (Prim.append rfl (l := done) rfl hdone ?_)
  subst hsg
  exact ExB.nil (h _ _)
 ·unfold interactive; rw [C.fn]; rfl
theorem bodyNames (L : Ctx cx scNames gscNames lv (defAt 22).scope) {g : List GObj} {cells : List Int} {Q : Fl → St → Prop} (hc : cells.length = 5)
  (h : ∀ fr, Q (.ret (.loc 0)) ⟨g, [(List.range 4).map fun k => .str (S (nameOf (cells.getD k 0) k))], fr, []⟩) :
  ExB cx (defAt 22).body ⟨g, [], [some (.c (.lst (cells.map .int))), none, none, none, none], []⟩ Q X := by
 have C := L.ok
 refine ExB.cons (L.set 1 (EvE.lstLoc (EvL.nil ⟨[], rfl, by simp, ?_⟩)))
 refine ExB.cons (ExS.forRange C L.hn L.ce (n := 4) (fun k st => ∃ o2 o3 o4, st = ⟨g, [(List.range k).map fun k => .str (S (nameOf (cells.getD k 0) k))], [some (.c (.lst (cells.map .int))), some (.loc 0), o2, o3, o4], []⟩) (by decide) ?_ ?_ ?_)
 ·exact L.call 0 7 .type (EvL.cons (EvE.int (EvL.nil (Prim.range1 ⟨rfl, none, none, none, rfl⟩))))
 ·rintro k _ hk ⟨o2, o3, o4, rfl⟩
  refine AsG.name (i := 2) C (L.s 2 rfl) (.inl rfl) ?_
  have hcell : (pick (cells.map CV.int) (k : Int)).map PV.c = some (.c (.int (cells.getD k 0))) := by
   rw [pick_at' (by omega) (by rw [List.length_map]; omega), Int.toNat_natCast, List.getElem?_map, List.getElem?_eq_getElem (by omega)]
   simp [List.getD_eq_getElem?_getD, List.getElem?_eq_getElem (show k < cells.length by omega)]
  obtain ⟨p0, p1⟩ := fmod_lt ((cells.getD k 0).fdiv 100) (n := 3) (by decide)
  refine stepNames L hcell hk rfl rfl (Int.toNat_of_nonneg p0).symm (by omega) (by simp; omega) fun o3 o4 => ⟨some (.c (.int k)), o3, o4, ?_⟩
  rw [List.range_succ, List.map_append]; rfl
 ·rintro _ ⟨o2, o3, o4, rfl⟩
  exact ExB.cons (ExS.ret (L.v 1 rfl rfl (h _)))
end
noncomputable def namesOf (cells : List Int) : List (List Nat) := (List.range 4).map fun k => nameOf (cells.getD k 0) k
noncomputable def cstrs (l : List (List Nat)) : List CV := l.map fun x => .str (S x)
noncomputable def cints (l : List Int) : CV := .lst (l.map .int)
theorem call_names {W : Wd} (Tp : TopA W) {lv : Nat} {cells : List Int} {glob : List GObj} (hc : cells.length = 5) :
  CallOk W (lv + 1) (.ref 261) [.c (cints cells)] [] glob (fun r fr g => r = .lst (cstrs (namesOf cells)) ∧ fr = false ∧ g = glob) (fun _ _ => False) := by
 obtain ⟨fd, F⟩ := Tp.lnames
 refine CallOk.pos Tp (bs := [("cells", .c (cints cells))]) F scOkNames rfl rfl (fun fd vs hl => by obtain ⟨_, rfl⟩ := len1 hl; rfl) ?_
 ·intro cx L hw
  refine bodyNames L hc fun fr => ⟨.lst ((List.range 4).map fun k => .str (S (nameOf (cells.getD k 0) k))), false, rfl, xff, .inl rfl, ?_, rfl, by rw [List.take_length]⟩
  unfold cstrs namesOf
  rw [List.map_map]; rfl
section
variable {cx : Cx} {st : St} {X : XV → St → Prop}
inductive TurnJ (cx : Cx) (elt : Expr) (ifs : List Expr) (P : List (Option PV) → Prop) (g : List GObj) (loc : List (List CV)) (up : List CV) (y : Option CV) (st₁ : St) : Prop
 | mk (fr : List (Option PV)) (h : P fr) (e : st₁ = ⟨g, loc, fr, up⟩) (k : EvIfs cx ifs st₁ (IfS cx elt y st₁))
noncomputable def TurnP (cx : Cx) (target elt : Expr) (ifs : List Expr) (g : List GObj) (loc : List (List CV)) (up : List CV) (P : List (Option PV) → Prop) (x : CV) (y : Option CV) : Prop :=
 ∀ fr : List (Option PV), P fr → AsG cx target (.c x) ⟨g, loc, fr, up⟩ (TurnJ cx elt ifs P g loc up y) XF
theorem TurnP.toG {target elt : Expr} {ifs : List Expr} {g : List GObj} {loc : List (List CV)} {up : List CV} {P : List (Option PV) → Prop} {x : CV} {y : Option CV} (h : TurnP cx target elt ifs g loc up P x y) : TurnG cx target elt ifs g loc up P x y := fun fr hf =>
 AsG.mono (h fr hf) fun st q => by
  obtain ⟨fr', h, rfl, k⟩ := q
  exact ⟨fr', h, rfl, EvIfs.mono k fun _ _ k => k.to h⟩
theorem LoopC.mapP (C : cx.Ok) (hn : cx.hn = true) {elt target iter : Expr} {gens : List Comprehension} {d : Nat} {ifs : List Expr} {scope : Scope} {pos : Pos} {o : Option PV} {items : List CV} {g : List GObj} {loc : List (List CV)} {up : List CV} {fr0 : List (Option PV)} {ps0 : List CV} {Q : List PV → St → Prop} (P : List (Option PV) → Prop) (f : CV → Option CV)
  (hg : gens[d]? = some ⟨target, iter, ifs, 0⟩) (hg2 : gens[d + 1]? = none) (h0 : P fr0)
  (hlive : ∀ q, o = some q → ∃ l, ∀ fr, itemsOf ⟨g, loc, fr, up⟩ q = some l) (step : ∀ x ∈ items, TurnP cx target elt ifs g loc up P x (f x)) (hz : ps0.length + items.length ≤ 100000)
  (hq : ∀ fr, P fr → Q ((ps0 ++ items.filterMap f).map .c) ⟨g, loc, fr, up⟩) :
  LoopC cx (.ListComp elt gens scope pos) d o items ⟨g, loc, fr0, up⟩ (ps0.map .c) Q := LoopC.mapQ C hn P f hg hg2 h0 hlive (fun x hx => (step x hx).toG) hz hq
inductive MapK (P : List (Option PV) → Prop) (f : CV → List CV) (g : List GObj) (loc : List (List CV)) (up : List CV) (items : List CV) (r : List CV) (ps : List PV) (st : St) : Prop
 | mk (done : List CV) (fr : List (Option PV)) (i : items = done ++ r) (h : P fr) (e : st = ⟨g, loc, fr, up⟩) (q : ps = (done.flatMap f).map .c)
inductive SrcR (l : List CV) (st₁ : St) (p : PV) (st₂ : St) : Prop
 | mk (e : st₂ = st₁) (n : ∀ q, liveOf p ≠ some q) (i : itemsOf st₁ p = some l)
inductive TurnS (cx : Cx) (i2 : Expr) (P : List (Option PV) → Prop) (g : List GObj) (loc : List (List CV)) (up l : List CV) (st₁ : St) : Prop
 | mk (fr : List (Option PV)) (h : P fr) (e : st₁ = ⟨g, loc, fr, up⟩) (k : EvE cx i2 st₁ (SrcR l st₁) XF)
theorem fm_le (l2 : CV → List CV) (f : CV → CV → Option CV) (dn : List CV) : (dn.flatMap fun x => (l2 x).filterMap (f x)).length ≤ (dn.flatMap l2).length := by
 induction dn with
 | nil => exact Nat.le_refl _
 | cons a dn ih =>
  rw [List.flatMap_cons, List.flatMap_cons, List.length_append, List.length_append]
  exact Nat.add_le_add (List.length_filterMap_le (f a) (l2 a)) ih
theorem LoopC.map2 (C : cx.Ok) (hn : cx.hn = true) {elt t1 i1 t2 i2 : Expr} {ifs2 : List Expr} {scope : Scope} {pos : Pos} {o : Option PV} {items : List CV} {g : List GObj} {loc : List (List CV)} {up : List CV} {fr0 : List (Option PV)} {Q : List PV → St → Prop} (P0 : List (Option PV) → Prop) (P1 : CV → List (Option PV) → Prop) (l2 : CV → List CV) (f : CV → CV → Option CV)
  (h0 : P0 fr0) (hlive : ∀ q, o = some q → ∃ l, ∀ fr, itemsOf ⟨g, loc, fr, up⟩ q = some l)
  (step : ∀ x ∈ items, ∀ fr, P0 fr → AsG cx t1 (.c x) ⟨g, loc, fr, up⟩ (TurnS cx i2 (P1 x) g loc up (l2 x)) XF)
  (step2 : ∀ x ∈ items, ∀ y ∈ l2 x, TurnP cx t2 elt ifs2 g loc up (P1 x) y (f x y)) (h10 : ∀ x fr, P1 x fr → P0 fr) (hf : ∀ z, foldedSetIterable i2 cx.env z = pure z) (hz : (items.flatMap l2).length ≤ 100000)
  (hq : ∀ fr, P0 fr → Q ((items.flatMap fun x => (l2 x).filterMap (f x)).map .c) ⟨g, loc, fr, up⟩) :
  LoopC cx (.ListComp elt [⟨t1, i1, [], 0⟩, ⟨t2, i2, ifs2, 0⟩] scope pos) 0 o items ⟨g, loc, fr0, up⟩ [] Q := by
 refine LoopC.rule C hn rfl (MapK P0 (fun x => (l2 x).filterMap (f x)) g loc up items) ⟨[], fr0, rfl, h0, rfl, rfl⟩ ?_ ?_ ?_
 ·intro q e
  obtain ⟨l, h⟩ := hlive q e
  exact ⟨l, fun r ps st j => by obtain ⟨_, fr, _, _, e, _⟩ := j; rw [e]; exact h fr⟩
 ·rintro x r ps st ⟨done, fr, hi, hp, rfl, rfl⟩
  have hx : x ∈ items := hi ▸ List.mem_append_right _ (.head _)
  refine AsG.mono (step x hx fr hp) ?_
  rintro _ ⟨fr', hp', rfl, h⟩
  refine ⟨xtf, fun _ => ?_⟩
  refine ⟨rfl, hf, EvE.mono h ?_ fun _ _ x => x⟩
  rintro p _ ⟨rfl, hl, hit⟩
  refine ⟨l2 x, hit, ?_⟩
  have hlen : (done.flatMap fun x => (l2 x).filterMap (f x)).length + (l2 x).length ≤ 100000 := by
   refine Nat.le_trans (Nat.add_le_add_right (fm_le l2 f done) _) (Nat.le_trans ?_ hz)
   rw [hi, List.flatMap_append, List.flatMap_cons, List.length_append, List.length_append, ← Nat.add_assoc]
   exact Nat.le_add_right _ _
  refine LoopC.mapP C hn (P1 x) (f x) rfl rfl hp' (fun q e => absurd e (hl q)) (step2 x hx) hlen fun fr2 h2 => ⟨done ++ [x], fr2, hi.trans (List.append_cons ..), h10 x fr2 h2, rfl, ?_⟩
  rw [List.flatMap_append, List.flatMap_cons, List.flatMap_nil, List.append_nil]
 ·rintro ps st ⟨done, fr, hi, hp, rfl, rfl⟩
  rw [List.append_nil] at hi
  exact hi ▸ hq fr hp
end
noncomputable def swB (scope s : Scope) (t : Str) (b : Bool) : Bool :=
 (if scope.kind.isAnnotationScope then ScopeKind.function else scope.kind) == .function && scope.names.lookup t == some .local && b && !(s.names.any fun (n, k) => n == t && (k == .local || k == .cell))
theorem swaps_lc {elt : Expr} {gens : List Comprehension} {s : Scope} {cpos p : Pos} {t : Str} {ln : Nat} {env : Env} : swapsWith (.ListComp elt gens s cpos) (some (.Name t p)) ln env = pure (swB env.scope s t (p.line == cpos.line)) := rfl
section
variable {cx : Cx} {st : St} {X : XV → St → Prop} {lv : Nat} {scope : Scope}
noncomputable def CompL (cx : Cx) (lv : Nat) (sc : List (Str × NameKind)) (usc gsc : List Str) (e : Expr) (up : List CV) (st : St) (p : PV) (l : List CV) (Q : List PV → St → Prop) : Prop :=
 ∀ cx', CCtx cx' sc usc gsc lv → cx'.wd = cx.wd → cx'.A = cx.A → LoopC cx' e 0 (liveOf p) l ⟨st.glob, st.loc, List.replicate sc.length none, up⟩ [] Q
noncomputable abbrev EndV (st : St) (vs : List CV) (ps : List PV) (st₂ : St) : Prop := MapR st.glob st.loc vs ps st₂
theorem LoopC.mono {cx : Cx} {e : Expr} {d : Nat} {o : Option PV} {items : List CV} {st : St} {ps : List PV} {Q Q' : List PV → St → Prop} (h : LoopC cx e d o items st ps Q) (hq : ∀ ps st, Q ps st → Q' ps st) : LoopC cx e d o items st ps Q' := by
 intro gh s I acc R i G A hIa
 refine codeAny_mono (h gh s I acc R i G A hIa) fun r s' h => ?_
 cases r with
 | error => exact h
 | ok _ =>
  obtain ⟨gh', st', ps', a, b, c, d, e, q⟩ := h
  exact ⟨gh', st', ps', a, b, c, d, e, hq _ _ q⟩
theorem finV {mode : Bool} {st₁ : St} {vs : List CV} {Q : PV → St → Prop} (q1 : mode = false → Q (.c (.lst vs)) st₁) (q2 : mode = true → Q (.loc st₁.loc.length) { st₁ with loc := st₁.loc ++ [vs] }) :
  ∀ ps st₂, EndV st₁ vs ps st₂ → FinC (if mode then 1 else 0) ps { st₁ with glob := st₂.glob, loc := st₂.loc } Q := by
 rintro ps st₂ ⟨rfl, hg, hl⟩
 rw [hg, hl]
 cases mode with
 | true => exact ⟨_, rfl, q2 rfl⟩
 | false => exact ⟨_, rfl, q1 rfl⟩
inductive CompG (st st₁ : St) (p : PV) (C : List CV → List CV → Prop) (K : List CV → Prop) : Prop
 | mk (a : st₁.fr = st.fr) (b : st₁.up = st.up) (l vs : List CV) (c : itemsOf st₁ p = some l) (d : C l vs) (k : K vs)
theorem ev_compL (C : cx.Ok) (hn : cx.hn = true) (gt : cx.wd.gt = GT) (top : TopA cx.wd) (hlv : cx.lv = lv) {elt target iter : Expr} {ifs : List Expr} {rest : List Comprehension} {pos : Pos} {Q : PV → St → Prop} {up : List CV} (mode : Bool) (sc : List (Str × NameKind)) (usc gsc : List Str)
  (S : CompOk scope sc usc gsc) (u : Ups cx st usc up)
  (h : EvE cx iter st (fun p st₁ => CompG st st₁ p (fun l vs => CompL cx lv sc usc gsc (.ListComp elt (⟨target, iter, ifs, 0⟩ :: rest) scope pos) up st₁ p l (EndV st₁ vs)) fun vs =>
   (mode = false → Q (.c (.lst vs)) st₁) ∧ (mode = true → Q (.loc st₁.loc.length) { st₁ with loc := st₁.loc ++ [vs] })) X)
  (hs : ∀ x, foldedSetIterable iter cx.env x = pure x := by intro _; rfl) : EvE cx (.ListComp elt (⟨target, iter, ifs, 0⟩ :: rest) scope pos) st Q X := by
 refine ev_comp C hn (if mode then 1 else 0) sc usc gsc S u (EvE.mono h ?_ fun _ _ x => x) hs
 rintro p st₁ ⟨e1, e2, l, vs, hl, hloop, q1, q2⟩
 exact ⟨l, hl, e1, e2, fun env _ C' => LoopC.mono (hloop _ ⟨C', rfl, rfl, rfl, gt, hn, top, hlv⟩ rfl rfl) (finV q1 q2)⟩
theorem asg_compL (C : cx.Ok) (hn : cx.hn = true) (gt : cx.wd.gt = GT) (top : TopA cx.wd) (hlv : cx.lv = lv) {i : Nat} {y : Str} {py : Pos} {elt target iter : Expr} {ifs : List Expr} {rest : List Comprehension} {pos spos : Pos} {Q : Fl → St → Prop} {up : List CV} (mode : Bool) (sc : List (Str × NameKind)) (usc gsc : List Str)
  (S : CompOk scope sc usc gsc) (u : Ups cx st usc up) (hy : cx.sc[i]? = some (y, .local))
  (h : EvE cx iter st (fun p st₁ => CompG st st₁ p (fun l vs => CompL cx lv sc usc gsc (.ListComp elt (⟨target, iter, ifs, 0⟩ :: rest) scope pos) up st₁ p l (EndV st₁ vs)) fun vs =>
   (mode = false → Q .next { st₁ with fr := st₁.fr.set i (some (.c (.lst vs))) }) ∧ (mode = true → Q .next ⟨st₁.glob, st₁.loc ++ [vs], st₁.fr.set i (some (.loc st₁.loc.length)), st₁.up⟩)) X)
  (hsw : swapsWith (.ListComp elt (⟨target, iter, ifs, 0⟩ :: rest) scope pos) (some (.Name y py)) spos.line cx.env = pure true)
  (hs : ∀ x, foldedSetIterable iter cx.env x = pure x := by intro _; rfl) : ExS cx (.Assign [.Name y py] (.ListComp elt (⟨target, iter, ifs, 0⟩ :: rest) scope pos) spos) st Q X := by
 refine asgComp C hn (if mode then 1 else 0) sc usc gsc S u hy (EvE.mono h ?_ fun _ _ x => x) hsw hs
 rintro p st₁ ⟨e1, e2, l, vs, hl, hloop, q1, q2⟩
 exact ⟨l, hl, e1, e2, fun env _ C' => LoopC.mono (hloop _ ⟨C', rfl, rfl, rfl, gt, hn, top, hlv⟩ rfl rfl) (finV q1 q2)⟩
variable {sc0 : List (Str × NameKind)} {gsc0 : List Str} {scope0 : Scope}
theorem Ctx.setL (L : Ctx cx sc0 gsc0 lv scope0) (i : Nat) {y : Str} {py : Pos} {elt target iter : Expr} {ifs : List Expr} {rest : List Comprehension} {pos spos : Pos} {Q : Fl → St → Prop} {up : List CV} (mode : Bool) (sc : List (Str × NameKind)) (usc gsc : List Str)
  (S : CompOk scope sc usc gsc) (u : Ups cx st usc up)
  (h : EvE cx iter st (fun p st₁ => CompG st st₁ p (fun l vs => CompL cx lv sc usc gsc (.ListComp elt (⟨target, iter, ifs, 0⟩ :: rest) scope pos) up st₁ p l (EndV st₁ vs)) fun vs =>
   (mode = false → Q .next { st₁ with fr := st₁.fr.set i (some (.c (.lst vs))) }) ∧ (mode = true → Q .next ⟨st₁.glob, st₁.loc ++ [vs], st₁.fr.set i (some (.loc st₁.loc.length)), st₁.up⟩)) X)
  (hy : sc0[i]? = some (y, .local) := by rfl) (hsw : swB scope0 scope y (py.line == pos.line) = true := by decide +kernel)
  (hs : ∀ x, foldedSetIterable iter cx.env x = pure x := by intro _; rfl) : ExS cx (.Assign [.Name y py] (.ListComp elt (⟨target, iter, ifs, 0⟩ :: rest) scope pos) spos) st Q X :=
 asg_compL L.ok L.hn L.gt L.top L.lv mode sc usc gsc S u (L.s i hy) h (by rw [swaps_lc, L.scope, hsw]) hs
theorem Ctx.setC (L : Ctx cx sc0 gsc0 lv scope0) (i : Nat) {y : Str} {py : Pos} {elt target iter : Expr} {ifs : List Expr} {rest : List Comprehension} {pos spos : Pos} {Q : Fl → St → Prop} {up : List CV} (sc : List (Str × NameKind)) (usc gsc : List Str)
  (S : CompOk scope sc usc gsc) (u : Ups cx st usc up)
  (h : EvE cx iter st (fun p st₁ => CompG st st₁ p (fun l vs => CompL cx lv sc usc gsc (.ListComp elt (⟨target, iter, ifs, 0⟩ :: rest) scope pos) up st₁ p l (EndV st₁ vs)) fun vs =>
   Q .next { st₁ with fr := st₁.fr.set i (some (.c (.lst vs))) }) X)
  (hy : sc0[i]? = some (y, .cell) := by rfl) (hsw : swB scope0 scope y (py.line == pos.line) = false := by decide +kernel)
  (hs : ∀ x, foldedSetIterable iter cx.env x = pure x := by intro _; rfl) : ExS cx (.Assign [.Name y py] (.ListComp elt (⟨target, iter, ifs, 0⟩ :: rest) scope pos) spos) st Q X :=
 L.set i (ev_compL L.ok L.hn L.gt L.top L.lv false sc usc gsc S u (EvE.mono h (fun _ _ ⟨e1, e2, l, vs, hl, hc, q⟩ => ⟨e1, e2, l, vs, hl, hc, fun _ => q, xff⟩) fun _ _ x => x) hs) hy (.inr rfl) (by rw [swaps_lc, L.scope, hsw])
theorem Ctx.comp (L : Ctx cx sc0 gsc0 lv scope0) {elt target iter : Expr} {ifs : List Expr} {rest : List Comprehension} {pos : Pos} {Q : PV → St → Prop} {up : List CV} (sc : List (Str × NameKind)) (usc gsc : List Str)
  (S : CompOk scope sc usc gsc) (u : Ups cx st usc up)
  (h : EvE cx iter st (fun p st₁ => CompG st st₁ p (fun l vs => CompL cx lv sc usc gsc (.ListComp elt (⟨target, iter, ifs, 0⟩ :: rest) scope pos) up st₁ p l (EndV st₁ vs)) fun vs => Q (.c (.lst vs)) st₁) X)
  (hs : ∀ x, foldedSetIterable iter cx.env x = pure x := by intro _; rfl) : EvE cx (.ListComp elt (⟨target, iter, ifs, 0⟩ :: rest) scope pos) st Q X :=
 ev_compL L.ok L.hn L.gt L.top L.lv false sc usc gsc S u (EvE.mono h (fun _ _ ⟨e1, e2, l, vs, hl, hc, q⟩ => ⟨e1, e2, l, vs, hl, hc, fun _ => q, xff⟩) fun _ _ x => x) hs
theorem CCtx.comp {usc0 : List Str} (L : CCtx cx sc0 usc0 gsc0 lv) {elt target iter : Expr} {ifs : List Expr} {rest : List Comprehension} {pos : Pos} {Q : PV → St → Prop} {up : List CV} (sc : List (Str × NameKind)) (usc gsc : List Str)
  (S : CompOk scope sc usc gsc) (u : Ups cx st usc up)
  (h : EvE cx iter st (fun p st₁ => CompG st st₁ p (fun l vs => CompL cx lv sc usc gsc (.ListComp elt (⟨target, iter, ifs, 0⟩ :: rest) scope pos) up st₁ p l (EndV st₁ vs)) fun vs => Q (.c (.lst vs)) st₁) X)
  (hs : ∀ x, foldedSetIterable iter cx.env x = pure x := by intro _; rfl) : EvE cx (.ListComp elt (⟨target, iter, ifs, 0⟩ :: rest) scope pos) st Q X :=
 ev_compL L.ok L.hn L.gt L.top L.lv false sc usc gsc S u (EvE.mono h (fun _ _ ⟨e1, e2, l, vs, hl, hc, q⟩ => ⟨e1, e2, l, vs, hl, hc, fun _ => q, xff⟩) fun _ _ x => x) hs
theorem CompL.one {sc : List (Str × NameKind)} {usc gsc : List Str} {elt target iter : Expr} {ifs : List Expr} {pos : Pos} {up : List CV} {p : PV} {l vs : List CV} (f : CV → Option CV) (hv : vs = l.filterMap f) (hz : l.length ≤ 100000)
  (hlive : ∀ q, liveOf p = some q → itemsOf st q = some l)
  (step : ∀ cx', CCtx cx' sc usc gsc lv → cx'.wd = cx.wd → cx'.A = cx.A → ∀ x ∈ l, TurnC cx' target elt ifs st.glob st.loc up sc.length x (f x)) :
  CompL cx lv sc usc gsc (.ListComp elt [⟨target, iter, ifs, 0⟩] scope pos) up st p l (EndV st vs) := by
 intro cx' L' hw hA
 subst hv
 refine LoopC.map L'.ok L'.hn f (fun q e => ⟨l, fun fr => ?_⟩) (step cx' L' hw hA) hz
 rw [← hlive q e]
 exact itemsOf_same rfl rfl q
theorem CompL.two {sc : List (Str × NameKind)} {usc gsc : List Str} {elt t1 i1 t2 i2 : Expr} {ifs2 : List Expr} {pos : Pos} {up : List CV} {p : PV} {l vs : List CV} (P1 : CV → List (Option PV) → Prop) (l2 : CV → List CV) (f : CV → CV → Option CV) (hv : vs = l.flatMap fun x => (l2 x).filterMap (f x))
  (hz : (l.flatMap l2).length ≤ 100000) (hlive : ∀ q, liveOf p = some q → itemsOf st q = some l) (h10 : ∀ x fr, P1 x fr → fr.length = sc.length)
  (step : ∀ cx', CCtx cx' sc usc gsc lv → cx'.wd = cx.wd → cx'.A = cx.A → ∀ x ∈ l, ∀ fr : List (Option PV), fr.length = sc.length → AsG cx' t1 (.c x) ⟨st.glob, st.loc, fr, up⟩ (TurnS cx' i2 (P1 x) st.glob st.loc up (l2 x)) XF)
  (step2 : ∀ cx', CCtx cx' sc usc gsc lv → cx'.wd = cx.wd → cx'.A = cx.A → ∀ x ∈ l, ∀ y ∈ l2 x, TurnP cx' t2 elt ifs2 st.glob st.loc up (P1 x) y (f x y)) (hf : ∀ env z, foldedSetIterable i2 env z = pure z := by intro _ _; rfl) :
  CompL cx lv sc usc gsc (.ListComp elt [⟨t1, i1, [], 0⟩, ⟨t2, i2, ifs2, 0⟩] scope pos) up st p l (EndV st vs) := by
 intro cx' L' hw hA
 subst hv
 refine LoopC.map2 L'.ok L'.hn (fun fr => fr.length = sc.length) P1 l2 f (by simp) (fun q e => ⟨l, fun fr => ?_⟩) (step cx' L' hw hA) (step2 cx' L' hw hA) h10 (hf _) hz fun fr _ => ⟨rfl, rfl, rfl⟩
 rw [← hlive q e]
 exact itemsOf_same rfl rfl q
end
theorem ev_negC {cx : Cx} {st : St} {X : XV → St → Prop} {k : Int} {kk : Nat} {p pos : Pos} {Q : PV → St → Prop} (h : Q (.c (.int (-k))) st) : EvE cx (.UnaryOp .USub (.Constant (.int k) kk p) pos) st Q X := fun gh s R => by
 refine wpAny_UnaryOp (wpAny_mono (EvE.int (cx := cx) (X := X) (Q := fun p st₁ => p = .c (.int k) ∧ st₁ = st) ⟨rfl, rfl⟩ gh s R) ?_ fun _ _ x => x)
 rintro v s₁ ⟨p, st₁, g₁, R₁, T₁, S₁, r₁, rfl, rfl⟩
 replace r₁ := r₁.toC; replace r₁ := r₁.inv; obtain ⟨u, rfl⟩ := r₁
 exact PyProof.Rows.neg_int ((PostV.same R₁ h (.c (.int ..)) _).up T₁ S₁)
theorem CCtx.asg {cx : Cx} {sc : List (Str × NameKind)} {usc gsc : List Str} {lv : Nat} {st : St} {X : XV → St → Prop} (L : CCtx cx sc usc gsc lv) (i : Nat) {x : Str} {k : NameKind} {pos : Pos} {p : PV} {Q : St → Prop} (hx : sc[i]? = some (x, k)) (h : Q { st with fr := st.fr.set i (some p) }) (hk : k = .local ∨ k = .cell := by first | exact .inl rfl | exact .inr rfl) : AsG cx (.Name x pos) p st Q X :=
 AsG.name L.ok (by rw [L.sc]; exact hx) hk h
theorem Ctx.asg {cx : Cx} {sc : List (Str × NameKind)} {gsc : List Str} {scope : Scope} {lv : Nat} {st : St} {X : XV → St → Prop} (L : Ctx cx sc gsc lv scope) (i : Nat) {x : Str} {k : NameKind} {pos : Pos} {p : PV} {Q : St → Prop} (hx : sc[i]? = some (x, k)) (h : Q { st with fr := st.fr.set i (some p) }) (hk : k = .local ∨ k = .cell := by first | exact .inl rfl | exact .inr rfl) : AsG cx (.Name x pos) p st Q X :=
 AsG.name L.ok (L.s i hx) hk h
noncomputable def nums (l : List Nat) : List CV := l.map fun k : Nat => CV.int k
theorem range4 : rangeItems 0 4 1 = nums (List.range 4) := rfl
theorem range4_items {st : St} : itemsOf st (.c (.range 0 4 1)) = some (nums (List.range 4)) := by rw [← range4]; exact itemsOf_range (n := 4) (by decide)
theorem mem_nums {l : List Nat} {x : CV} (h : x ∈ nums l) : ∃ k ∈ l, x = .int (k : Nat) := by
 obtain ⟨k, hk, rfl⟩ := List.mem_map.mp h
 exact ⟨k, hk, rfl⟩
noncomputable abbrev Prs : Type := List (Nat × Nat)
noncomputable def prs (l : Prs) : List CV := l.map fun p => .tup [.int p.1, .int p.2]
noncomputable def pairs12 : Prs := (List.range 4).flatMap fun i => (List.range 4).filterMap fun j => if i = j then none else some (i, j)
noncomputable def pairF (x y : CV) : Option CV := match x, y with
 | .int a, .int b => if a = b then none else some (.tup [.int a, .int b])
 | _, _ => none
theorem pairs_eq : prs pairs12 = (nums (List.range 4)).flatMap fun x => (nums (List.range 4)).filterMap (pairF x) := rfl
noncomputable def scOrd : List (Str × NameKind) := [("x", .local), ("left", .local), ("order", .local), ("n", .local)]
noncomputable def gscOrd : List Str := ["range"]
theorem scOkOrd : ScOk (defAt 23).scope scOrd gscOrd := .of (by decide +kernel)
theorem compOrd : CompOk (compScope ((defAt 23).body.getD 0 (.Pass default))) [("i", .local), ("j", .local)] [] ["range"] :=
 .of (by decide +kernel)
theorem erase_perm {α : Type} : ∀ {l : List α} {k : Nat} (h : k < l.length), (l[k] :: l.eraseIdx k).Perm l
 | _ :: _, 0, _ => .refl _
 | a :: l, k + 1, h => by
  have h' : k < l.length := by simpa using h
  show (l[k] :: a :: l.eraseIdx k).Perm (a :: l)
  exact (List.Perm.swap _ _ _).trans (.cons _ (erase_perm h'))
theorem erase_map {α β : Type} (f : α → β) : ∀ (l : List α) (k : Nat), (l.map f).eraseIdx k = (l.eraseIdx k).map f
 | [], _ => rfl
 | _ :: _, 0 => rfl
 | a :: l, k + 1 => by
  show f a :: (l.map f).eraseIdx k = f a :: (l.eraseIdx k).map f
  rw [erase_map f l k]
noncomputable def down (m : Nat) : List CV := (List.range m).map fun k : Nat => CV.int ((m - k : Nat) : Int)
theorem down_succ (m : Nat) : down (m + 1) = .int ((m + 1 : Nat) : Int) :: down m := by
 unfold down
 rw [List.range_succ_eq_map, List.map_cons, List.map_map]
 congr 1
 refine List.map_congr_left fun k _ => ?_
 show CV.int _ = _
 congr 2
 omega
section
variable {cx : Cx} {st : St} {X : XV → St → Prop} {lv : Nat}
inductive JOrd (g : List GObj) (r : List CV) (st : St) : Prop
 | mk (m : Nat) (x : Int) (ord rem : Prs) (o : Option PV) (a : r = down m) (b : m = rem.length) (c : m ≤ 12) (d : (ord ++ rem).Perm pairs12) (e : st = ⟨g, [prs rem, prs ord], [some (.c (.int x)), some (.loc 0), some (.loc 1), o], []⟩)
theorem pick_prs {rem : Prs} {k : Nat} (h : k < rem.length) : seqIndex? (k : Int) (prs rem).length = some k ∧ (prs rem)[k]? = some (.tup [.int rem[k].1, .int rem[k].2]) := by
 constructor
 ·unfold seqIndex?
  simp only [show ¬ ((k : Int) < 0) from by omega, if_false, prs, List.length_map]
  rw [if_pos (by rw [Bool.and_eq_true, decide_eq_true_eq, decide_eq_true_eq]; omega), Int.toNat_natCast]
 ·unfold prs
  rw [List.getElem?_map, List.getElem?_eq_getElem h]; rfl
theorem stepOrd (L : Ctx cx scOrd gscOrd lv (defAt 23).scope) {g : List GObj} {x : Int} {ord rem : Prs} {m : Nat} {Q : Fl → St → Prop} (hm : m + 1 = rem.length) (hm12 : m + 1 ≤ 12) (hp : (ord ++ rem).Perm pairs12) :
  ExB cx (forBody ((defAt 23).body.getD 2 (.Pass default))) ⟨g, [prs rem, prs ord], [some (.c (.int x)), some (.loc 0), some (.loc 1), some (.c (.int ((m + 1 : Nat) : Int)))], []⟩ (bodyQ Q (JOrd g (down m))) X := by
 have f := fmod_lt x (n := ((m + 1 : Nat) : Int)) (by omega)
 obtain ⟨k, hk⟩ : ∃ k : Nat, x.fmod ((m + 1 : Nat) : Int) = k := ⟨_, (Int.toNat_of_nonneg f.1).symm⟩
 have hkl : k < rem.length := by omega
 have hlen : ord.length + rem.length = 12 := List.length_append.symm.trans hp.length_eq
 have z1 : (prs rem).length ≤ 1000000 := (List.length_map _).symm ▸ (by omega)
 have z2 : (prs ord).length ≤ 1000000 := (List.length_map _).symm ▸ (by omega)
 have z3 : (k : Int) < 2 ^ 62 := by omega
 have z4 : (((m + 1 : Nat) : Int)) ≠ 0 := by omega
 have z5 : 0 < (((m + 1 : Nat) : Int)) ∧ (((m + 1 : Nat) : Int)) < 100000 := by omega
 have z6 : m = (rem.eraseIdx k).length := by rw [List.length_eraseIdx, if_pos hkl]; omega
 have hp2 : ((ord ++ [rem[k]]) ++ rem.eraseIdx k).Perm pairs12 := by
  refine .trans ?_ hp
  rw [List.append_assoc]
  exact .append_left _ (erase_perm hkl)
 have e1 : (prs rem).eraseIdx k = prs (rem.eraseIdx k) := erase_map _ _ _
 have e2 : prs ord ++ [CV.tup [.int rem[k].1, .int rem[k].2]] = prs (ord ++ [rem[k]]) := by unfold prs; rw [List.map_append]; rfl
 obtain ⟨s1, s2⟩ := pick_prs hkl
 clear f hlen hp hm
 refine ExB.cons (ExS.expr (EvE.meth PySem.F.plainAttrs_list PySem.F.slot_list_append PySem.F.type_list_append (L.v 2 rfl rfl ⟨HasT.list (l := prs ord) rfl trivial, EvL.cons (EvE.meth PySem.F.plainAttrs_list PySem.F.slot_list_pop PySem.F.type_list_pop (L.v 1 rfl rfl ⟨HasT.list (l := prs rem) rfl trivial,
  EvL.cons (EvE.v (.bin (r := .int k) (L.vv 0 rfl rfl) (L.vv 3 rfl rfl) (congrArg (fun x => some (CV.int x)) hk) (sMod z4)) (EvL.nil (Prim.popAt rfl (l := prs rem) (k := k) rfl z1 ⟨nz k, z3⟩ s1 s2 (EvL.nil (Prim.append rfl (l := prs ord) rfl z2 ?_)))))⟩))⟩)) L.ni rfl)
 refine L.bset 0 (.bin (L.vv 0 rfl rfl) (L.vv 3 rfl rfl) rfl (sFd z5)) (ExB.nil ⟨m, x.fdiv ((m + 1 : Nat) : Int), ord ++ [rem[k]], rem.eraseIdx k, I ((m + 1 : Nat) : Int), rfl, z6, Nat.le_of_succ_le hm12, hp2, ?_⟩)
 rw [← e1, ← e2]; rfl
theorem loopOrd (L : Ctx cx scOrd gscOrd lv (defAt 23).scope) {g : List GObj} {x : Int} {Q : Fl → St → Prop}
  (h : ∀ ord rem x o, ord.Perm pairs12 → Q .next ⟨g, [rem, prs ord], [some (.c (.int x)), some (.loc 0), some (.loc 1), o], []⟩) :
  ExS cx ((defAt 23).body.getD 2 (.Pass default)) ⟨g, [prs pairs12, []], [some (.c (.int x)), some (.loc 0), some (.loc 1), none], []⟩ Q X := by
 have e : itemsOf ⟨g, [prs pairs12, []], [some (.c (.int x)), some (.loc 0), some (.loc 1), none], []⟩ (.c (.range 12 0 (-1))) = some (down 12) := if_pos (e := Option.none) (show Builtin.Range.small 12 0 (-1) = true ∧ 0 ≤ Builtin.Range.rangeSize 12 0 (-1) by decide +kernel)
 refine ExS.for L.ok L.hn L.ce (JOrd g) (L.call 0 7 .type (EvL.cons (EvE.int (EvL.cons (EvE.int (EvL.cons (ev_negC (EvL.nil (Prim.range3 (by decide) (by decide +kernel) ⟨down 12, e, ⟨12, x, [], pairs12, none, rfl, rfl, Nat.le_refl _, .refl _, rfl⟩, (xnl rfl)⟩))))))))) ?_ ?_
 ·rintro y r _ ⟨m, x, ord, rem, o, hr, hm, hm12, hp, rfl⟩
  cases m with
  | zero => cases hr
  | succ m =>
   rw [down_succ] at hr
   cases hr
   exact L.asg 3 rfl (stepOrd L hm hm12 hp)
 ·rintro _ ⟨m, x, ord, rem, o, hr, hm, hm12, hp, rfl⟩
  cases m with
  | zero =>
   obtain rfl : rem = [] := List.length_eq_zero_iff.mp hm.symm
   rw [List.append_nil] at hp
   exact h _ _ _ _ hp
  | succ m => rw [down_succ] at hr; cases hr
theorem bodyOrd (L : Ctx cx scOrd gscOrd lv (defAt 23).scope) {g : List GObj} {x : Int} {Q : Fl → St → Prop}
  (h : ∀ ord rem fr, ord.Perm pairs12 → Q (.ret (.loc 1)) ⟨g, [rem, prs ord], fr, []⟩) :
  ExB cx (defAt 23).body ⟨g, [], [some (.c (.int x)), none, none, none], []⟩ Q X := by
 have C := L.ok
 refine ExB.cons (L.setL 1 true [("i", .local), ("j", .local)] [] ["range"] compOrd .nil (L.call 0 7 .type (EvL.cons (EvE.int (EvL.nil (Prim.range1 ⟨rfl, rfl, _, prs pairs12, range4_items, ?_, xtf, fun _ => ?_⟩))))))
 ·refine CompL.two (fun x fr => fr.length = 2 ∧ fr[0]? = some (some (.c x))) (fun _ => nums (List.range 4)) pairF pairs_eq (by decide) (xnl rfl) (fun _ _ h => h.1) ?_ ?_
  ·intro cx' L' _ _ y hy fr hf
   obtain ⟨_, o, rfl⟩ := len2 hf
   refine L'.asg 0 rfl ⟨_, ⟨rfl, rfl⟩, rfl, ?_⟩
   ·exact L'.call 0 7 .type (EvL.cons (EvE.int (EvL.nil (Prim.range1 ⟨rfl, (xnl rfl), range4_items⟩))))
  ·intro cx' L' _ _ y hy z hz fr hf
   obtain ⟨a, _, rfl⟩ := mem_nums hy
   obtain ⟨b, _, rfl⟩ := mem_nums hz
   obtain ⟨hf1, hf2⟩ := hf
   obtain ⟨_, o, rfl⟩ := len2 hf1
   obtain rfl := Option.some.inj hf2
   refine L'.asg 1 rfl ⟨_, ⟨rfl, rfl⟩, rfl, ?_⟩
   refine EvT.cmp (L'.v 0 rfl rfl (L'.v 1 rfl rfl ⟨_, _, _, rfl, rfl, rfl, fun e => ⟨rfl, xtf, fun _ => ?_⟩, fun e => ⟨rfl, fun _ => ?_, xff⟩⟩))
   ·refine EvE.tup (EvL.cons (L'.v 0 rfl rfl (EvL.cons (L'.v 1 rfl rfl (EvL.nil ⟨[.int a, .int b], rfl, by simp, rfl, _, rfl, ?_⟩)))))
    show (if _ then _ else _) = _
    rw [if_neg (by simpa using e)]
   ·show (if _ then _ else _) = _
    rw [if_pos (by simpa using e)]
 ·refine ExB.cons (L.set 2 (EvE.lstLoc (EvL.nil ⟨[], rfl, by simp, ?_⟩)))
  refine ExB.cons (loopOrd L fun ord rem x o hp => ?_)
  exact ExB.cons (ExS.ret (L.v 2 rfl rfl (h _ _ _ hp)))
end
theorem call_order {W : Wd} (Tp : TopA W) {lv : Nat} {x : Int} {glob : List GObj} :
  CallOk W (lv + 1) (.ref 266) [.c (.int x)] [] glob (fun r fr g => fr = false ∧ g = glob ∧ ∃ ord, r = .lst (prs ord) ∧ ord.Perm pairs12) (fun _ _ => False) := by
 obtain ⟨fd, F⟩ := Tp.lorder
 refine CallOk.pos Tp (bs := [("x", .c (.int x))]) F scOkOrd rfl rfl (fun fd vs hl => by obtain ⟨_, rfl⟩ := len1 hl; rfl) ?_
 ·intro cx L hw
  exact bodyOrd L fun ord rem fr hp => ⟨.lst (prs ord), false, rfl, xff, .inl rfl, rfl, by rw [List.take_length], ord, rfl, hp⟩
noncomputable def prc (a b : Nat) : Int := if a = b then 0 else if (a = 97 ∧ b = 65) ∨ (a = 65 ∧ b = 97) then 1 else 2
noncomputable def two : Prs := [(1, 2), (0, 2), (0, 1)]
noncomputable def pAt (x y : List Nat) (i k : Nat) : Int := prc (x.getD i 0) (y.getD k 0)
noncomputable def leastL (x y : List Nat) : List Int := two.flatMap fun a => two.map fun b => pAt x y a.1 b.1 + pAt x y a.2 b.2
noncomputable def farOf (x y : List Nat) : Int := min (pAt x y 0 0 + pAt x y 1 1 + pAt x y 2 2) (4 + minOf (leastL x y))
noncomputable def chOf : CV → Nat
 | .str z => z.cps.toList.headD 0
 | _ => 0
noncomputable def cell1 (a : Nat) (c : CV) : CV := .int (prc a (chOf c))
noncomputable def row1 (y : List Nat) (c : CV) : CV := .lst (y.map fun b => .int (prc (chOf c) b))
theorem fm_all {α : Type} (g : α → CV) (f : CV → CV) : ∀ l : List α, (l.map g).filterMap (fun c => some (f c)) = l.map fun a => f (g a)
 | [] => rfl
 | a :: l => by rw [List.map_cons, List.filterMap_cons, List.map_cons, fm_all g f l]
theorem case_any (a b : Nat) : memB (.str (S ([a] ++ [b]))) (.tup [.str (S [97, 65]), .str (S [65, 97])]) = some (decide ((a = 97 ∧ b = 65) ∨ (a = 65 ∧ b = 97))) := by
 show some (S [97, 65] == S [a, b] || (S [65, 97] == S [a, b] || false)) = _
 have e : ∀ c d : Nat, (S [c, d] == S [a, b]) = decide (a = c ∧ b = d) := fun c d => by
  rw [S_beq, Bool.eq_iff_iff, beq_iff_eq, decide_eq_true_iff]
  exact ⟨fun h => ⟨(List.cons.inj h).1.symm, (List.cons.inj (List.cons.inj h).2).1.symm⟩, fun h => by rw [h.1, h.2]⟩
 rw [e, e, Bool.or_false, ← Bool.decide_or]
theorem chars_S (l : List Nat) : chars (S l) = l.map fun c => .str (S [c]) := by
 unfold chars S
 simp
noncomputable abbrev eltScope (s : Stmt) : Scope := scAt s [0]
noncomputable abbrev argScope (s : Stmt) : Scope := scAt s [0]
noncomputable def scFar : List (Str × NameKind) := [("x", .local), ("y", .cell), ("price", .cell), ("two", .cell), ("least", .local)]
noncomputable def gscFar : List Str := ["min"]
theorem scOkFar : ScOk (defAt 29).scope scFar gscFar := .of (by decide +kernel)
theorem compFar1 : CompOk (compScope ((defAt 29).body.getD 0 (.Pass default))) [("one", .cell)] ["y"] [] :=
 .of (by decide +kernel)
theorem compFar2 : CompOk (eltScope ((defAt 29).body.getD 0 (.Pass default))) [("other", .local)] ["one"] [] :=
 .of (by decide +kernel)
theorem compFar3 : CompOk (argScope ((defAt 29).body.getD 2 (.Pass default))) [("i", .local), ("j", .local), ("k", .local), ("n", .local)] ["price", "two"] [] :=
 .of (by decide +kernel)
noncomputable def priceV (x y : List Nat) : CV := .lst (x.map fun a => .lst (y.map fun b => .int (prc a b)))
theorem pick_map {α : Type} {l : List α} {f : α → CV} {i : Nat} {a : α} (h : l[i]? = some a) : (pick (l.map f) (i : Int)).map PV.c = some (.c (f a)) := by
 have hi : i < l.length := (List.getElem?_eq_some_iff.mp h).1
 rw [pick_at' (by omega) (by rw [List.length_map]; omega), Int.toNat_natCast, List.getElem?_map, h]; rfl
noncomputable def sumF (x y : List Nat) (a b : CV) : Option CV := match a, b with
 | .tup [.int i, .int j], .tup [.int k, .int n] => some (.int (pAt x y i.toNat k.toNat + pAt x y j.toNat n.toNat))
 | _, _ => none
theorem least_eq (x y : List Nat) : (leastL x y).map CV.int = (prs two).flatMap fun a => (prs two).filterMap (sumF x y a) := rfl
theorem mem_prs {l : Prs} {x : CV} (h : x ∈ prs l) : ∃ p ∈ l, x = .tup [.int (p.1 : Nat), .int (p.2 : Nat)] := by
 obtain ⟨p, hp, rfl⟩ := List.mem_map.mp h
 exact ⟨p, hp, rfl⟩
theorem two_lt : ∀ p ∈ two, p.1 < 3 ∧ p.2 < 3 := by decide
inductive CPairs : List Expr → Prs → Prop
 | nil : CPairs [] []
 | cons {a b : Nat} {k1 k2 kk : Nat} {p1 p2 p3 : Pos} {es : List Expr} {l : Prs} : CPairs es l → CPairs (.Tuple [.Constant (.int a) k1 p1, .Constant (.int b) k2 p2] kk p3 :: es) ((a, b) :: l)
section
variable {cx : Cx} {st : St} {X : XV → St → Prop} {lv : Nat} {sc : List (Str × NameKind)} {gsc usc : List Str} {scope : Scope}
theorem ev_cpairs {es : List Expr} {l : Prs} {Q : List PV → St → Prop} (c : CPairs es l) (h : Q ((prs l).map .c) st) : EvL cx es st Q X := by
 induction c generalizing Q with
 | nil => exact EvL.nil h
 | cons _ ih => exact EvL.cons (EvE.tup (EvL.cons (EvE.int (EvL.cons (EvE.int (EvL.nil ⟨_, rfl, by simp, ih h⟩))))))
theorem ev_lpairs {es : List Expr} {l : Prs} {pos : Pos} {Q : PV → St → Prop} (c : CPairs es l) (hz : l.length ≤ 1000) (h : Q (.c (.lst (prs l))) st) : EvE cx (.List es pos) st Q X :=
 EvE.lst (ev_cpairs c ⟨prs l, rfl, by unfold prs; rw [List.length_map]; exact hz, h⟩)
theorem ev_price {x y : List Nat} {i k : Nat} {o e1 e2 : Expr} {p1 pos : Pos} {Q : PV → St → Prop} (hx : x.length = 3) (hy : y.length = 3) (hi : i < 3) (hk : k < 3)
  (ho : ∀ Q : PV → St → Prop, Q (.c (priceV x y)) st → EvE cx o st Q X) (h1 : ∀ Q : PV → St → Prop, Q (.c (.int (i : Nat))) st → EvE cx e1 st Q X) (h2 : ∀ Q : PV → St → Prop, Q (.c (.int (k : Nat))) st → EvE cx e2 st Q X)
  (h : Q (.c (.int (pAt x y i k))) st) (g1 : ∀ ov iv, subscripted e1 false ov iv = operate [ov, iv] (getItem ov iv) := by intro _ _; rfl) (g2 : ∀ ov iv, subscripted e2 false ov iv = operate [ov, iv] (getItem ov iv) := by intro _ _; rfl) : EvE cx (.Subscript (.Subscript o e1 p1) e2 pos) st Q X := by
 have ei : x[i]? = some (x.getD i 0) := by rw [List.getD_eq_getElem?_getD, List.getElem?_eq_getElem (by omega)]; rfl
 have ek : y[k]? = some (y.getD k 0) := by rw [List.getD_eq_getElem?_getD, List.getElem?_eq_getElem (by omega)]; rfl
 refine EvE.idx (EvE.idx (ho _ (h1 _ ⟨i, _, rfl, by first | exact nz _ | decide | omega, by first | exact nlt4 (by assumption) | decide | omega, pick_map (f := fun a => .lst (y.map fun b => .int (prc a b))) ei, h2 _ ⟨k, _, rfl, by first | exact nz _ | decide | omega, by first | exact nlt4 (by assumption) | decide | omega, pick_map (f := fun b => .int (prc (x.getD i 0) b)) ek, h⟩⟩)) g1) g2
theorem EvV.price {x y : List Nat} {i k : Nat} {o e1 e2 : Expr} {p1 pos : Pos} (hx : x.length = 3) (hy : y.length = 3) (hi : i < 3) (hk : k < 3) (ho : EvV cx o st (.c (priceV x y))) (h1 : EvV cx e1 st (.c (.int (i : Nat)))) (h2 : EvV cx e2 st (.c (.int (k : Nat))))
  (g1 : ∀ ov iv, subscripted e1 false ov iv = operate [ov, iv] (getItem ov iv) := by intro _ _; rfl) (g2 : ∀ ov iv, subscripted e2 false ov iv = operate [ov, iv] (getItem ov iv) := by intro _ _; rfl) : EvV cx (.Subscript (.Subscript o e1 p1) e2 pos) st (.c (.int (pAt x y i k))) :=
 fun _ _ q => ev_price hx hy hi hk (fun _ q => ho _ _ q) (fun _ q => h1 _ _ q) (fun _ q => h2 _ _ q) q g1 g2
theorem CCtx.vv (L : CCtx cx sc usc gsc lv) (i : Nat) {x : Str} {pos : Pos} {p : PV} (hx : sc[i]? = some (x, .local)) (hp : st.fr[i]? = some (some p)) : EvV cx (.Name x pos) st p := fun _ _ h => L.v i hx hp h
theorem CCtx.vf (L : CCtx cx sc usc gsc lv) (i : Nat) {x : Str} {pos : Pos} {p : CV} (hx : usc[i]? = some x) (hp : st.up[i]? = some p) : EvV cx (.Name x pos) st (.c p) := fun _ _ h => L.f i hx hp h
theorem EvV.ife {t a b : Expr} {pos : Pos} {c : Bool} {p : PV} (h : EvTV cx t st c) (h1 : c = true → EvV cx a st p) (h2 : c = false → EvV cx b st p) : EvV cx (.IfExp t a b pos) st p := fun _ _ q => EvE.ife (h _ _ ⟨fun e => h1 e _ _ q, fun e => h2 e _ _ q⟩)
theorem EvTV.memIn {a b : Expr} {pos : Pos} {x y : CV} {r : Bool} (ha : EvV cx a st (.c x)) (hb : EvV cx b st (.c y)) (e : memB x y = some r) (s : memS x y) (hm : behindInMarks .In b = false := by with_unfolding_all rfl) : EvTV cx (.Compare a [.In] [b] pos) st r := fun _ _ q => EvT.mem (.inl rfl) (ha _ _ (hb _ _ ⟨x, y, r, rfl, rfl, e, s, q⟩)) hm
theorem farCell {n1 n2 : Str} {a b : Nat} {q1 q2 q3 q4 p1 p2 p3 p4 p5 p6 p7 p8 p9 p10 p11 : Pos} {k1 k2 k3 k4 k5 k6 : Nat} (h1 : ∀ p, EvV cx (.Name n1 p) st (.c (.str (S [a])))) (h2 : ∀ p, EvV cx (.Name n2 p) st (.c (.str (S [b])))) :
  EvV cx (.IfExp (.Compare (.Name n1 q1) [.Eq] [.Name n2 q2] p1) (.Constant (.int 0) k1 p2) (.IfExp (.Compare (.BinOp (.Name n1 q3) .Add (.Name n2 q4) p3) [.In] [.Tuple [.Constant (.str "aA") k2 p4, .Constant (.str "Aa") k3 p5] k6 p6] p7) (.Constant (.int 1) k4 p8) (.Constant (.int 2) k5 p9) p10) p11) st (.c (.int (prc a b))) := by
 have l1 : ("aA" : Str) = S [97, 65] := lit _ _ (by decide +kernel)
 have l2 : ("Aa" : Str) = S [65, 97] := lit _ _ (by decide +kernel)
 refine .ife (.cmp (h1 _) (h2 _) rfl) (fun e => ?_) fun e => ?_
 ·rw [S_beq] at e
  have e : a = b := (List.cons.inj (beq_iff_eq.mp e)).1
  rw [show prc a b = 0 from if_pos e]; exact .int
 ·rw [S_beq] at e
  have hne : ¬ a = b := fun z => by rw [z, beq_self_eq_true] at e; exact xtf e
  refine .ife (.memIn (.addS (h1 _) (h2 _) (Nat.le_of_ble_eq_true rfl)) (.tup (l := [.str (S [97, 65]), .str (S [65, 97])]) (.cons (.lit l1) (.cons (.lit l2) .nil)) rfl (Nat.le_of_ble_eq_true rfl)) (case_any a b) ?_) (fun e => ?_) fun e => ?_
  ·exact List.forall_mem_cons.mpr ⟨⟨_, rfl⟩, List.forall_mem_cons.mpr ⟨⟨_, rfl⟩, fun _ h => (List.not_mem_nil h).elim⟩⟩
  ·rw [show prc a b = 1 from (if_neg hne).trans (if_pos (of_decide_eq_true e))]; exact .int
  ·rw [show prc a b = 2 from (if_neg hne).trans (if_neg (of_decide_eq_false e))]; exact .int
theorem bodyFar (L : Ctx cx scFar gscFar lv (defAt 29).scope) {g : List GObj} {x y : List Nat} {Q : Fl → St → Prop} (hx : x.length = 3) (hy : y.length = 3)
  (h : ∀ fr, Q (.ret (.c (.int (farOf x y)))) ⟨g, [], fr, []⟩) : ExB cx (defAt 29).body ⟨g, [], [T x, T y, none, none, none], []⟩ Q X := by
 have C := L.ok
 have hh := C.hn L.hn
 refine ExB.cons (L.setC 2 [("one", .cell)] ["y"] [] compFar1 (.cell 1 (L.s 1 rfl) rfl .nil) (L.v 0 rfl rfl ⟨rfl, rfl, chars (S x), x.map fun a => .lst (y.map fun b => .int (prc a b)), rfl, ?_, ?_⟩))
 ·refine CompL.one (fun c => some (row1 y c)) ?_ ?_ (xnl rfl) ?_
  ·rw [chars_S, fm_all]; rfl
  ·rw [chars_S, List.length_map, hx]; decide
  ·intro cx' L' hw hA z hz
   rw [chars_S] at hz
   obtain ⟨a, ha, rfl⟩ := List.mem_map.mp hz
   refine TurnC.name L' (i := 0) rfl fun fr hf => ⟨rfl, xtf, fun _ => ?_⟩
   obtain ⟨o, rfl⟩ := len1 hf
   refine L'.comp [("other", .local)] ["one"] [] compFar2 (.cell 0 (by rw [L'.sc]; rfl) rfl .nil) (L'.f 0 rfl rfl ⟨rfl, rfl, chars (S y), y.map fun b => .int (prc a b), rfl, ?_, rfl, _, rfl, rfl⟩)
   refine CompL.one (fun c => some (cell1 a c)) ?_ ?_ (xnl rfl) ?_
   ·rw [chars_S, fm_all]; rfl
   ·rw [chars_S, List.length_map, hy]; decide
   ·intro cx2 L2 hw2 hA2 z hz
    rw [chars_S] at hz
    obtain ⟨b, hb, rfl⟩ := List.mem_map.mp hz
    refine TurnC.name L2 (i := 0) rfl fun fr hf => ⟨rfl, xtf, fun _ => ?_⟩
    obtain ⟨o, rfl⟩ := len1 hf
    exact EvE.v (farCell (fun _ => L2.vf 0 rfl rfl) (fun _ => L2.vv 0 rfl rfl)) ⟨rfl, _, rfl, rfl⟩
 refine @ExB.cons cx _ X _ _ _ ?_
 refine @ExS.asgName cx _ X C 3 _ _ _ _ _ _ (L.s 3 rfl) (.inr rfl) ?_ rfl
 refine @ev_lpairs cx _ X _ two _ _ (.cons (.cons (.cons .nil))) (by decide) ?_
 refine ExB.cons (L.set 4 (L.call 0 6 .builtin (EvL.cons (L.comp [("i", .local), ("j", .local), ("k", .local), ("n", .local)] ["price", "two"] [] compFar3 (.cell 2 (L.s 2 rfl) rfl (.cell 3 (L.s 3 rfl) rfl .nil)) (L.c 3 rfl rfl ⟨rfl, rfl, prs two, (leastL x y).map .int, rfl, ?_, EvL.nil (Prim.min hh (fun e => ?_) ?_)⟩)))))
 ·refine CompL.two (fun a fr => fr.length = 4 ∧ ∃ p ∈ two, a = .tup [.int (p.1 : Nat), .int (p.2 : Nat)] ∧ fr[0]? = some (some (.c (.int (p.1 : Nat)))) ∧ fr[1]? = some (some (.c (.int (p.2 : Nat))))) (fun _ => prs two) (sumF x y) (least_eq x y) (by decide) (xnl rfl) (fun _ _ h => h.1) ?_ ?_
  ·intro cx' L' _ _ z hz fr hf
   obtain ⟨p, hp, rfl⟩ := mem_prs hz
   obtain ⟨o0, o1, o2, o3, rfl⟩ := len4 hf
   exact AsG.tup L'.ok L'.hn (L'.asg 0 rfl (L'.asg 1 rfl ⟨_, ⟨rfl, p, hp, rfl, rfl, rfl⟩, rfl, L'.f 1 rfl rfl ⟨rfl, (xnl rfl), rfl⟩⟩)) rfl
  ·intro cx' L' _ _ z hz w hw fr hf
   obtain ⟨q, hq, rfl⟩ := mem_prs hw
   obtain ⟨hf1, p, hp, rfl, hf2, hf3⟩ := hf
   obtain ⟨_, _, o2, o3, rfl⟩ := len4 hf1
   obtain rfl := Option.some.inj hf2
   obtain rfl := Option.some.inj hf3
   obtain ⟨p1, p2⟩ := two_lt p hp
   obtain ⟨q1, q2⟩ := two_lt q hq
   refine AsG.tup L'.ok L'.hn (L'.asg 2 rfl (L'.asg 3 rfl ⟨_, ⟨rfl, p, hp, rfl, rfl, rfl⟩, rfl, rfl, xtf, fun _ => ?_⟩)) rfl
   exact EvE.v (.bin (.price hx hy p1 q1 (L'.vf 0 rfl rfl) (L'.vv 0 rfl rfl) (L'.vv 2 rfl rfl)) (.price hx hy p2 q2 (L'.vf 0 rfl rfl) (L'.vv 1 rfl rfl) (L'.vv 3 rfl rfl)) rfl trivial) ⟨rfl, _, rfl, rfl⟩
 ·simp [leastL, two] at e
 ·exact ExB.ret (L.vcall 0 6 .builtin (.cons (.bin (.bin (.price hx hy (i := 0) (k := 0) (by decide) (by decide) (L.vc 2 rfl rfl) .int .int) (.price hx hy (i := 1) (k := 1) (by decide) (by decide) (L.vc 2 rfl rfl) .int .int) rfl trivial) (.price hx hy (i := 2) (k := 2) (by decide) (by decide) (L.vc 2 rfl rfl) .int .int) rfl trivial) (.cons (.bin .int (L.vv 4 rfl rfl) rfl trivial) .nil)) fun _ _ q => Prim.min2 hh q) (h _)
end
theorem call_far {W : Wd} (Tp : TopA W) {lv : Nat} {x y : List Nat} {glob : List GObj} (hx : x.length = 3) (hy : y.length = 3) :
  CallOk W (lv + 1) (.ref 302) [.c (.str (S x)), .c (.str (S y))] [] glob (fun r fr g => r = .int (farOf x y) ∧ fr = false ∧ g = glob) (fun _ _ => False) := by
 obtain ⟨fd, F⟩ := Tp.lfar
 refine CallOk.pos Tp (bs := [("x", .c (.str (S x))), ("y", .c (.str (S y)))]) F scOkFar rfl rfl (fun fd vs hl => by obtain ⟨_, _, rfl⟩ := len2 hl; rfl) ?_
 ·intro cx L hw
  exact bodyFar L hx hy fun fr => RetOk.c rfl ⟨rfl, rfl, rfl⟩
noncomputable abbrev Mat : Type := Nat → Nat → Int
noncomputable def rowV (F : Mat) (i : Nat) : List CV := (List.range 4).map fun j => .int (F i j)
noncomputable def matL (F : Mat) : List (List CV) := (List.range 4).map fun i => rowV F i
noncomputable def matV (F : Mat) : CV := .lst ((List.range 4).map fun i => .lst (rowV F i))
noncomputable def upd (F : Mat) (i j : Nat) (v : Int) : Mat := fun a b => if a = i ∧ b = j then v else F a b
theorem lt4 {i : Nat} (h : i < 4) : i = 0 ∨ i = 1 ∨ i = 2 ∨ i = 3 := by omega
theorem mat_set (F : Mat) {i j : Nat} (hi : i < 4) (hj : j < 4) (v : Int) : (matL F).set i ((rowV F i).set j (.int v)) = matL (upd F i j v) := by
 rcases lt4 hi with rfl | rfl | rfl | rfl <;> rcases lt4 hj with rfl | rfl | rfl | rfl <;> rfl
theorem mat_row (F : Mat) {i : Nat} (hi : i < 4) : (matL F)[i]? = some (rowV F i) := by
 rcases lt4 hi with rfl | rfl | rfl | rfl <;> rfl
theorem row_pick (F : Mat) {i j : Nat} (hj : j < 4) : (pick (rowV F i) (j : Int)).map PV.c = some (.c (.int (F i j))) := by
 rcases lt4 hj with rfl | rfl | rfl | rfl <;> rfl
theorem locs_pick {i : Nat} (hi : i < 4) : (pick [0, 1, 2, 3] (i : Int)).map PV.loc = some (.loc i) := by
 rcases lt4 hi with rfl | rfl | rfl | rfl <;> rfl
theorem matV_pick (F : Mat) {i : Nat} (hi : i < 4) : (pick ((List.range 4).map fun i => CV.lst (rowV F i)) (i : Int)).map PV.c = some (.c (.lst (rowV F i))) := by
 rcases lt4 hi with rfl | rfl | rfl | rfl <;> rfl
noncomputable def wPairs : Prs := [(1, 0), (2, 0), (2, 1), (3, 0), (3, 1), (3, 2)]
noncomputable def nAt (nm : List (List Nat)) (i : Nat) : List Nat := nm.getD i []
noncomputable def wStepG (f : Mat) (F : Mat) (p : Nat × Nat) : Mat := upd (upd F p.1 p.2 (f p.1 p.2)) p.2 p.1 (f p.1 p.2)
noncomputable def wayG (f : Mat) : Mat := fun i j => if i = j then 0 else if j < i then f i j else f j i
noncomputable def wStep (nm : List (List Nat)) : Mat → Nat × Nat → Mat := wStepG fun i j => farOf (nAt nm i) (nAt nm j)
noncomputable def wayAt (nm : List (List Nat)) : Mat := wayG fun i j => farOf (nAt nm i) (nAt nm j)
theorem ways_finG (f : Mat) : matL (wPairs.foldl (wStepG f) fun _ _ => 0) = matL (wayG f) := rfl
theorem ways_fin (nm : List (List Nat)) : matL (wPairs.foldl (wStep nm) fun _ _ => 0) = matL (wayAt nm) := ways_finG _
theorem w_lt : ∀ p ∈ wPairs, p.1 < 4 ∧ p.2 < 4 ∧ p.1 ≠ p.2 := by decide
structure Nm4 (nm : List (List Nat)) : Prop where
 len : nm.length = 4
 three : ∀ x ∈ nm, x.length = 3
theorem Nm4.get {nm : List (List Nat)} (N : Nm4 nm) {i : Nat} (hi : i < 4) : nm[i]? = some (nAt nm i) := by
 have := N.len
 unfold nAt
 rw [List.getD_eq_getElem?_getD, List.getElem?_eq_getElem (by omega)]; rfl
theorem Nm4.at {nm : List (List Nat)} (N : Nm4 nm) {i : Nat} (hi : i < 4) : (nAt nm i).length = 3 := N.three _ (List.mem_of_getElem? (N.get hi))
noncomputable def scWays : List (Str × NameKind) := [("names", .local), ("far", .local), ("i", .local), ("j", .local)]
noncomputable def gscWays : List Str := ["range", "_law_far"]
theorem scOkWays : ScOk (defAt 30).scope scWays gscWays := .of (by decide +kernel)
theorem compWays : CompOk (compScope ((defAt 30).body.getD 0 (.Pass default))) [("k", .local)] [] [] :=
 .of (by decide +kernel)
section
variable {cx : Cx} {st : St} {X : XV → St → Prop} {lv : Nat}
theorem ev_farL {F : Mat} {i j : Nat} {o e1 e2 : Expr} {p1 pos : Pos} {Q : PV → St → Prop} (hl : st.loc = matL F) (hi : i < 4) (hj : j < 4)
  (ho : ∀ Q : PV → St → Prop, Q (.locs [0, 1, 2, 3]) st → EvE cx o st Q X) (h1 : ∀ Q : PV → St → Prop, Q (.c (.int (i : Nat))) st → EvE cx e1 st Q X) (h2 : ∀ Q : PV → St → Prop, Q (.c (.int (j : Nat))) st → EvE cx e2 st Q X)
  (h : Q (.c (.int (F i j))) st) (g1 : ∀ ov iv, subscripted e1 false ov iv = operate [ov, iv] (getItem ov iv) := by intro _ _; rfl) (g2 : ∀ ov iv, subscripted e2 false ov iv = operate [ov, iv] (getItem ov iv) := by intro _ _; rfl) : EvE cx (.Subscript (.Subscript o e1 p1) e2 pos) st Q X := by
 refine EvE.idx (EvE.idx (ho _ (h1 _ ⟨i, .loc i, rfl, by first | exact nz _ | decide | omega, by first | exact nlt4 (by assumption) | decide | omega, locs_pick hi, h2 _ ⟨j, .c (.int (F i j)), rfl, by first | exact nz _ | decide | omega, by first | exact nlt4 (by assumption) | decide | omega, ?_, h⟩⟩)) g1) g2
 show (st.loc[i]?).bind _ = _
 rw [hl, mat_row F hi]
 exact row_pick F hj
theorem ev_farV {F : Mat} {i j : Nat} {o e1 e2 : Expr} {p1 pos : Pos} {Q : PV → St → Prop} (hi : i < 4) (hj : j < 4)
  (ho : ∀ Q : PV → St → Prop, Q (.c (matV F)) st → EvE cx o st Q X) (h1 : ∀ Q : PV → St → Prop, Q (.c (.int (i : Nat))) st → EvE cx e1 st Q X) (h2 : ∀ Q : PV → St → Prop, Q (.c (.int (j : Nat))) st → EvE cx e2 st Q X)
  (h : Q (.c (.int (F i j))) st) (g1 : ∀ ov iv, subscripted e1 false ov iv = operate [ov, iv] (getItem ov iv) := by intro _ _; rfl) (g2 : ∀ ov iv, subscripted e2 false ov iv = operate [ov, iv] (getItem ov iv) := by intro _ _; rfl) : EvE cx (.Subscript (.Subscript o e1 p1) e2 pos) st Q X :=
 EvE.idx (EvE.idx (ho _ (h1 _ ⟨i, .c (.lst (rowV F i)), rfl, by first | exact nz _ | decide | omega, by first | exact nlt4 (by assumption) | decide | omega, matV_pick F hi, h2 _ ⟨j, .c (.int (F i j)), rfl, by first | exact nz _ | decide | omega, by first | exact nlt4 (by assumption) | decide | omega, row_pick F hj, h⟩⟩)) g1) g2
theorem EvV.farL {F : Mat} {i j : Nat} {o e1 e2 : Expr} {p1 pos : Pos} (hl : st.loc = matL F) (hi : i < 4) (hj : j < 4) (ho : EvV cx o st (.locs [0, 1, 2, 3])) (h1 : EvV cx e1 st (.c (.int (i : Nat)))) (h2 : EvV cx e2 st (.c (.int (j : Nat))))
  (g1 : ∀ ov iv, subscripted e1 false ov iv = operate [ov, iv] (getItem ov iv) := by intro _ _; rfl) (g2 : ∀ ov iv, subscripted e2 false ov iv = operate [ov, iv] (getItem ov iv) := by intro _ _; rfl) : EvV cx (.Subscript (.Subscript o e1 p1) e2 pos) st (.c (.int (F i j))) :=
 fun _ _ h => ev_farL hl hi hj (fun _ q => ho _ _ q) (fun _ q => h1 _ _ q) (fun _ q => h2 _ _ q) h g1 g2
theorem put_far {F : Mat} {i j : Nat} {v : Int} (hl : st.loc = matL F) (hi : i < 4) (hj : j < 4) : st.put (.loc i) ((rowV F i).set ((j : Nat) : Int).toNat (.int v)) = { st with loc := matL (upd F i j v) } := by
 show { st with loc := st.loc.set i _ } = _
 rw [hl, Int.toNat_natCast, mat_set F hi hj]
theorem ExB.setFar {F : Mat} {i j : Nat} {v : Int} {e o e1 e2 : Expr} {p1 p2 pos : Pos} {bs : List Stmt} {Q : Fl → St → Prop} (he : EvV cx e st (.c (.int v))) (hl : st.loc = matL F) (hi : i < 4) (hj : j < 4) (ho : EvV cx o st (.locs [0, 1, 2, 3])) (h1 : EvV cx e1 st (.c (.int (i : Nat)))) (h2 : EvV cx e2 st (.c (.int (j : Nat))))
  (k : ExB cx bs { st with loc := matL (upd F i j v) } Q X) (g1 : ∀ ov iv, subscripted e1 false ov iv = operate [ov, iv] (getItem ov iv) := by intro _ _; rfl) (hs : swapsWith e (some (.Subscript (.Subscript o e1 p1) e2 p2)) pos.line cx.env = pure false := by rfl) : ExB cx (.Assign [.Subscript (.Subscript o e1 p1) e2 p2] e pos :: bs) st Q X := by
 have hr : st.loc[i]? = some (rowV F i) := by rw [hl]; exact mat_row F hi
 have z : ((j : Nat) : Int) < (rowV F i).length := Int.ofNat_lt.mpr hj
 refine ExB.cons (ExS.setIdx (he _ _ (EvV.idx ho h1 (nz _) (nlt4 hi) (locs_pick hi) g1 _ _ (h2 _ _ ⟨.int v, j, rowV F i, rfl, rfl, rfl, hr, Int.natCast_nonneg j, z, Nat.le_of_ble_eq_true rfl, ?_⟩))) hs)
 show ExB cx bs (st.put (.loc i) _) Q X
 rw [put_far hl hi hj]
 exact k
inductive JWay (g : List GObj) (nm : List (List Nat)) (r : List CV) (st : St) : Prop
 | mk (done rest : Prs) (o2 o3 : Option PV) (a : r = prs rest) (b : wPairs = done ++ rest) (e : st = ⟨g, matL (done.foldl (wStep nm) fun _ _ => 0), [some (.c (.lst (cstrs nm))), some (.locs [0, 1, 2, 3]), o2, o3], []⟩)
theorem stepWay (L : Ctx cx scWays gscWays (lv + 1) (defAt 30).scope) {g : List GObj} {nm : List (List Nat)} {F : Mat} {i j : Nat} {Q : Fl → St → Prop} (N : Nm4 nm) (hi : i < 4) (hj : j < 4) (h : Q .next ⟨g, matL (wStep nm F (i, j)), [some (.c (.lst (cstrs nm))), some (.locs [0, 1, 2, 3]), some (.c (.int i)), some (.c (.int j))], []⟩) :
  ExB cx (forBody ((defAt 30).body.getD 1 (.Pass default))) ⟨g, matL F, [some (.c (.lst (cstrs nm))), some (.locs [0, 1, 2, 3]), some (.c (.int i)), some (.c (.int j))], []⟩ Q X := by
 have si := pick_map (f := fun x => CV.str (S x)) (N.get hi)
 have sj := pick_map (f := fun x => CV.str (S x)) (N.get hj)
 have hc : CallV cx.wd (lv + 1) (.ref 302) [.c (.str (S (nAt nm i))), .c (.str (S (nAt nm j)))] [] g (.int (farOf (nAt nm i) (nAt nm j))) := call_far L.top (N.at hi) (N.at hj)
 refine ExB.setFar (F := F) (L.vcall 1 28 (FnAt.callee L.top.lfar) (.cons (.idx (L.vv 0 rfl rfl) (L.vv 2 rfl rfl) (nz _) (nlt4 hi) si) (.cons (.idx (L.vv 0 rfl rfl) (L.vv 3 rfl rfl) (nz _) (nlt4 hj) sj) .nil)) (L.vprim hc)) rfl hi hj (L.vv 1 rfl rfl) (L.vv 2 rfl rfl) (L.vv 3 rfl rfl) ?_
 refine ExB.setFar (F := upd F i j (farOf (nAt nm i) (nAt nm j))) (EvV.farL rfl hi hj (L.vv 1 rfl rfl) (L.vv 2 rfl rfl) (L.vv 3 rfl rfl)) rfl hj hi (L.vv 1 rfl rfl) (L.vv 3 rfl rfl) (L.vv 2 rfl rfl) (ExB.nil ?_)
 rw [show upd F i j (farOf (nAt nm i) (nAt nm j)) i j = farOf (nAt nm i) (nAt nm j) from if_pos ⟨rfl, rfl⟩]
 exact h
theorem loopWays (L : Ctx cx scWays gscWays (lv + 1) (defAt 30).scope) {g : List GObj} {nm : List (List Nat)} {Q : Fl → St → Prop} (N : Nm4 nm)
  (h : ∀ fr, Q (.ret (.locs [0, 1, 2, 3])) ⟨g, matL (wayAt nm), fr, []⟩) :
  FinC 2 ((List.range 4).map PV.loc) ⟨g, List.replicate 4 [.int 0, .int 0, .int 0, .int 0], [some (.c (.lst (cstrs nm))), none, none, none], []⟩ (fun p st₃ => ExB cx ((defAt 30).body.drop 1) { st₃ with fr := st₃.fr.set 1 (some p) } Q X) := by
 refine ⟨[0, 1, 2, 3], rfl, ?_⟩
 show ExB cx _ ⟨g, matL fun _ _ => 0, [_, some (.locs [0, 1, 2, 3]), _, _], []⟩ Q X
 refine ExB.cons ?_
 refine @ExS.for cx _ X L.ok L.hn L.ce _ _ _ _ _ (JWay g nm) ?_ ?_ ?_ (by intro _; rfl)
 ·exact @ev_lpairs cx _ X _ wPairs _ _ (.cons (.cons (.cons (.cons (.cons (.cons .nil)))))) (by decide) ⟨prs wPairs, rfl, ⟨[], wPairs, _, _, rfl, rfl, rfl⟩, (xnl rfl)⟩
 ·rintro y r _ ⟨done, rest, o2, o3, hr, hw, rfl⟩
  cases rest with
  | nil => cases hr
  | cons p rest =>
   cases hr
   obtain ⟨hi, hj, _⟩ := w_lt p (by rw [hw]; simp)
   exact AsG.tup L.ok L.hn (L.asg 2 rfl (L.asg 3 rfl (stepWay L N hi hj ⟨done ++ [p], rest, I p.1, I p.2, rfl, by rw [hw]; simp, by rw [List.foldl_append]; rfl⟩))) rfl
 ·rintro _ ⟨done, rest, o2, o3, hr, hw, rfl⟩
  cases rest with
  | cons p rest => cases hr
  | nil =>
   rw [List.append_nil] at hw
   subst hw
   rw [ways_fin]
   exact ExB.cons (ExS.ret (L.v 1 rfl rfl (h _)))
theorem bodyWays (L : Ctx cx scWays gscWays (lv + 1) (defAt 30).scope) {g : List GObj} {nm : List (List Nat)} {Q : Fl → St → Prop} (N : Nm4 nm)
  (h : ∀ fr, Q (.ret (.locs [0, 1, 2, 3])) ⟨g, matL (wayAt nm), fr, []⟩) : ExB cx (defAt 30).body ⟨g, [], [some (.c (.lst (cstrs nm))), none, none, none], []⟩ Q X := by
 have C := L.ok
 refine ExB.cons (asgComp (i := 1) C L.hn 2 [("k", .local)] [] [] compWays .nil (L.s 1 rfl) (L.call 0 7 .type (EvL.cons (EvE.int (EvL.nil (Prim.range1 ⟨nums (List.range 4), range4_items, rfl, rfl, fun env _ C' => ?_⟩))))) (by rw [swaps_lc, L.scope]; rfl))
 ·refine LoopC.mono (Q := fun ps st => ps = (List.range 4).map .loc ∧ st.glob = g ∧ st.loc = List.replicate 4 [.int 0, .int 0, .int 0, .int 0]) ?_ fun ps st₂ ⟨e0, e1, e2⟩ => ?_
  rotate_left
  ·rw [e0, e1, e2]
   exact loopWays L N h
  refine LoopC.rule C' L.hn rfl (fun r ps st => ∃ n fr, n + r.length = 4 ∧ st = ⟨g, List.replicate n [.int 0, .int 0, .int 0, .int 0], fr, []⟩ ∧ ps = (List.range n).map .loc) ⟨0, _, rfl, rfl, rfl⟩ (xnl rfl) ?_ ?_
  ·rintro x r ps _ ⟨n, fr, hn, rfl, rfl⟩
   rw [List.length_cons] at hn
   refine AsG.name (i := 0) C' rfl (.inl rfl) ⟨xtf, fun _ => ?_⟩
   refine EvE.lstLoc (EvL.cons (EvE.int (EvL.cons (EvE.int (EvL.cons (EvE.int (EvL.cons (EvE.int (EvL.nil ⟨[.int 0, .int 0, .int 0, .int 0], rfl, by simp, ?_, n + 1, fr.set 0 (some (.c x)), by omega, ?_, ?_⟩)))))))))
   ·simp; omega
   ·show St.mk _ (List.replicate n _ ++ [_]) _ _ = _
    rw [← List.replicate_succ']
   ·show (List.range n).map PV.loc ++ [.loc (List.replicate n _).length] = _
    rw [List.length_replicate, List.range_succ, List.map_append]; rfl
  ·rintro ps _ ⟨n, fr, hn, rfl, rfl⟩
   have : n = 4 := by simpa using hn
   subst this
   exact ⟨rfl, rfl, rfl⟩
end
theorem call_ways {W : Wd} (Tp : TopA W) {lv : Nat} {nm : List (List Nat)} {glob : List GObj} (N : Nm4 nm) :
  CallOk W (lv + 2) (.ref 307) [.c (.lst (cstrs nm))] [] glob (fun r fr g => r = matV (wayAt nm) ∧ fr = false ∧ g = glob) (fun _ _ => False) := by
 obtain ⟨fd, F⟩ := Tp.lways
 refine CallOk.pos Tp (bs := [("names", .c (.lst (cstrs nm)))]) F scOkWays rfl rfl (fun fd vs hl => by obtain ⟨_, rfl⟩ := len1 hl; rfl) ?_
 ·intro cx L hw
  exact bodyWays L N fun fr => ⟨matV (wayAt nm), false, rfl, xff, .inl rfl, rfl, rfl, by rw [List.take_length]⟩
noncomputable abbrev Row : Type := Nat → Int
noncomputable def vecL (f : Row) : List CV := (List.range 4).map fun k => .int (f k)
noncomputable def upd1 (f : Row) (j : Nat) (v : Int) : Row := fun k => if k = j then v else f k
theorem vec_set (f : Row) {j : Nat} (hj : j < 4) (v : Int) : (vecL f).set j (.int v) = vecL (upd1 f j v) := by
 rcases lt4 hj with rfl | rfl | rfl | rfl <;> rfl
theorem vec_pick (f : Row) {j : Nat} (hj : j < 4) : (pick (vecL f) (j : Int)).map PV.c = some (.c (.int (f j))) := by
 rcases lt4 hj with rfl | rfl | rfl | rfl <;> rfl
noncomputable def lateStep (F : Mat) (s : Row × List Nat) (p : Nat × Nat) : Row × List Nat :=
 if s.1 p.1 + F p.1 p.2 < s.1 p.2 then (upd1 s.1 p.2 (s.1 p.1 + F p.1 p.2), s.2.filter (fun k => k != p.2) ++ [p.2]) else s
noncomputable def lateOf (F : Mat) (f : Row) (ord : Prs) : List Nat := (ord.foldl (lateStep F) (f, [])).2
noncomputable def scLate : List (Str × NameKind) := [("ports", .local), ("far", .local), ("order", .local), ("late", .local), ("now", .local), ("i", .local), ("j", .cell)]
theorem scOkLate : ScOk (defAt 31).scope scLate [] := .of (by decide +kernel)
noncomputable abbrev leftScope (s : Stmt) : Scope := scAt s [0]
theorem compLate : CompOk (leftScope ((ifBody ((forBody ((defAt 31).body.getD 1 (.Pass default))).getD 0 (.Pass default))).getD 1 (.Pass default))) [("k", .local)] ["j"] [] :=
 .of (by decide +kernel)
noncomputable def neF (j : Nat) (c : CV) : Option CV := match c with
 | .int a => if (a != (j : Int)) = true then some c else none
 | _ => none
theorem ne_nums (j : Nat) : ∀ l : List Nat, nums (l.filter fun k => k != j) = (nums l).filterMap (neF j)
 | [] => rfl
 | a :: l => by
  have ih := ne_nums j l
  show _ = (CV.int (a : Int) :: nums l).filterMap (neF j)
  have e : neF j (.int (a : Int)) = if (a != j) = true then some (.int (a : Int)) else none := by
   show (if ((a : Int) != (j : Int)) = true then _ else _) = _
   have : ((a : Int) != (j : Int)) = (a != j) := by
    rw [Bool.eq_iff_iff, bne_iff_ne, bne_iff_ne]; constructor <;> intro h <;> omega
   rw [this]
  rw [List.filterMap_cons, e, List.filter_cons]
  by_cases h : (a != j) = true
  ·rw [if_pos h, if_pos h]
   show CV.int (a : Int) :: nums _ = CV.int (a : Int) :: _
   rw [ih]
  ·rw [if_neg h, if_neg h]; exact ih
section
variable {cx : Cx} {st : St} {X : XV → St → Prop} {lv : Nat}
theorem swapPair (C : cx.Ok) (hn : cx.hn = true) {i j : Nat} {x y : Str} {k : Nat} {es : List Expr} {tp pos : Pos} {e : Expr} {Q : Fl → St → Prop} (hx : cx.sc[i]? = some (x, .local)) (hy : cx.sc[j]? = some (y, .local))
  (h : EvE cx e st (fun p st₁ => ∃ a b, p = .pair a b ∧ Q .next { st₁ with fr := (st₁.fr.set j (some (.loc b))).set i (some (.c a)) }) X)
  (hs : swapsWithSole [.Tuple es k tp] e pos.line cx.env = pure false) (hw : swappedStores [.Tuple es k tp] e cx.env = pure (some [x, y])) : ExS cx (.Assign [.Tuple es k tp] e pos) st Q X := fun gh s R => by
 refine Assign_Tuple_swapped (wpAny_mono (h gh s R) ?_ fun _ _ x => x) hs hw
 rintro v s₁ ⟨p, st₁, g₁, R₁, T₁, S₁, r₁, a, b, rfl, hq⟩
 replace r₁ := r₁.inv; obtain ⟨tad, v', ad, rfl, t, hd, r, e⟩ := r₁
 refine wpAny_mono (unpack_ok C hn t rfl) ?_ fun _ _ x => x
 rintro items s₂ ⟨rfl, h', rfl, hc⟩
 have R₂ := R₁.grow hc s₁.toks
 have T₂ : Tr g₁ s₁.heap g₁ h' := (Tr.refl ..).chg hc fun _ z => z.elim
 have r' := r.ext (T₂.ext R₁.ok)
 show wpAny cx.M cx.A (assignInOrder [fun v => bindName cx.env y v, fun v => bindName cx.env x v] [.ref ad, v']) _ _ _
 refine wpAny_assignInOrder_more (wpAny_bindName (wpAny_mono (storeName_ok C hy (.inl rfl) R₂ (.loc e) (Q := fun st => st = { st₁ with fr := st₁.fr.set j (some (.loc b)) }) rfl) ?_ fun _ _ x => x))
 rintro _ s₃ ⟨st₃, g₃, R₃, T₃, S₃, rfl⟩
 refine wpAny_assignInOrder_more (wpAny_bindName (wpAny_mono (storeName_ok C hx (.inl rfl) R₃ (.c (r'.ext (T₃.ext R₂.ok))) (Q := fun st => Q .next st) hq) ?_ fun _ _ x => x))
 rintro _ s₄ ⟨st₄, g₄, R₄, T₄, S₄, q₄⟩
 exact wpAny_assignInOrder_none ⟨.next, st₄, g₄, R₄, ((T₁.trans T₂).trans T₃).trans T₄, (S₁.trans ⟨S₃.gens, S₃.drawn, S₃.os⟩).trans S₄, .next, q₄⟩
theorem ev_now {i : Nat} {f : Row} {o e1 : Expr} {pos : Pos} {Q : PV → St → Prop} (hi : i < 4) (hl : st.loc = [vecL f])
  (ho : ∀ Q : PV → St → Prop, Q (.loc 0) st → EvE cx o st Q X) (h1 : ∀ Q : PV → St → Prop, Q (.c (.int (i : Nat))) st → EvE cx e1 st Q X)
  (h : Q (.c (.int (f i))) st) (g1 : ∀ ov iv, subscripted e1 false ov iv = operate [ov, iv] (getItem ov iv) := by intro _ _; rfl) : EvE cx (.Subscript o e1 pos) st Q X := by
 refine EvE.idx (ho _ (h1 _ ⟨i, .c (.int (f i)), rfl, by first | exact nz _ | decide | omega, by first | exact nlt4 (by assumption) | decide | omega, ?_, h⟩)) g1
 show (st.loc[0]?).bind _ = _
 rw [hl]
 exact vec_pick f hi
theorem late_len (F : Mat) : ∀ (ord : Prs) (s : Row × List Nat), ((ord.foldl (lateStep F) s).2).length ≤ s.2.length + ord.length
 | [], s => by simp
 | p :: ord, s => by
  rw [List.foldl_cons]
  have h := late_len F ord (lateStep F s p)
  have h2 : (lateStep F s p).2.length ≤ s.2.length + 1 := by
   unfold lateStep
   split
   ·show (_ ++ [p.2]).length ≤ _
    have := List.length_filter_le (fun k => k != p.2) s.2
    simp only [List.length_append, List.length_singleton]
    omega
   ·omega
  rw [List.length_cons]
  omega
theorem EvV.now {i : Nat} {f : Row} {o e1 : Expr} {pos : Pos} (hi : i < 4) (hl : st.loc = [vecL f]) (ho : EvV cx o st (.loc 0)) (h1 : EvV cx e1 st (.c (.int (i : Nat)))) (g1 : ∀ ov iv, subscripted e1 false ov iv = operate [ov, iv] (getItem ov iv) := by intro _ _; rfl) : EvV cx (.Subscript o e1 pos) st (.c (.int (f i))) :=
 fun _ _ q => ev_now hi hl (fun _ q => ho _ _ q) (fun _ q => h1 _ _ q) q g1
theorem EvV.farV {F : Mat} {i j : Nat} {o e1 e2 : Expr} {p1 pos : Pos} (hi : i < 4) (hj : j < 4) (ho : EvV cx o st (.c (matV F))) (h1 : EvV cx e1 st (.c (.int (i : Nat)))) (h2 : EvV cx e2 st (.c (.int (j : Nat))))
  (g1 : ∀ ov iv, subscripted e1 false ov iv = operate [ov, iv] (getItem ov iv) := by intro _ _; rfl) (g2 : ∀ ov iv, subscripted e2 false ov iv = operate [ov, iv] (getItem ov iv) := by intro _ _; rfl) : EvV cx (.Subscript (.Subscript o e1 p1) e2 pos) st (.c (.int (F i j))) :=
 fun _ _ q => ev_farV hi hj (fun _ q => ho _ _ q) (fun _ q => h1 _ _ q) (fun _ q => h2 _ _ q) q g1 g2
theorem stepLate (L : Ctx cx scLate [] lv (defAt 31).scope) {g : List GObj} {F : Mat} {f : Row} {lt : List Nat} {i j : Nat} {o0 o2 : Option PV} {Q : Fl → St → Prop} {J : St → Prop} (hi : i < 4) (hj : j < 4) (hlt : lt.length ≤ 1000)
  (h : J ⟨g, [vecL (lateStep F (f, lt) (i, j)).1], [o0, some (.c (matV F)), o2, some (.c (.lst (nums (lateStep F (f, lt) (i, j)).2))), some (.loc 0), I i, I j], []⟩) :
  ExB cx (forBody ((defAt 31).body.getD 1 (.Pass default))) ⟨g, [vecL f], [o0, some (.c (matV F)), o2, some (.c (.lst (nums lt))), some (.loc 0), I i, I j], []⟩ (bodyQ Q J) X := by
 refine ExB.ifp (.cmp (.bin (.now hi rfl (L.vv 4 rfl rfl) (L.vv 5 rfl rfl)) (.farV hi hj (L.vv 1 rfl rfl) (L.vv 5 rfl rfl) (L.vc 6 rfl rfl)) rfl trivial) (.now hj rfl (L.vv 4 rfl rfl) (L.vc 6 rfl rfl)) rfl) (fun e => ?_) fun e => ?_
 ·have hv : (vecL f).set ((j : Nat) : Int).toNat (.int (f i + F i j)) = vecL (upd1 f j (f i + F i j)) := by rw [Int.toNat_natCast, vec_set f hj]
  have e3 : nums (lt.filter (fun k => k != j) ++ [j]) = nums (lt.filter fun k => k != j) ++ [.int (j : Nat)] := List.map_append
  have z : (nums (lt.filter fun k => k != j)).length + ([.int (j : Nat)] : List CV).length ≤ sizeLine := by
   have := List.length_filter_le (fun k => k != j) lt
   unfold nums
   rw [List.length_map, sizeLine_eq]
   simp only [List.length_singleton]
   omega
  rw [show lateStep F (f, lt) (i, j) = (upd1 f j (f i + F i j), lt.filter (fun k => k != j) ++ [j]) from if_pos (of_decide_eq_true e), e3, ← hv] at h
  refine ExB.cons (ExS.setIdx (EvE.v (.bin (.now hi rfl (L.vv 4 rfl rfl) (L.vv 5 rfl rfl)) (.farV hi hj (L.vv 1 rfl rfl) (L.vv 5 rfl rfl) (L.vc 6 rfl rfl)) rfl trivial) (EvE.v (L.vv 4 rfl rfl) (EvE.v (L.vc 6 rfl rfl) ⟨.int (f i + F i j), j, vecL f, rfl, rfl, rfl, rfl, Int.natCast_nonneg j, Int.ofNat_lt.mpr hj, Nat.le_of_ble_eq_true rfl, ?_⟩))) rfl)
  refine ExB.cons (L.set 3 (ev_addL (L.comp [("k", .local)] ["j"] [] compLate (.cell 6 (L.s 6 rfl) rfl .nil) (L.v 3 rfl rfl ⟨rfl, rfl, nums lt, nums (lt.filter fun k => k != j), rfl, ?_, EvE.v (.lst (l := [.int (j : Nat)]) (.cons (L.vc 6 rfl rfl) .nil) rfl (by simp)) ⟨_, _, rfl, rfl, z, ExB.nil (ExB.nil h)⟩⟩))))
  refine CompL.one (neF j) (ne_nums j lt) (by unfold nums; rw [List.length_map]; omega) (xnl rfl) ?_
  intro cx' L' hw hA z hz
  obtain ⟨k, hk, rfl⟩ := mem_nums hz
  refine TurnC.name L' (i := 0) rfl fun fr hf => ?_
  obtain ⟨o, rfl⟩ := len1 hf
  exact EvT.cmp (L'.v 0 rfl rfl (L'.f 0 rfl rfl ⟨_, _, _, rfl, rfl, rfl, fun e => ⟨rfl, xtf, fun _ => L'.v 0 rfl rfl ⟨rfl, _, rfl, if_pos e⟩⟩, fun e => ⟨rfl, fun _ => if_neg (by rw [e]; decide), xff⟩⟩))
 ·rw [show lateStep F (f, lt) (i, j) = (f, lt) from if_neg (of_decide_eq_false e)] at h
  exact ExB.nil h
inductive JLate (g : List GObj) (F : Mat) (f0 : Row) (ord : Prs) (r : List CV) (st : St) : Prop
 | mk (done rest : Prs) (o5 o6 : Option PV) (a : r = prs rest) (b : ord = done ++ rest) (e : st = ⟨g, [vecL (done.foldl (lateStep F) (f0, [])).1], [some (.c (.lst (vecL f0))), some (.c (matV F)), some (.c (.lst (prs ord))), some (.c (.lst (nums (done.foldl (lateStep F) (f0, [])).2))), some (.loc 0), o5, o6], []⟩)
theorem loopLate (L : Ctx cx scLate [] lv (defAt 31).scope) {g : List GObj} {F : Mat} {f0 : Row} {ord : Prs} {Q : Fl → St → Prop} (ho : ∀ p ∈ ord, p.1 < 4 ∧ p.2 < 4) (hz : ord.length ≤ 1000)
  (h : ∀ loc fr, (fr : List (Option PV))[3]? = some (some (.c (.lst (nums (lateOf F f0 ord))))) → Q .next ⟨g, loc, fr, []⟩) :
  ExS cx ((defAt 31).body.getD 1 (.Pass default)) ⟨g, [vecL f0], [some (.c (.lst (vecL f0))), some (.c (matV F)), some (.c (.lst (prs ord))), some (.c (.lst [])), some (.loc 0), none, none], []⟩ Q X := by
 refine ExS.for L.ok L.hn L.ce (JLate g F f0 ord) (L.v 2 rfl rfl ⟨prs ord, rfl, ⟨[], ord, none, none, rfl, rfl, rfl⟩, (xnl rfl)⟩) ?_ ?_
 ·rintro y r _ ⟨done, rest, o5, o6, hr, hw, rfl⟩
  cases rest with
  | nil => cases hr
  | cons p rest =>
   cases hr
   obtain ⟨hi, hj⟩ := ho p (by rw [hw]; simp)
   have hlt : ((done.foldl (lateStep F) (f0, [])).2).length ≤ 1000 := by
    have h1 := late_len F done (f0, [])
    have h2 : done.length ≤ ord.length := by rw [hw]; simp
    simp only [List.length_nil] at h1
    omega
   refine AsG.tup L.ok L.hn (L.asg 5 rfl (L.asg 6 rfl (stepLate L hi hj hlt ⟨done ++ [p], rest, I p.1, I p.2, rfl, by rw [hw]; simp, ?_⟩))) rfl
   rw [List.foldl_append]; rfl
 ·rintro _ ⟨done, rest, o2, o3, hr, hw, rfl⟩
  cases rest with
  | cons p rest => cases hr
  | nil =>
   rw [List.append_nil] at hw
   subst hw
   exact h _ _ rfl
theorem bodyLate (L : Ctx cx scLate [] lv (defAt 31).scope) {g : List GObj} {F : Mat} {f0 : Row} {ord : Prs} {Q : Fl → St → Prop} (ho : ∀ p ∈ ord, p.1 < 4 ∧ p.2 < 4) (hz : ord.length ≤ 1000)
  (h : ∀ loc fr, Q (.ret (.c (.lst (nums (lateOf F f0 ord))))) ⟨g, loc, fr, []⟩) :
  ExB cx (defAt 31).body ⟨g, [], [some (.c (.lst (vecL f0))), some (.c (matV F)), some (.c (.lst (prs ord))), none, none, none, none], []⟩ Q X := by
 have C := L.ok
 refine ExB.cons (swapPair (i := 3) (j := 4) C L.hn (L.s 3 rfl) (L.s 4 rfl) (ev_pair (EvE.lst (EvL.nil ⟨[], rfl, by simp, ?_⟩))) rfl ?_)
 ·refine ev_sliceL true (L.v 0 rfl rfl (evO_none (evO_none (evO_none ⟨vecL f0, rfl, trivial, by rw [sizeLine_eq]; simp [vecL], xns, xtf, fun _ => ⟨.lst [], 0, rfl, rfl, _, _, rfl, ?_⟩⟩)))) (.inl rfl)
  rw [sliceL_all]
  refine ExB.cons (loopLate L ho hz fun loc fr hf => ?_)
  exact ExB.cons (ExS.ret (L.v 3 rfl hf (h _ _)))
 ·rw [show cx.env = { cx.env with scope := (defAt 31).scope } from by rw [← L.scope]]
  rfl
end
theorem call_late {W : Wd} (Tp : TopA W) {lv : Nat} {F : Mat} {f0 : Row} {ord : Prs} {glob : List GObj} (ho : ∀ p ∈ ord, p.1 < 4 ∧ p.2 < 4) (hz : ord.length ≤ 1000) :
  CallOk W (lv + 1) (.ref 312) [.c (.lst (vecL f0)), .c (matV F), .c (.lst (prs ord))] [] glob (fun r fr g => r = .lst (nums (lateOf F f0 ord)) ∧ fr = false ∧ g = glob) (fun _ _ => False) := by
 obtain ⟨fd, F'⟩ := Tp.llate
 refine CallOk.ctx Tp (bs := [("ports", .c (.lst (vecL f0))), ("far", .c (matV F)), ("order", .c (.lst (prs ord)))]) F' scOkLate rfl ?_ ?_
 ·intro gh s vs ks _ r rk
  refine ⟨vs, r, ?_⟩
  replace r := r.to3; obtain ⟨_, _, _, rfl, r1, r2, r3⟩ := r
  replace rk := rk.inv; obtain rfl := rk
  obtain ⟨n, q, p, bd, sc, gl, cl, df, kd, dc, pm, an, co, ct, bu⟩ := fd
  have h1 : p = _ := F'.params
  have h2 : df = _ := F'.dflt
  have h3 : kd = _ := F'.kwd
  subst h1 h2 h3
  exact BindsTo.of_eq rfl
 ·intro cx L hw
  exact bodyLate L ho hz fun loc fr => RetOk.c rfl ⟨rfl, rfl, rfl⟩
noncomputable def wTab : List (Str × Str) := [("\"", "&quot;"), ("&", "&amp;"), ("<", "&lt;"), (">", "&gt;"), ("\n", "&#10;"), ("\u000d", "&#13;"), ("\t", "&#09;")]
noncomputable def wTabN : List (Nat × List Nat) := [(34, [38, 113, 117, 111, 116, 59]), (38, [38, 97, 109, 112, 59]), (60, [38, 108, 116, 59]), (62, [38, 103, 116, 59]), (10, [38, 35, 49, 48, 59]), (13, [38, 35, 49, 51, 59]), (9, [38, 35, 48, 57, 59])]
theorem wTab_eq : wTab = wTabN.map fun p => (S [p.1], S p.2) := by decide +kernel
noncomputable def wr1 (c : Nat) : List Nat := ((wTabN.find? fun p => p.1 = c).map (·.2)).getD [c]
noncomputable def writ (l : List Nat) : List Nat := l.flatMap wr1
theorem look_S (c : Nat) : ∀ l : List (Nat × List Nat), (lookS (l.map fun p => (S [p.1], S p.2)) (S [c])).getD (S [c]) = S (((l.find? fun p => p.1 = c).map (·.2)).getD [c])
 | [] => rfl
 | p :: l => by
  have ih := look_S c l
  unfold lookS at ih ⊢
  rw [List.map_cons, List.find?_cons, List.find?_cons]
  have e : decide (S [p.1] = S [c]) = decide (p.1 = c) := by
   rw [decide_eq_decide]
   constructor
   ·intro h
    have : (S [p.1] == S [c]) = true := by rw [h]; exact beq_self_eq_true _
    rw [S_beq] at this
    simpa using this
   ·rintro rfl; rfl
  show (Option.map _ (match decide (S [p.1] = S [c]) with | true => _ | false => _)).getD _ = _
  rw [e]
  by_cases h : p.1 = c
  ·rw [decide_eq_true h]; rfl
  ·rw [decide_eq_false h]; exact ih
theorem wr1_len (c : Nat) : (wr1 c).length ≤ 6 := by
 unfold wr1
 cases h : wTabN.find? fun p => p.1 = c with
 | none => simp
 | some p =>
  have hm := List.mem_of_find?_eq_some h
  have : ∀ p ∈ wTabN, p.2.length ≤ 6 := by decide
  simpa using this p hm
theorem join3 (x y z : List Nat) : Txt.join (S []) [S x, S y, S z] = S (x ++ (y ++ (z ++ []))) := by
 show PySem.Str.mk _ = _
 unfold S
 simp
noncomputable abbrev retScope (s : Stmt) : Scope := scAt s [0]
noncomputable def scWr : List (Str × NameKind) := [("name", .local), ("spelled", .cell)]
theorem scOkWr : ScOk (defAt 28).scope scWr [] := .of (by decide +kernel)
theorem compWr : CompOk (retScope ((defAt 28).body.getD 1 (.Pass default))) [("sign", .local)] ["spelled"] [] :=
 .of (by decide +kernel)
noncomputable def wrV (c : CV) : CV := .str (S (wr1 (chOf c)))
section
variable {cx : Cx} {st : St} {X : XV → St → Prop} {lv : Nat}
theorem bodyWr (L : Ctx cx scWr [] lv (defAt 28).scope) {g : List GObj} {a b c : Nat} {Q : Fl → St → Prop} (hb : ∃ o, cx.wd.base.get? 45 = some o)
  (h : ∀ fr, Q (.ret (.c (.str (S (writ [a, b, c]))))) ⟨g, [], fr, []⟩) : ExB cx (defAt 28).body ⟨g, [], [T [a, b, c], none], []⟩ Q X := by
 have C := L.ok
 have l0 : ("" : Str) = S [] := lit _ _ (by decide +kernel)
 refine @ExB.cons cx _ X _ _ _ ?_
 refine @ExS.asgName cx _ X C 1 _ _ _ _ _ _ (L.s 1 rfl) (.inr rfl) ?_ rfl
 refine @ev_dict cx _ X _ _ _ wTab _ (.cons (.cons (.cons (.cons (.cons (.cons (.cons .nil))))))) rfl rfl xcn (by decide) (by decide +kernel) hb ?_
 refine ExB.cons (ExS.ret (EvE.meth PySem.F.plainAttrs_str PySem.F.slot_str_join PySem.F.type_str_join (EvE.str ⟨.str, EvL.cons ?_⟩)))
 refine L.comp [("sign", .local)] ["spelled"] [] compWr (.cell 1 (L.s 1 rfl) rfl .nil) (L.v 0 rfl rfl ⟨rfl, rfl, chars (S [a, b, c]), [a, b, c].map fun x => .str (S (wr1 x)), rfl, ?_, ?_⟩)
 ·refine CompL.one (fun c => some (wrV c)) ?_ ?_ (xnl rfl) ?_
  ·rw [chars_S, fm_all]; rfl
  ·rw [chars_S, List.length_map]; simp
  ·intro cx' L' hw hA z hz
   rw [chars_S] at hz
   obtain ⟨x, hx, rfl⟩ := List.mem_map.mp hz
   refine TurnC.name L' (i := 0) rfl fun fr hf => ⟨rfl, xtf, fun _ => ?_⟩
   obtain ⟨o, rfl⟩ := len1 hf
   refine EvE.meth PySem.F.plainAttrs_dict PySem.F.slot_dict_get PySem.F.type_dict_get (L'.f 0 rfl rfl ⟨?_, EvL.cons (L'.v 0 rfl rfl (EvL.cons (L'.v 0 rfl rfl (EvL.nil ?_))))⟩)
   ·rw [← hw]; exact HasT.dict
   ·rw [← hw]
    refine Prim.getD ⟨rfl, _, rfl, ?_⟩
    rw [wTab_eq, look_S]; rfl
 ·have e1 := wr1_len a
  have e2 := wr1_len b
  have e3 := wr1_len c
  refine EvL.nil (Prim.join (ls := [S (wr1 a), S (wr1 b), S (wr1 c)]) ?_ ?_)
  ·unfold JoinOk Builtin.Str.tooLong
   rw [l0]
   have : ([S (wr1 a), S (wr1 b), S (wr1 c)].toArray.foldl (· + ·.length + (S []).length) 0) = 0 + (S (wr1 a)).length + (S []).length + (S (wr1 b)).length + (S []).length + (S (wr1 c)).length + (S []).length := rfl
   rw [this, S_len, S_len, S_len, S_len, sizeLine_eq]
   simp
   omega
  ·rw [l0, join3]
   exact h _
end
theorem call_written {W : Wd} (Tp : TopA W) {lv : Nat} {l : List Nat} {glob : List GObj} (hl : l.length = 3) (hb : ∃ o, W.base.get? 45 = some o) :
  CallOk W (lv + 1) (.ref 297) [.c (.str (S l))] [] glob (fun r fr g => r = .str (S (writ l)) ∧ fr = false ∧ g = glob) (fun _ _ => False) := by
 obtain ⟨fd, F⟩ := Tp.lwritten
 refine CallOk.pos Tp (bs := [("name", .c (.str (S l)))]) F scOkWr rfl rfl (fun fd vs hl => by obtain ⟨_, rfl⟩ := len1 hl; rfl) ?_
 ·intro cx L hw
  obtain ⟨a, b, c, rfl⟩ := len3 hl
  exact @bodyWr cx _ lv L _ a b c _ (by rw [hw]; exact hb) (fun fr => RetOk.c rfl ⟨rfl, rfl, rfl⟩)
noncomputable def Asc (l : List Nat) : Prop := ∀ c ∈ l, c < 128
theorem Asc.lower {l : List Nat} (h : Asc l) : LowerOk l := by
 intro c hc
 have hs : ∀ x ∈ [c], x < 128 := by
  intro x hx
  rw [List.mem_singleton.mp hx]; exact h c hc
 rw [lower_T hs]
 exact tooLong_S (by rw [low_len]; simp)
theorem rep_fold (c : Nat) : ∀ (n : Nat) (acc : List Nat), (List.replicate n (#[c] : Array Nat)).foldl (· ++ ·) acc.toArray = (acc ++ List.replicate n c).toArray
 | 0, acc => by simp
 | n + 1, acc => by
  rw [List.replicate_succ, List.foldl_cons]
  have : acc.toArray ++ #[c] = (acc ++ [c]).toArray := by simp
  rw [this, rep_fold c n (acc ++ [c]), List.replicate_succ, List.append_assoc]; rfl
theorem mul_S (c : Nat) (n : Nat) (h : 2 ≤ n) : Txt.mul (S [c]) (n : Int) = S (List.replicate n c) := by
 unfold Txt.mul
 rw [if_neg (by omega), if_neg]
 ·rw [Int.toNat_natCast]
  show PySem.Str.mk ((List.replicate n (#[c] : Array Nat)).foldl (· ++ ·) ([] : List Nat).toArray) = _
  rw [rep_fold]; rfl
 ·have e : ((n : Int) == 1) = false := by
   rw [beq_eq_false_iff_ne]; omega
  rw [e, S_len]
  simp
noncomputable abbrev Ask : Type := List Nat × List Nat × Int
noncomputable def askV (p : Ask) : CV := .tup [.str (S p.1), .str (S p.2.1), .int p.2.2]
noncomputable def rep (n c : Nat) : List Nat := List.replicate n c
noncomputable def asks1 (a b c : Nat) : List Ask := [([a, b, c], [a, b, c] ++ rep 41 c, 0), (rep 41 a ++ [a, b, c], [a, b, c], 0), ([a, b, c], [a, b, c], -1), ([a, b, c], rep 41 45, 99), (rep 41 45, [a, b, c], 99)]
noncomputable def asks2 (o : Nat) : List Ask := [([o], rep 40 45, 80), ([o], [45, o, 45, 45], 6), ([45, o, 45, 45], [o], 6), ([45, o, 45, 45], [o], 3), ([o], [45], 0)]
noncomputable def asksOf (a b c o : Nat) : List Ask := asks1 a b c ++ asks2 o
noncomputable def costsOf (a b c o : Nat) : List Int := (asksOf a b c o).map fun p => levD p.1 p.2.1 p.2.2
noncomputable def txtOf (n : Int) : Str := PySem.Str.ofString (toString n)
noncomputable def costF (c : CV) : CV := match c with
 | .tup [.str x, .str y, .int m] => .str (txtOf (levD x.cps.toList y.cps.toList m))
 | _ => .none
theorem costF_ask (p : Ask) : costF (askV p) = .str (txtOf (levD p.1 p.2.1 p.2.2)) := rfl
noncomputable def costT : Str := "82 82 0 100 100 80 6 6 4 1"
noncomputable def costN : List Int := [82, 82, 0, 100, 100, 80, 6, 6, 4, 1]
theorem cost_join : Txt.join " " (costN.map txtOf) = costT := by decide +kernel
theorem cost_ok : JoinOk " " (costN.map txtOf) = true := by decide +kernel
theorem cost_small : ∀ n ∈ costN, n.natAbs.log2 < 1920 := by decide +kernel
theorem asks_asc {a b c o : Nat} (h : Asc [a, b, c, o]) : ∀ p ∈ asksOf a b c o, Asc (p.1 ++ p.2.1) ∧ p.1.length ≤ 1000 ∧ p.2.1.length ≤ 1000 := by
 have ha : a < 128 := h a (by simp)
 have hb : b < 128 := h b (by simp)
 have hc : c < 128 := h c (by simp)
 have ho : o < 128 := h o (by simp)
 intro p hp
 simp only [asksOf, asks1, asks2, List.cons_append, List.nil_append, List.mem_cons, List.not_mem_nil, or_false] at hp
 rcases hp with rfl | rfl | rfl | rfl | rfl | rfl | rfl | rfl | rfl | rfl <;>
 ·refine ⟨?_, Nat.le_of_ble_eq_true rfl, Nat.le_of_ble_eq_true rfl⟩
  intro x hx
  simp only [rep, List.mem_append, List.mem_cons, List.mem_replicate, List.not_mem_nil, or_false] at hx
  omega
noncomputable def scCosts : List (Str × NameKind) := [("x", .local), ("own", .local), ("wide", .local), ("asks", .local)]
noncomputable def gscCosts : List Str := []
theorem scOkCosts : ScOk (defAt 27).scope scCosts gscCosts := .of (by decide +kernel)
theorem compCosts : CompOk (retScope ((defAt 27).body.getD 3 (.Pass default))) [("one", .local), ("other", .local), ("bound", .local)] [] ["str", "_levenshtein_distance"] :=
 .of (by decide +kernel)
section
variable {cx : Cx} {st : St} {X : XV → St → Prop} {lv : Nat}
inductive MulS (p q : PV) (K : List Nat → Prop) : Prop
 | mk (c n : Nat) (a : p = .c (.str (S [c]))) (b : q = .c (.int (n : Nat))) (d : 2 ≤ n) (e : n ≤ 1000) (k : K (rep n c))
theorem ev_mulS {e1 e2 : Expr} {pos : Pos} {Q : PV → St → Prop} (h : EvE cx e1 st (fun p st₁ => EvE cx e2 st₁ (fun q st₂ => MulS p q fun r => Q (.c (.str (S r))) st₂) X) X) : EvE cx (.BinOp e1 .Mult e2 pos) st Q X := by
 refine EvE.bin (EvE.mono h (fun p st₁ h => EvE.mono h ?_ fun _ _ x => x) fun _ _ x => x)
 rintro q st₂ ⟨c, n, rfl, rfl, h2, hz, hq⟩
 refine ⟨_, _, _, rfl, rfl, rfl, ⟨by omega, by omega, ?_⟩, ?_⟩
 ·rw [S_len]; simp
 ·rw [mul_S c n h2]; exact hq
theorem EvV.mulS {e1 e2 : Expr} {pos : Pos} {c n : Nat} (h1 : EvV cx e1 st (.c (.str (S [c])))) (h2 : EvV cx e2 st (.c (.int (n : Nat)))) (h : 2 ≤ n) (hz : n ≤ 1000) : EvV cx (.BinOp e1 .Mult e2 pos) st (.c (.str (S (rep n c)))) :=
 fun _ _ q => ev_mulS (h1 _ _ (h2 _ _ ⟨c, n, rfl, rfl, h, hz, q⟩))
theorem EvV.neg {k : Int} {kk : Nat} {p pos : Pos} : EvV cx (.UnaryOp .USub (.Constant (.int k) kk p) pos) st (.c (.int (-k))) := fun _ _ q => ev_negC q
theorem bodyCosts (L : Ctx cx scCosts gscCosts (lv + 2) (defAt 27).scope) {g : List GObj} {a b c o : Nat} {Q : Fl → St → Prop} (hA : Asc [a, b, c, o]) (hc : costsOf a b c o = costN)
  (h : ∀ loc fr, Q (.ret (.c (.str costT))) ⟨g, loc, fr, []⟩) : ExB cx (defAt 27).body ⟨g, [], [T [a, b, c], T [o], none, none], []⟩ Q X := by
 have l1 : ("-" : Str) = S [45] := lit _ _ (by decide +kernel)
 have l2 : ("--" : Str) = S [45, 45] := lit _ _ (by decide +kernel)
 have k5 : ∀ {x y : List Nat} {m : Int}, ([.str (S x), .str (S y), .int m] : List CV).length ≤ 1000 := Nat.le_of_ble_eq_true rfl
 refine L.bset 2 (.addS (.addS (.lit l1) (L.vv 1 rfl rfl) (Nat.le_of_ble_eq_true rfl)) (.lit l2) (Nat.le_of_ble_eq_true rfl)) ?_
 refine ExB.cons (L.set 3 (EvE.lstLoc (EvL.v (.cons (.tup (l := [.str (S [a, b, c]), .str (S ([a, b, c] ++ rep 41 c)), .int 0]) (.cons (L.vv 0 rfl rfl) (.cons (.addS (L.vv 0 rfl rfl) (.mulS (n := 41) (.idxS (i := 2) (L.vv 0 rfl rfl) .int rfl (by decide)) .int (by decide) (by decide)) (Nat.le_of_ble_eq_true rfl)) (.cons .int .nil))) rfl k5)
  (.cons (.tup (l := [.str (S (rep 41 a ++ [a, b, c])), .str (S [a, b, c]), .int 0]) (.cons (.addS (.mulS (n := 41) (.idxS (i := 0) (L.vv 0 rfl rfl) .int rfl (by decide)) .int (by decide) (by decide)) (L.vv 0 rfl rfl) (Nat.le_of_ble_eq_true rfl)) (.cons (L.vv 0 rfl rfl) (.cons .int .nil))) rfl k5)
  (.cons (.tup (l := [.str (S [a, b, c]), .str (S [a, b, c]), .int (-1)]) (.cons (L.vv 0 rfl rfl) (.cons (L.vv 0 rfl rfl) (.cons .neg .nil))) rfl k5)
  (.cons (.tup (l := [.str (S [a, b, c]), .str (S (rep 41 45)), .int 99]) (.cons (L.vv 0 rfl rfl) (.cons (.mulS (n := 41) (.lit l1) .int (by decide) (by decide)) (.cons .int .nil))) rfl k5)
  (.cons (.tup (l := [.str (S (rep 41 45)), .str (S [a, b, c]), .int 99]) (.cons (.mulS (n := 41) (.lit l1) .int (by decide) (by decide)) (.cons (L.vv 0 rfl rfl) (.cons .int .nil))) rfl k5) .nil))))) ⟨(asks1 a b c).map askV, rfl, Nat.le_of_ble_eq_true rfl, ?_⟩)))
 refine ExB.cons (ExS.expr (EvE.meth PySem.F.plainAttrs_list PySem.F.slot_list_extend PySem.F.type_list_extend (L.v 3 rfl rfl ⟨HasT.list (l := (asks1 a b c).map askV) rfl trivial, EvL.v (.cons (.lst (l := (asks2 o).map askV)
  (.cons (.tup (l := [.str (S [o]), .str (S (rep 40 45)), .int 80]) (.cons (L.vv 1 rfl rfl) (.cons (.mulS (n := 40) (.lit l1) .int (by decide) (by decide)) (.cons .int .nil))) rfl k5)
  (.cons (.tup (l := [.str (S [o]), .str (S [45, o, 45, 45]), .int 6]) (.cons (L.vv 1 rfl rfl) (.cons (L.vv 2 rfl rfl) (.cons .int .nil))) rfl k5)
  (.cons (.tup (l := [.str (S [45, o, 45, 45]), .str (S [o]), .int 6]) (.cons (L.vv 2 rfl rfl) (.cons (L.vv 1 rfl rfl) (.cons .int .nil))) rfl k5)
  (.cons (.tup (l := [.str (S [45, o, 45, 45]), .str (S [o]), .int 3]) (.cons (L.vv 2 rfl rfl) (.cons (L.vv 1 rfl rfl) (.cons .int .nil))) rfl k5)
  (.cons (.tup (l := [.str (S [o]), .str (S [45]), .int 0]) (.cons (L.vv 1 rfl rfl) (.cons (.lit l1) (.cons .int .nil))) rfl k5) .nil))))) rfl (Nat.le_of_ble_eq_true rfl)) .nil) (Prim.extend rfl (l := (asks1 a b c).map askV) rfl (Nat.le_of_ble_eq_true rfl) ?_)⟩)) L.ni rfl)
 have hasc := asks_asc hA
 have eF : ((asksOf a b c o).map askV).filterMap (fun c => some (costF c)) = (costN.map txtOf).map CV.str := by
  rw [fm_all, ← hc]
  unfold costsOf
  rw [List.map_map, List.map_map]; rfl
 show ExB cx _ ⟨g, [(asks1 a b c).map askV ++ (asks2 o).map askV], _, []⟩ _ _
 rw [← List.map_append]
 refine ExB.cons (ExS.ret (EvE.meth PySem.F.plainAttrs_str PySem.F.slot_str_join PySem.F.type_str_join (EvE.str ⟨.str, EvL.cons (L.comp [("one", .local), ("other", .local), ("bound", .local)] [] ["str", "_levenshtein_distance"] compCosts .nil (L.v 3 rfl rfl ⟨rfl, rfl, (asksOf a b c o).map askV, (costN.map txtOf).map .str, rfl, ?_, EvL.nil (Prim.join cost_ok (by rw [cost_join]; exact h _ _))⟩))⟩)))
 refine CompL.one (fun c => some (costF c)) eF.symm (Nat.le_of_ble_eq_true rfl) (fun q e => by cases e; rfl) ?_
 intro cx' L' hw hA' z hz
 obtain ⟨⟨x, y, m⟩, hp, rfl⟩ := List.mem_map.mp hz
 obtain ⟨h1, h2, h3⟩ := hasc _ hp
 have hm : levD x y m ∈ costN := hc ▸ List.mem_map.mpr ⟨_, hp, rfl⟩
 intro fr hf
 obtain ⟨o1, o2, o3, rfl⟩ := len3 hf
 refine AsG.tup L'.ok L'.hn (L'.asg 0 rfl (L'.asg 1 rfl (L'.asg 2 rfl ⟨_, rfl, rfl, rfl, xtf, fun _ => ?_⟩))) rfl
 exact L'.call 0 9 .type (EvL.cons (L'.call 1 4 (FnAt.callee L'.top.f52) (EvL.cons (L'.v 0 rfl rfl (EvL.cons (L'.v 1 rfl rfl (EvL.cons (L'.v 2 rfl rfl (EvL.nil (L'.prim (CallOk.at (call_lev L'.top.toTop h2 h3 h1.lower) (EvL.nil (Prim.strInt (cost_small _ hm) ⟨_, rfl, rfl, _, rfl, rfl⟩)))))))))))))
end
theorem call_costs {W : Wd} (Tp : TopA W) {lv : Nat} {a b c o : Nat} {glob : List GObj} (hA : Asc [a, b, c, o]) (hc : costsOf a b c o = costN) :
  CallOk W (lv + 3) (.ref 292) [.c (.str (S [a, b, c])), .c (.str (S [o]))] [] glob (fun r fr g => r = .str costT ∧ fr = false ∧ g = glob) (fun _ _ => False) := by
 obtain ⟨fd, F⟩ := Tp.lcosts
 refine CallOk.pos Tp (bs := [("x", .c (.str (S [a, b, c]))), ("own", .c (.str (S [o])))]) F scOkCosts rfl rfl (fun fd vs hl => by obtain ⟨_, _, rfl⟩ := len2 hl; rfl) ?_
 ·intro cx L hw
  exact bodyCosts L hA hc fun loc fr => RetOk.c rfl ⟨rfl, rfl, rfl⟩
noncomputable def readSpec (l : List Nat) : Option CV :=
 if l[1]? = some 53 then some (if l.take 3 = [50, 53, 55] then .lst [.str (S (spec257 l))] else .lst [.str "reply", .str (S l)])
 else match spec229 (S l) with
  | some (.ok n) => some (.lst [.tup [.str "p", .int n]])
  | some .reply => some (.lst [.str "reply", .str (S l)])
  | some .proto => some (.lst [.str "proto", .str (S l)])
  | none => none
noncomputable def scRead : List (Str × NameKind) := [("reply", .local), ("caught", .local)]
noncomputable def gscRead : List Str := ["parse257", "parse229", "error_reply", "str", "error_proto"]
theorem scOkRead : ScOk (defAt 25).scope scRead gscRead := .of (by decide +kernel)
theorem read_a {l : List Nat} {v : CV} (hc : l[1]? = some 53) (hr : readSpec l = some v) : (l.take 3 = [50, 53, 55] → CV.lst [.str (S (spec257 l))] = v) ∧ (¬ l.take 3 = [50, 53, 55] → CV.lst [.str "reply", .str (S l)] = v) := by
 unfold readSpec at hr
 rw [if_pos hc] at hr
 have hr := Option.some.inj hr
 exact ⟨fun h => (if_pos h).symm.trans hr, fun h => (if_neg h).symm.trans hr⟩
inductive Read2 (l : List Nat) (v : CV) : Prop
 | mk (r : R229) (e : spec229 (S l) = some r) (a : ∀ n, r = .ok n → CV.lst [.tup [.str "p", .int n]] = v) (b : r = .reply → v = .lst [.str "reply", .str (S l)]) (c : r = .proto → v = .lst [.str "proto", .str (S l)])
theorem read_b {l : List Nat} {v : CV} (hc : ¬ l[1]? = some 53) (hr : readSpec l = some v) : Read2 l v := by
 unfold readSpec at hr
 rw [if_neg hc] at hr
 cases hs : spec229 (S l) with
 | none => rw [hs] at hr; exact xns hr
 | some r =>
  rw [hs] at hr
  refine ⟨r, hs, fun n e => ?_, fun e => ?_, fun e => ?_⟩
  ·rw [e] at hr; exact Option.some.inj hr
  ·rw [e] at hr; exact (Option.some.inj hr).symm
  ·rw [e] at hr; exact (Option.some.inj hr).symm
inductive ReadX (l : List Nat) (v : CV) (st : St) (px : XV) (st₁ : St) : Prop
 | a (s : st₁ = st) (e : px = ⟨.ref 75, [.str (S l)]⟩) (h : v = .lst [.str "reply", .str (S l)])
 | b (s : st₁ = st) (e : px = ⟨.ref 87, [.str (S l)]⟩) (h : v = .lst [.str "proto", .str (S l)])
section
variable {cx : Cx} {st : St} {X : XV → St → Prop} {lv : Nat}
theorem units_ok (C : cx.Ok) (h : 1 ≤ cx.lv) : cx.A.units + 2 < cLine := by have := C.lv.2; omega
theorem bodyRead (L : Ctx cx scRead gscRead (lv + 1) (defAt 25).scope) {g : List GObj} {l : List Nat} {v : CV} {Q : Fl → St → Prop} (hl : l.length ≤ 1000) (h2 : 2 ≤ l.length) (hr : readSpec l = some v)
  (h : ∀ fr, Q (.ret (.c v)) ⟨g, [], fr, []⟩) : ExB cx (defAt 25).body ⟨g, [], [T l, none], []⟩ Q X := by
 have C := L.ok
 have l5 : ("5" : Str) = S [53] := lit _ _ (by decide +kernel)
 have hu := units_ok C (by rw [L.lv]; omega)
 refine ExB.cons (ExS.tryX C L.ce (X' := ReadX l v ⟨g, [], [T l, none], []⟩) ?_ ?_)
 ·refine ExB.cons (ExS.ret (EvE.lst (EvL.cons ?_)))
  obtain ⟨c, hc⟩ : ∃ c, l[1]? = some c := ⟨_, List.getElem?_eq_getElem h2⟩
  refine EvE.ife (EvT.cmp (ev_idxS (L.v 0 rfl rfl (EvE.int ⟨l, 1, c, rfl, rfl, hc, by decide, EvE.str ⟨_, _, _, rfl, rfl, rfl, fun e => ?_, fun e => ?_⟩⟩))))
  ·rw [l5, S_beq] at e
   have hc5 : c = 53 := by simpa using e
   have hv := read_a (hc5 ▸ hc) hr
   refine L.call 0 14 (FnAt.callee L.top.p257) (EvL.cons (L.v 0 rfl rfl (EvL.nil (L.prim (CallOk.mono (call_p257 L.top hl) ?_ ?_)))))
   ·rintro r fr g' ⟨rfl, rfl, rfl, ht⟩
    exact EvL.nil ⟨[.str (S (spec257 l))], rfl, Nat.le_of_ble_eq_true rfl, nofun, hv.1 ht ▸ h _⟩
   ·rintro px g' ⟨rfl, rfl, ht⟩
    exact .a rfl rfl (hv.2 ht).symm
  ·rw [l5, S_beq] at e
   obtain ⟨r, hs, ra, rb, rc⟩ := read_b (fun z => by rw [Option.some.inj (hc.symm.trans z)] at e; simp at e) hr
   refine L.call 1 13 (FnAt.callee L.top.p229) (EvL.cons (L.v 0 rfl rfl (EvL.cons (EvE.tup (EvL.cons (EvE.str (EvL.cons (EvE.int (EvL.nil ⟨[.str "p", .int 21], rfl, Nat.le_of_ble_eq_true rfl, EvL.nil (L.prim (CallOk.mono (call_p229 L.top (by rw [S_len]; exact hl) hs) ?_ ?_))⟩)))))))))
   ·rintro r' fr g' ⟨rfl, rfl, n, hn, rfl⟩
    exact EvL.nil ⟨[.tup [.str "p", .int n]], rfl, Nat.le_of_ble_eq_true rfl, nofun, ra n hn ▸ h _⟩
   ·rintro px g' ⟨rfl, ⟨hn, rfl⟩ | ⟨hn, rfl⟩⟩
    ·exact .a rfl rfl (rb hn)
    ·exact .b rfl rfl (rc hn)
 ·rintro px st₁ hx g₀ s₀ e s F
  cases hx with
  | a hs hp hv =>
   rw [hs, hp] at F
   refine clause_hit C (i := 2) (j := 15) (k := 1) (L.g 2 rfl) (L.t 15 rfl) (L.s 1 rfl) (.inl ⟨75, 75, rfl, rfl, L.top.e75, L.top.e75, by decide, by decide⟩) F ?_
   exact EvX.lst (EvX.str (i := 3) (j := 9) (k := 1) (C.handler e) hu (.inr ⟨75, rfl, L.top.e75⟩) rfl (L.g 3 rfl) (L.t 9 rfl) (L.s 1 rfl) rfl ⟨_, rfl, rfl, hv ▸ h []⟩)
  | b hs hp hv =>
   rw [hs, hp] at F
   refine clause_miss C (i := 2) (j := 15) (L.g 2 rfl) (L.t 15 rfl) (.inl ⟨87, 75, rfl, rfl, L.top.e87, L.top.e75, by decide, by decide⟩) F fun s F => ?_
   refine clause_hit C (i := 4) (j := 16) (k := 1) (L.g 4 rfl) (L.t 16 rfl) (L.s 1 rfl) (.inl ⟨87, 87, rfl, rfl, L.top.e87, L.top.e87, by decide, by decide⟩) F ?_
   exact EvX.lst (EvX.str (i := 3) (j := 9) (k := 1) (C.handler e) hu (.inr ⟨87, rfl, L.top.e87⟩) rfl (L.g 3 rfl) (L.t 9 rfl) (L.s 1 rfl) rfl ⟨_, rfl, rfl, hv ▸ h []⟩)
end
theorem call_read {W : Wd} (Tp : TopA W) {lv : Nat} {l : List Nat} {v : CV} {glob : List GObj} (hl : l.length ≤ 1000) (h2 : 2 ≤ l.length) (hr : readSpec l = some v) :
  CallOk W (lv + 2) (.ref 280) [.c (.str (S l))] [] glob (fun r fr g => r = v ∧ fr = false ∧ g = glob) (fun _ _ => False) := by
 obtain ⟨fd, F⟩ := Tp.lread
 refine CallOk.pos Tp (bs := [("reply", .c (.str (S l)))]) F scOkRead rfl rfl (fun fd vs hl => by obtain ⟨_, rfl⟩ := len1 hl; rfl) ?_
 ·intro cx L hw
  exact bodyRead L hl h2 hr fun fr => RetOk.c rfl ⟨rfl, rfl, rfl⟩
theorem call_items2 {W : Wd} (Tp : TopA W) {lv : Nat} {glob : List GObj} {k : Nat} {q : PV} {rows : Rows} (Sf : Self glob k q rows) (ok : rows.length ≤ 1000) :
  CallOk W (lv + 1) (.ref 200) [.obj k] [] glob (fun r fr g => r = .lst (hdrs rows) ∧ fr = true ∧ g = glob) (fun _ _ => False) := by
 obtain ⟨fd, F⟩ := Tp.items
 refine CallOk.pos Tp (bs := [("self", .obj k)]) F scOkItems rfl rfl (fun fd vs hl => by obtain ⟨_, rfl⟩ := len1 hl; rfl) ?_
 ·intro cx L hw
  exact bodyItems L Sf ok ⟨.lst (hdrs rows), true, rfl, fun _ => rfl, .inl rfl, rfl, rfl, by rw [List.take_length]⟩
noncomputable def scBare : List (Str × NameKind) := [("pairs", .local), ("place", .local), ("caught", .local)]
noncomputable def gscBare : List Str := ["Headers", "ValueError", "str"]
theorem scOkBare : ScOk (defAt 26).scope scBare gscBare := .of (by decide +kernel)
noncomputable def bareV (rows : Rows) (v : List Nat) : Str := if badRows rows = true then refusedT else S v
section
variable {cx : Cx} {st : St} {X : XV → St → Prop} {lv : Nat}
theorem bodyBare (L : Ctx cx scBare gscBare (lv + 3) (defAt 26).scope) {g : List GObj} {rows : Rows} {i : Nat} {n v : List Nat} {Q : Fl → St → Prop} (fit : FitRows rows) (hi : rows[i]? = some (n, v))
  (h : ∀ g' loc fr, g'.take g.length = g → Q (.ret (.c (.str (bareV rows v)))) ⟨g', loc, fr, []⟩) : ExB cx (defAt 26).body ⟨g, [], [some (.c (.lst (hdrs rows))), some (.c (.int (i : Nat))), none], []⟩ Q X := by
 have C := L.ok
 have hu := units_ok C (by rw [L.lv]; omega)
 have hil : i < rows.length := (List.getElem?_eq_some_iff.mp hi).1
 have hrl := fit.1
 refine ExB.cons (ExS.tryX C L.ce (X' := fun px st₁ => px = ⟨.type "ValueError", [.str refusedT]⟩ ∧ badRows rows = true ∧ ∃ o, st₁ = ⟨g ++ [o], [], [some (.c (.lst (hdrs rows))), some (.c (.int (i : Nat))), none], []⟩) ?_ ?_)
 ·refine ExB.cons (ExS.ret (EvE.idx (EvE.idx ?_)))
  refine EvE.own C L.hn L.top.hd (lv := lv + 3) (by rw [L.lv]; exact Nat.le_refl _) (m := ("items", 200)) (by decide) KwEv.nil ?_
  refine ev_headers (lv := lv) C L.hn L.top (by rw [L.lv]; exact Nat.le_refl _) (L.n 0 17 rfl rfl ⟨rfl, L.v 0 rfl rfl ⟨rows, rfl, trivial, rfl, fit, fun hb => ?_, fun hb => ⟨rfl, hb, _, rfl⟩⟩⟩)
  refine ⟨g.length, some (.c (.lst (hdrs rows))), rfl, by simp, EvL.nil ⟨rfl, ?_⟩⟩
  have Sf : Self (g ++ [.inst 236 (some (.c (.lst (hdrs rows))))]) g.length (.c (.lst (hdrs rows))) rows := ⟨by simp, trivial, rfl, rfl⟩
  refine CallOk.at (call_items2 L.top (lv := lv + 2) Sf fit.1) ?_
  refine L.v 1 rfl rfl ⟨i, .c (hdr (n, v)), rfl, by first | exact nz _ | decide | omega, by first | exact nlt4 (by assumption) | decide | omega, pick_map (f := hdr) hi, EvE.int ⟨1, .c (.str (S v)), rfl, by decide, by decide, rfl, nofun, ?_⟩⟩
  have := h (g ++ [.inst 236 (some (.c (.lst (hdrs rows))))]) [hdrs rows] [some (.c (.lst (hdrs rows))), some (.c (.int (i : Nat))), none] (by rw [List.take_left])
  unfold bareV at this
  rw [hb] at this
  exact this
 ·rintro px st₁ ⟨rfl, hb, o, rfl⟩ g₀ s₀ e s F
  refine clause_hit C (i := 1) (j := 31) (k := 2) (L.g 1 rfl) (L.t 31 rfl) (L.s 2 rfl) (.inr ⟨rfl, rfl, rfl⟩) F ?_
  refine EvX.str (i := 2) (j := 9) (k := 2) (C.handler e) hu (.inl rfl) rfl (L.g 2 rfl) (L.t 9 rfl) (L.s 2 rfl) rfl ⟨rfl, ?_⟩
  have := h (g ++ [o]) [] [] (by rw [List.take_left])
  unfold bareV at this
  rw [if_pos hb] at this
  exact this
end
noncomputable def LowG (g : List GObj) : Prop := g.all (GObj.low g.length) = true
theorem call_bare {W : Wd} (Tp : TopA W) {lv : Nat} {rows : Rows} {i : Nat} {n v : List Nat} {glob : List GObj} (hg : LowG glob) (fit : FitRows rows) (hi : rows[i]? = some (n, v)) :
  CallOk W (lv + 4) (.ref 287) [.c (.lst (hdrs rows)), .c (.int (i : Nat))] [] glob (fun r fr g => r = .str (bareV rows v) ∧ fr = false ∧ g = glob) (fun _ _ => False) := by
 obtain ⟨fd, F⟩ := Tp.lbare
 refine CallOk.pos Tp (bs := [("pairs", .c (.lst (hdrs rows))), ("place", .c (.int (i : Nat)))]) F scOkBare rfl rfl (fun fd vs hl => by obtain ⟨_, _, rfl⟩ := len2 hl; rfl) ?_
 ·intro cx L hw
  refine bodyBare L fit hi fun g' loc fr hg' => ?_
  refine ⟨.str (bareV rows v), false, rfl, xff, .inr ?_, rfl, rfl, hg'⟩
  show ((g'.take glob.length).all _) = true
  rw [hg']; exact hg
noncomputable def decN (n : Nat) : List Nat := if n < 10 then [48 + n] else [48 + n / 10, 48 + n % 10]
theorem dec_tab : ∀ n ∈ List.range 100, txtOf (n : Nat) = S (decN n) := by decide +kernel
theorem int_tab : ∀ n ∈ List.range 100, PySem.intText? (S (decN n)) = some ((n : Nat) : Int) := by decide +kernel
theorem dec_len (n : Nat) : (decN n).length ≤ 2 := by unfold decN; split <;> simp
noncomputable def markL : List Nat := [124, 33, 120]
noncomputable def fieldN (m p : Nat) : List Nat := [m] ++ [50] ++ [m] ++ [111, 110] ++ [m] ++ decN p ++ [m]
noncomputable def msgN (m p : Nat) : List Nat := [50, 50, 57, 32, 111, 110, 41, 32, 40] ++ fieldN m p ++ [41, 32, 40, 111, 114, 41]
theorem msg_tab : ∀ m ∈ markL, ∀ p ∈ List.range 16, spec229 (S (msgN m p)) = some (.ok ((p : Nat) : Int)) := by decide +kernel
noncomputable def roundStep (nm hs : List (List Nat)) (s : Row × Rows) (p : Nat × Nat) : Row × Rows :=
 if levD (nAt nm p.1) (nAt nm p.2) (s.1 p.2 - s.1 p.1 - 1) ≤ s.1 p.2 - s.1 p.1 - 1 then
  (upd1 s.1 p.2 (s.1 p.1 + levD (nAt nm p.1) (nAt nm p.2) (s.1 p.2 - s.1 p.1 - 1)), setRows s.2 (nAt hs p.2) (decN (s.1 p.1 + levD (nAt nm p.1) (nAt nm p.2) (s.1 p.2 - s.1 p.1 - 1)).toNat))
 else s
noncomputable def up (l : List Nat) : List Nat := l.map up1
structure HdOk (h : List Nat) : Prop where
 asc : Asc h
 len : h.length ≤ 90
 lowUp : low (up h) = low h
 bad : badN true h = false
 badL : badN true (low h) = false
theorem up_tab2 : ∀ c ∈ List.range 128, up1 c < 128 := by decide
theorem HdOk.ascU {h : List Nat} (H : HdOk h) : Asc (up h) := by
 intro c hc
 obtain ⟨d, hd, rfl⟩ := List.mem_map.mp hc
 exact up_tab2 d (List.mem_range.mpr (H.asc d hd))
structure RInv (hs : List (List Nat)) (s : Row × Rows) : Prop where
 rows : RowsOk s.2
 now : ∀ i, i < 4 → 0 ≤ s.1 i ∧ s.1 i ≤ 15 ∧ getSpec s.2 (low (nAt hs i)) = some (decN (s.1 i).toNat)
theorem set_self {g : List GObj} {kk : Nat} {o : GObj} (h : g[kk]? = some o) : g.set kk o = g := by
 refine List.ext_getElem? fun i => ?_
 rw [List.getElem?_set]
 split
 ·rename_i e
  subst e
  rw [if_pos (List.getElem?_eq_some_iff.mp h).1, h]
 ·rfl
theorem Self.cur {g : List GObj} {k kk : Nat} {rows : Rows} (Sf : Self g k (.obj kk) rows) : g[kk]? = some (.lst (hdrs rows)) := items_obj Sf.items
noncomputable def scRnd : List (Str × NameKind) := [("names", .local), ("heads", .local), ("order", .local), ("table", .local), ("shift", .local), ("i", .local), ("j", .local), ("mark", .local), ("fields", .local), ("host", .local), ("port", .local), ("bound", .local), ("told", .local)]
noncomputable def gscRnd : List Str := ["parse229", "int", "_levenshtein_distance", "str"]
theorem scOkRnd : ScOk (defAt 24).scope scRnd gscRnd := .of (by decide +kernel)
structure Nm3 (nm : List (List Nat)) : Prop extends Nm4 nm where
 asc : ∀ x ∈ nm, Asc x
structure Hd4 (hs : List (List Nat)) : Prop where
 len : hs.length = 4
 ok : ∀ h ∈ hs, HdOk h
theorem Hd4.get {hs : List (List Nat)} (N : Hd4 hs) {i : Nat} (hi : i < 4) : hs[i]? = some (nAt hs i) := by
 have := N.len
 unfold nAt
 rw [List.getD_eq_getElem?_getD, List.getElem?_eq_getElem (by omega)]; rfl
theorem Hd4.at {hs : List (List Nat)} (N : Hd4 hs) {i : Nat} (hi : i < 4) : HdOk (nAt hs i) := N.ok _ (List.mem_of_getElem? (N.get hi))
section
variable {cx : Cx} {st : St} {X : XV → St → Prop} {lv : Nat}
inductive RndG (nm hs : List (List Nat)) (sh : Int) (s : Row × Rows) (i j : Nat) : Prop
 | mk (m pi pj : Nat) (b t : Int) (im : (Txt.charAt ("|!x" : Str) ((sh + i).fmod 3)).map (fun _ => PV.c (.str (Txt.item "|!x" ((sh + i).fmod 3)))) = some (.c (.str (S [m])))) (b1 : -(2 ^ 62) ≤ (sh + i).fmod 3) (b2 : (sh + i).fmod 3 < 2 ^ 62)
   (p2 : pj < 16) (gi : getSpec s.2 (low (up (nAt hs i))) = some (decN pi)) (gj : getSpec s.2 (low (nAt hs j)) = some (decN pj)) (hmt : spec229 (S (msgN m pi)) = some (.ok ((pi : Nat) : Int)))
   (eb : (pj : Int) - (pi : Int) - 1 = b) (et : levD (nAt nm i) (nAt nm j) b = t)
   (yes : t ≤ b → ∃ w : Nat, (pi : Int) + t = w ∧ w < 16 ∧ (roundStep nm hs s (i, j)).2 = setRows s.2 (nAt hs j) (decN w)) (no : ¬ t ≤ b → roundStep nm hs s (i, j) = s)
theorem rnd_facts {nm hs : List (List Nat)} {sh : Int} {s : Row × Rows} {i j : Nat} (H : Hd4 hs) (I0 : RInv hs s) (I1 : RInv hs (roundStep nm hs s (i, j))) (hi : i < 4) (hj : j < 4) : RndG nm hs sh s i j := by
 obtain ⟨pi0, pi1, gi⟩ := I0.now i hi
 obtain ⟨pj0, pj1, gj⟩ := I0.now j hj
 obtain ⟨n0, n1, _⟩ := I1.now j hj
 obtain ⟨pi, hpi⟩ : ∃ pi : Nat, s.1 i = pi := ⟨_, (Int.toNat_of_nonneg pi0).symm⟩
 obtain ⟨pj, hpj⟩ : ∃ pj : Nat, s.1 j = pj := ⟨_, (Int.toNat_of_nonneg pj0).symm⟩
 rw [hpi, Int.toNat_natCast] at gi
 rw [hpj, Int.toNat_natCast] at gj
 have r := fmod_lt (sh + i) (n := 3) (by decide)
 have hmm : markL.getD ((sh + i).fmod 3).toNat 0 ∈ markL := by
  obtain ⟨q, hq⟩ : ∃ r : Nat, (sh + i).fmod 3 = r := ⟨_, (Int.toNat_of_nonneg r.1).symm⟩
  rw [hq, Int.toNat_natCast]
  have : q = 0 ∨ q = 1 ∨ q = 2 := by omega
  rcases this with rfl | rfl | rfl <;> decide
 have hdef : roundStep nm hs s (i, j) = if levD (nAt nm i) (nAt nm j) ((pj : Int) - pi - 1) ≤ (pj : Int) - pi - 1 then (upd1 s.1 j ((pi : Int) + levD (nAt nm i) (nAt nm j) ((pj : Int) - pi - 1)), setRows s.2 (nAt hs j) (decN ((pi : Int) + levD (nAt nm i) (nAt nm j) ((pj : Int) - pi - 1)).toNat)) else s := by
  rw [← hpi, ← hpj]; rfl
 refine ⟨_, pi, pj, _, _, idx_S (show ("|!x" : Str) = S markL from lit _ _ (by decide +kernel)) r.1 (show _ < ((3 : Nat) : Int) from r.2) rfl, by omega, by omega, by omega, by rw [(H.at hi).lowUp]; exact gi, gj, msg_tab _ hmm pi (List.mem_range.mpr (by omega)), rfl, rfl, fun e => ?_, fun e => hdef.trans (if_neg e)⟩
 rw [if_pos e] at hdef
 rw [hdef] at n0 n1
 have e2 : upd1 s.1 j ((pi : Int) + levD (nAt nm i) (nAt nm j) ((pj : Int) - pi - 1)) j = (pi : Int) + levD (nAt nm i) (nAt nm j) ((pj : Int) - pi - 1) := if_pos rfl
 obtain ⟨w, hw⟩ : ∃ w : Nat, (pi : Int) + levD (nAt nm i) (nAt nm j) ((pj : Int) - pi - 1) = w := ⟨_, (Int.toNat_of_nonneg (e2 ▸ n0)).symm⟩
 refine ⟨w, hw, ?_, ?_⟩
 ·have : (w : Int) ≤ 15 := hw ▸ e2 ▸ n1
  omega
 ·rw [hdef, hw, Int.toNat_natCast]
theorem small_tab : ∀ w ∈ List.range 16, ((w : Nat) : Int).natAbs.log2 < 1920 ∧ badN false (decN w) = false := by decide +kernel
theorem stepRnd (L : Ctx cx scRnd gscRnd (lv + 3) (defAt 24).scope) {g : List GObj} {k kk : Nat} {nm hs : List (List Nat)} {sh : Int} {s : Row × Rows} {i j : Nat} {o0 : Option PV} {a7 a8 a9 a10 a11 a12 : Option PV} {Q : Fl → St → Prop} (N : Nm3 nm) (H : Hd4 hs) (Sf : Self g k (.obj kk) s.2) (I0 : RInv hs s) (I1 : RInv hs (roundStep nm hs s (i, j))) (hi : i < 4) (hj : j < 4)
  (h : ∀ a7 a8 a9 a10 a11 a12, Q .next ⟨g.set kk (.lst (hdrs (roundStep nm hs s (i, j)).2)), [], [some (.c (.lst (cstrs nm))), some (.c (.lst (cstrs hs))), o0, some (.obj k), I sh, I i, I j, a7, a8, a9, a10, a11, a12], []⟩) :
  ExB cx (forBody ((defAt 24).body.getD 0 (.Pass default))) ⟨g, [], [some (.c (.lst (cstrs nm))), some (.c (.lst (cstrs hs))), o0, some (.obj k), I sh, I i, I j, a7, a8, a9, a10, a11, a12], []⟩ Q X := by
 obtain ⟨m, pi, pj, b, t, im, b1, b2, p2, gi, gj, hmt, eb, et, yes, no⟩ := rnd_facts (sh := sh) H I0 I1 hi hj
 have l2 : ("2" : Str) = S [50] := lit _ _ (by decide +kernel)
 have lon : ("on" : Str) = S [111, 110] := lit _ _ (by decide +kernel)
 have la : ("229 on) (" : Str) = S [50, 50, 57, 32, 111, 110, 41, 32, 40] := lit _ _ (by decide +kernel)
 have lb : (") (or)" : Str) = S [41, 32, 40, 111, 114, 41] := lit _ _ (by decide +kernel)
 have Hi := H.at hi
 have Hj := H.at hj
 have hni : (nAt hs i).length ≤ 1000 := Nat.le_trans Hi.len (by decide)
 have hnj : (nAt hs j).length ≤ 1000 := Nat.le_trans Hj.len (by decide)
 have hup : (up (nAt hs i)).length ≤ 1000 := (List.length_map _).symm ▸ hni
 have si := pick_map (f := fun x => CV.str (S x)) (N.get hi)
 have sj := pick_map (f := fun x => CV.str (S x)) (N.get hj)
 have ui := pick_map (f := fun x => CV.str (S x)) (H.get hi)
 have uj := pick_map (f := fun x => CV.str (S x)) (H.get hj)
 have d1 := dec_len pi
 have d2 : (fieldN m pi).length ≤ 9 := by simp [fieldN]; omega
 have zf : ([m] ++ [50] ++ [m] ++ [111, 110] ++ [m]).length + (decN pi).length ≤ 1000 := by simp; omega
 have zg : ([m] ++ [50] ++ [m] ++ [111, 110] ++ [m] ++ decN pi).length + [m].length ≤ 1000 := by simp; omega
 have za : ([50, 50, 57, 32, 111, 110, 41, 32, 40] : List Nat).length + (fieldN m pi).length ≤ 1000 := by simp; omega
 have zb : (([50, 50, 57, 32, 111, 110, 41, 32, 40] : List Nat) ++ fieldN m pi).length + ([41, 32, 40, 111, 114, 41] : List Nat).length ≤ 1000 := by simp; omega
 have zm : (S (msgN m pi)).length ≤ 1000 := by rw [S_len]; simp [msgN]; omega
 have cget : CallV cx.wd (lv + 3) (.ref 183) [.obj k, .c (.str (S (up (nAt hs i))))] [] g (.str (S (decN pi))) := (call_get L.top Sf I0.rows (x := up (nAt hs i)) Hi.ascU hup (by rw [Hi.lowUp]; exact Hi.badL)).toV (by rintro _ _ _ ⟨rfl, rfl, rfl⟩; rw [gi]; exact ⟨rfl, rfl, rfl⟩) fun _ _ h => h
 have cget2 : CallV cx.wd (lv + 3) (.ref 183) [.obj k, .c (.str (S (nAt hs j)))] [] g (.str (S (decN pj))) := (call_get L.top Sf I0.rows (x := nAt hs j) Hj.asc hnj Hj.badL).toV (by rintro _ _ _ ⟨rfl, rfl, rfl⟩; rw [gj]; exact ⟨rfl, rfl, rfl⟩) fun _ _ h => h
 have c229 : CallV cx.wd (lv + 3) (.ref 96) [.c (.str (S (msgN m pi))), .c (.tup [.str (S (nAt nm i)), .int 21])] [] g (.tup [.str (S (nAt nm i)), .int pi]) := (call_p229 L.top zm hmt).toV (by rintro _ _ _ ⟨rfl, rfl, n, hn, rfl⟩; cases hn; exact ⟨rfl, rfl, rfl⟩) (by rintro _ _ ⟨_, ⟨q, _⟩ | ⟨q, _⟩⟩ <;> cases q)
 have clev : CallV cx.wd (lv + 3) (.ref 52) [.c (.str (S (nAt nm i))), .c (.str (S (nAt nm j))), .c (.int b)] [] g (.int t) := et ▸ call_lev (m := b) L.top.toTop (Nat.le_trans (Nat.le_of_eq (N.at hi)) (by decide)) (Nat.le_trans (Nat.le_of_eq (N.at hj)) (by decide)) (Asc.lower fun c hc => (List.mem_append.mp hc).elim (N.asc _ (List.mem_of_getElem? (N.get hi)) c) (N.asc _ (List.mem_of_getElem? (N.get hj)) c))
 clear gi gj hmt et zm Hi hni d1 d2 I1
 refine L.bset 7 (.idx .str (.bin (.bin (L.vv 4 rfl rfl) (L.vv 5 rfl rfl) rfl trivial) .int rfl (sMod (by decide))) b1 b2 im) ?_
 refine L.bset 8 (.addS (.addS (.addS (.addS (.addS (.addS (L.vv 7 rfl rfl) (.lit l2) (Nat.le_of_ble_eq_true rfl)) (L.vv 7 rfl rfl) (Nat.le_of_ble_eq_true rfl)) (.lit lon) (Nat.le_of_ble_eq_true rfl)) (L.vv 7 rfl rfl) (Nat.le_of_ble_eq_true rfl))
  (L.vown (m := ("get", 183)) (by decide) KwEv.nil (L.vv 3 rfl rfl) Sf.inst (.cons (.meth PySem.F.plainAttrs_str PySem.F.slot_str_upper PySem.F.type_str_upper (.idx (L.vv 1 rfl rfl) (L.vv 5 rfl rfl) (nz _) (nlt4 hi) ui) .str .nil fun _ _ q => Prim.upperE (upper_S _ (H.at hi).asc) (tooLong_S hup) q) .nil) rfl cget) zf) (L.vv 7 rfl rfl) zg) ?_
 refine L.btup 9 10 (L.vcall 0 13 (FnAt.callee L.top.p229) (.cons (.addS (.addS (.lit la) (L.vv 8 rfl rfl) za) (.lit lb) zb) (.cons (.tup (.cons (.idx (L.vv 0 rfl rfl) (L.vv 5 rfl rfl) (nz _) (nlt4 hi) si) (.cons .int .nil)) rfl (Nat.le_of_ble_eq_true rfl)) .nil)) (L.vprim c229)) ?_
 refine L.bset 11 (.bin (r := .int b) (.bin (L.vcall 1 10 .type (.cons (L.vown (m := ("get", 183)) (by decide) KwEv.nil (L.vv 3 rfl rfl) Sf.inst (.cons (.idx (L.vv 1 rfl rfl) (L.vv 6 rfl rfl) (nz _) (nlt4 hj) uj) .nil) rfl cget2) .nil) fun _ _ q => Prim.intStr (int_tab pj (List.mem_range.mpr (Nat.lt_trans p2 (by decide)))) (by rw [S_len]; have := dec_len pj; omega) q) (L.vv 10 rfl rfl) rfl trivial) .int (congrArg (fun x => some (CV.int x)) eb) trivial) ?_
 refine L.bset 12 (L.vcall 2 4 (FnAt.callee L.top.f52) (.cons (L.vv 9 rfl rfl) (.cons (.idx (L.vv 0 rfl rfl) (L.vv 6 rfl rfl) (nz _) (nlt4 hj) sj) (.cons (L.vv 11 rfl rfl) .nil))) (L.vprim clev)) ?_
 refine ExB.ifp (.cmp (L.vv 12 rfl rfl) (L.vv 11 rfl rfl) rfl) (fun e => ?_) fun e => ?_
 ·obtain ⟨w, hw, hw16, hstep⟩ := yes (of_decide_eq_true e)
  obtain ⟨s1, s2⟩ := small_tab w (List.mem_range.mpr hw16)
  rw [hstep] at h
  refine ExB.cons (ExS.setOwn L.ok L.hn L.top.hd (lv := lv + 3) (by rw [L.lv]; exact Nat.le_refl _) (EvE.v (L.vcall 3 9 .type (.cons (.bin (r := .int w) (L.vv 10 rfl rfl) (L.vv 12 rfl rfl) (congrArg (fun x => some (CV.int x)) hw) trivial) .nil) fun _ _ q => Prim.strIntE s1 (dec_tab w (List.mem_range.mpr (Nat.lt_trans hw16 (by decide)))) q) ?_))
  refine L.v 3 rfl rfl (EvE.v (.idx (L.vv 1 rfl rfl) (L.vv 6 rfl rfl) (nz _) (nlt4 hj) uj) ⟨k, _, rfl, Sf.inst, rfl, rfl, ?_⟩)
  exact CallOk.at (call_seti L.top Sf I0.rows (x := nAt hs j) (v := decN w) Hj.asc hnj (Nat.le_trans (dec_len w) (by decide)) Hj.badL Hj.bad s2) ⟨rfl, ExB.nil (ExB.nil (h ..))⟩
 ·rw [no (of_decide_eq_false e), set_self Sf.cur] at h
  exact ExB.nil (h ..)
inductive JRnd (g : List GObj) (k kk : Nat) (nm hs : List (List Nat)) (sh : Int) (s0 : Row × Rows) (ord : Prs) (r : List CV) (st : St) : Prop
 | mk (done rest : Prs) (a5 a6 a7 a8 a9 a10 a11 a12 : Option PV) (a : r = prs rest) (b : ord = done ++ rest) (e : st = ⟨g.set kk (.lst (hdrs (done.foldl (roundStep nm hs) s0).2)), [], [some (.c (.lst (cstrs nm))), some (.c (.lst (cstrs hs))), some (.c (.lst (prs ord))), some (.obj k), I sh, a5, a6, a7, a8, a9, a10, a11, a12], []⟩)
theorem bodyRnd (L : Ctx cx scRnd gscRnd (lv + 3) (defAt 24).scope) {g : List GObj} {k kk : Nat} {nm hs : List (List Nat)} {sh : Int} {s0 : Row × Rows} {ord : Prs} {Q : Fl → St → Prop} (N : Nm3 nm) (H : Hd4 hs) (Sf : Self g k (.obj kk) s0.2) (ho : ∀ p ∈ ord, p.1 < 4 ∧ p.2 < 4)
  (hI : ∀ done rest, ord = done ++ rest → RInv hs (done.foldl (roundStep nm hs) s0))
  (h : ∀ fr, Q .next ⟨g.set kk (.lst (hdrs (ord.foldl (roundStep nm hs) s0).2)), [], fr, []⟩) :
  ExB cx (defAt 24).body ⟨g, [], [some (.c (.lst (cstrs nm))), some (.c (.lst (cstrs hs))), some (.c (.lst (prs ord))), some (.obj k), I sh, none, none, none, none, none, none, none, none], []⟩ Q X := by
 have e0 : g = g.set kk (.lst (hdrs s0.2)) := (set_self Sf.cur).symm
 refine ExB.cons (ExS.for L.ok L.hn L.ce (JRnd g k kk nm hs sh s0 ord) (L.v 2 rfl rfl ⟨prs ord, rfl, ⟨[], ord, none, none, none, none, none, none, none, none, rfl, rfl, congrArg (fun g => St.mk g [] [some (.c (.lst (cstrs nm))), some (.c (.lst (cstrs hs))), some (.c (.lst (prs ord))), some (.obj k), I sh, none, none, none, none, none, none, none, none] []) e0⟩, (xnl rfl)⟩) ?_ ?_)
 ·rintro y r _ ⟨done, rest, a5, a6, a7, a8, a9, a10, a11, a12, hr, hw, rfl⟩
  cases rest with
  | nil => cases hr
  | cons p rest =>
   cases hr
   obtain ⟨hi, hj⟩ := ho p (by rw [hw]; simp)
   have hfold : (done ++ [p]).foldl (roundStep nm hs) s0 = roundStep nm hs (done.foldl (roundStep nm hs) s0) p := by rw [List.foldl_append]; rfl
   have hw2 : ord = (done ++ [p]) ++ rest := by rw [hw]; simp
   have I1 := hI (done ++ [p]) rest hw2
   rw [hfold] at I1
   exact AsG.tup L.ok L.hn (L.asg 5 rfl (L.asg 6 rfl (stepRnd L N H Sf.put (hI done (p :: rest) hw) I1 hi hj fun b7 b8 b9 b10 b11 b12 => ⟨done ++ [p], rest, I p.1, I p.2, b7, b8, b9, b10, b11, b12, rfl, hw2, by rw [hfold, List.set_set]⟩))) rfl
 ·rintro _ ⟨done, rest, a5, a6, a7, a8, a9, a10, a11, a12, hr, hw, rfl⟩
  cases rest with
  | cons p rest => cases hr
  | nil =>
   rw [List.append_nil] at hw
   subst hw
   exact ExB.nil (h _)
end
theorem call_round {W : Wd} (Tp : TopA W) {lv : Nat} {glob : List GObj} {k kk : Nat} {nm hs : List (List Nat)} {sh : Int} {s0 : Row × Rows} {ord : Prs} (N : Nm3 nm) (H : Hd4 hs) (Sf : Self glob k (.obj kk) s0.2) (ho : ∀ p ∈ ord, p.1 < 4 ∧ p.2 < 4)
  (hI : ∀ done rest, ord = done ++ rest → RInv hs (done.foldl (roundStep nm hs) s0)) :
  CallOk W (lv + 4) (.ref 273) [.c (.lst (cstrs nm)), .c (.lst (cstrs hs)), .c (.lst (prs ord)), .obj k, .c (.int sh)] [] glob (fun r fr g => r = .none ∧ fr = false ∧ g = glob.set kk (.lst (hdrs (ord.foldl (roundStep nm hs) s0).2))) (fun _ _ => False) := by
 obtain ⟨fd, F⟩ := Tp.lround
 refine CallOk.pos Tp (bs := [("names", .c (.lst (cstrs nm))), ("heads", .c (.lst (cstrs hs))), ("order", .c (.lst (prs ord))), ("table", .obj k), ("shift", .c (.int sh))]) F scOkRnd rfl rfl (fun fd vs hl => by obtain ⟨_, _, rfl, q⟩ := lenS hl; obtain ⟨_, _, _, _, rfl⟩ := len4 q; rfl) ?_
 ·intro cx L hw
  exact bodyRnd L N H Sf ho hI fun fr => RetOk.n (by simp) ⟨rfl, rfl, rfl⟩
inductive CInts : List Expr → List Int → Prop
 | nil : CInts [] []
 | cons {a : Int} {k : Nat} {p : Pos} {es : List Expr} {l : List Int} : CInts es l → CInts (.Constant (.int a) k p :: es) (a :: l)
inductive CStrs : List Expr → List Str → Prop
 | nil : CStrs [] []
 | cons {a : Str} {k : Nat} {p : Pos} {es : List Expr} {l : List Str} : CStrs es l → CStrs (.Constant (.str a) k p :: es) (a :: l)
section
variable {cx : Cx} {st : St} {X : XV → St → Prop} {lv : Nat} {scope : Scope}
theorem ev_cints {es : List Expr} {l : List Int} (c : CInts es l) : ∀ {Q : List PV → St → Prop}, Q ((l.map CV.int).map .c) st → EvL cx es st Q X := by
 induction c with
 | nil => exact fun h => EvL.nil h
 | cons c ih => exact fun h => EvL.cons (EvE.int (ih h))
theorem ev_lints {es : List Expr} {l : List Int} {pos : Pos} {Q : PV → St → Prop} (c : CInts es l) (hz : l.length ≤ 1000) (h : Q (.c (.lst (l.map .int))) st) : EvE cx (.List es pos) st Q X :=
 EvE.lst (ev_cints c ⟨l.map .int, rfl, by rw [List.length_map]; exact hz, h⟩)
theorem ev_tints {es : List Expr} {l : List Int} {kk : Nat} {pos : Pos} {Q : PV → St → Prop} (c : CInts es l) (hz : l.length ≤ 1000) (h : Q (.c (.tup (l.map .int))) st) : EvE cx (.Tuple es kk pos) st Q X :=
 EvE.tup (ev_cints c ⟨l.map .int, rfl, by rw [List.length_map]; exact hz, h⟩)
theorem ev_cstrs {es : List Expr} {l : List Str} (c : CStrs es l) : ∀ {Q : List PV → St → Prop}, Q ((l.map CV.str).map .c) st → EvL cx es st Q X := by
 induction c with
 | nil => exact fun h => EvL.nil h
 | cons c ih => exact fun h => EvL.cons (EvE.str (ih h))
theorem ev_lstrs {es : List Expr} {l : List Str} {pos : Pos} {Q : PV → St → Prop} (c : CStrs es l) (hz : l.length ≤ 1000) (h : Q (.c (.lst (l.map .str))) st) : EvE cx (.List es pos) st Q X :=
 EvE.lst (ev_cstrs c ⟨l.map .str, rfl, by rw [List.length_map]; exact hz, h⟩)
theorem CompL.mapG {α : Type} {y : Str} {k : NameKind} {usc gsc : List Str} {elt iter : Expr} {p1 pos : Pos} {up : List CV} {p : PV} {l : List α} (g : α → CV) (F : α → CV) (f : CV → CV) (hf : ∀ a, f (g a) = F a) (hz : l.length ≤ 100000)
  (hlive : ∀ q, liveOf p = some q → itemsOf st q = some (l.map g)) (hk : k = .local ∨ k = .cell)
  (step : ∀ cx', CCtx cx' [(y, k)] usc gsc lv → cx'.wd = cx.wd → ∀ a ∈ l, EvE cx' elt ⟨st.glob, st.loc, [some (.c (g a))], up⟩ (fun p st₃ => p = .c (F a) ∧ st₃ = ⟨st.glob, st.loc, [some (.c (g a))], up⟩) XF) :
  CompL cx lv [(y, k)] usc gsc (.ListComp elt [⟨.Name y p1, iter, [], 0⟩] scope pos) up st p (l.map g) (EndV st (l.map F)) := by
 refine CompL.one (fun c => some (f c)) ?_ (by rw [List.length_map]; exact hz) hlive ?_
 ·rw [fm_all]
  exact (List.map_congr_left fun a _ => hf a).symm
 ·intro cx' L' hw hA z hz'
  obtain ⟨a, ha, rfl⟩ := List.mem_map.mp hz'
  refine TurnC.name L' (i := 0) rfl (fun fr hfr => ⟨rfl, xtf, fun _ => ?_⟩) hk
  obtain ⟨o, rfl⟩ := len1 hfr
  refine EvE.mono (step cx' L' hw a ha) ?_ fun _ _ x => x
  rintro p' st₃ ⟨rfl, rfl⟩
  exact ⟨rfl, _, rfl, congrArg some (hf a)⟩
theorem CompL.to {sc : List (Str × NameKind)} {usc gsc : List Str} {e : Expr} {up : List CV} {p : PV} {l vs ws : List CV} (q : vs = ws) (h : CompL cx lv sc usc gsc e up st p l (EndV st ws)) : CompL cx lv sc usc gsc e up st p l (EndV st vs) := q ▸ h
theorem ev_lstrsE {es : List Expr} {l : List Str} {v : List CV} {pos : Pos} {Q : PV → St → Prop} (c : CStrs es l) (hz : l.length ≤ 1000) (e : l.map CV.str = v) (h : Q (.c (.lst v)) st) : EvE cx (.List es pos) st Q X := ev_lstrs c hz (e ▸ h)
end
theorem range5_items {st : St} : itemsOf st (.c (.range 0 5 1)) = some (nums (List.range 5)) := itemsOf_range (n := 5) (by decide)
noncomputable def natF (F : Nat → CV) (c : CV) : CV := match c with
 | .int a => F a.toNat
 | _ => .none
theorem natF_eq (F : Nat → CV) (a : Nat) : natF F (.int (a : Nat)) = F a := rfl
noncomputable def txtF (F : List Nat → CV) (c : CV) : CV := match c with
 | .str z => F z.cps.toList
 | _ => .none
theorem txtF_eq (F : List Nat → CV) (a : List Nat) : txtF F (.str (S a)) = F a := rfl
noncomputable def base5 : List Int := [130, 2831, 4471, 4571, 0]
noncomputable def fifth (z : List Int) (k : Nat) : List Int := (sliceRange (sliceBounds (some (k : Int)) none (some 5) z.length).1 (sliceBounds (some (k : Int)) none (some 5) z.length).2.1 (sliceBounds (some (k : Int)) none (some 5) z.length).2.2).filterMap (z[·]?)
theorem fifth_eq (z : List Int) (k : Nat) : sliceL (z.map .int) (some (k : Int)) none (some 5) = (fifth z k).map .int := by
 unfold sliceL fifth
 rw [List.length_map]
 generalize sliceRange _ _ _ = r
 induction r with
 | nil => rfl
 | cons a r ih =>
  rw [List.filterMap_cons, List.filterMap_cons, List.getElem?_map]
  cases h : z[a]? with
  | none => exact ih
  | some b =>
   show CV.int b :: _ = CV.int b :: _
   rw [ih]
noncomputable def cellsOf (z : List Int) : List Int := (List.range 5).map fun k => base5.getD k 0 + (fifth z k).sum
theorem cells_len (z : List Int) : (cellsOf z).length = 5 := by simp [cellsOf]
noncomputable def portF (c : List Int) : Row := fun k => ((c.getD k 0).fdiv 300).fmod 16
noncomputable def tailsN : List (List Nat) := [[34, 32, 104, 101, 114, 101], [34], [], [34, 32, 105, 115, 32, 34, 105, 116, 34]]
noncomputable def tailsT : List Str := ["\" here", "\"", "", "\" is \"it\""]
theorem tails_eq : tailsT.map CV.str = cstrs tailsN := by
 have : tailsT = tailsN.map S := by decide +kernel
 rw [this, List.map_map]; rfl
noncomputable def tailAt (c : List Int) (k : Nat) : List Nat := tailsN.getD (((c.getD 4 0).fdiv 3 + k).fmod 4).toNat []
noncomputable def say257 (c : List Int) (n : List Nat) (k : Nat) : List Nat := [50, 53, 55, 32, 34] ++ rep1 34 [34, 34] n ++ tailAt c k
noncomputable def lawB : List Stmt := (defAt 32).body
noncomputable def lawSt (i : Nat) : Stmt := lawB.getD i (.Pass default)
noncomputable def scLaw : List (Str × NameKind) := [("script", .cell), ("cells", .cell), ("ports", .cell), ("tails", .cell), ("drawn", .cell), ("names", .local), ("heads", .cell), ("rows", .local), ("table", .local), ("order", .local), ("far", .cell), ("late", .cell), ("kept", .local), ("written", .cell), ("least", .cell), ("due", .local), ("shown", .local), ("costs", .local), ("sign", .local), ("odd", .cell), ("bare", .local), ("refused", .cell), ("taken", .local), ("good", .local), ("bad", .local)]
noncomputable def gscLaw : List Str := ["range", "_law_names", "Headers", "_law_order", "sum", "_law_round", "_law_ways", "_law_late", "_law_costs"]
theorem scOkLaw : ScOk (defAt 32).scope scLaw gscLaw := .of (by decide +kernel)
theorem compL0 : CompOk (compScope (lawSt 0)) [("k", .local)] ["script"] ["sum"] :=
 .of (by decide +kernel)
theorem compL1 : CompOk (compScope (lawSt 1)) [("k", .local)] ["cells"] [] :=
 .of (by decide +kernel)
theorem compL4 : CompOk (compScope (lawSt 4)) [("k", .local)] ["cells", "drawn", "tails"] ["parse257"] :=
 .of (by decide +kernel)
theorem compL5 : CompOk (compScope (lawSt 5)) [("name", .local)] [] ["_escape_attrib"] :=
 .of (by decide +kernel)
theorem cell_at {c : List Int} (hc : c.length = 5) {k : Nat} (hk : k < 5) : c[k]? = some (c.getD k 0) := by
 rw [List.getD_eq_getElem?_getD, List.getElem?_eq_getElem (by omega)]; rfl
section
variable {cx : Cx} {X : XV → St → Prop} {lv : Nat} {g : List GObj} {Q : Fl → St → Prop}
theorem law0 (L : Ctx cx scLaw gscLaw (lv + 4) (defAt 32).scope) {z : List Int} {r : List (Option PV)} (hz : z.length ≤ 1000)
  (h : ExB cx (lawB.drop 1) ⟨g, [], some (.c (.lst (z.map .int))) :: some (.c (.lst ((cellsOf z).map .int))) :: r, []⟩ Q X) :
  ExB cx lawB ⟨g, [], some (.c (.lst (z.map .int))) :: none :: r, []⟩ Q X := by
 have C := L.ok
 refine ExB.cons (L.setC 1 [("k", .local)] ["script"] ["sum"] compL0 (.cell 0 (L.s 0 rfl) rfl .nil) (L.call 0 7 .type (EvL.cons (EvE.int (EvL.nil (Prim.range1 ⟨rfl, rfl, nums (List.range 5), (List.range 5).map fun k => .int (base5.getD k 0 + (fifth z k).sum), range5_items, ?_, ?_⟩))))))
 ·refine CompL.mapG (fun k : Nat => CV.int k) (fun k => .int (base5.getD k 0 + (fifth z k).sum)) (natF fun k => .int (base5.getD k 0 + (fifth z k).sum)) (fun _ => rfl) (by decide) (xnl rfl) (.inl rfl) ?_
  intro cx' L' hw k hk
  have hk5 : k < 5 := List.mem_range.mp hk
  refine @EvE.bin cx' _ XF _ _ _ _ _ ?_
  refine @EvE.idx cx' _ XF _ _ _ _ ?_ (by intro _ _; rfl)
  refine @ev_lints cx' _ XF _ base5 _ _ (.cons (.cons (.cons (.cons (.cons .nil))))) (by decide) ?_
  refine L'.v 0 rfl rfl ⟨k, .c (.int (base5.getD k 0)), rfl, by first | exact nz _ | decide | omega, by first | exact nlt4 (by assumption) | decide | omega, pick_map (f := CV.int) (cell_at rfl hk5), ?_⟩
  refine L'.call 0 12 .builtin (EvL.cons (ev_sliceL false (L'.f 0 rfl rfl (evO_some (L'.v 0 rfl rfl (evO_none (evO_some (EvE.int ⟨z.map .int, rfl, trivial, by rw [List.length_map, sizeLine_eq]; omega, by decide, fun _ => ?_, xff⟩)))))) (.inr ⟨_, rfl⟩)))
  rw [fifth_eq]
  exact EvL.nil (Prim.sum (L'.ok.hn L'.hn) ⟨_, _, _, rfl, rfl, rfl, trivial, rfl, rfl⟩)
 ·have e : ((List.range 5).map fun k => CV.int (base5.getD k 0 + (fifth z k).sum)) = (cellsOf z).map .int := by
   unfold cellsOf; rw [List.map_map]; rfl
  rw [e]
  exact h
theorem law1 (L : Ctx cx scLaw gscLaw (lv + 4) (defAt 32).scope) {c : List Int} {o0 : Option PV} {r : List (Option PV)} (hc : c.length = 5)
  (h : ExB cx (lawB.drop 2) ⟨g, [], o0 :: some (.c (.lst (c.map .int))) :: some (.c (.lst (vecL (portF c)))) :: r, []⟩ Q X) :
  ExB cx (lawB.drop 1) ⟨g, [], o0 :: some (.c (.lst (c.map .int))) :: none :: r, []⟩ Q X := by
 have C := L.ok
 refine ExB.cons (L.setC 2 [("k", .local)] ["cells"] [] compL1 (.cell 1 (L.s 1 rfl) rfl .nil) (L.call 0 7 .type (EvL.cons (EvE.int (EvL.nil (Prim.range1 ⟨rfl, rfl, nums (List.range 4), vecL (portF c), range4_items, ?_, h⟩))))))
 refine CompL.mapG (fun k : Nat => CV.int k) (fun k => .int (portF c k)) (natF fun k => .int (portF c k)) (fun _ => rfl) (by decide) (xnl rfl) (.inl rfl) ?_
 intro cx' L' hw k hk
 have hk4 : k < 4 := List.mem_range.mp hk
 refine EvE.bin (EvE.bin (EvE.idx (L'.f 0 rfl rfl (L'.v 0 rfl rfl ⟨k, .c (.int (c.getD k 0)), rfl, by first | exact nz _ | decide | omega, by first | exact nlt4 (by assumption) | decide | omega, pick_map (f := CV.int) (cell_at hc (by omega)), EvE.int ⟨_, _, _, rfl, rfl, rfl, sFd (by decide), EvE.int ⟨_, _, _, rfl, rfl, rfl, sMod (by decide), rfl, rfl⟩⟩⟩))))
theorem law2 (L : Ctx cx scLaw gscLaw (lv + 4) (defAt 32).scope) {o0 o1 o2 : Option PV} {r : List (Option PV)}
  (h : ExB cx (lawB.drop 3) ⟨g, [], o0 :: o1 :: o2 :: some (.c (.lst (cstrs tailsN))) :: r, []⟩ Q X) :
  ExB cx (lawB.drop 2) ⟨g, [], o0 :: o1 :: o2 :: none :: r, []⟩ Q X := by
 refine @ExB.cons cx _ X _ _ _ ?_
 refine @ExS.asgName cx _ X L.ok 3 _ _ _ _ _ _ (L.s 3 rfl) (.inr rfl) ?_ rfl
 refine @ev_lstrs cx _ X _ tailsT _ _ (.cons (.cons (.cons (.cons .nil)))) (by decide) ?_
 rw [tails_eq]
 exact h
theorem law3 (L : Ctx cx scLaw gscLaw (lv + 4) (defAt 32).scope) {c : List Int} {o0 o2 o3 : Option PV} {r : List (Option PV)} (hc : c.length = 5)
  (h : ExB cx (lawB.drop 4) ⟨g, [], o0 :: some (.c (.lst (c.map .int))) :: o2 :: o3 :: some (.c (.lst (cstrs (namesOf c)))) :: r, []⟩ Q X) :
  ExB cx (lawB.drop 3) ⟨g, [], o0 :: some (.c (.lst (c.map .int))) :: o2 :: o3 :: none :: r, []⟩ Q X := by
 refine ExB.cons (L.set 4 (L.call 1 21 (FnAt.callee L.top.lnames) (EvL.cons (L.c 1 rfl rfl (EvL.nil (L.prim (CallOk.at (call_names L.top hc) ?_)))))))
 exact h
end
noncomputable abbrev sumScope (s : Stmt) (b : Bool) : Scope := scAt s [if b then 0 else 1]
theorem compL6a : CompOk (sumScope (lawSt 6) true) [("k", .local)] ["heads", "ports"] ["str"] :=
 .of (by decide +kernel)
theorem compL6b : CompOk (sumScope (lawSt 6) false) [("k", .local)] ["heads"] [] :=
 .of (by decide +kernel)
theorem cstrs_range {nm : List (List Nat)} (h : nm.length = 4) : cstrs nm = (List.range 4).map fun k => .str (S (nAt nm k)) := by
 obtain ⟨_, _, _, _, rfl⟩ := len4 h
 rfl
theorem cstr_pick {nm : List (List Nat)} (h : nm.length = 4) {k : Nat} (hk : k < 4) : (pick (cstrs nm) (k : Int)).map PV.c = some (.c (.str (S (nAt nm k)))) := by
 refine pick_map (f := fun x => .str (S x)) ?_
 unfold nAt
 rw [List.getD_eq_getElem?_getD, List.getElem?_eq_getElem (by omega)]; rfl
noncomputable def rows0 (hs : List (List Nat)) (f : Row) : Rows := (List.range 4).map (fun k => (nAt hs k, decN (f k).toNat)) ++ [3, 2, 1, 0].map fun k => (up (nAt hs k), [57, 57])
theorem tail_len (c : List Int) (k : Nat) : (tailAt c k).length ≤ 9 := by
 unfold tailAt
 obtain ⟨r0, r1⟩ := fmod_lt ((c.getD 4 0).fdiv 3 + k) (n := 4) (by decide)
 obtain ⟨r, hr⟩ : ∃ r : Nat, ((c.getD 4 0).fdiv 3 + k).fmod 4 = r := ⟨_, (Int.toNat_of_nonneg r0).symm⟩
 rw [hr, Int.toNat_natCast]
 rcases lt4 (show r < 4 by omega) with rfl | rfl | rfl | rfl <;> decide
theorem port_lt (c : List Int) (k : Nat) : 0 ≤ portF c k ∧ portF c k < 16 := fmod_lt _ (by decide)
section
variable {cx : Cx} {X : XV → St → Prop} {lv : Nat} {g : List GObj} {Q : Fl → St → Prop}
theorem law4 (L : Ctx cx scLaw gscLaw (lv + 4) (defAt 32).scope) {c : List Int} {nm : List (List Nat)} {o0 o2 : Option PV} {r : List (Option PV)} (hc : c.length = 5) (N : Nm4 nm) (hsay : ∀ k, k < 4 → spec257 (say257 c (nAt nm k) k) = nAt nm k)
  (h : ExB cx (lawB.drop 5) ⟨g, [], o0 :: some (.c (.lst (c.map .int))) :: o2 :: some (.c (.lst (cstrs tailsN))) :: some (.c (.lst (cstrs nm))) :: some (.c (.lst (cstrs nm))) :: r, []⟩ Q X) :
  ExB cx (lawB.drop 4) ⟨g, [], o0 :: some (.c (.lst (c.map .int))) :: o2 :: some (.c (.lst (cstrs tailsN))) :: some (.c (.lst (cstrs nm))) :: none :: r, []⟩ Q X := by
 have C := L.ok
 have la : ("257 \"" : Str) = S [50, 53, 55, 32, 34] := lit _ _ (by decide +kernel)
 have lq : ("\"" : Str) = S [34] := lit _ _ (by decide +kernel)
 have lqq : ("\"\"" : Str) = S [34, 34] := lit _ _ (by decide +kernel)
 refine ExB.cons (L.setL 5 false [("k", .local)] ["cells", "drawn", "tails"] ["parse257"] compL4 (.cell 1 (L.s 1 rfl) rfl (.cell 4 (L.s 4 rfl) rfl (.cell 3 (L.s 3 rfl) rfl .nil))) (L.call 0 7 .type (EvL.cons (EvE.int (EvL.nil (Prim.range1 ⟨rfl, rfl, nums (List.range 4), cstrs nm, range4_items, ?_, fun _ => h, xff⟩))))))
 refine CompL.to (cstrs_range N.len) (CompL.mapG (fun k : Nat => CV.int k) (fun k => .str (S (nAt nm k))) (natF fun k => .str (S (nAt nm k))) (fun _ => rfl) (by decide) (xnl rfl) (.inl rfl) ?_)
 intro cx' L' hw k hk
 have hk4 : k < 4 := List.mem_range.mp hk
 have n3 := N.at hk4
 have hr6 := rep1_len 34 [34, 34] (by decide) (by decide) (nAt nm k)
 have ht9 := tail_len c k
 obtain ⟨r0, r1⟩ := fmod_lt ((c.getD 4 0).fdiv 3 + k) (n := 4) (by decide)
 obtain ⟨q, hq⟩ : ∃ q : Nat, ((c.getD 4 0).fdiv 3 + k).fmod 4 = q := ⟨_, (Int.toNat_of_nonneg r0).symm⟩
 have hta : tailAt c k = nAt tailsN q := by
  unfold tailAt nAt
  rw [hq, Int.toNat_natCast]
 have er : Txt.replace (S (nAt nm k)) "\"" "\"\"" = S (rep1 34 [34, 34] (nAt nm k)) := by rw [lq, lqq, replace_S]
 have z1 : (S (nAt nm k)).length + ((S (nAt nm k)).length + 1) * ("\"\"" : Str).length ≤ 16777216 := by rw [S_len, lqq, S_len, n3]; decide
 have ht : (pick (cstrs tailsN) (q : Int)).map PV.c = some (.c (.str (S (tailAt c k)))) := hta ▸ cstr_pick (nm := tailsN) rfl (by omega)
 have zq : (q : Int) < 2 ^ 62 := by omega
 have zk : (k : Int) < 2 ^ 62 := by omega
 have z0 : ∀ n : Nat, -(2 ^ 62) ≤ (n : Int) := fun n => by omega
 have zs : (say257 c (nAt nm k) k).length ≤ 1000 := by
  unfold say257
  simp only [List.length_append, List.length_cons, List.length_nil]; omega
 have zr : ([50, 53, 55, 32, 34] ++ rep1 34 [34, 34] (nAt nm k)).length + (tailAt c k).length ≤ 1000 := by
  simp only [List.length_append, List.length_cons, List.length_nil]; omega
 have zw : ([50, 53, 55, 32, 34] : List Nat).length + (rep1 34 [34, 34] (nAt nm k)).length ≤ 1000 := by
  simp only [List.length_cons, List.length_nil]; omega
 clear hr6 ht9 r0 r1 hta lq lqq n3
 refine L'.call 0 14 (FnAt.callee L'.top.p257) (EvL.cons (ev_addS (ev_addCS la (ev_replace (by decide +kernel) (EvE.idx (L'.f 1 rfl rfl (L'.v 0 rfl rfl ⟨k, _, rfl, z0 k, zk, cstr_pick N.len hk4, S (nAt nm k), rfl, z1, _, _, rfl, er, zw, ?_⟩)))))))
 refine EvE.idx (L'.f 2 rfl rfl (EvE.bin (EvE.bin (EvE.bin (EvE.idx (L'.f 0 rfl rfl (EvE.int ⟨4, .c (.int (c.getD 4 0)), rfl, by decide, by decide, pick_map (f := CV.int) (i := 4) (cell_at hc (by decide)), EvE.int ⟨_, _, _, rfl, rfl, rfl, sFd (by decide), L'.v 0 rfl rfl ⟨_, _, _, rfl, rfl, rfl, trivial, EvE.int ⟨_, _, .int q, rfl, rfl, congrArg (fun x => some (CV.int x)) hq, sMod (by decide), ⟨q, _, rfl, z0 q, zq, ht, ⟨_, _, rfl, rfl, zr, ?_⟩⟩⟩⟩⟩⟩)))))))
 refine EvL.nil (L'.prim (CallOk.mono (call_p257 L'.top (l := say257 c (nAt nm k) k) zs) ?_ ?_))
 ·rintro r fr g' ⟨rfl, rfl, rfl, _⟩
  exact ⟨congrArg (fun x => PV.c (.str (S x))) (hsay k hk4), rfl⟩
 ·rintro px g' ⟨_, _, hne⟩
  exact absurd rfl hne
theorem law5 (L : Ctx cx scLaw gscLaw (lv + 4) (defAt 32).scope) {nm : List (List Nat)} {o0 o1 o2 o3 o4 : Option PV} {r : List (Option PV)} (N : Nm4 nm)
  (h : ExB cx (lawB.drop 6) ⟨g, [], o0 :: o1 :: o2 :: o3 :: o4 :: some (.c (.lst (cstrs nm))) :: some (.c (.lst (cstrs (nm.map escAll)))) :: r, []⟩ Q X) :
  ExB cx (lawB.drop 5) ⟨g, [], o0 :: o1 :: o2 :: o3 :: o4 :: some (.c (.lst (cstrs nm))) :: none :: r, []⟩ Q X := by
 refine ExB.cons (L.setC 6 [("name", .local)] [] ["_escape_attrib"] compL5 .nil (L.v 5 rfl rfl ⟨rfl, rfl, cstrs nm, cstrs (nm.map escAll), rfl, ?_, h⟩))
 have e : cstrs (nm.map escAll) = nm.map fun x => .str (S (escAll x)) := by unfold cstrs; rw [List.map_map]; rfl
 rw [e]
 refine CompL.mapG (fun x : List Nat => CV.str (S x)) (fun x => .str (S (escAll x))) (txtF fun x => .str (S (escAll x))) (fun _ => rfl) (by rw [N.len]; decide) (xnl rfl) (.inl rfl) ?_
 intro cx' L' hw x hx
 refine L'.call 0 20 (FnAt.callee L'.top.esc) (EvL.cons (L'.v 0 rfl rfl (EvL.nil (L'.prim (CallOk.at (call_esc L'.top (by rw [N.three x hx]; decide)) ?_)))))
 exact ⟨rfl, rfl⟩
theorem law6 (L : Ctx cx scLaw gscLaw (lv + 4) (defAt 32).scope) {c : List Int} {hs : List (List Nat)} {o0 o1 o3 o4 o5 : Option PV} {r : List (Option PV)} (H : Hd4 hs)
  (h : ExB cx (lawB.drop 7) ⟨g ++ [.lst (hdrs (rows0 hs (portF c)))], [], o0 :: o1 :: some (.c (.lst (vecL (portF c)))) :: o3 :: o4 :: o5 :: some (.c (.lst (cstrs hs))) :: some (.obj g.length) :: r, []⟩ Q X) :
  ExB cx (lawB.drop 6) ⟨g, [], o0 :: o1 :: some (.c (.lst (vecL (portF c)))) :: o3 :: o4 :: o5 :: some (.c (.lst (cstrs hs))) :: none :: r, []⟩ Q X := by
 have l9 : ("99" : Str) = S [57, 57] := lit _ _ (by decide +kernel)
 refine ExB.cons (L.set 7 (ev_addG (L.comp [("k", .local)] ["heads", "ports"] ["str"] compL6a (.cell 6 (L.s 6 rfl) rfl (.cell 2 (L.s 2 rfl) rfl .nil)) (L.call 0 7 .type (EvL.cons (EvE.int (EvL.nil (Prim.range1 ⟨rfl, rfl, nums (List.range 4), (List.range 4).map fun k => hdr (nAt hs k, decN (portF c k).toNat), range4_items, ?_, ?_⟩))))))))
 ·refine CompL.mapG (fun k : Nat => CV.int k) (fun k => hdr (nAt hs k, decN (portF c k).toNat)) (natF fun k => hdr (nAt hs k, decN (portF c k).toNat)) (fun _ => rfl) (by decide) (xnl rfl) (.inl rfl) ?_
  intro cx' L' hw k hk
  have hk4 : k < 4 := List.mem_range.mp hk
  obtain ⟨p0, p1⟩ := port_lt c k
  obtain ⟨p, hp⟩ : ∃ p : Nat, portF c k = p := ⟨_, (Int.toNat_of_nonneg p0).symm⟩
  have hp16 : p < 16 := by omega
  refine EvE.tup (EvL.cons (EvE.idx (L'.f 0 rfl rfl (L'.v 0 rfl rfl ⟨k, _, rfl, by first | exact nz _ | decide | omega, by first | exact nlt4 (by assumption) | decide | omega, cstr_pick H.len hk4, ?_⟩))))
  refine EvL.cons (L'.call 0 9 .type (EvL.cons (EvE.idx (L'.f 1 rfl rfl (L'.v 0 rfl rfl ⟨k, _, rfl, by first | exact nz _ | decide | omega, by first | exact nlt4 (by assumption) | decide | omega, vec_pick (portF c) hk4, ?_⟩)))))
  rw [hp]
  refine EvL.nil (Prim.strInt ?_ (EvL.nil ⟨[.str (S (nAt hs k)), .str (txtOf (p : Nat))], rfl, by simp, ?_, rfl⟩))
  ·have : ∀ w ∈ List.range 16, ((w : Nat) : Int).natAbs.log2 < 1920 := by decide +kernel
   exact this p (List.mem_range.mpr hp16)
  ·rw [dec_tab p (List.mem_range.mpr (by omega)), Int.toNat_natCast]; rfl
 ·refine L.comp [("k", .local)] ["heads"] [] compL6b (.cell 6 (L.s 6 rfl) rfl .nil) ?_
  refine @ev_tints cx _ X _ [3, 2, 1, 0] _ _ _ (.cons (.cons (.cons (.cons .nil)))) (by decide) ?_
  refine ⟨rfl, rfl, nums [3, 2, 1, 0], [3, 2, 1, 0].map fun k => hdr (up (nAt hs k), [57, 57]), rfl, ?_, _, _, rfl, rfl, by rw [sizeLine_eq]; exact Nat.le_of_ble_eq_true rfl, ?_⟩
  ·refine CompL.mapG (fun k : Nat => CV.int k) (fun k => hdr (up (nAt hs k), [57, 57])) (natF fun k => hdr (up (nAt hs k), [57, 57])) (fun _ => rfl) (by decide) (xnl rfl) (.inl rfl) ?_
   intro cx' L' hw k hk
   have hk4 : k < 4 := by
    have : ∀ k ∈ [3, 2, 1, 0], k < 4 := by decide
    exact this k hk
   have Hk := H.at hk4
   refine EvE.tup (EvL.cons (EvE.meth PySem.F.plainAttrs_str PySem.F.slot_str_upper PySem.F.type_str_upper (EvE.idx (L'.f 0 rfl rfl (L'.v 0 rfl rfl ⟨k, _, rfl, by first | exact nz _ | decide | omega, by first | exact nlt4 (by assumption) | decide | omega, cstr_pick H.len hk4, .str, EvL.nil (Prim.upper ?_ ?_)⟩)))))
   ·rw [upper_S _ Hk.asc]; exact tooLong_S (by rw [List.length_map]; have := Hk.len; omega)
   ·rw [upper_S _ Hk.asc]
    refine EvL.cons (EvE.str (EvL.nil ⟨[.str (S (up (nAt hs k))), .str "99"], rfl, by simp, ?_, rfl⟩))
    rw [l9]; rfl
  ·have e : ((List.range 4).map fun k => hdr (nAt hs k, decN (portF c k).toNat)) ++ ([3, 2, 1, 0].map fun k => hdr (up (nAt hs k), [57, 57])) = hdrs (rows0 hs (portF c)) := by
    unfold hdrs rows0
    rw [List.map_append, List.map_map, List.map_map]; rfl
   rw [e]
   exact h
theorem law7 (L : Ctx cx scLaw gscLaw (lv + 4) (defAt 32).scope) {rows : Rows} {o0 o1 o2 o3 o4 o5 o6 : Option PV} {r : List (Option PV)} (fit : FitRows rows) (hb : badRows rows = false)
  (h : ExB cx (lawB.drop 8) ⟨[.lst (hdrs rows), .inst 236 (some (.obj 0))], [], o0 :: o1 :: o2 :: o3 :: o4 :: o5 :: o6 :: some (.obj 0) :: some (.obj 1) :: r, []⟩ Q X) :
  ExB cx (lawB.drop 7) ⟨[.lst (hdrs rows)], [], o0 :: o1 :: o2 :: o3 :: o4 :: o5 :: o6 :: some (.obj 0) :: none :: r, []⟩ Q X := by
 refine ExB.cons (L.set 8 (ev_headers (lv := lv + 1) L.ok L.hn L.top (by rw [L.lv]; exact Nat.le_refl _) (L.n 2 17 rfl rfl ⟨rfl, L.v 7 rfl rfl ⟨rows, rfl, trivial, rfl, fit, fun _ => h, fun e => ?_⟩⟩)))
 exact xff (hb.symm.trans e)
end
noncomputable abbrev innerScope (s : Stmt) : Scope := scAt s [0, 0, 0]
theorem compL12 : CompOk (compScope (lawSt 12)) [("k", .local)] ["late"] [] :=
 .of (by decide +kernel)
theorem compL13 : CompOk (compScope (lawSt 13)) [("name", .local)] [] ["_law_written"] :=
 .of (by decide +kernel)
theorem compL14 : CompOk (compScope (lawSt 14)) [("k", .cell)] ["far", "ports"] ["str", "min", "range"] :=
 .of (by decide +kernel)
theorem compL14i : CompOk (innerScope (lawSt 14)) [("i", .local)] ["far", "k", "ports"] [] :=
 .of (by decide +kernel)
theorem compL15a : CompOk (sumScope (lawSt 15) true) [("k", .local)] ["least", "written"] [] :=
 .of (by decide +kernel)
theorem compL15b : CompOk (sumScope (lawSt 15) false) [("k", .local)] ["written"] [] :=
 .of (by decide +kernel)
theorem compL16 : CompOk (sumScope (lawSt 16) false) [("k", .local)] ["least", "written"] [] :=
 .of (by decide +kernel)
noncomputable def keptOf (late : List Nat) : List Nat := (List.range 4).filter fun k => !(late.any fun x => x == k)
noncomputable def notF (late : List Nat) (c : CV) : Option CV := match c with
 | .int a => if (!((nums late).any fun x => match x with | .int b => b == a | _ => false)) = true then some c else none
 | _ => none
theorem any_nums (late : List Nat) (k : Nat) : ((nums late).any fun x => match x with | .int b => b == (k : Int) | _ => false) = late.any fun x => x == k := by
 induction late with
 | nil => rfl
 | cons a l ih =>
  show ((CV.int (a : Int) :: nums l).any _) = _
  rw [List.any_cons, List.any_cons, ih]
  congr 1
  show ((a : Int) == (k : Int)) = (a == k)
  rw [Bool.eq_iff_iff, beq_iff_eq, beq_iff_eq]
  constructor <;> intro h <;> omega
theorem not_nums (late : List Nat) : ∀ l : List Nat, nums (l.filter fun k => !(late.any fun x => x == k)) = (nums l).filterMap (notF late)
 | [] => rfl
 | a :: l => by
  have ih := not_nums late l
  show _ = (CV.int (a : Int) :: nums l).filterMap (notF late)
  have e : notF late (.int (a : Int)) = if (!(late.any fun x => x == a)) = true then some (.int (a : Int)) else none := by
   show (if (!((nums late).any _)) = true then _ else _) = _
   rw [any_nums]
  rw [List.filterMap_cons, e, List.filter_cons]
  by_cases h : (!(late.any fun x => x == a)) = true
  ·rw [if_pos h, if_pos h]
   show CV.int (a : Int) :: nums _ = CV.int (a : Int) :: _
   rw [ih]
  ·rw [if_neg h, if_neg h]; exact ih
theorem kept_lt {late : List Nat} : ∀ k ∈ keptOf late, k < 4 := fun _ hk => List.mem_range.mp (List.mem_filter.mp hk).1
theorem kept_len (late : List Nat) : (keptOf late).length ≤ 4 := by
 have := List.length_filter_le (fun k => !(late.any fun x => x == k)) (List.range 4)
 rw [List.length_range] at this
 exact this
theorem rev_slice : ∀ l : List CV, l.length ≤ 4 → sliceL l none none (some (-1)) = l.reverse
 | [], _ => rfl
 | [a], _ => by
  show (sliceRange 0 (-1) (-1)).filterMap _ = _
  have : sliceRange 0 (-1) (-1) = [0] := by decide
  rw [this]; rfl
 | [a, b], _ => by
  show (sliceRange 1 (-1) (-1)).filterMap _ = _
  have : sliceRange 1 (-1) (-1) = [1, 0] := by decide
  rw [this]; rfl
 | [a, b, c], _ => by
  show (sliceRange 2 (-1) (-1)).filterMap _ = _
  have : sliceRange 2 (-1) (-1) = [2, 1, 0] := by decide
  rw [this]; rfl
 | [a, b, c, d], _ => by
  show (sliceRange 3 (-1) (-1)).filterMap _ = _
  have : sliceRange 3 (-1) (-1) = [3, 2, 1, 0] := by decide
  rw [this]; rfl
 | _ :: _ :: _ :: _ :: _ :: _, h => by simp at h
noncomputable def leastI (f : Row) (F : Mat) (k : Nat) : Int := minOf ((List.range 4).map fun i => f i + F i k)
noncomputable def leastT (f : Row) (F : Mat) : List (List Nat) := (List.range 4).map fun k => decN (leastI f F k).toNat
noncomputable def pairAt (ws ls : List (List Nat)) (k : Nat) : List Nat × List Nat := (nAt ws k, nAt ls k)
noncomputable def dueR (ws ls : List (List Nat)) (late : List Nat) : Rows := (keptOf late).map (pairAt ws ls) ++ (keptOf late).reverse.map (fun k => (up (nAt ws k), [57, 57])) ++ late.map (pairAt ws ls)
section
variable {cx : Cx} {X : XV → St → Prop} {lv : Nat} {g : List GObj} {Q : Fl → St → Prop}
theorem law8 (L : Ctx cx scLaw gscLaw (lv + 4) (defAt 32).scope) {z : List Int} {o1 o2 o3 o4 o5 o6 o7 o8 : Option PV} {r : List (Option PV)}
  (h : ∀ ord : Prs, ord.Perm pairs12 → ExB cx (lawB.drop 9) ⟨g, [], some (.c (.lst (z.map .int))) :: o1 :: o2 :: o3 :: o4 :: o5 :: o6 :: o7 :: o8 :: some (.c (.lst (prs ord))) :: r, []⟩ Q X) :
  ExB cx (lawB.drop 8) ⟨g, [], some (.c (.lst (z.map .int))) :: o1 :: o2 :: o3 :: o4 :: o5 :: o6 :: o7 :: o8 :: none :: r, []⟩ Q X := by
 refine ExB.cons (L.set 9 (L.call 3 22 (FnAt.callee L.top.lorder) (EvL.cons (EvE.bin (EvE.int (L.call 4 12 .builtin (EvL.cons (L.c 0 rfl rfl (EvL.nil (Prim.sum (L.ok.hn L.hn) ⟨_, _, _, rfl, rfl, rfl, trivial, EvL.nil (L.prim (CallOk.mono (call_order L.top) ?_ fun _ _ h => h.elim))⟩))))))))))
 rintro r fr g' ⟨rfl, rfl, ord, rfl, hp⟩
 exact h ord hp
theorem law9 (L : Ctx cx scLaw gscLaw (lv + 4) (defAt 32).scope) {c : List Int} {nm hs : List (List Nat)} {s0 : Row × Rows} {ord : Prs} {o0 o2 o3 o4 o7 : Option PV} {r : List (Option PV)} (hc : c.length = 5) (N : Nm3 nm) (H : Hd4 hs) (ho : ∀ p ∈ ord, p.1 < 4 ∧ p.2 < 4)
  (hI : ∀ done rest, ord = done ++ rest → RInv hs (done.foldl (roundStep nm hs) s0))
  (h : ExB cx (lawB.drop 10) ⟨[.lst (hdrs (ord.foldl (roundStep nm hs) s0).2), .inst 236 (some (.obj 0))], [], o0 :: some (.c (.lst (c.map .int))) :: o2 :: o3 :: o4 :: some (.c (.lst (cstrs nm))) :: some (.c (.lst (cstrs hs))) :: o7 :: some (.obj 1) :: some (.c (.lst (prs ord))) :: r, []⟩ Q X) :
  ExB cx (lawB.drop 9) ⟨[.lst (hdrs s0.2), .inst 236 (some (.obj 0))], [], o0 :: some (.c (.lst (c.map .int))) :: o2 :: o3 :: o4 :: some (.c (.lst (cstrs nm))) :: some (.c (.lst (cstrs hs))) :: o7 :: some (.obj 1) :: some (.c (.lst (prs ord))) :: r, []⟩ Q X := by
 have C := L.ok
 have Sf : Self [.lst (hdrs s0.2), .inst 236 (some (.obj 0))] 1 (.obj 0) s0.2 := ⟨rfl, trivial, rfl, rfl⟩
 refine ExB.cons (ExS.expr (L.call 5 23 (FnAt.callee L.top.lround) (EvL.cons (L.v 5 rfl rfl (EvL.cons (L.c 6 rfl rfl (EvL.cons (L.v 9 rfl rfl (EvL.cons (L.v 8 rfl rfl (EvL.cons ?_)))))))))) ?_ rfl)
 ·refine EvE.idx (L.c 1 rfl rfl (EvE.int ⟨4, .c (.int (c.getD 4 0)), rfl, by decide, by decide, pick_map (f := CV.int) (i := 4) (cell_at hc (by omega)), EvL.nil (L.prim (CallOk.at (call_round L.top N H Sf ho hI) ?_))⟩))
  exact h
 ·unfold interactive; rw [C.fn]; rfl
theorem law10 (L : Ctx cx scLaw gscLaw (lv + 4) (defAt 32).scope) {nm : List (List Nat)} {o0 o1 o2 o3 o5 o6 o7 o8 o9 : Option PV} {r : List (Option PV)} (N : Nm4 nm)
  (h : ExB cx (lawB.drop 11) ⟨g, [], o0 :: o1 :: o2 :: o3 :: some (.c (.lst (cstrs nm))) :: o5 :: o6 :: o7 :: o8 :: o9 :: some (.c (matV (wayAt nm))) :: r, []⟩ Q X) :
  ExB cx (lawB.drop 10) ⟨g, [], o0 :: o1 :: o2 :: o3 :: some (.c (.lst (cstrs nm))) :: o5 :: o6 :: o7 :: o8 :: o9 :: none :: r, []⟩ Q X := by
 refine ExB.cons (L.set 10 (L.call 6 29 (FnAt.callee L.top.lways) (EvL.cons (L.c 4 rfl rfl (EvL.nil (L.prim (CallOk.at (call_ways L.top N) ?_)))))))
 exact h
theorem law11 (L : Ctx cx scLaw gscLaw (lv + 4) (defAt 32).scope) {f : Row} {F : Mat} {ord : Prs} {o0 o1 o3 o4 o5 o6 o7 o8 : Option PV} {r : List (Option PV)} (ho : ∀ p ∈ ord, p.1 < 4 ∧ p.2 < 4) (hz : ord.length ≤ 1000)
  (h : ExB cx (lawB.drop 12) ⟨g, [], o0 :: o1 :: some (.c (.lst (vecL f))) :: o3 :: o4 :: o5 :: o6 :: o7 :: o8 :: some (.c (.lst (prs ord))) :: some (.c (matV F)) :: some (.c (.lst (nums (lateOf F f ord)))) :: r, []⟩ Q X) :
  ExB cx (lawB.drop 11) ⟨g, [], o0 :: o1 :: some (.c (.lst (vecL f))) :: o3 :: o4 :: o5 :: o6 :: o7 :: o8 :: some (.c (.lst (prs ord))) :: some (.c (matV F)) :: none :: r, []⟩ Q X := by
 refine ExB.cons (L.set 11 (L.call 7 30 (FnAt.callee L.top.llate) (EvL.cons (L.c 2 rfl rfl (EvL.cons (L.c 10 rfl rfl (EvL.cons (L.v 9 rfl rfl (EvL.nil (L.prim (CallOk.at (call_late L.top ho hz) ?_)))))))))))
 exact h
theorem law12 (L : Ctx cx scLaw gscLaw (lv + 4) (defAt 32).scope) {late : List Nat} {o0 o1 o2 o3 o4 o5 o6 o7 o8 o9 o10 : Option PV} {r : List (Option PV)}
  (h : ExB cx (lawB.drop 13) ⟨g, [], o0 :: o1 :: o2 :: o3 :: o4 :: o5 :: o6 :: o7 :: o8 :: o9 :: o10 :: some (.c (.lst (nums late))) :: some (.c (.lst (nums (keptOf late)))) :: r, []⟩ Q X) :
  ExB cx (lawB.drop 12) ⟨g, [], o0 :: o1 :: o2 :: o3 :: o4 :: o5 :: o6 :: o7 :: o8 :: o9 :: o10 :: some (.c (.lst (nums late))) :: none :: r, []⟩ Q X := by
 refine ExB.cons (L.setL 12 false [("k", .local)] ["late"] [] compL12 (.cell 11 (L.s 11 rfl) rfl .nil) (L.call 0 7 .type (EvL.cons (EvE.int (EvL.nil (Prim.range1 ⟨rfl, rfl, nums (List.range 4), nums (keptOf late), range4_items, ?_, fun _ => h, xff⟩))))))
 refine CompL.one (notF late) (not_nums late _) (by decide) (xnl rfl) ?_
 intro cx' L' hw hA z hz
 obtain ⟨k, hk, rfl⟩ := mem_nums hz
 refine TurnC.name L' (i := 0) rfl fun fr hf => ?_
 obtain ⟨o, rfl⟩ := len1 hf
 refine EvT.mem (.inr rfl) (L'.v 0 rfl rfl (L'.f 0 rfl rfl ⟨_, _, _, rfl, rfl, rfl, ?_, fun e => ⟨rfl, xtf, fun _ => ?_⟩, fun e => ⟨rfl, fun _ => ?_, xff⟩⟩))
 ·intro x hx
  obtain ⟨j, _, rfl⟩ := mem_nums hx
  exact ⟨_, rfl⟩
 ·exact L'.v 0 rfl rfl ⟨rfl, _, rfl, if_pos e⟩
 ·exact if_neg (by
   intro h2
   have e2 : (!((nums late).any fun x => match x with | .int b => b == (k : Int) | _ => false)) = false := e
   exact xff (e2.symm.trans h2))
theorem law13 (L : Ctx cx scLaw gscLaw (lv + 4) (defAt 32).scope) {nm : List (List Nat)} {o0 o1 o2 o3 o5 o6 o7 o8 o9 o10 o11 o12 : Option PV} {r : List (Option PV)} (N : Nm4 nm)
  (h : ExB cx (lawB.drop 14) ⟨g, [], o0 :: o1 :: o2 :: o3 :: some (.c (.lst (cstrs nm))) :: o5 :: o6 :: o7 :: o8 :: o9 :: o10 :: o11 :: o12 :: some (.c (.lst (cstrs (nm.map writ)))) :: r, []⟩ Q X) :
  ExB cx (lawB.drop 13) ⟨g, [], o0 :: o1 :: o2 :: o3 :: some (.c (.lst (cstrs nm))) :: o5 :: o6 :: o7 :: o8 :: o9 :: o10 :: o11 :: o12 :: none :: r, []⟩ Q X := by
 have e : cstrs (nm.map writ) = nm.map fun x => .str (S (writ x)) := by unfold cstrs; rw [List.map_map]; rfl
 refine ExB.cons (L.setC 13 [("name", .local)] [] ["_law_written"] compL13 .nil (L.c 4 rfl rfl ⟨rfl, rfl, cstrs nm, cstrs (nm.map writ), rfl, ?_, h⟩))
 rw [e]
 refine CompL.mapG (fun x : List Nat => CV.str (S x)) (fun x => .str (S (writ x))) (txtF fun x => .str (S (writ x))) (fun _ => rfl) (by rw [N.len]; decide) (xnl rfl) (.inl rfl) ?_
 intro cx' L' hw x hx
 have hb : ∃ o, cx'.wd.base.get? 45 = some o := let ⟨_, F⟩ := L'.top.f45; let ⟨o, h1, _⟩ := F.ok.obj; ⟨o, h1⟩
 refine L'.call 0 27 (FnAt.callee L'.top.lwritten) (EvL.cons (L'.v 0 rfl rfl (EvL.nil (L'.prim (CallOk.at (call_written L'.top (N.three x hx) hb) ?_)))))
 exact ⟨rfl, rfl⟩
theorem law14 (L : Ctx cx scLaw gscLaw (lv + 4) (defAt 32).scope) {f : Row} {F : Mat} {o0 o1 o3 o4 o5 o6 o7 o8 o9 o11 o12 o13 : Option PV} {r : List (Option PV)} (hL : ∀ k, k < 4 → 0 ≤ leastI f F k ∧ leastI f F k ≤ 15)
  (h : ExB cx (lawB.drop 15) ⟨g, [], o0 :: o1 :: some (.c (.lst (vecL f))) :: o3 :: o4 :: o5 :: o6 :: o7 :: o8 :: o9 :: some (.c (matV F)) :: o11 :: o12 :: o13 :: some (.c (.lst (cstrs (leastT f F)))) :: r, []⟩ Q X) :
  ExB cx (lawB.drop 14) ⟨g, [], o0 :: o1 :: some (.c (.lst (vecL f))) :: o3 :: o4 :: o5 :: o6 :: o7 :: o8 :: o9 :: some (.c (matV F)) :: o11 :: o12 :: o13 :: none :: r, []⟩ Q X := by
 have e : cstrs (leastT f F) = (List.range 4).map fun k => .str (S (decN (leastI f F k).toNat)) := by unfold cstrs leastT; rw [List.map_map]; rfl
 refine ExB.cons (L.setC 14 [("k", .cell)] ["far", "ports"] ["str", "min", "range"] compL14 (.cell 10 (L.s 10 rfl) rfl (.cell 2 (L.s 2 rfl) rfl .nil)) (L.call 0 7 .type (EvL.cons (EvE.int (EvL.nil (Prim.range1 ⟨rfl, rfl, nums (List.range 4), cstrs (leastT f F), range4_items, ?_, h⟩))))))
 refine CompL.to e (CompL.mapG (fun k : Nat => CV.int k) (fun k => .str (S (decN (leastI f F k).toNat))) (natF fun k => .str (S (decN (leastI f F k).toNat))) (fun _ => rfl) (by decide) (xnl rfl) (.inr rfl) ?_)
 intro cx' L' hw k hk
 have hk4 : k < 4 := List.mem_range.mp hk
 obtain ⟨p, hp⟩ : ∃ p : Nat, minOf ((List.range 4).map fun i => f i + F i k) = p := ⟨_, (Int.toNat_of_nonneg (hL k hk4).1).symm⟩
 have hp16 : p < 16 := by
  have q : minOf ((List.range 4).map fun i => f i + F i k) ≤ 15 := (hL k hk4).2
  rw [hp] at q; omega
 have h1 : (minOf ((List.range 4).map fun i => f i + F i k)).natAbs.log2 < 1920 := by
  rw [hp]
  have : ∀ w ∈ List.range 16, ((w : Nat) : Int).natAbs.log2 < 1920 := by decide +kernel
  exact this p (List.mem_range.mpr hp16)
 have h2 : PySem.Str.ofString (toString (minOf ((List.range 4).map fun i => f i + F i k))) = S (decN (leastI f F k).toNat) := by
  show _ = S (decN (minOf ((List.range 4).map fun i => f i + F i k)).toNat)
  rw [hp, Int.toNat_natCast]
  exact dec_tab p (List.mem_range.mpr (by omega))
 refine L'.call 0 9 .type (EvL.cons (L'.call 1 6 .builtin (EvL.cons (L'.comp [("i", .local)] ["far", "k", "ports"] [] compL14i (.free 0 (by rw [L'.usc]; rfl) rfl (.cell 0 (by rw [L'.sc]; rfl) rfl (.free 1 (by rw [L'.usc]; rfl) rfl .nil))) (L'.call 2 7 .type (EvL.cons (EvE.int (EvL.nil (Prim.range1 ⟨rfl, rfl, nums (List.range 4), ((List.range 4).map fun i => f i + F i k).map .int, range4_items, ?_, EvL.nil (Prim.min (L'.ok.hn L'.hn) (by simp) (EvL.nil (Prim.strIntE h1 h2 ⟨rfl, rfl⟩)))⟩)))))))))
 refine CompL.to (List.map_map ..) (CompL.mapG (fun k : Nat => CV.int k) (fun i => .int (f i + F i k)) (natF fun i => .int (f i + F i k)) (fun _ => rfl) (by decide) (xnl rfl) (.inl rfl) ?_)
 intro cx2 L2 hw2 i hi
 have hi4 : i < 4 := List.mem_range.mp hi
 refine EvE.bin (EvE.idx (L2.f 2 rfl rfl (L2.v 0 rfl rfl ⟨i, _, rfl, by first | exact nz _ | decide | omega, by first | exact nlt4 (by assumption) | decide | omega, vec_pick f hi4, ?_⟩)))
 exact ev_farV hi4 hk4 (fun _ h => L2.f 0 rfl rfl h) (fun _ h => L2.v 0 rfl rfl h) (fun _ h => L2.f 1 rfl rfl h) ⟨_, _, _, rfl, rfl, rfl, trivial, rfl, rfl⟩
end
theorem hdrs_pl : ∀ l : Rows, (hdrs l).all (pl 8) = true
 | [] => rfl
 | p :: l => by
  show (hdr p :: hdrs l).all (pl 8) = true
  rw [List.all_cons, hdrs_pl l]; rfl
noncomputable def csIdx (c : List Int) (d n : Int) : Nat := (((c.getD 4 0).fdiv d).fmod n).toNat
theorem csIdx_eq (c : List Int) (d : Int) {n : Int} (h : 0 < n) : ((c.getD 4 0).fdiv d).fmod n = (csIdx c d n : Nat) ∧ (csIdx c d n : Int) < n := by
 obtain ⟨r0, r1⟩ := fmod_lt ((c.getD 4 0).fdiv d) (n := n) h
 have : (((((c.getD 4 0).fdiv d).fmod n).toNat : Nat) : Int) = ((c.getD 4 0).fdiv d).fmod n := Int.toNat_of_nonneg r0
 exact ⟨this.symm, by unfold csIdx; omega⟩
section
variable {cx : Cx} {st : St} {X : XV → St → Prop} {lv : Nat} {g : List GObj} {Q : Fl → St → Prop}
theorem ev_cs {c : List Int} {e : Expr} {k1 k2 k3 : Nat} {d n : Int} {p0 p1 p2 p3 p4 p5 : Pos} {Q : PV → St → Prop} (hc : c.length = 5) (hd : 0 < d ∧ d < 100000) (hn : 0 < n)
  (he : ∀ Q : PV → St → Prop, Q (.c (.lst (c.map .int))) st → EvE cx e st Q X) (h : Q (.c (.int (csIdx c d n : Nat))) st) :
  EvE cx (.BinOp (.BinOp (.Subscript e (.Constant (.int 4) k1 p0) p1) .FloorDiv (.Constant (.int d) k2 p2) p3) .Mod (.Constant (.int n) k3 p4) p5) st Q X := by
 refine EvE.bin (EvE.bin (EvE.idx (he _ (EvE.int ⟨4, .c (.int (c.getD 4 0)), rfl, by decide, by decide, pick_map (f := CV.int) (i := 4) (cell_at hc (by omega)), EvE.int ⟨_, _, _, rfl, rfl, rfl, sFd hd, EvE.int ⟨_, _, _, rfl, rfl, rfl, sMod (by omega), ?_⟩⟩⟩))))
 rw [(csIdx_eq c d hn).1]
 exact h
theorem law15 (L : Ctx cx scLaw gscLaw (lv + 4) (defAt 32).scope) {ws ls : List (List Nat)} {late : List Nat} {o0 o1 o2 o3 o4 o5 o6 o7 o8 o9 o10 o11 : Option PV} {r : List (Option PV)} (H : Hd4 ws) (hl : ls.length = 4)
  (h : ExB cx (lawB.drop 16) ⟨g, [], o0 :: o1 :: o2 :: o3 :: o4 :: o5 :: o6 :: o7 :: o8 :: o9 :: o10 :: o11 :: some (.c (.lst (nums (keptOf late)))) :: some (.c (.lst (cstrs ws))) :: some (.c (.lst (cstrs ls))) :: some (.c (.lst (hdrs ((keptOf late).map (pairAt ws ls) ++ (keptOf late).reverse.map fun k => (up (nAt ws k), [57, 57]))))) :: r, []⟩ Q X) :
  ExB cx (lawB.drop 15) ⟨g, [], o0 :: o1 :: o2 :: o3 :: o4 :: o5 :: o6 :: o7 :: o8 :: o9 :: o10 :: o11 :: some (.c (.lst (nums (keptOf late)))) :: some (.c (.lst (cstrs ws))) :: some (.c (.lst (cstrs ls))) :: none :: r, []⟩ Q X := by
 have l9 : ("99" : Str) = S [57, 57] := lit _ _ (by decide +kernel)
 have hk4 := kept_len late
 have hrev : sliceL (nums (keptOf late)) none none (some (-1)) = nums (keptOf late).reverse := by
  rw [rev_slice _ (by unfold nums; rw [List.length_map]; exact hk4)]
  unfold nums
  rw [List.map_reverse]
 refine ExB.cons (L.set 15 (ev_addL (L.comp [("k", .local)] ["least", "written"] [] compL15a (.cell 14 (L.s 14 rfl) rfl (.cell 13 (L.s 13 rfl) rfl .nil)) (L.v 12 rfl rfl ⟨rfl, rfl, nums (keptOf late), (keptOf late).map fun k => hdr (pairAt ws ls k), rfl, ?_, ?_⟩))))
 ·refine CompL.mapG (fun k : Nat => CV.int k) (fun k => hdr (pairAt ws ls k)) (natF fun k => hdr (pairAt ws ls k)) (fun _ => rfl) (by omega) (xnl rfl) (.inl rfl) ?_
  intro cx' L' hw k hk
  have hk4 : k < 4 := kept_lt k hk
  refine EvE.tup (EvL.cons (EvE.idx (L'.f 1 rfl rfl (L'.v 0 rfl rfl ⟨k, _, rfl, by first | exact nz _ | decide | omega, by first | exact nlt4 (by assumption) | decide | omega, cstr_pick H.len hk4, EvL.cons (EvE.idx (L'.f 0 rfl rfl (L'.v 0 rfl rfl ⟨k, _, rfl, by first | exact nz _ | decide | omega, by first | exact nlt4 (by assumption) | decide | omega, cstr_pick hl hk4, EvL.nil ⟨[.str (S (nAt ws k)), .str (S (nAt ls k))], rfl, by simp, rfl, rfl⟩⟩)))⟩))))
 ·refine L.comp [("k", .local)] ["written"] [] compL15b (.cell 13 (L.s 13 rfl) rfl .nil) (ev_sliceL false (L.v 12 rfl rfl (evO_none (evO_none (evO_some (ev_negC ⟨nums (keptOf late), rfl, trivial, by unfold nums; rw [List.length_map, sizeLine_eq]; omega, by decide, fun _ => ?_, xff⟩))))) (.inr ⟨_, rfl⟩))
  rw [hrev]
  refine ⟨rfl, rfl, nums (keptOf late).reverse, (keptOf late).reverse.map fun k => hdr (up (nAt ws k), [57, 57]), rfl, ?_, _, _, rfl, rfl, ?_, ?_⟩
  ·refine CompL.mapG (fun k : Nat => CV.int k) (fun k => hdr (up (nAt ws k), [57, 57])) (natF fun k => hdr (up (nAt ws k), [57, 57])) (fun _ => rfl) (by rw [List.length_reverse]; omega) (xnl rfl) (.inl rfl) ?_
   intro cx' L' hw k hk
   have hk4 : k < 4 := kept_lt k (List.mem_reverse.mp hk)
   have Hk := H.at hk4
   refine EvE.tup (EvL.cons (EvE.meth PySem.F.plainAttrs_str PySem.F.slot_str_upper PySem.F.type_str_upper (EvE.idx (L'.f 0 rfl rfl (L'.v 0 rfl rfl ⟨k, _, rfl, by first | exact nz _ | decide | omega, by first | exact nlt4 (by assumption) | decide | omega, cstr_pick H.len hk4, .str, EvL.nil (Prim.upper ?_ ?_)⟩)))))
   ·rw [upper_S _ Hk.asc]; exact tooLong_S (by rw [List.length_map]; have := Hk.len; omega)
   ·rw [upper_S _ Hk.asc]
    refine EvL.cons (EvE.str (EvL.nil ⟨[.str (S (up (nAt ws k))), .str "99"], rfl, by simp, ?_, rfl⟩))
    rw [l9]; rfl
  ·rw [List.length_map, List.length_map, List.length_reverse, sizeLine_eq]; omega
  ·have e : ((keptOf late).map fun k => hdr (pairAt ws ls k)) ++ ((keptOf late).reverse.map fun k => hdr (up (nAt ws k), [57, 57])) = hdrs ((keptOf late).map (pairAt ws ls) ++ (keptOf late).reverse.map fun k => (up (nAt ws k), [57, 57])) := by
    unfold hdrs
    rw [List.map_append, List.map_map, List.map_map]; rfl
   rw [e]
   exact h
theorem law16 (L : Ctx cx scLaw gscLaw (lv + 4) (defAt 32).scope) {ws ls : List (List Nat)} {late : List Nat} {rows : Rows} {o0 o1 o2 o3 o4 o5 o6 o7 o8 o9 o10 o12 : Option PV} {r : List (Option PV)} (hw : ws.length = 4) (hl : ls.length = 4) (h4 : ∀ k ∈ late, k < 4) (hz : late.length ≤ 1000) (hr : rows.length ≤ 1000)
  (h : ExB cx (lawB.drop 17) ⟨g, [], o0 :: o1 :: o2 :: o3 :: o4 :: o5 :: o6 :: o7 :: o8 :: o9 :: o10 :: some (.c (.lst (nums late))) :: o12 :: some (.c (.lst (cstrs ws))) :: some (.c (.lst (cstrs ls))) :: some (.c (.lst (hdrs (rows ++ late.map (pairAt ws ls))))) :: r, []⟩ Q X) :
  ExB cx (lawB.drop 16) ⟨g, [], o0 :: o1 :: o2 :: o3 :: o4 :: o5 :: o6 :: o7 :: o8 :: o9 :: o10 :: some (.c (.lst (nums late))) :: o12 :: some (.c (.lst (cstrs ws))) :: some (.c (.lst (cstrs ls))) :: some (.c (.lst (hdrs rows))) :: r, []⟩ Q X := by
 refine ExB.cons (L.set 15 (ev_addL (L.v 15 rfl rfl (L.comp [("k", .local)] ["least", "written"] [] compL16 (.cell 14 (L.s 14 rfl) rfl (.cell 13 (L.s 13 rfl) rfl .nil)) (L.c 11 rfl rfl ⟨rfl, rfl, nums late, late.map fun k => hdr (pairAt ws ls k), rfl, ?_, _, _, rfl, rfl, ?_, ?_⟩)))))
 ·refine CompL.mapG (fun k : Nat => CV.int k) (fun k => hdr (pairAt ws ls k)) (natF fun k => hdr (pairAt ws ls k)) (fun _ => rfl) (by omega) (xnl rfl) (.inl rfl) ?_
  intro cx' L' hw' k hk
  have hk4 : k < 4 := h4 k hk
  refine EvE.tup (EvL.cons (EvE.idx (L'.f 1 rfl rfl (L'.v 0 rfl rfl ⟨k, _, rfl, by first | exact nz _ | decide | omega, by first | exact nlt4 (by assumption) | decide | omega, cstr_pick hw hk4, EvL.cons (EvE.idx (L'.f 0 rfl rfl (L'.v 0 rfl rfl ⟨k, _, rfl, by first | exact nz _ | decide | omega, by first | exact nlt4 (by assumption) | decide | omega, cstr_pick hl hk4, EvL.nil ⟨[.str (S (nAt ws k)), .str (S (nAt ls k))], rfl, by simp, rfl, rfl⟩⟩)))⟩))))
 ·unfold hdrs; rw [List.length_map, List.length_map, sizeLine_eq]; omega
 ·have e : hdrs rows ++ (late.map fun k => hdr (pairAt ws ls k)) = hdrs (rows ++ late.map (pairAt ws ls)) := by
   unfold hdrs
   rw [List.map_append, List.map_map]; rfl
  rw [e]
  exact h
theorem law17 (L : Ctx cx scLaw gscLaw (lv + 4) (defAt 32).scope) {rows : Rows} {o0 o1 o2 o3 o4 o5 o6 o7 o9 o10 o11 o12 o13 o14 : Option PV} {r : List (Option PV)} (ok : RowsOk rows)
  (h : ExB cx (lawB.drop 20) ⟨[.lst (hdrs rows), .inst 236 (some (.obj 0))], [hdrs rows ++ [.tup [.str "p", .str "p"]]], o0 :: o1 :: o2 :: o3 :: o4 :: o5 :: o6 :: o7 :: some (.obj 1) :: o9 :: o10 :: o11 :: o12 :: o13 :: o14 :: some (.c (.lst (hdrs rows))) :: some (.loc 0) :: r, []⟩ Q X) :
  ExB cx (lawB.drop 17) ⟨[.lst (hdrs rows), .inst 236 (some (.obj 0))], [], o0 :: o1 :: o2 :: o3 :: o4 :: o5 :: o6 :: o7 :: some (.obj 1) :: o9 :: o10 :: o11 :: o12 :: o13 :: o14 :: some (.c (.lst (hdrs rows))) :: none :: r, []⟩ Q X := by
 have C := L.ok
 have Sf : Self [.lst (hdrs rows), .inst 236 (some (.obj 0))] 1 (.obj 0) rows := ⟨rfl, trivial, rfl, rfl⟩
 have hrl := ok.len
 refine ExB.cons (L.set 16 ?_)
 refine EvE.own C L.hn L.top.hd (lv := lv + 4) (by rw [L.lv]; exact Nat.le_refl _) (m := ("items", 200)) (by decide) KwEv.nil (L.v 8 rfl rfl ⟨1, _, rfl, rfl, EvL.nil ⟨rfl, CallOk.at (call_items L.top (lv := lv + 3) Sf ok) ?_⟩⟩)
 refine ExB.cons (ExS.ite (EvT.eqL C (.inr rfl) (L.v 16 rfl rfl (L.v 15 rfl rfl ⟨hdrs rows, rfl, rfl, trivial, trivial, hdrs_pl rows, xff, fun _ => ?_⟩))))
 refine ExB.nil (ExB.cons (ExS.expr (EvE.meth PySem.F.plainAttrs_list PySem.F.slot_list_append PySem.F.type_list_append (L.v 16 rfl rfl ⟨HasT.list (l := hdrs rows) rfl trivial, EvL.cons (EvE.tup (EvL.cons (EvE.str (EvL.cons (EvE.str (EvL.nil ⟨[.str "p", .str "p"], rfl, by simp, EvL.nil (Prim.append rfl (l := hdrs rows) rfl (by unfold hdrs; rw [List.length_map]; omega) h)⟩))))))⟩)) ?_ rfl))
 unfold interactive; rw [C.fn]; rfl
theorem law20 (L : Ctx cx scLaw gscLaw (lv + 4) (defAt 32).scope) {c : List Int} {nm : List (List Nat)} {rows : Rows} {ob : GObj} {loc : List (List CV)} {o0 o2 o3 o4 o6 o8 o9 o10 o11 o12 o13 o14 o16 : Option PV} {r : List (Option PV)} (hc : c.length = 5) (N : Nm4 nm)
  (hC : ∀ q, q < 4 → ∃ a b d, nAt nm q = [a, b, d] ∧ Asc [a, b, d, 112 + q] ∧ costsOf a b d (112 + q) = costN)
  (h : ExB cx (lawB.drop 22) ⟨[.lst (hdrs rows), ob], loc, o0 :: some (.c (.lst (c.map .int))) :: o2 :: o3 :: o4 :: some (.c (.lst (cstrs nm))) :: o6 :: some (.obj 0) :: o8 :: o9 :: o10 :: o11 :: o12 :: o13 :: o14 :: some (.c (.lst (hdrs rows))) :: o16 :: some (.c (.str costT)) :: r, []⟩ Q X) :
  ExB cx (lawB.drop 20) ⟨[.lst (hdrs rows), ob], loc, o0 :: some (.c (.lst (c.map .int))) :: o2 :: o3 :: o4 :: some (.c (.lst (cstrs nm))) :: o6 :: some (.obj 0) :: o8 :: o9 :: o10 :: o11 :: o12 :: o13 :: o14 :: some (.c (.lst (hdrs rows))) :: o16 :: none :: r, []⟩ Q X := by
 have C := L.ok
 have lp : ("pqrs" : Str) = S [112, 113, 114, 115] := lit _ _ (by decide +kernel)
 have hq4 : csIdx c 12 4 < 4 := by have := (csIdx_eq c 12 (n := 4) (by decide)).2; omega
 obtain ⟨a, b, d, hn, hA, hcst⟩ := hC _ hq4
 refine ExB.cons (L.set 17 (L.call 8 26 (FnAt.callee L.top.lcosts) (EvL.cons (EvE.idx (L.v 5 rfl rfl ?_)))))
 refine ev_cs hc (by decide) (by decide) (fun _ h => L.c 1 rfl rfl h) ⟨(csIdx c 12 4 : Nat), _, rfl, by first | exact nz _ | decide | omega, by first | exact nlt4 (by assumption) | decide | omega, cstr_pick N.len hq4, ?_⟩
 refine EvL.cons (EvE.idx (EvE.str ?_))
 refine ev_cs hc (by decide) (by decide) (fun _ h => L.c 1 rfl rfl h) ?_
 generalize csIdx c 12 4 = q at *
 obtain ⟨cp1, cp2⟩ := item_nat [112, 113, 114, 115] q (112 + q) (by
  have : q = 0 ∨ q = 1 ∨ q = 2 ∨ q = 3 := by omega
  rcases this with rfl | rfl | rfl | rfl <;> rfl)
 refine ⟨q, .c (.str (S [112 + q])), rfl, by first | exact nz _ | decide | omega, by first | exact nlt4 (by assumption) | decide | omega, ?_, ?_⟩
 ·rw [lp]
  show (Txt.charAt (S _) _).map (fun _ => PV.c (.str (Txt.item (S _) _))) = _
  rw [cp1, cp2]; rfl
 rw [hn]
 refine EvL.nil (L.prim (CallOk.at (call_costs L.top hA hcst) ?_))
 refine ExB.cons (ExS.ite (EvT.bop (EvAll.or (EvT.eqL C (.inr rfl) (L.v 7 rfl rfl (L.v 15 rfl rfl ⟨hdrs rows, rfl, rfl, trivial, trivial, hdrs_pl rows, xff, fun _ => ?_⟩))))))
 refine EvAll.or (EvT.cmp (L.v 17 rfl rfl (EvE.str ⟨_, _, _, rfl, rfl, rfl, fun e => ?_, fun _ => EvAll.orNil ⟨xff, fun _ => ExB.nil h⟩⟩)))
 have : (costT != ("82 82 0 100 100 80 6 6 4 1" : Str)) = false := by decide +kernel
 rw [this] at e
 cases e
end
mutual
inductive CVal : Expr → CV → Prop
 | str {a : Str} {k : Nat} {p : Pos} : CVal (.Constant (.str a) k p) (.str a)
 | int {a : Int} {k : Nat} {p : Pos} : CVal (.Constant (.int a) k p) (.int a)
 | lst {es : List Expr} {l : List CV} {p : Pos} : CVals es l → l.length ≤ 1000 → CVal (.List es p) (.lst l)
 | tup {es : List Expr} {l : List CV} {k : Nat} {p : Pos} : CVals es l → l.length ≤ 1000 → CVal (.Tuple es k p) (.tup l)
inductive CVals : List Expr → List CV → Prop
 | nil : CVals [] []
 | cons {e : Expr} {es : List Expr} {v : CV} {l : List CV} : CVal e v → (∀ env, starEach (e :: es) env = (false, eval e env) :: starEach es env) → CVals es l → CVals (e :: es) (v :: l)
end
section
variable {cx : Cx} {X : XV → St → Prop}
mutual
theorem ev_cval {e : Expr} {v : CV} {st : St} {Q : PV → St → Prop} (c : CVal e v) (h : Q (.c v) st) : EvE cx e st Q X := by
 cases c with
 | str => exact EvE.str h
 | int => exact EvE.int h
 | lst c hz => exact EvE.lst (ev_cvals c ⟨_, rfl, hz, h⟩)
 | tup c hz => exact EvE.tup (ev_cvals c ⟨_, rfl, hz, h⟩)
theorem ev_cvals {es : List Expr} {l : List CV} {st : St} {Q : List PV → St → Prop} (c : CVals es l) (h : Q (l.map .c) st) : EvL cx es st Q X := by
 cases c with
 | nil => exact EvL.nil h
 | cons c hs cs => exact EvL.cons (ev_cval c (ev_cvals cs h)) hs
end
end
noncomputable abbrev argScope1 (s : Stmt) : Scope := scAt s [0]
noncomputable abbrev testScope (s : Stmt) (p : List Nat) : Scope := scAt s p
theorem compL24 : CompOk (compScope (lawSt 24)) [("name", .local)] [] ["_law_bare"] :=
 .of (by decide +kernel)
theorem compL25 : CompOk (argScope1 (lawSt 25)) [("name", .local)] [] ["_law_bare"] :=
 .of (by decide +kernel)
theorem compL27 : CompOk (compScope (lawSt 27)) [("name", .local)] ["odd", "refused"] [] :=
 .of (by decide +kernel)
theorem compL27i : CompOk (testScope (lawSt 27) [0, 0]) [("one", .local)] ["odd"] [] :=
 .of (by decide +kernel)
theorem compL28 : CompOk (argScope1 (lawSt 28)) [("name", .local)] ["odd", "refused"] [] :=
 .of (by decide +kernel)
theorem compL28i : CompOk (testScope (lawSt 28) [0, 0, 0]) [("one", .local)] ["odd"] [] :=
 .of (by decide +kernel)
theorem cstrs_app (nm : List (List Nat)) (x : List Nat) : cstrs nm ++ [.str (S x)] = (nm ++ [x]).map fun x => .str (S x) := by
 unfold cstrs; rw [List.map_append]; rfl
noncomputable def sgL : List Nat := [0, 8, 11, 31, 127, 32, 126, 128]
noncomputable def sgAt (c : List Int) : Nat := sgL.getD (csIdx c 48 8) 0
noncomputable def oddL : List Nat := [10, 13, 0, 8, 11, 31, 127]
noncomputable def bare1 (x : List Nat) : CV := .str (bareV [([48], [49]), (x, [48])] [48])
noncomputable def bare2 (x : List Nat) : CV := .str (bareV [([112], x), ([48], [49])] x)
noncomputable def taken1 (x : List Nat) : CV := .str (if (x.any fun c => decide (c ∈ oddL ++ [9])) = true then refusedT else S [48])
noncomputable def taken2 (x : List Nat) : CV := .str (if (x.any fun c => decide (c ∈ oddL)) = true then refusedT else S x)
noncomputable def inF (odd : List Nat) (c : CV) : Option CV := if decide (chOf c ∈ odd) = true then some c else none
theorem in_empty (odd : List Nat) : ∀ x : List Nat, (!(((x.map fun c => CV.str (S [c])).filterMap (inF odd)).isEmpty)) = x.any fun c => decide (c ∈ odd)
 | [] => rfl
 | a :: x => by
  have ih := in_empty odd x
  rw [List.map_cons, List.filterMap_cons, List.any_cons]
  have e : inF odd (.str (S [a])) = if decide (a ∈ odd) = true then some (.str (S [a])) else none := rfl
  rw [e]
  by_cases h : decide (a ∈ odd) = true
  ·rw [if_pos h, h]; rfl
  ·rw [if_neg h, Bool.eq_false_iff.mpr h, Bool.false_or]; exact ih
section
variable {cx : Cx} {st : St} {X : XV → St → Prop} {lv : Nat} {g : List GObj} {Q : Fl → St → Prop}
theorem law22 (L : Ctx cx scLaw gscLaw (lv + 4) (defAt 32).scope) {c : List Int} {loc : List (List CV)} {o0 o2 o3 o4 o5 o6 o7 o8 o9 o10 o11 o12 o13 o14 o15 o16 o17 : Option PV} {r : List (Option PV)} (hc : c.length = 5)
  (h : ExB cx (lawB.drop 24) ⟨g, loc, o0 :: some (.c (.lst (c.map .int))) :: o2 :: o3 :: o4 :: o5 :: o6 :: o7 :: o8 :: o9 :: o10 :: o11 :: o12 :: o13 :: o14 :: o15 :: o16 :: o17 :: T [sgAt c] :: T oddL :: r, []⟩ Q X) :
  ExB cx (lawB.drop 22) ⟨g, loc, o0 :: some (.c (.lst (c.map .int))) :: o2 :: o3 :: o4 :: o5 :: o6 :: o7 :: o8 :: o9 :: o10 :: o11 :: o12 :: o13 :: o14 :: o15 :: o16 :: o17 :: none :: none :: r, []⟩ Q X := by
 have ls : ("\u0000\u0008\u000b\u001f\u007f ~\u0080" : Str) = S sgL := lit _ _ (by decide +kernel)
 have lo : ("\n\u000d\u0000\u0008\u000b\u001f\u007f" : Str) = S oddL := lit _ _ (by decide +kernel)
 have hq : csIdx c 48 8 < 8 := by have := (csIdx_eq c 48 (n := 8) (by decide)).2; omega
 refine ExB.cons (L.set 18 (EvE.idx (EvE.str ?_)))
 refine ev_cs hc (by decide) (by decide) (fun _ h => L.c 1 rfl rfl h) ⟨(csIdx c 48 8 : Nat), .c (.str (S [sgAt c])), rfl, by first | exact nz _ | decide | omega, by first | exact nlt4 (by assumption) | decide | omega, ?_, ?_⟩
 ·rw [ls]
  obtain ⟨cp1, cp2⟩ := item_nat sgL (csIdx c 48 8) (sgAt c) (by
   unfold sgAt
   rw [List.getD_eq_getElem?_getD, List.getElem?_eq_getElem (show csIdx c 48 8 < sgL.length from hq)]; rfl)
  show (Txt.charAt (S _) _).map (fun _ => PV.c (.str (Txt.item (S _) _))) = _
  rw [cp1, cp2]; rfl
 ·refine ExB.cons (L.set 19 (EvE.str ?_))
  rw [lo]
  exact h
theorem bareAt {cx' : Cx} {gsc usc : List Str} {sc : List (Str × NameKind)} (L' : CCtx cx' sc usc gsc (lv + 4)) {rows : Rows} {i : Nat} {n v : List Nat} {st : St} {Q : PV → St → Prop} (hg : LowG st.glob) (fit : FitRows rows) (hi : rows[i]? = some (n, v)) (h : Q (.c (.str (bareV rows v))) st) :
  Prim cx' (.ref 287) [.c (.lst (hdrs rows)), .c (.int (i : Nat))] st Q XF := by
 refine L'.prim (CallOk.at (call_bare L'.top hg fit hi) ?_)
 exact h
theorem law24 (L : Ctx cx scLaw gscLaw (lv + 4) (defAt 32).scope) {nm : List (List Nat)} {sg : Nat} {l0 : List CV} {o0 o1 o2 o3 o4 o6 o7 o8 o9 o10 o11 o12 o13 o14 o15 o16 o17 o19 : Option PV} {r : List (Option PV)} (N : Nm4 nm) (hg : LowG g)
  (h : ExB cx (lawB.drop 26) ⟨g, [l0, (nm ++ [[112, sg]]).map bare1 ++ (nm ++ [[sg]]).map bare2], o0 :: o1 :: o2 :: o3 :: o4 :: some (.c (.lst (cstrs nm))) :: o6 :: o7 :: o8 :: o9 :: o10 :: o11 :: o12 :: o13 :: o14 :: o15 :: o16 :: o17 :: T [sg] :: o19 :: some (.loc 1) :: r, []⟩ Q X) :
  ExB cx (lawB.drop 24) ⟨g, [l0], o0 :: o1 :: o2 :: o3 :: o4 :: some (.c (.lst (cstrs nm))) :: o6 :: o7 :: o8 :: o9 :: o10 :: o11 :: o12 :: o13 :: o14 :: o15 :: o16 :: o17 :: T [sg] :: o19 :: none :: r, []⟩ Q X := by
 have C := L.ok
 have c0 : ("0" : Str) = S [48] := lit _ _ (by decide +kernel)
 have c1 : ("1" : Str) = S [49] := lit _ _ (by decide +kernel)
 have cp : ("p" : Str) = S [112] := lit _ _ (by decide +kernel)
 have strc : ∀ {cx : Cx} {x : Str} {l : List Nat} {k : Nat} {p : Pos} {st : St} {Q : PV → St → Prop} {X : XV → St → Prop}, x = S l → Q (.c (.str (S l))) st → EvE cx (.Constant (.str x) k p) st Q X := fun e q => EvE.str (by rw [e]; exact q)
 have hn4 := N.len
 have hz : (cstrs nm).length = 4 := by unfold cstrs; rw [List.length_map]; exact hn4
 refine ExB.cons (L.setL 20 true [("name", .local)] [] ["_law_bare"] compL24 .nil (ev_addL (L.v 5 rfl rfl (EvE.lst (EvL.cons (ev_addS (strc cp (L.v 18 rfl rfl ⟨_, _, rfl, rfl, Nat.le_of_ble_eq_true rfl, EvL.nil ⟨[.str (S [112, sg])], rfl, by simp, _, _, rfl, rfl, ?_, rfl, rfl, (nm ++ [[112, sg]]).map fun x => .str (S x), (nm ++ [[112, sg]]).map bare1, ?_, ?_, xtf, fun _ => ?_⟩⟩))))))))
 ·rw [sizeLine_eq, hz]; exact Nat.le_of_ble_eq_true rfl
 ·exact congrArg some (cstrs_app nm _)
 ·refine CompL.mapG (fun x : List Nat => CV.str (S x)) bare1 (txtF bare1) (fun _ => rfl) (by simp; omega) (xnl rfl) (.inl rfl) ?_
  intro cx' L' hw x hx
  have hx3 : x.length ≤ 3 := by
   rcases List.mem_append.mp hx with hx | hx
   ·rw [N.three x hx]; exact Nat.le_refl _
   ·rw [List.mem_singleton.mp hx]; exact Nat.le_of_ble_eq_true rfl
  have fit : FitRows [([48], [49]), (x, [48])] := by
   refine ⟨by simp, fun p hp => ?_⟩
   rcases List.mem_cons.mp hp with rfl | hp
   ·exact ⟨by simp, by simp⟩
   ·rw [List.mem_singleton.mp hp]
    exact ⟨show x.length ≤ 1000 by omega, by simp⟩
  refine L'.call 0 25 (FnAt.callee L'.top.lbare) (EvL.cons (EvE.lst (EvL.cons (EvE.tup (EvL.cons (strc c0 (EvL.cons (strc c1 (EvL.nil ⟨[.str (S [48]), .str (S [49])], rfl, by simp, ?_⟩)))))))))
  refine EvL.cons (EvE.tup (EvL.cons (L'.v 0 rfl rfl (EvL.cons (strc c0 (EvL.nil ⟨[.str (S x), .str (S [48])], rfl, by simp, EvL.nil ⟨hdrs [([48], [49]), (x, [48])], rfl, by simp [hdrs], ?_⟩⟩))))))
  exact EvL.cons (EvE.int (EvL.nil (bareAt (i := 1) L' hg fit rfl ⟨rfl, rfl⟩)))
 ·refine ExB.cons (ExS.expr (EvE.meth PySem.F.plainAttrs_list PySem.F.slot_list_extend PySem.F.type_list_extend (L.v 20 rfl rfl ⟨HasT.list (l := (nm ++ [[112, sg]]).map bare1) rfl trivial, EvL.cons (L.comp [("name", .local)] [] ["_law_bare"] compL25 .nil (ev_addL (L.v 5 rfl rfl (EvE.lst (EvL.cons (L.v 18 rfl rfl (EvL.nil ⟨[.str (S [sg])], rfl, by simp, _, _, rfl, rfl, ?_, rfl, rfl, (nm ++ [[sg]]).map fun x => .str (S x), (nm ++ [[sg]]).map bare2, ?_, ?_, EvL.nil (Prim.extend rfl (l := (nm ++ [[112, sg]]).map bare1) rfl ?_ h)⟩)))))))⟩)) ?_ rfl)
  ·rw [sizeLine_eq, hz]; exact Nat.le_of_ble_eq_true rfl
  ·exact congrArg some (cstrs_app nm _)
  ·refine CompL.mapG (fun x : List Nat => CV.str (S x)) bare2 (txtF bare2) (fun _ => rfl) (by simp; omega) (xnl rfl) (.inl rfl) ?_
   intro cx' L' hw x hx
   have hx3 : x.length ≤ 3 := by
    rcases List.mem_append.mp hx with hx | hx
    ·rw [N.three x hx]; exact Nat.le_refl _
    ·rw [List.mem_singleton.mp hx]; exact Nat.le_of_ble_eq_true rfl
   have fit : FitRows [([112], x), ([48], [49])] := by
    refine ⟨by simp, fun p hp => ?_⟩
    rcases List.mem_cons.mp hp with rfl | hp
    ·exact ⟨by simp, show x.length ≤ 1000 by omega⟩
    ·rw [List.mem_singleton.mp hp]
     exact ⟨by simp, by simp⟩
   refine L'.call 0 25 (FnAt.callee L'.top.lbare) (EvL.cons (EvE.lst (EvL.cons (EvE.tup (EvL.cons (strc cp (EvL.cons (L'.v 0 rfl rfl (EvL.nil ⟨[.str (S [112]), .str (S x)], rfl, by simp, ?_⟩)))))))))
   refine EvL.cons (EvE.tup (EvL.cons (strc c0 (EvL.cons (strc c1 (EvL.nil ⟨[.str (S [48]), .str (S [49])], rfl, by simp, EvL.nil ⟨hdrs [([112], x), ([48], [49])], rfl, by simp [hdrs], ?_⟩⟩))))))
   exact EvL.cons (EvE.int (EvL.nil (bareAt (i := 0) L' hg fit rfl ⟨rfl, rfl⟩)))
  ·simp; omega
  ·unfold interactive; rw [C.fn]; rfl
end
noncomputable abbrev orScope (s : Stmt) : Scope := scAt s [1, 0]
noncomputable abbrev retScope2 (s : Stmt) (b : Bool) : Scope := scAt s [if b then 0 else 1]
theorem compL31 : CompOk (orScope (lawSt 31)) [("reply", .local)] [] ["_law_read"] :=
 .of (by decide +kernel)
theorem compL32a : CompOk (retScope2 (lawSt 32) true) [("reply", .local)] [] ["_law_read"] :=
 .of (by decide +kernel)
theorem compL32b : CompOk (retScope2 (lawSt 32) false) [("reply", .local)] [] [] :=
 .of (by decide +kernel)
noncomputable def goodT : List Str := ["257 pq", "257-\"p\"", "257 \"\"", "257", "229 (|||7|)"]
noncomputable def badT : List Str := ["228 |||7|", "250 pq", "229 272)", "229 (|||7|x", "229 (|||7|!)", "229 (||7|)", "229 (|||7||)"]
noncomputable def goodC : List (List Nat) := [[50, 53, 55, 32, 112, 113], [50, 53, 55, 45, 34, 112, 34], [50, 53, 55, 32, 34, 34], [50, 53, 55], [50, 50, 57, 32, 40, 124, 124, 124, 55, 124, 41]]
noncomputable def badC : List (List Nat) := [[50, 50, 56, 32, 124, 124, 124, 55, 124], [50, 53, 48, 32, 112, 113], [50, 50, 57, 32, 50, 55, 50, 41], [50, 50, 57, 32, 40, 124, 124, 124, 55, 124, 120], [50, 50, 57, 32, 40, 124, 124, 124, 55, 124, 33, 41], [50, 50, 57, 32, 40, 124, 124, 55, 124, 41], [50, 50, 57, 32, 40, 124, 124, 124, 55, 124, 124, 41]]
theorem good_eq : goodT.map CV.str = cstrs goodC := by
 have : goodT = goodC.map S := by decide +kernel
 rw [this, List.map_map]; rfl
theorem bad_eq : badT.map CV.str = cstrs badC := by
 have : badT = badC.map S := by decide +kernel
 rw [this, List.map_map]; rfl
noncomputable def readV (x : List Nat) : CV := (readSpec x).getD .none
theorem read_some : ∀ x ∈ goodC ++ badC, (readSpec x).isSome = true := by decide +kernel
theorem read_len : ∀ x ∈ goodC ++ badC, x.length ≤ 1000 ∧ 2 ≤ x.length := by decide
theorem read_ok {x : List Nat} (h : x ∈ goodC ++ badC) : readSpec x = some (readV x) := by
 obtain ⟨v, hv⟩ := Option.isSome_iff_exists.mp (read_some x h)
 unfold readV
 rw [hv]; rfl
noncomputable def goodV : List CV := [.lst [.str ""], .lst [.str ""], .lst [.str ""], .lst [.str ""], .lst [.tup [.str "p", .int 7]]]
noncomputable def badV (x : List Nat) : CV := .lst [.str (if x.take 3 = [50, 50, 57] then "proto" else "reply"), .str (S x)]
theorem good_val : goodC.map readV = goodV := by kernel_rfl
theorem bad_val : badC.map readV = badC.map badV := by kernel_rfl
section
variable {cx : Cx} {st : St} {X : XV → St → Prop} {lv : Nat} {g : List GObj} {Q : Fl → St → Prop}
theorem law26 (L : Ctx cx scLaw gscLaw (lv + 4) (defAt 32).scope) {nm : List (List Nat)} {sg : Nat} {l0 l1 : List CV} {o0 o1 o2 o3 o5 o6 o7 o8 o9 o10 o11 o12 o13 o14 o15 o16 o17 o20 : Option PV} {r : List (Option PV)} (N : Nm4 nm)
  (h : ExB cx (lawB.drop 29) ⟨g, [l0, l1, (nm ++ [[112, sg]]).map taken1 ++ (nm ++ [[sg]]).map taken2], o0 :: o1 :: o2 :: o3 :: some (.c (.lst (cstrs nm))) :: o5 :: o6 :: o7 :: o8 :: o9 :: o10 :: o11 :: o12 :: o13 :: o14 :: o15 :: o16 :: o17 :: T [sg] :: T oddL :: o20 :: some (.c (.str refusedT)) :: some (.loc 2) :: r, []⟩ Q X) :
  ExB cx (lawB.drop 26) ⟨g, [l0, l1], o0 :: o1 :: o2 :: o3 :: some (.c (.lst (cstrs nm))) :: o5 :: o6 :: o7 :: o8 :: o9 :: o10 :: o11 :: o12 :: o13 :: o14 :: o15 :: o16 :: o17 :: T [sg] :: T oddL :: o20 :: none :: none :: r, []⟩ Q X := by
 have C := L.ok
 have c0 : ("0" : Str) = S [48] := lit _ _ (by decide +kernel)
 have ct : ("\t" : Str) = S [9] := lit _ _ (by decide +kernel)
 have cp : ("p" : Str) = S [112] := lit _ _ (by decide +kernel)
 have strc : ∀ {cx : Cx} {x : Str} {l : List Nat} {k : Nat} {p : Pos} {st : St} {Q : PV → St → Prop} {X : XV → St → Prop}, x = S l → Q (.c (.str (S l))) st → EvE cx (.Constant (.str x) k p) st Q X := fun e q => EvE.str (by rw [e]; exact q)
 have hn4 := N.len
 have hz : (cstrs nm).length = 4 := by unfold cstrs; rw [List.length_map]; exact hn4
 refine ExB.cons (L.set 21 (EvE.str ?_))
 refine ExB.cons (L.setL 22 true [("name", .local)] ["odd", "refused"] [] compL27 (.cell 19 (L.s 19 rfl) rfl (.cell 21 (L.s 21 rfl) rfl .nil)) (ev_addL (L.c 4 rfl rfl (EvE.lst (EvL.cons (ev_addS (strc cp (L.v 18 rfl rfl ⟨_, _, rfl, rfl, Nat.le_of_ble_eq_true rfl, EvL.nil ⟨[.str (S [112, sg])], rfl, by simp, _, _, rfl, rfl, ?_, rfl, rfl, (nm ++ [[112, sg]]).map fun x => .str (S x), (nm ++ [[112, sg]]).map taken1, ?_, ?_, xtf, fun _ => ?_⟩⟩))))))))
 ·rw [sizeLine_eq, hz]; exact Nat.le_of_ble_eq_true rfl
 ·exact congrArg some (cstrs_app nm _)
 ·refine CompL.mapG (fun x : List Nat => CV.str (S x)) taken1 (txtF taken1) (fun _ => rfl) (by simp; omega) (xnl rfl) (.inl rfl) ?_
  intro cx' L' hw x hx
  have hx3 : x.length ≤ 3 := by
   rcases List.mem_append.mp hx with hx | hx
   ·rw [N.three x hx]; exact Nat.le_refl _
   ·rw [List.mem_singleton.mp hx]; exact Nat.le_of_ble_eq_true rfl
  refine EvE.ife (EvT.val (L'.comp [("one", .local)] ["odd"] [] compL27i (.free 0 (by rw [L'.usc]; rfl) rfl .nil) (L'.v 0 rfl rfl ⟨rfl, rfl, chars (S x), (x.map fun c => CV.str (S [c])).filterMap (inF (oddL ++ [9])), rfl, ?_, _, _, rfl, rfl, ?_, fun e => ?_, fun e => ?_⟩)))
  ·refine CompL.one (inF (oddL ++ [9])) (by rw [chars_S]) (by rw [chars_S, List.length_map]; omega) (xnl rfl) ?_
   intro cx2 L2 hw2 hA2 y hy
   rw [chars_S] at hy
   obtain ⟨c, hc, rfl⟩ := List.mem_map.mp hy
   refine TurnC.name L2 (i := 0) rfl fun fr hfr => ?_
   obtain ⟨o, rfl⟩ := len1 hfr
   refine EvT.cmp (L2.v 0 rfl rfl (ev_addS (L2.f 0 rfl rfl (strc ct ⟨oddL, [9], rfl, rfl, by decide, _, _, _, rfl, rfl, rfl, fun e => ⟨rfl, xtf, fun _ => L2.v 0 rfl rfl ⟨rfl, _, rfl, ?_⟩⟩, fun e => ⟨rfl, fun _ => ?_, xff⟩⟩))))
   ·rw [found_S] at e
    exact if_pos e
   ·rw [found_S] at e
    exact if_neg (fun h2 => Bool.noConfusion (e.symm.trans h2))
  ·show (List.filterMap _ _).length ≤ sizeLine
   have := List.length_filterMap_le (inF (oddL ++ [9])) (x.map fun c => CV.str (S [c]))
   rw [List.length_map] at this
   rw [sizeLine_eq]; omega
  ·rw [in_empty] at e
   refine L'.f 1 rfl rfl ⟨?_, rfl⟩
   unfold taken1
   rw [if_pos e]; rfl
  ·rw [in_empty] at e
   refine strc c0 ⟨?_, rfl⟩
   unfold taken1
   rw [e]; rfl
 ·refine ExB.cons (ExS.expr (EvE.meth PySem.F.plainAttrs_list PySem.F.slot_list_extend PySem.F.type_list_extend (L.v 22 rfl rfl ⟨HasT.list (l := (nm ++ [[112, sg]]).map taken1) rfl trivial, EvL.cons (L.comp [("name", .local)] ["odd", "refused"] [] compL28 (.cell 19 (L.s 19 rfl) rfl (.cell 21 (L.s 21 rfl) rfl .nil)) (ev_addL (L.c 4 rfl rfl (EvE.lst (EvL.cons (L.v 18 rfl rfl (EvL.nil ⟨[.str (S [sg])], rfl, by simp, _, _, rfl, rfl, ?_, rfl, rfl, (nm ++ [[sg]]).map fun x => .str (S x), (nm ++ [[sg]]).map taken2, ?_, ?_, EvL.nil (Prim.extend rfl (l := (nm ++ [[112, sg]]).map taken1) rfl ?_ h)⟩)))))))⟩)) ?_ rfl)
  ·rw [sizeLine_eq, hz]; exact Nat.le_of_ble_eq_true rfl
  ·exact congrArg some (cstrs_app nm _)
  ·refine CompL.mapG (fun x : List Nat => CV.str (S x)) taken2 (txtF taken2) (fun _ => rfl) (by simp; omega) (xnl rfl) (.inl rfl) ?_
   intro cx' L' hw x hx
   have hx3 : x.length ≤ 3 := by
    rcases List.mem_append.mp hx with hx | hx
    ·rw [N.three x hx]; exact Nat.le_refl _
    ·rw [List.mem_singleton.mp hx]; exact Nat.le_of_ble_eq_true rfl
   refine EvE.ife (EvT.val (L'.comp [("one", .local)] ["odd"] [] compL28i (.free 0 (by rw [L'.usc]; rfl) rfl .nil) (L'.v 0 rfl rfl ⟨rfl, rfl, chars (S x), (x.map fun c => CV.str (S [c])).filterMap (inF oddL), rfl, ?_, _, _, rfl, rfl, ?_, fun e => ?_, fun e => ?_⟩)))
   ·refine CompL.one (inF oddL) (by rw [chars_S]) (by rw [chars_S, List.length_map]; omega) (xnl rfl) ?_
    intro cx2 L2 hw2 hA2 y hy
    rw [chars_S] at hy
    obtain ⟨c, hc, rfl⟩ := List.mem_map.mp hy
    refine TurnC.name L2 (i := 0) rfl fun fr hfr => ?_
    obtain ⟨o, rfl⟩ := len1 hfr
    refine EvT.cmp (L2.v 0 rfl rfl (L2.f 0 rfl rfl ⟨_, _, _, rfl, rfl, rfl, fun e => ⟨rfl, xtf, fun _ => L2.v 0 rfl rfl ⟨rfl, _, rfl, ?_⟩⟩, fun e => ⟨rfl, fun _ => ?_, xff⟩⟩))
    ·rw [found_S] at e
     exact if_pos e
    ·rw [found_S] at e
     exact if_neg (fun h2 => Bool.noConfusion (e.symm.trans h2))
   ·show (List.filterMap _ _).length ≤ sizeLine
    have := List.length_filterMap_le (inF oddL) (x.map fun c => CV.str (S [c]))
    rw [List.length_map] at this
    rw [sizeLine_eq]; omega
   ·rw [in_empty] at e
    refine L'.f 1 rfl rfl ⟨?_, rfl⟩
    unfold taken2
    rw [if_pos e]; rfl
   ·rw [in_empty] at e
    refine L'.v 0 rfl rfl ⟨?_, rfl⟩
    unfold taken2
    rw [e]; rfl
  ·simp; omega
  ·unfold interactive; rw [C.fn]; rfl
theorem read_step {cx' : Cx} {usc : List Str} (L' : CCtx cx' [("reply", .local)] usc ["_law_read"] (lv + 4)) {g : List GObj} {loc : List (List CV)} {up : List CV} {x : List Nat} {p1 p2 p3 : Pos} (hx : x ∈ goodC ++ badC) :
  EvE cx' (.Call (.Name "_law_read" p1) [.Name "reply" p2] [] p3) ⟨g, loc, [some (.c (.str (S x)))], up⟩ (fun p st₃ => p = .c (readV x) ∧ st₃ = ⟨g, loc, [some (.c (.str (S x)))], up⟩) XF := by
 obtain ⟨h1, h2⟩ := read_len x hx
 refine L'.call 0 24 (FnAt.callee L'.top.lread) (EvL.cons (L'.v 0 rfl rfl (EvL.nil (L'.prim (CallOk.at (call_read L'.top h1 h2 (read_ok hx)) ?_)))))
 exact ⟨rfl, rfl⟩
theorem law29 (L : Ctx cx scLaw gscLaw (lv + 4) (defAt 32).scope) {l0 l1 : List CV} {o0 o1 o2 o3 o4 o5 o6 o7 o8 o9 o10 o11 o12 o13 o14 o15 o16 o17 o18 o19 o21 : Option PV} (hp : l1.all (pl 8) = true)
  (h : ∀ loc fr, Q (.ret (.c (.bool true))) ⟨g, loc, fr, []⟩) :
  ExB cx (lawB.drop 29) ⟨g, [l0, l1, l1], o0 :: o1 :: o2 :: o3 :: o4 :: o5 :: o6 :: o7 :: o8 :: o9 :: o10 :: o11 :: o12 :: o13 :: o14 :: o15 :: o16 :: o17 :: o18 :: o19 :: some (.loc 1) :: o21 :: some (.loc 2) :: none :: none :: [], []⟩ Q X := by
 have C := L.ok
 have c2 : ("229" : Str) = S [50, 50, 57] := lit _ _ (by decide +kernel)
 refine @ExB.cons cx _ X _ _ _ ?_
 refine @ExS.asgName cx _ X L.ok 23 _ _ _ _ _ _ (L.s 23 rfl) (.inl rfl) ?_ rfl
 refine @ev_lstrsE cx _ X _ goodT (cstrs goodC) _ _ (.cons (.cons (.cons (.cons (.cons .nil))))) (by decide) good_eq ?_
 refine @ExB.cons cx _ X _ _ _ ?_
 refine @ExS.asgName cx _ X L.ok 24 _ _ _ _ _ _ (L.s 24 rfl) (.inl rfl) ?_ rfl
 refine @ev_lstrsE cx _ X _ badT (cstrs badC) _ _ (.cons (.cons (.cons (.cons (.cons (.cons (.cons .nil))))))) (by decide) bad_eq ?_
 refine ExB.cons (ExS.ite (EvT.bop (EvAll.or (EvT.eqL C (.inr rfl) (L.v 20 rfl rfl (L.v 22 rfl rfl ⟨l1, rfl, rfl, trivial, trivial, hp, xff, fun _ => ?_⟩))))))
 refine EvAll.or (EvT.eqL C (.inr rfl) (L.comp [("reply", .local)] [] ["_law_read"] compL31 .nil (L.v 23 rfl rfl ⟨rfl, rfl, cstrs goodC, goodC.map readV, rfl, ?_, ?_⟩)))
 ·refine CompL.mapG (fun x : List Nat => CV.str (S x)) readV (txtF readV) (fun _ => rfl) (by decide) (xnl rfl) (.inl rfl) ?_
  intro cx' L' hw x hx
  exact read_step L' (List.mem_append_left _ hx)
 refine @ev_cval cx X _ (.lst goodV) _ _ ?_ ?_
 ·exact .lst (.cons (.lst (.cons .str (by intro _; rfl) .nil) (by decide)) (by intro _; rfl) (.cons (.lst (.cons .str (by intro _; rfl) .nil) (by decide)) (by intro _; rfl) (.cons (.lst (.cons .str (by intro _; rfl) .nil) (by decide)) (by intro _; rfl) (.cons (.lst (.cons .str (by intro _; rfl) .nil) (by decide)) (by intro _; rfl) (.cons (.lst (.cons (.tup (.cons .str (by intro _; rfl) (.cons .int (by intro _; rfl) .nil)) (by decide)) (by intro _; rfl) .nil) (by decide)) (by intro _; rfl) .nil))))) (by decide)
 refine ⟨goodV, congrArg some good_val, rfl, trivial, trivial, by decide +kernel, xff, fun _ => EvAll.orNil ⟨xff, fun _ => ExB.nil (ExB.cons (ExS.ret ?_))⟩⟩
 refine EvE.eqL C (.inl rfl) (L.comp [("reply", .local)] [] ["_law_read"] compL32a .nil (L.v 24 rfl rfl ⟨rfl, rfl, cstrs badC, badC.map readV, rfl, ?_, ?_⟩))
 ·refine CompL.mapG (fun x : List Nat => CV.str (S x)) readV (txtF readV) (fun _ => rfl) (by decide) (xnl rfl) (.inl rfl) ?_
  intro cx' L' hw x hx
  exact read_step L' (List.mem_append_right _ hx)
 refine L.comp [("reply", .local)] [] [] compL32b .nil (L.v 24 rfl rfl ⟨rfl, rfl, cstrs badC, badC.map badV, rfl, ?_, badC.map badV, congrArg some bad_val, rfl, trivial, trivial, by decide +kernel, h _ _⟩)
 refine CompL.mapG (fun x : List Nat => CV.str (S x)) badV (txtF badV) (fun _ => rfl) (by decide) (xnl rfl) (.inl rfl) ?_
 intro cx' L' hw x hx
 obtain ⟨h1, h2⟩ := read_len x (List.mem_append_right _ hx)
 have t3 : Mine.sliceS (S x) none (some 3) = S (x.take 3) := take_S x 3
 have c2 : (S (x.take 3) == ("229" : Str)) = decide (x.take 3 = [50, 50, 57]) := by rw [c2, S_beq, Bool.eq_iff_iff]; simp
 refine EvE.lst (EvL.cons (EvE.ife (EvT.cmp (ev_cutS (L'.v 0 rfl rfl (evO_none (evO_some (EvE.int ⟨x, _, rfl, by omega, t3, EvE.str ⟨_, _, _, rfl, rfl, rfl, fun e => ?_, fun e => ?_⟩⟩))))))))
 ·exact EvE.str (EvL.cons (L'.v 0 rfl rfl (EvL.nil ⟨[.str "proto", .str (S x)], rfl, by simp, congrArg (fun s => PV.c (.lst [.str s, .str (S x)])) (if_pos (of_decide_eq_true (c2.symm.trans e))).symm, rfl⟩)))
 ·exact EvE.str (EvL.cons (L'.v 0 rfl rfl (EvL.nil ⟨[.str "reply", .str (S x)], rfl, by simp, congrArg (fun s => PV.c (.lst [.str s, .str (S x)])) (if_neg (of_decide_eq_false (c2.symm.trans e))).symm, rfl⟩)))
end
noncomputable def hsOf (c : List Int) : List (List Nat) := (namesOf c).map escAll
noncomputable def st0 (c : List Int) : Row × Rows := (portF c, rows0 (hsOf c) (portF c))
structure LawF (c : List Int) : Prop where
 say : ∀ k, k < 4 → spec257 (say257 c (nAt (namesOf c) k) k) = nAt (namesOf c) k
 nm : Nm3 (namesOf c)
 hd : Hd4 (hsOf c)
 wr : (namesOf c).map writ = hsOf c
 bad0 : badRows (rows0 (hsOf c) (portF c)) = false
 fit0 : FitRows (rows0 (hsOf c) (portF c))
 inv : ∀ ord : Prs, ord.Perm pairs12 → ∀ done rest, ord = done ++ rest → RInv (hsOf c) (done.foldl (roundStep (namesOf c) (hsOf c)) (st0 c))
 fin : ∀ ord : Prs, ord.Perm pairs12 → (ord.foldl (roundStep (namesOf c) (hsOf c)) (st0 c)).2 = dueR (hsOf c) (leastT (portF c) (wayAt (namesOf c))) (lateOf (wayAt (namesOf c)) (portF c) ord)
 least : ∀ k, k < 4 → 0 ≤ leastI (portF c) (wayAt (namesOf c)) k ∧ leastI (portF c) (wayAt (namesOf c)) k ≤ 15
 cost : ∀ q, q < 4 → ∃ a b d, nAt (namesOf c) q = [a, b, d] ∧ Asc [a, b, d, 112 + q] ∧ costsOf a b d (112 + q) = costN
 bare : (namesOf c ++ [[112, sgAt c]]).map bare1 ++ (namesOf c ++ [[sgAt c]]).map bare2 = (namesOf c ++ [[112, sgAt c]]).map taken1 ++ (namesOf c ++ [[sgAt c]]).map taken2
theorem late_mem (F : Mat) : ∀ (ord : Prs) (s : Row × List Nat), (∀ k ∈ s.2, k < 4) → (∀ p ∈ ord, p.1 < 4 ∧ p.2 < 4) → ∀ k ∈ (ord.foldl (lateStep F) s).2, k < 4
 | [], _, h, _ => h
 | p :: ord, s, h, ho => by
  rw [List.foldl_cons]
  refine late_mem F ord _ ?_ fun q hq => ho q (.tail _ hq)
  intro k hk
  unfold lateStep at hk
  split at hk
  ·rcases List.mem_append.mp hk with hk | hk
   ·exact h k (List.mem_filter.mp hk).1
   ·rw [List.mem_singleton.mp hk]; exact (ho p (.head _)).2
  ·exact h k hk
theorem perm_lt {ord : Prs} (h : ord.Perm pairs12) : (∀ p ∈ ord, p.1 < 4 ∧ p.2 < 4) ∧ ord.length = 12 := by
 refine ⟨fun p hp => ?_, h.length_eq⟩
 have : ∀ p ∈ pairs12, p.1 < 4 ∧ p.2 < 4 := by decide
 exact this p (h.mem_iff.mp hp)
theorem bare_pl (nm : List (List Nat)) (x y : List Nat) : ((nm ++ [x]).map taken1 ++ (nm ++ [y]).map taken2).all (pl 8) = true := by
 rw [List.all_eq_true]
 intro v hv
 rcases List.mem_append.mp hv with hv | hv
 ·obtain ⟨_, _, rfl⟩ := List.mem_map.mp hv; rfl
 ·obtain ⟨_, _, rfl⟩ := List.mem_map.mp hv; rfl
section
variable {cx : Cx} {X : XV → St → Prop} {lv : Nat} {Q : Fl → St → Prop}
theorem bodyLaw (L : Ctx cx scLaw gscLaw (lv + 4) (defAt 32).scope) {z : List Int} (hz : z.length ≤ 1000) (F : LawF (cellsOf z)) (h : ∀ g loc fr, Q (.ret (.c (.bool true))) ⟨g, loc, fr, []⟩) :
  ExB cx lawB ⟨[], [], [some (.c (.lst (z.map .int))), none, none, none, none, none, none, none, none, none, none, none, none, none, none, none, none, none, none, none, none, none, none, none, none], []⟩ Q X := by
 have hc := cells_len z
 refine law0 L hz ?_
 generalize cellsOf z = c at *
 refine law1 L hc (law2 L (law3 L hc (law4 L hc F.nm.toNm4 F.say (law5 L F.nm.toNm4 ?_))))
 rw [show (namesOf c).map escAll = hsOf c from rfl]
 refine law6 L F.hd ?_
 refine law7 L F.fit0 F.bad0 (law8 L fun ord hp => ?_)
 obtain ⟨ho, hlen⟩ := perm_lt hp
 refine law9 (s0 := st0 c) L hc F.nm F.hd ho (F.inv ord hp) ?_
 have hR : RowsOk (dueR (hsOf c) (leastT (portF c) (wayAt (namesOf c))) (lateOf (wayAt (namesOf c)) (portF c) ord)) := by
  have := (F.inv ord hp ord [] (List.append_nil _).symm).rows
  rw [F.fin ord hp] at this
  exact this
 rw [F.fin ord hp]
 have hl4 : ∀ k ∈ lateOf (wayAt (namesOf c)) (portF c) ord, k < 4 := late_mem _ ord _ (by simp) ho
 have hll : (lateOf (wayAt (namesOf c)) (portF c) ord).length ≤ 1000 := by
  have : (lateOf (wayAt (namesOf c)) (portF c) ord).length ≤ ([] : List Nat).length + ord.length := late_len (wayAt (namesOf c)) ord (portF c, [])
  rw [hlen] at this
  simp at this; omega
 refine law10 L F.nm.toNm4 (law11 L ho (by omega) ?_)
 generalize lateOf (wayAt (namesOf c)) (portF c) ord = late at *
 refine law12 L (law13 L F.nm.toNm4 ?_)
 rw [F.wr]
 have hlt : (leastT (portF c) (wayAt (namesOf c))).length = 4 := by simp [leastT]
 have hkl := kept_len late
 refine law14 L F.least (law15 L F.hd hlt (law16 L F.hd.len hlt hl4 hll ?_ ?_))
 ·rw [List.length_append, List.length_map, List.length_map, List.length_reverse]; omega
 refine law17 L hR (law20 L hc F.nm.toNm4 F.cost (law22 L hc (law24 L F.nm.toNm4 rfl ?_)))
 rw [F.bare]
 exact law26 L F.nm.toNm4 (law29 L (bare_pl _ _ _) fun loc fr => h _ loc fr)
end
theorem call_law {W : Wd} (Tp : TopA W) {lv : Nat} {a : Addr} {fd : FuncData} (F : FnAt W a (defAt 32) .none fd) {z : List Int} (hz : z.length ≤ 1000) (H : LawF (cellsOf z)) :
  CallOk W (lv + 5) (.ref a) [.c (.lst (z.map .int))] [] [] (fun r fr _ => r = .bool true ∧ fr = false) (fun _ _ => False) := by
 refine CallOk.pos Tp (bs := [("script", .c (.lst (z.map .int)))]) F scOkLaw rfl rfl (fun fd vs hl => by obtain ⟨_, rfl⟩ := len1 hl; rfl) ?_
 ·intro cx L hw
  exact bodyLaw L hz H fun g loc fr => ⟨.bool true, false, rfl, xff, .inr rfl, rfl, rfl⟩
noncomputable def mkName (a b p k : Nat) : List Nat := [a, b].take p ++ [112 + k] ++ [a, b].drop p
structure IsName (k : Nat) (n : List Nat) : Prop where
 ex : ∃ a ∈ alpha, ∃ b ∈ alpha, ∃ p, p < 3 ∧ n = mkName a b p k
theorem alpha_get {i : Int} (h0 : 0 ≤ i) (h1 : i < 10) : alpha.getD i.toNat 0 ∈ alpha := by
 have hl : i.toNat < alpha.length := by
  have : alpha.length = 10 := rfl
  omega
 rw [List.getD_eq_getElem?_getD, List.getElem?_eq_getElem hl]
 exact List.getElem_mem hl
theorem name_is (c : Int) (k : Nat) : IsName k (nameOf c k) := by
 obtain ⟨a0, a1⟩ := fmod_lt c (n := 10) (by decide)
 obtain ⟨b0, b1⟩ := fmod_lt (c.fdiv 10) (n := 10) (by decide)
 obtain ⟨p0, p1⟩ := fmod_lt (c.fdiv 100) (n := 3) (by decide)
 exact ⟨_, alpha_get a0 a1, _, alpha_get b0 b1, ((c.fdiv 100).fmod 3).toNat, by omega, rfl⟩
theorem names_at {c : List Int} {k : Nat} (hk : k < 4) : nAt (namesOf c) k = nameOf (c.getD k 0) k := by
 unfold nAt namesOf
 rw [List.getD_eq_getElem?_getD, List.getElem?_map, List.getElem?_range hk]; rfl
theorem names_len (c : List Int) : (namesOf c).length = 4 := by simp [namesOf]
theorem names_mem {c : List Int} {n : List Nat} (h : n ∈ namesOf c) : ∃ k, k < 4 ∧ IsName k n := by
 obtain ⟨k, hk, rfl⟩ := List.mem_map.mp h
 exact ⟨k, List.mem_range.mp hk, name_is _ _⟩
noncomputable def alphaAll : List Nat := alpha ++ [112, 113, 114, 115]
theorem lt3 {p : Nat} (h : p < 3) : p = 0 ∨ p = 1 ∨ p = 2 := by omega
theorem IsName.cases {k : Nat} {n : List Nat} (N : IsName k n) : ∃ a ∈ alpha, ∃ b ∈ alpha, n = [112 + k, a, b] ∨ n = [a, 112 + k, b] ∨ n = [a, b, 112 + k] := by
 obtain ⟨a, ha, b, hb, p, hp, rfl⟩ := N.ex
 refine ⟨a, ha, b, hb, ?_⟩
 rcases lt3 hp with rfl | rfl | rfl
 ·exact .inl rfl
 ·exact .inr (.inl rfl)
 ·exact .inr (.inr rfl)
theorem IsName.len {k : Nat} {n : List Nat} (N : IsName k n) : n.length = 3 := by
 obtain ⟨a, _, b, _, rfl | rfl | rfl⟩ := N.cases <;> rfl
theorem mem3 {x y z c : Nat} (h : c ∈ [x, y, z]) : c = x ∨ c = y ∨ c = z := (List.mem_cons.mp h).imp id fun h => (List.mem_cons.mp h).imp id List.mem_singleton.mp
theorem IsName.mem {k : Nat} (hk : k < 4) {n : List Nat} (N : IsName k n) : ∀ c ∈ n, c ∈ alphaAll := by
 obtain ⟨a, ha, b, hb, h⟩ := N.cases
 have h1 : a ∈ alphaAll := List.mem_append_left _ ha
 have h2 : b ∈ alphaAll := List.mem_append_left _ hb
 have h3 : 112 + k ∈ alphaAll := by rcases lt4 hk with rfl | rfl | rfl | rfl <;> decide
 intro c hc
 have pick : ∀ {x y z : Nat}, x ∈ alphaAll → y ∈ alphaAll → z ∈ alphaAll → c ∈ [x, y, z] → c ∈ alphaAll := fun hx hy hz h => (mem3 h).elim (fun e => e ▸ hx) fun h => h.elim (fun e => e ▸ hy) fun e => e ▸ hz
 rcases h with e | e | e <;> rw [e] at hc
 ·exact pick h3 h1 h2 hc
 ·exact pick h1 h3 h2 hc
 ·exact pick h1 h2 h3 hc
theorem alpha_small : ∀ c ∈ alpha, c < 112 := by decide +kernel
theorem IsName.own {k : Nat} {n : List Nat} (N : IsName k n) : ∀ j, 112 + j ∈ n ↔ j = k := by
 obtain ⟨a, ha, b, hb, h⟩ := N.cases
 have h1 := alpha_small a ha
 have h2 := alpha_small b hb
 intro j
 have no : ∀ {x : Nat}, x < 112 → 112 + j ≠ x := fun h e => absurd (e ▸ h) (Nat.not_lt.mpr (Nat.le_add_right ..))
 rcases h with e | e | e <;> rw [e]
 ·exact ⟨fun h => (mem3 h).elim Nat.add_left_cancel fun h => h.elim (fun e => absurd e (no h1)) fun e => absurd e (no h2), fun e => e ▸ .head _⟩
 ·exact ⟨fun h => (mem3 h).elim (fun e => absurd e (no h1)) fun h => h.elim Nat.add_left_cancel fun e => absurd e (no h2), fun e => e ▸ .tail _ (.head _)⟩
 ·exact ⟨fun h => (mem3 h).elim (fun e => absurd e (no h1)) fun h => h.elim (fun e => absurd e (no h2)) Nat.add_left_cancel, fun e => e ▸ .tail _ (.tail _ (.head _))⟩
theorem names_ok (c : List Int) : Nm3 (namesOf c) where
 len := names_len c
 three n hn := let ⟨_, _, N⟩ := names_mem hn; N.len
 asc n hn := by
  obtain ⟨k, hk, N⟩ := names_mem hn
  intro x hx
  have : ∀ c ∈ alphaAll, c < 128 := by decide
  exact this x (N.mem hk x hx)
theorem esc_app (a b : List Nat) : escAll (a ++ b) = escAll a ++ escAll b := by
 unfold escAll
 simp only [rep1_app]
theorem esc_one : ∀ c ∈ alphaAll, escAll [c] = wr1 c := by decide +kernel
theorem esc_writ : ∀ {n : List Nat}, (∀ c ∈ n, c ∈ alphaAll) → escAll n = n.flatMap wr1
 | [], _ => rfl
 | c :: n, h => by
  have : c :: n = [c] ++ n := rfl
  rw [this, esc_app, esc_one c (h c (.head _)), esc_writ fun d hd => h d (.tail _ hd)]
  rfl
theorem code_tab : ∀ c ∈ alphaAll, (∀ d ∈ wr1 c, d < 128) ∧ badN true (wr1 c) = false ∧ badN true (low (wr1 c)) = false ∧ badN true (up (wr1 c)) = false := by decide +kernel
theorem low_up : ∀ c ∈ List.range 128, low1 (up1 c) = low1 c := by decide +kernel
theorem wr_len : ∀ {n : List Nat}, (n.flatMap wr1).length ≤ 6 * n.length
 | [] => Nat.le_refl _
 | c :: n => by
  have := wr_len (n := n)
  have := wr1_len c
  rw [List.flatMap_cons, List.length_append, List.length_cons]
  omega
theorem badN_flat (b : Bool) (f : Nat → List Nat) (n : List Nat) (h : ∀ c ∈ n, badN b (f c) = false) : badN b (n.flatMap f) = false := by
 induction n with
 | nil => rfl
 | cons c n ih =>
  have e : badN b ((c :: n).flatMap f) = (badN b (f c) || badN b (n.flatMap f)) := by
   unfold badN
   rw [List.flatMap_cons, List.any_append]
  rw [e, h c (.head _), ih fun d hd => h d (.tail _ hd)]; rfl
theorem low_flat (f : Nat → List Nat) (n : List Nat) : low (n.flatMap f) = n.flatMap fun c => low (f c) := by
 unfold low
 rw [List.map_flatMap]
theorem up_flat (f : Nat → List Nat) (n : List Nat) : up (n.flatMap f) = n.flatMap fun c => up (f c) := by
 unfold up
 rw [List.map_flatMap]
theorem head_ok {n : List Nat} (h : ∀ c ∈ n, c ∈ alphaAll) (hl : n.length = 3) : HdOk (escAll n) ∧ badN true (up (escAll n)) = false ∧ (escAll n).length ≤ 18 := by
 rw [esc_writ h]
 have hlen : (n.flatMap wr1).length ≤ 18 := by have := wr_len (n := n); omega
 have hasc : Asc (n.flatMap wr1) := by
  intro d hd
  obtain ⟨c, hc, hd⟩ := List.mem_flatMap.mp hd
  exact (code_tab c (h c hc)).1 d hd
 refine ⟨⟨hasc, by omega, ?_, badN_flat _ _ _ fun c hc => (code_tab c (h c hc)).2.1, ?_⟩, ?_, hlen⟩
 ·unfold low up
  rw [List.map_map]
  exact List.map_congr_left fun d hd => low_up d (List.mem_range.mpr (hasc d hd))
 ·rw [low_flat]; exact badN_flat _ _ _ fun c hc => (code_tab c (h c hc)).2.2.1
 ·rw [up_flat]; exact badN_flat _ _ _ fun c hc => (code_tab c (h c hc)).2.2.2
theorem hs_at {c : List Int} {k : Nat} (hk : k < 4) : nAt (hsOf c) k = escAll (nAt (namesOf c) k) := by
 have := (names_ok c).get hk
 show (hsOf c).getD k [] = _
 unfold hsOf
 rw [List.getD_eq_getElem?_getD, List.getElem?_map, this]; rfl
theorem nm_at {c : List Int} {k : Nat} (hk : k < 4) : IsName k (nAt (namesOf c) k) := by rw [names_at hk]; exact name_is _ _
theorem hs_ok (c : List Int) : Hd4 (hsOf c) where
 len := by unfold hsOf; rw [List.length_map, names_len]
 ok x hx := by
  obtain ⟨n, hn, rfl⟩ := List.mem_map.mp hx
  obtain ⟨k, hk, N⟩ := names_mem hn
  exact (head_ok (N.mem hk) N.len).1
theorem wr_ok (c : List Int) : (namesOf c).map writ = hsOf c := by
 unfold hsOf
 refine List.map_congr_left fun n hn => ?_
 obtain ⟨k, hk, N⟩ := names_mem hn
 rw [esc_writ (N.mem hk)]; rfl
noncomputable def outs : Bool → List Nat → List Nat
 | _, [] => []
 | false, c :: r => if c = 38 then outs true r else c :: outs false r
 | true, c :: r => if c = 59 then outs false r else outs true r
noncomputable def keep1 (c : Nat) : List Nat := if c ∈ [97, 65, 32, 112, 113, 114, 115] then [low1 c] else []
theorem outs_tab : ∀ c ∈ alphaAll, ∀ r, outs false (low (wr1 c) ++ r) = keep1 c ++ outs false r := by
 repeat (refine List.forall_mem_cons.mpr ⟨fun r => rfl, ?_⟩)
 exact fun _ h => (List.not_mem_nil h).elim
theorem outs_code {c : Nat} (hc : c ∈ alphaAll) (r : List Nat) : outs false (low (wr1 c) ++ r) = keep1 c ++ outs false r := outs_tab c hc r
theorem outs_all : ∀ {n : List Nat}, (∀ c ∈ n, c ∈ alphaAll) → outs false (low (n.flatMap wr1)) = n.flatMap keep1
 | [], _ => rfl
 | c :: n, h => by
  have e : low ((c :: n).flatMap wr1) = low (wr1 c) ++ low (n.flatMap wr1) := by
   unfold low
   rw [List.flatMap_cons, List.map_append]
  rw [e, outs_code (h c (.head _)), outs_all fun d hd => h d (.tail _ hd), List.flatMap_cons]
theorem keep_tab : ∀ c ∈ alphaAll, ∀ j ∈ List.range 4, (112 + j ∈ keep1 c ↔ c = 112 + j) := by decide +kernel
theorem outs_own {k : Nat} (hk : k < 4) {n : List Nat} (N : IsName k n) {j : Nat} (hj : j < 4) : 112 + j ∈ outs false (low (escAll n)) ↔ j = k := by
 rw [esc_writ (N.mem hk), outs_all (N.mem hk), ← N.own j, List.mem_flatMap]
 constructor
 ·rintro ⟨c, hc, h⟩
  rw [← (keep_tab c (N.mem hk c hc) j (List.mem_range.mpr hj)).mp h]; exact hc
 ·intro h
  exact ⟨_, h, (keep_tab _ (N.mem hk _ h) j (List.mem_range.mpr hj)).mpr rfl⟩
theorem heads_ne {c : List Int} {i j : Nat} (hi : i < 4) (hj : j < 4) : low (nAt (hsOf c) i) = low (nAt (hsOf c) j) ↔ i = j := by
 constructor
 ·intro h
  rw [hs_at hi, hs_at hj] at h
  have h1 := (outs_own hi (nm_at (c := c) hi) hi).mpr rfl
  rw [h] at h1
  exact (outs_own hj (nm_at (c := c) hj) hi).mp h1
 ·rintro rfl; rfl
theorem run_rep : ∀ (n t : List Nat), run257 t = [] → run257 (rep1 34 [34, 34] n ++ t) = n
 | [], t, h => h
 | c :: n, t, h => by
  have ih := run_rep n t h
  have e : rep1 34 [34, 34] (c :: n) = (if c = 34 then [34, 34] else [c]) ++ rep1 34 [34, 34] n := by
   unfold rep1; rw [List.flatMap_cons]
  rw [e, List.append_assoc]
  by_cases hc : c = 34
  ·subst hc
   rw [if_pos rfl]
   show run257 (34 :: 34 :: (rep1 34 [34, 34] n ++ t)) = _
   rw [run_q2, if_pos rfl, ih]
  ·rw [if_neg hc]
   show run257 (c :: (rep1 34 [34, 34] n ++ t)) = _
   rw [run_c hc, ih]
theorem tails_run : ∀ t ∈ tailsN, run257 t = [] := by decide +kernel
theorem tail_mem (c : List Int) (k : Nat) : tailAt c k ∈ tailsN := by
 unfold tailAt
 obtain ⟨r0, r1⟩ := fmod_lt ((c.getD 4 0).fdiv 3 + k) (n := 4) (by decide)
 have hl : (((c.getD 4 0).fdiv 3 + k).fmod 4).toNat < tailsN.length := by
  have : tailsN.length = 4 := rfl
  omega
 rw [List.getD_eq_getElem?_getD, List.getElem?_eq_getElem hl]
 exact List.getElem_mem hl
theorem say_ok (c : List Int) (n : List Nat) (k : Nat) : spec257 (say257 c n k) = n := by
 unfold spec257 say257
 rw [List.append_assoc]
 have h1 : (([50, 53, 55, 32, 34] ++ (rep1 34 [34, 34] n ++ tailAt c k)).drop 3).take 2 = [32, 34] := rfl
 rw [if_pos h1]
 exact run_rep _ _ (tails_run _ (tail_mem c k))
theorem dec_bad : ∀ w ∈ List.range 16, badN false (decN w) = false := by decide +kernel
theorem dec_asc : ∀ w ∈ List.range 16, ∀ d ∈ decN w, d < 128 := by decide +kernel
theorem rows0_mem {c : List Int} {p : List Nat × List Nat} (h : p ∈ rows0 (hsOf c) (portF c)) : ∃ k, k < 4 ∧ (p.1 = nAt (hsOf c) k ∨ p.1 = up (nAt (hsOf c) k)) ∧ (p.2 = [57, 57] ∨ ∃ w, w < 16 ∧ p.2 = decN w) := by
 rcases List.mem_append.mp h with h | h
 ·obtain ⟨k, hk, rfl⟩ := List.mem_map.mp h
  obtain ⟨p0, p1⟩ := port_lt c k
  exact ⟨k, List.mem_range.mp hk, .inl rfl, .inr ⟨_, by omega, rfl⟩⟩
 ·obtain ⟨k, hk, rfl⟩ := List.mem_map.mp h
  have : ∀ k ∈ [3, 2, 1, 0], k < 4 := by decide
  exact ⟨k, this k hk, .inr rfl, .inl rfl⟩
theorem up_len (l : List Nat) : (up l).length = l.length := List.length_map ..
theorem rows0_ok (c : List Int) : badRows (rows0 (hsOf c) (portF c)) = false ∧ FitRows (rows0 (hsOf c) (portF c)) := by
 have key : ∀ p ∈ rows0 (hsOf c) (portF c), badN true p.1 = false ∧ badN false p.2 = false ∧ p.1.length ≤ 18 ∧ p.2.length ≤ 2 := by
  intro p hp
  obtain ⟨k, hk, h1, h2⟩ := rows0_mem hp
  have N := nm_at (c := c) hk
  obtain ⟨H, hu, hl⟩ := head_ok (N.mem hk) N.len
  rw [← hs_at hk] at H hu hl
  have a : badN true p.1 = false ∧ p.1.length ≤ 18 := by
   rcases h1 with h1 | h1 <;> rw [h1]
   ·exact ⟨H.bad, hl⟩
   ·exact ⟨hu, by rw [up_len]; exact hl⟩
  have b : badN false p.2 = false ∧ p.2.length ≤ 2 := by
   rcases h2 with h2 | ⟨w, hw, h2⟩ <;> rw [h2]
   ·exact ⟨by decide, by decide⟩
   ·exact ⟨dec_bad w (List.mem_range.mpr hw), dec_len w⟩
  exact ⟨a.1, b.1, a.2, b.2⟩
 refine ⟨?_, by simp [rows0], fun p hp => ?_⟩
 ·unfold badRows
  rw [List.any_eq_false]
  intro p hp
  obtain ⟨h1, h2, _⟩ := key p hp
  rw [h1, h2]; decide
 ·obtain ⟨_, _, h3, h4⟩ := key p hp
  exact ⟨by omega, by omega⟩
theorem sg_mem (c : List Int) : sgAt c ∈ sgL := by
 unfold sgAt
 have hq : csIdx c 48 8 < 8 := by have := (csIdx_eq c 48 (n := 8) (by decide)).2; omega
 have hl : csIdx c 48 8 < sgL.length := hq
 rw [List.getD_eq_getElem?_getD, List.getElem?_eq_getElem hl]
 exact List.getElem_mem hl
theorem set_tab : ∀ c ∈ alphaAll ++ sgL, setN c = decide (c ∈ oddL ++ [9]) ∧ setV c = decide (c ∈ oddL) := by decide +kernel
theorem any_same {f g : Nat → Bool} : ∀ {x : List Nat}, (∀ c ∈ x, f c = g c) → x.any f = x.any g
 | [], _ => rfl
 | c :: x, h => by rw [List.any_cons, List.any_cons, h c (.head _), any_same fun d hd => h d (.tail _ hd)]
theorem bare1_eq {x : List Nat} (h : ∀ c ∈ x, c ∈ alphaAll ++ sgL) : bare1 x = taken1 x := by
 have e : badRows [([48], [49]), (x, [48])] = x.any fun c => decide (c ∈ oddL ++ [9]) := by
  have e1 : badRows [([48], [49]), (x, [48])] = (badN true x || false) := by
   unfold badRows
   simp only [List.any_cons, List.any_nil]
   have h1 : badN true [48] = false := by decide
   have h2 : badN false [49] = false := by decide
   have h3 : badN false [48] = false := by decide
   rw [h1, h2, h3]; simp
  rw [e1, Bool.or_false]
  exact any_same fun c hc => (set_tab c (h c hc)).1
 unfold bare1 taken1 bareV
 rw [e]
theorem bare2_eq {x : List Nat} (h : ∀ c ∈ x, c ∈ alphaAll ++ sgL) : bare2 x = taken2 x := by
 have e : badRows [([112], x), ([48], [49])] = x.any fun c => decide (c ∈ oddL) := by
  have e1 : badRows [([112], x), ([48], [49])] = (badN false x || false) := by
   unfold badRows
   simp only [List.any_cons, List.any_nil]
   have h1 : badN true [112] = false := by decide
   have h2 : badN false [49] = false := by decide
   have h3 : badN true [48] = false := by decide
   rw [h1, h2, h3]; simp
  rw [e1, Bool.or_false]
  exact any_same fun c hc => (set_tab c (h c hc)).2
 unfold bare2 taken2 bareV
 rw [e]
theorem bare_ok (c : List Int) : (namesOf c ++ [[112, sgAt c]]).map bare1 ++ (namesOf c ++ [[sgAt c]]).map bare2 = (namesOf c ++ [[112, sgAt c]]).map taken1 ++ (namesOf c ++ [[sgAt c]]).map taken2 := by
 have nm : ∀ n ∈ namesOf c, ∀ x ∈ n, x ∈ alphaAll ++ sgL := by
  intro n hn x hx
  obtain ⟨k, hk, N⟩ := names_mem hn
  exact List.mem_append_left _ (N.mem hk x hx)
 have hs := sg_mem c
 congr 1
 ·refine List.map_congr_left fun x hx => bare1_eq ?_
  rcases List.mem_append.mp hx with hx | hx
  ·exact nm x hx
  ·rw [List.mem_singleton.mp hx]
   intro d hd
   rcases List.mem_cons.mp hd with rfl | hd
   ·decide
   ·rw [List.mem_singleton.mp hd]; exact List.mem_append_right _ hs
 ·refine List.map_congr_left fun x hx => bare2_eq ?_
  rcases List.mem_append.mp hx with hx | hx
  ·exact nm x hx
  ·rw [List.mem_singleton.mp hx]
   intro d hd
   rw [List.mem_singleton.mp hd]; exact List.mem_append_right _ hs
structure Metric (F : Mat) : Prop where
 zero : ∀ i, i < 4 → F i i = 0
 nonneg : ∀ i j, i < 4 → j < 4 → 0 ≤ F i j
 tri : ∀ i j k, i < 4 → j < 4 → k < 4 → F i j ≤ F i k + F k j
theorem minOf_le : ∀ {l : List Int} {a : Int}, a ∈ l → minOf l ≤ a
 | [b], a, h => by rw [List.mem_singleton.mp h]; exact Int.le_refl _
 | b :: c :: l, a, h => by
  show min b (minOf (c :: l)) ≤ a
  rcases List.mem_cons.mp h with rfl | h
  ·exact Int.min_le_left ..
  ·exact Int.le_trans (Int.min_le_right ..) (minOf_le h)
theorem minOf_mem : ∀ {l : List Int}, l ≠ [] → minOf l ∈ l
 | [b], _ => List.mem_singleton.mpr rfl
 | b :: c :: l, _ => by
  show min b (minOf (c :: l)) ∈ b :: c :: l
  have ih := minOf_mem (l := c :: l) (by simp)
  rcases Int.le_total b (minOf (c :: l)) with h | h
  ·rw [Int.min_eq_left h]; exact .head _
  ·rw [Int.min_eq_right h]; exact .tail _ ih
theorem least_le (f : Row) (F : Mat) {i : Nat} (hi : i < 4) (k : Nat) : leastI f F k ≤ f i + F i k :=
 minOf_le (List.mem_map.mpr ⟨i, List.mem_range.mpr hi, rfl⟩)
theorem least_at (f : Row) (F : Mat) (k : Nat) : ∃ i, i < 4 ∧ leastI f F k = f i + F i k := by
 have : minOf ((List.range 4).map fun i => f i + F i k) ∈ (List.range 4).map fun i => f i + F i k := minOf_mem (by simp)
 obtain ⟨i, hi, e⟩ := List.mem_map.mp this
 exact ⟨i, List.mem_range.mp hi, e.symm⟩
section
variable {F : Mat} {f : Row}
structure RndI (F : Mat) (f : Row) (s : Row × List Nat) : Prop where
 lo : ∀ k, k < 4 → leastI f F k ≤ s.1 k
 hi : ∀ k, k < 4 → s.1 k ≤ f k
 kept : ∀ k, k < 4 → k ∉ s.2 → s.1 k = f k
theorem RndI.start (M : Metric F) : RndI F f (f, []) := by
 refine ⟨fun k hk => ?_, fun k _ => Int.le_refl _, fun k _ _ => rfl⟩
 have := least_le f F hk k
 rw [M.zero k hk] at this
 show leastI f F k ≤ f k
 omega
theorem RndI.step (M : Metric F) {s : Row × List Nat} (R : RndI F f s) {i j : Nat} (hi : i < 4) (hj : j < 4) : RndI F f (lateStep F s (i, j)) := by
 unfold lateStep
 dsimp only
 split
 ·rename_i hlt
  refine ⟨fun k hk => ?_, fun k hk => ?_, fun k hk hn => ?_⟩
  ·show leastI f F k ≤ upd1 s.1 j (s.1 i + F i j) k
   unfold upd1
   split
   ·rename_i e
    subst e
    obtain ⟨m, hm, e⟩ := least_at f F i
    have h1 := R.lo i hi
    have h2 := least_le f F hm k
    have h3 := M.tri m k i hm hj hi
    omega
   ·exact R.lo k hk
  ·show upd1 s.1 j (s.1 i + F i j) k ≤ f k
   unfold upd1
   split
   ·rename_i e
    subst e
    have := R.hi k hk
    omega
   ·exact R.hi k hk
  ·show upd1 s.1 j (s.1 i + F i j) k = f k
   have hne : k ≠ j := by rintro rfl; exact hn (List.mem_append_right _ (List.mem_singleton.mpr rfl))
   unfold upd1
   rw [if_neg hne]
   refine R.kept k hk fun hm => hn (List.mem_append_left _ (List.mem_filter.mpr ⟨hm, by simpa using hne⟩))
 ·exact R
theorem RndI.fold (M : Metric F) : ∀ {ord : Prs} {s : Row × List Nat}, RndI F f s → (∀ p ∈ ord, p.1 < 4 ∧ p.2 < 4) → RndI F f (ord.foldl (lateStep F) s)
 | [], _, R, _ => R
 | p :: ord, s, R, h => by
  rw [List.foldl_cons]
  exact RndI.fold M (R.step M (h p (.head _)).1 (h p (.head _)).2) fun q hq => h q (.tail _ hq)
theorem now_mono : ∀ {ord : Prs} {s : Row × List Nat} {k : Nat}, (ord.foldl (lateStep F) s).1 k ≤ s.1 k
 | [], _, _ => Int.le_refl _
 | p :: ord, s, k => by
  rw [List.foldl_cons]
  refine Int.le_trans (now_mono (ord := ord)) ?_
  unfold lateStep
  split
  ·rename_i hlt
   show upd1 s.1 p.2 _ k ≤ _
   unfold upd1
   split
   ·rename_i e
    subst e
    omega
   ·exact Int.le_refl _
  ·exact Int.le_refl _
theorem round_end (M : Metric F) {ord : Prs} (hp : ord.Perm pairs12) {j : Nat} (hj : j < 4) : (ord.foldl (lateStep F) (f, [])).1 j = leastI f F j := by
 have ho := (perm_lt hp).1
 have R := RndI.fold (f := f) M (RndI.start M) ho
 obtain ⟨i, hi, e⟩ := least_at f F j
 by_cases hij : i = j
 ·subst hij
  have h1 := R.lo i hi
  have h2 := R.hi i hi
  rw [M.zero i hi] at e
  omega
 ·have hmem : (i, j) ∈ ord := by
   refine hp.mem_iff.mpr ?_
   have : ∀ i ∈ List.range 4, ∀ j ∈ List.range 4, i ≠ j → (i, j) ∈ pairs12 := by decide
   exact this i (List.mem_range.mpr hi) j (List.mem_range.mpr hj) hij
  obtain ⟨done, rest, hd⟩ := List.append_of_mem hmem
  have hpi : leastI f F i = f i := by
   obtain ⟨m, hm, em⟩ := least_at f F i
   have h1 := least_le f F hi i
   rw [M.zero i hi] at h1
   have h2 := least_le f F hm j
   have h3 := M.tri m j i hm hj hi
   omega
  have hd1 : ∀ p ∈ done, p.1 < 4 ∧ p.2 < 4 := fun p hp => ho p (by rw [hd]; exact List.mem_append_left _ hp)
  have R1 := RndI.fold (f := f) M (RndI.start M) hd1
  have h4 := R.lo j hj
  have e2 : ord.foldl (lateStep F) (f, []) = rest.foldl (lateStep F) (lateStep F (done.foldl (lateStep F) (f, [])) (i, j)) := by
   rw [hd, List.foldl_append, List.foldl_cons]
  rw [e2] at h4 ⊢
  generalize done.foldl (lateStep F) (f, []) = s at R1 h4 ⊢
  have h5 := R1.lo i hi
  have h6 := R1.hi i hi
  have h7 : (lateStep F s (i, j)).1 j ≤ s.1 i + F i j := by
   unfold lateStep
   dsimp only
   split
   ·show upd1 s.1 j _ j ≤ _
    unfold upd1
    rw [if_pos rfl]; exact Int.le_refl _
   ·omega
  have h8 := now_mono (F := F) (ord := rest) (s := lateStep F s (i, j)) (k := j)
  omega
end
theorem prc_nonneg (a b : Nat) : 0 ≤ prc a b ∧ prc a b ≤ 2 := by unfold prc; split <;> (try split) <;> decide
theorem prc_symm (a b : Nat) : prc a b = prc b a :=
 ite_congr (propext eq_comm) (fun _ => rfl) fun _ => ite_congr (propext ⟨fun h => h.elim (fun h => .inr ⟨h.2, h.1⟩) fun h => .inl ⟨h.2, h.1⟩, fun h => h.elim (fun h => .inr ⟨h.2, h.1⟩) fun h => .inl ⟨h.2, h.1⟩⟩) (fun _ => rfl) fun _ => rfl
theorem prc_self (a : Nat) : prc a a = 0 := by unfold prc; rw [if_pos rfl]
theorem prc_pos {a b : Nat} (h : a ≠ b) : 1 ≤ prc a b := by unfold prc; rw [if_neg h]; split <;> decide
theorem prc_tri (a b c : Nat) : prc a c ≤ prc a b + prc b c := by
 by_cases h : a = b
 ·rw [h, prc_self, Int.zero_add]; exact Int.le_refl _
 by_cases h2 : b = c
 ·rw [h2, prc_self, Int.add_zero]; exact Int.le_refl _
 exact Int.le_trans (prc_nonneg a c).2 (Int.add_le_add (prc_pos h) (prc_pos h2))
theorem pAt_nonneg (x y : List Nat) (i k : Nat) : 0 ≤ pAt x y i k ∧ pAt x y i k ≤ 2 := prc_nonneg _ _
theorem pAt_tri (x y z : List Nat) (i j k : Nat) : pAt x z i k ≤ pAt x y i j + pAt y z j k := prc_tri _ _ _
theorem pAt_symm (x y : List Nat) (i k : Nat) : pAt x y i k = pAt y x k i := prc_symm _ _
theorem far_diag (x y : List Nat) : farOf x y ≤ pAt x y 0 0 + pAt x y 1 1 + pAt x y 2 2 := Int.min_le_left ..
theorem far_drop (x y : List Nat) {a b : Nat × Nat} (ha : a ∈ two) (hb : b ∈ two) : farOf x y ≤ 4 + (pAt x y a.1 b.1 + pAt x y a.2 b.2) := by
 have h1 : farOf x y ≤ 4 + minOf (leastL x y) := Int.min_le_right ..
 have h2 : minOf (leastL x y) ≤ pAt x y a.1 b.1 + pAt x y a.2 b.2 := minOf_le (List.mem_flatMap.mpr ⟨a, ha, List.mem_map.mpr ⟨b, hb, rfl⟩⟩)
 omega
theorem far_cases (x y : List Nat) : farOf x y = pAt x y 0 0 + pAt x y 1 1 + pAt x y 2 2 ∨ ∃ a ∈ two, ∃ b ∈ two, farOf x y = 4 + (pAt x y a.1 b.1 + pAt x y a.2 b.2) := by
 have hm : minOf (leastL x y) ∈ leastL x y := minOf_mem (by simp [leastL, two])
 obtain ⟨a, ha, h⟩ := List.mem_flatMap.mp hm
 obtain ⟨b, hb, e⟩ := List.mem_map.mp h
 unfold farOf
 rcases Int.le_total (pAt x y 0 0 + pAt x y 1 1 + pAt x y 2 2) (4 + minOf (leastL x y)) with h | h
 ·exact .inl (Int.min_eq_left h)
 ·exact .inr ⟨a, ha, b, hb, by rw [Int.min_eq_right h, ← e]⟩
theorem far_nonneg (x y : List Nat) : 0 ≤ farOf x y := by
 have n := pAt_nonneg x y
 rcases far_cases x y with h | ⟨a, _, b, _, h⟩
 ·have := n 0 0; have := n 1 1; have := n 2 2; omega
 ·have := n a.1 b.1; have := n a.2 b.2; omega
theorem far_le (x y : List Nat) : farOf x y ≤ farOf y x := by
 rcases far_cases y x with h | ⟨a, ha, b, hb, h⟩
 ·have := far_diag x y
  rw [pAt_symm x y, pAt_symm x y, pAt_symm x y] at this
  omega
 ·have := far_drop x y hb ha
  rw [pAt_symm x y, pAt_symm x y] at this
  omega
theorem far_symm (x y : List Nat) : farOf x y = farOf y x := Int.le_antisymm (far_le x y) (far_le y x)
theorem two_diag (x y : List Nat) {a : Nat × Nat} (ha : a ∈ two) : pAt x y a.1 a.1 + pAt x y a.2 a.2 ≤ pAt x y 0 0 + pAt x y 1 1 + pAt x y 2 2 := by
 have h0 := pAt_nonneg x y 0 0
 have h1 := pAt_nonneg x y 1 1
 have h2 := pAt_nonneg x y 2 2
 simp only [two, List.mem_cons, List.not_mem_nil, or_false] at ha
 rcases ha with rfl | rfl | rfl <;> dsimp only <;> omega
theorem far_tri (x y z : List Nat) : farOf x z ≤ farOf x y + farOf y z := by
 have n0 := (pAt_nonneg x z 0 0).2
 have n1 := (pAt_nonneg x z 1 1).2
 have n2 := (pAt_nonneg x z 2 2).2
 have hd := far_diag x z
 rcases far_cases x y with h1 | ⟨a, ha, b, hb, h1⟩ <;> rcases far_cases y z with h2 | ⟨c, hc, d, hd', h2⟩
 ·have t0 := pAt_tri x y z 0 0 0
  have t1 := pAt_tri x y z 1 1 1
  have t2 := pAt_tri x y z 2 2 2
  omega
 ·have h3 := far_drop x z hc hd'
  have t1 := pAt_tri x y z c.1 c.1 d.1
  have t2 := pAt_tri x y z c.2 c.2 d.2
  have t3 := two_diag x y hc
  omega
 ·have h3 := far_drop x z ha hb
  have t1 := pAt_tri x y z a.1 b.1 b.1
  have t2 := pAt_tri x y z a.2 b.2 b.2
  have t3 := two_diag y z hb
  omega
 ·have m1 := (pAt_nonneg x y a.1 b.1).1
  have m2 := (pAt_nonneg x y a.2 b.2).1
  have m3 := (pAt_nonneg y z c.1 d.1).1
  have m4 := (pAt_nonneg y z c.2 d.2).1
  omega
theorem way_eq (nm : List (List Nat)) {i j : Nat} (h : i ≠ j) : wayAt nm i j = farOf (nAt nm i) (nAt nm j) := by
 show (if i = j then 0 else if j < i then farOf (nAt nm i) (nAt nm j) else farOf (nAt nm j) (nAt nm i)) = _
 rw [if_neg h]
 split
 ·rfl
 ·exact far_symm _ _
theorem way_zero (nm : List (List Nat)) (i : Nat) : wayAt nm i i = 0 := if_pos rfl
theorem way_metric (nm : List (List Nat)) : Metric (wayAt nm) where
 zero i _ := way_zero nm i
 nonneg i j _ _ := by
  by_cases h : i = j
  ·subst h; rw [way_zero]; exact Int.le_refl _
  ·rw [way_eq nm h]; exact far_nonneg _ _
 tri i j k _ _ _ := by
  by_cases h1 : i = k
  ·subst h1; rw [way_zero]; omega
  by_cases h2 : k = j
  ·subst h2; rw [way_zero]; omega
  rw [way_eq nm h1, way_eq nm h2]
  by_cases h3 : i = j
  ·subst h3
   rw [way_zero]
   have a := far_nonneg (nAt nm i) (nAt nm k)
   have b := far_nonneg (nAt nm k) (nAt nm i)
   omega
  ·rw [way_eq nm h3]; exact far_tri _ _ _
noncomputable def innerI (C : Nat → Int) : List Nat → List Int → Int → Int → Int → List Int × Int × Int
 | c :: as, x :: row, d, r, mn =>
  let r' := min (min r x + 2) (d + C c)
  let q := innerI C as row x r' (if r' < mn then r' else mn)
  (r' :: q.1, q.2)
 | _, row, _, r, mn => (row, r, mn)
noncomputable def outerI (C : Nat → Nat → Int) (a : List Nat) (m : Int) : List Nat → Nat → List Int → Int → Int
 | [], _, _, r => r
 | bc :: bs, k, row, _ =>
  let q := innerI (C bc) a row (k * 2) (k * 2) 9223372036854775807
  if m < q.2.2 then m + 1 else outerI C a m bs (k + 1) q.1 q.2.1
noncomputable def cpreI (E : Nat → Nat → Bool) : List Nat → List Nat → Nat
 | x :: xs, y :: ys => if E x y = true then cpreI E xs ys + 1 else 0
 | _, _ => 0
noncomputable def levTI (C : Nat → Nat → Int) (x y : List Nat) (m : Int) : Int :=
 if ((y.length : Int) - x.length) * 2 > m then m + 1 else outerI C x m y 0 ((List.range x.length).map fun (i : Nat) => 2 + (i : Int) * 2) 0
noncomputable def stripI (E : Nat → Nat → Bool) (a b : List Nat) : List Nat × List Nat :=
 let a1 := a.drop (cpreI E a b)
 let b1 := b.drop (cpreI E a b)
 let j := cpreI E a1.reverse b1.reverse
 (a1.take (a1.length - j), b1.take (b1.length - j))
noncomputable def levI (C : Nat → Nat → Int) (E : Nat → Nat → Bool) (a b : List Nat) (m : Int) : Int :=
 let x := (stripI E a b).1
 let y := (stripI E a b).2
 if x = [] ∨ y = [] then 2 * ((x.length : Int) + y.length) else
 if x.length > 40 ∨ y.length > 40 then m + 1 else
 if y.length < x.length then m + 1 else levTI C x y m
section
variable {f g : Nat → Nat}
theorem inner_map (bc : Nat) : ∀ (as : List Nat) (row : List Int) (d r mn : Int), inner bc (as.map f) row d r mn = innerI (fun i => sc bc (f i)) as row d r mn
 | [], row, d, r, mn => by cases row <;> rfl
 | c :: as, [], d, r, mn => rfl
 | c :: as, x :: row, d, r, mn => by
  exact congrArg (fun q : List Int × Int × Int => (min (min r x + 2) (d + sc bc (f c)) :: q.1, q.2)) (inner_map bc as row x _ _)
theorem outer_map (as : List Nat) (m : Int) : ∀ (bs : List Nat) (k : Nat) (row : List Int) (r : Int), outer (as.map f) m (bs.map g) k row r = outerI (fun j i => sc (g j) (f i)) as m bs k row r
 | [], _, _, _ => rfl
 | b :: bs, k, row, r => by
  show (if m < (inner (g b) (as.map f) row (k * 2) (k * 2) 9223372036854775807).2.2 then m + 1 else outer (as.map f) m (bs.map g) (k + 1) (inner (g b) (as.map f) row (k * 2) (k * 2) 9223372036854775807).1 (inner (g b) (as.map f) row (k * 2) (k * 2) 9223372036854775807).2.1) = _
  rw [inner_map, outer_map as m bs]; rfl
theorem cpre_map : ∀ (as bs : List Nat), cpre (as.map f) (bs.map g) = cpreI (fun i j => f i == g j) as bs
 | [], bs => by cases bs <;> rfl
 | a :: as, [] => rfl
 | a :: as, b :: bs => by
  show (if f a = g b then cpre (as.map f) (bs.map g) + 1 else 0) = (if (f a == g b) = true then cpreI (fun i j => f i == g j) as bs + 1 else 0)
  rw [cpre_map as bs]
  by_cases h : f a = g b
  ·rw [if_pos h, if_pos (beq_iff_eq.mpr h)]
  ·rw [if_neg h, if_neg fun z => h (beq_iff_eq.mp z)]
theorem strip_map (as bs : List Nat) : strip (as.map f) (bs.map g) = ((stripI (fun i j => f i == g j) as bs).1.map f, (stripI (fun i j => f i == g j) as bs).2.map g) := by
 unfold strip stripI
 dsimp only
 rw [cpre_map]
 generalize cpreI (fun i j => f i == g j) as bs = n
 rw [← List.map_drop, ← List.map_drop, ← List.map_reverse, ← List.map_reverse, cpre_map, List.length_map, List.length_map, List.map_take, List.map_take]
theorem lev_map (as bs : List Nat) (m : Int) (hne : as.map f ≠ bs.map g) (hl : (stripI (fun i j => f i == g j) as bs).1.length ≤ (stripI (fun i j => f i == g j) as bs).2.length) :
  levD (as.map f) (bs.map g) m = levI (fun j i => sc (g j) (f i)) (fun i j => f i == g j) as bs m := by
 unfold levD levI
 rw [if_neg hne, strip_map]
 dsimp only
 generalize (stripI (fun i j => f i == g j) as bs).1 = x at hl ⊢
 generalize (stripI (fun i j => f i == g j) as bs).2 = y at hl ⊢
 have hiff : (x.map f = [] ∨ y.map g = []) ↔ (x = [] ∨ y = []) := by rw [List.map_eq_nil_iff, List.map_eq_nil_iff]
 rw [List.length_map, List.length_map]
 by_cases h0 : x = [] ∨ y = []
 ·rw [if_pos (hiff.mpr h0), if_pos h0]
 ·rw [if_neg fun h => h0 (hiff.mp h), if_neg h0]
  by_cases h4 : x.length > 40 ∨ y.length > 40
  ·rw [if_pos h4, if_pos h4]
  ·rw [if_neg h4, if_neg h4, if_neg (show ¬ y.length < x.length by omega), if_neg (show ¬ y.length < x.length by omega)]
   unfold levT levTI
   rw [List.length_map, List.length_map, outer_map]
end
noncomputable def levP (P : Nat → Nat → Int) (m : Int) : Int := levI (fun j i => P i j) (fun i j => P i j == 0) [0, 1, 2] [0, 1, 2] m
noncomputable def farP (P : Nat → Nat → Int) : Int := min (P 0 0 + P 1 1 + P 2 2) (4 + minOf (two.flatMap fun a => two.map fun b => P a.1 b.1 + P a.2 b.2))
noncomputable def Pm (T : List Int) (i j : Nat) : Int := if 3 ≤ i then (if 3 ≤ j then 0 else 2) else if 3 ≤ j then 2 else T.getD (3 * i + j) 0
noncomputable def mkT (s t : Nat) (us : List Int) : List Int := (List.range 9).map fun q => if q / 3 = s ∨ q % 3 = t then 2 else us.getD (2 * (if q / 3 < s then q / 3 else q / 3 - 1) + (if q % 3 < t then q % 3 else q % 3 - 1)) 0
noncomputable def T9 (x y : List Nat) : List Int := (List.range 9).map fun q => prc (x.getD (q / 3) 0) (y.getD (q % 3) 0)
noncomputable def chk (T : List Int) (m : Int) : Bool := if farP (Pm T) ≤ m then levP (Pm T) m == farP (Pm T) else decide (m < levP (Pm T) m)
noncomputable def u3 : List Int := [0, 1, 2]
noncomputable def chkAll (s t : Nat) : Bool := u3.all fun a => u3.all fun b => u3.all fun c => u3.all fun d => (List.range 15).all fun m => chk (mkT s t [a, b, c, d]) (m : Nat)
theorem chk00 : chkAll 0 0 = true := by decide +kernel
theorem chk01 : chkAll 0 1 = true := by decide +kernel
theorem chk02 : chkAll 0 2 = true := by decide +kernel
theorem chk10 : chkAll 1 0 = true := by decide +kernel
theorem chk11 : chkAll 1 1 = true := by decide +kernel
theorem chk12 : chkAll 1 2 = true := by decide +kernel
theorem chk20 : chkAll 2 0 = true := by decide +kernel
theorem chk21 : chkAll 2 1 = true := by decide +kernel
theorem chk22 : chkAll 2 2 = true := by decide +kernel
theorem chk_ok {s t : Nat} (hs : s < 3) (ht : t < 3) {a b c d : Int} (ha : a ∈ u3) (hb : b ∈ u3) (hc : c ∈ u3) (hd : d ∈ u3) {m : Int} (m0 : 0 ≤ m) (m1 : m ≤ 14) : chk (mkT s t [a, b, c, d]) m = true := by
 obtain ⟨q, rfl⟩ := Int.eq_ofNat_of_zero_le m0
 have key : chkAll s t = true → chk (mkT s t [a, b, c, d]) (q : Nat) = true := by
  intro h
  unfold chkAll at h
  have h1 := List.all_eq_true.mp h a ha
  have h2 := List.all_eq_true.mp h1 b hb
  have h3 := List.all_eq_true.mp h2 c hc
  have h4 := List.all_eq_true.mp h3 d hd
  exact List.all_eq_true.mp h4 q (List.mem_range.mpr (by omega))
 apply key
 rcases lt3 hs with rfl | rfl | rfl <;> rcases lt3 ht with rfl | rfl | rfl
 ·exact chk00
 ·exact chk01
 ·exact chk02
 ·exact chk10
 ·exact chk11
 ·exact chk12
 ·exact chk20
 ·exact chk21
 ·exact chk22
theorem prc_u3 (a b : Nat) : prc a b ∈ u3 := by
 unfold prc u3
 split
 ·simp
 ·split <;> simp
theorem prc_zero (a b : Nat) : prc a b = 0 ↔ a = b := by
 unfold prc
 (repeat' split) <;> omega
theorem sc_tab : ∀ c ∈ alphaAll ++ [0], ∀ d ∈ alphaAll ++ [0], sc d c = prc c d := by decide +kernel
theorem strip_len (E : Nat → Nat → Bool) (a b : List Nat) (h : a.length = b.length) : (stripI E a b).1.length ≤ (stripI E a b).2.length := by
 unfold stripI
 dsimp only
 rw [List.length_take, List.length_take, List.length_drop, List.length_drop, h]
 exact Nat.le_refl _
theorem lev_neg (C : Nat → Nat → Int) (E : Nat → Nat → Bool) (a b : List Nat) {m : Int} (h : m < 0) : m < levI C E a b m := by
 unfold levI
 dsimp only
 split
 ·omega
 ·split
  ·omega
  ·split
   ·omega
   ·unfold levTI
    rw [if_pos (by omega)]; omega
theorem three_map {x : List Nat} (h : x.length = 3) : [0, 1, 2].map (fun i => x.getD i 0) = x := by
 obtain ⟨_, _, _, rfl⟩ := len3 h
 rfl
theorem getD_mem {x : List Nat} (h : ∀ c ∈ x, c ∈ alphaAll) (i : Nat) : x.getD i 0 ∈ alphaAll ++ [0] := by
 rw [List.getD_eq_getElem?_getD]
 cases hc : x[i]? with
 | none => simp
 | some c => exact List.mem_append_left _ (h c (List.mem_of_getElem? hc))
theorem lev_P {x y : List Nat} (hx : x.length = 3) (hy : y.length = 3) (ax : ∀ c ∈ x, c ∈ alphaAll) (ay : ∀ c ∈ y, c ∈ alphaAll) (hne : x ≠ y) (m : Int) :
  levD x y m = levP (fun i j => prc (x.getD i 0) (y.getD j 0)) m := by
 have h := lev_map (f := fun i => x.getD i 0) (g := fun i => y.getD i 0) [0, 1, 2] [0, 1, 2] m (by rw [three_map hx, three_map hy]; exact hne) (strip_len _ _ _ rfl)
 rw [three_map hx, three_map hy] at h
 rw [h]
 unfold levP
 have e1 : (fun j i => sc (y.getD j 0) (x.getD i 0)) = fun j i => prc (x.getD i 0) (y.getD j 0) := by
  funext j i
  exact sc_tab _ (getD_mem ax i) _ (getD_mem ay j)
 have e2 : (fun i j => x.getD i 0 == y.getD j 0) = fun i j => prc (x.getD i 0) (y.getD j 0) == 0 := by
  funext i j
  rw [Bool.eq_iff_iff, beq_iff_eq, beq_iff_eq]
  exact (prc_zero _ _).symm
 rw [e1, e2]
theorem prc_nul {c : Nat} (h : c ≠ 0) : prc 0 c = 2 ∧ prc c 0 = 2 :=
 ⟨(if_neg (Ne.symm h)).trans (if_neg fun z => z.elim (fun z => absurd z.1 (by decide)) fun z => absurd z.1 (by decide)), (if_neg h).trans (if_neg fun z => z.elim (fun z => absurd z.2 (by decide)) fun z => absurd z.2 (by decide))⟩
theorem P_eq {x y : List Nat} (hx : x.length = 3) (hy : y.length = 3) (ax : ∀ c ∈ x, c ∈ alphaAll) (ay : ∀ c ∈ y, c ∈ alphaAll) : (fun i j => prc (x.getD i 0) (y.getD j 0)) = Pm (T9 x y) := by
 have nz : ∀ c ∈ alphaAll, c ≠ 0 := by decide
 obtain ⟨x0, x1, x2, rfl⟩ := len3 hx
 obtain ⟨y0, y1, y2, rfl⟩ := len3 hy
 have hx0 := (prc_nul (nz x0 (ax x0 (by simp)))).2
 have hx1 := (prc_nul (nz x1 (ax x1 (by simp)))).2
 have hx2 := (prc_nul (nz x2 (ax x2 (by simp)))).2
 have hy0 := (prc_nul (nz y0 (ay y0 (by simp)))).1
 have hy1 := (prc_nul (nz y1 (ay y1 (by simp)))).1
 have hy2 := (prc_nul (nz y2 (ay y2 (by simp)))).1
 funext i j
 match i, j with
 | 0, 0 => rfl
 | 0, 1 => rfl
 | 0, 2 => rfl
 | 1, 0 => rfl
 | 1, 1 => rfl
 | 1, 2 => rfl
 | 2, 0 => rfl
 | 2, 1 => rfl
 | 2, 2 => rfl
 | 0, j + 3 =>
  unfold Pm
  rw [if_neg (by omega), if_pos (by omega)]; exact hx0
 | 1, j + 3 =>
  unfold Pm
  rw [if_neg (by omega), if_pos (by omega)]; exact hx1
 | 2, j + 3 =>
  unfold Pm
  rw [if_neg (by omega), if_pos (by omega)]; exact hx2
 | i + 3, 0 =>
  unfold Pm
  rw [if_pos (by omega), if_neg (by omega)]; exact hy0
 | i + 3, 1 =>
  unfold Pm
  rw [if_pos (by omega), if_neg (by omega)]; exact hy1
 | i + 3, 2 =>
  unfold Pm
  rw [if_pos (by omega), if_neg (by omega)]; exact hy2
 | i + 3, j + 3 =>
  unfold Pm
  rw [if_pos (by omega), if_pos (by omega)]; exact prc_self 0
theorem own_cost {k c : Nat} (hk : k < 4) (hc : c ≠ 112 + k) (h : c ∈ alphaAll) : prc (112 + k) c = 2 ∧ prc c (112 + k) = 2 := by
 have n : ∀ {m : Nat}, m < 112 → 112 + k ≠ m := fun h e => absurd (e ▸ Nat.le_add_right 112 k) (Nat.not_le.mpr h)
 exact ⟨(if_neg (Ne.symm hc)).trans (if_neg fun z => z.elim (fun z => n (by decide) z.1) fun z => n (by decide) z.1), (if_neg hc).trans (if_neg fun z => z.elim (fun z => n (by decide) z.2) fun z => n (by decide) z.2)⟩
theorem l9 {a1 a2 a3 a4 a5 a6 a7 a8 a9 b1 b2 b3 b4 b5 b6 b7 b8 b9 : Int} (e1 : a1 = b1) (e2 : a2 = b2) (e3 : a3 = b3) (e4 : a4 = b4) (e5 : a5 = b5) (e6 : a6 = b6) (e7 : a7 = b7) (e8 : a8 = b8) (e9 : a9 = b9) : [a1, a2, a3, a4, a5, a6, a7, a8, a9] = [b1, b2, b3, b4, b5, b6, b7, b8, b9] := by
 rw [e1, e2, e3, e4, e5, e6, e7, e8, e9]
theorem T9_eq {a b a' b' p p' k k' : Nat} (ha : a ∈ alpha) (hb : b ∈ alpha) (ha' : a' ∈ alpha) (hb' : b' ∈ alpha) (hp : p < 3) (hp' : p' < 3) (hk : k < 4) (hk' : k' < 4) (hne : k ≠ k') :
  T9 (mkName a b p k) (mkName a' b' p' k') = mkT p p' [prc a a', prc a b', prc b a', prc b b'] := by
 have sm := alpha_small
 have al : ∀ {c}, c ∈ alpha → c ∈ alphaAll := fun h => List.mem_append_left _ h
 have o1 := (own_cost hk (by have := sm a' ha'; omega) (al ha')).1
 have o2 := (own_cost hk (by have := sm b' hb'; omega) (al hb')).1
 have o3 := (own_cost hk' (by have := sm a ha; omega) (al ha)).2
 have o4 := (own_cost hk' (by have := sm b hb; omega) (al hb)).2
 have n : ∀ {m : Nat}, m < 112 → 112 + k ≠ m := fun h e => absurd (e ▸ Nat.le_add_right 112 k) (Nat.not_le.mpr h)
 have o5 : prc (112 + k) (112 + k') = 2 := (if_neg fun e => hne (Nat.add_left_cancel e)).trans (if_neg fun z => z.elim (fun z => n (by decide) z.1) fun z => n (by decide) z.1)
 rcases lt3 hp with rfl | rfl | rfl <;> rcases lt3 hp' with rfl | rfl | rfl
 ·exact l9 o5 o1 o2 o3 rfl rfl o4 rfl rfl
 ·exact l9 o1 o5 o2 rfl o3 rfl rfl o4 rfl
 ·exact l9 o1 o2 o5 rfl rfl o3 rfl rfl o4
 ·exact l9 o3 rfl rfl o5 o1 o2 o4 rfl rfl
 ·exact l9 rfl o3 rfl o1 o5 o2 rfl o4 rfl
 ·exact l9 rfl rfl o3 o1 o2 o5 rfl rfl o4
 ·exact l9 o3 rfl rfl o4 rfl rfl o5 o1 o2
 ·exact l9 rfl o3 rfl rfl o4 rfl o1 o5 o2
 ·exact l9 rfl rfl o3 rfl rfl o4 o1 o2 o5
theorem lev_far {k k' : Nat} (hk : k < 4) (hk' : k' < 4) (hne : k ≠ k') {x y : List Nat} (N : IsName k x) (N' : IsName k' y) {m : Int} (hm : m ≤ 14) :
  (farOf x y ≤ m → levD x y m = farOf x y) ∧ (m < farOf x y → m < levD x y m) := by
 have hxy : x ≠ y := by
  rintro rfl
  exact hne (((N'.own k).mp ((N.own k).mpr rfl)))
 have e := lev_P N.len N'.len (N.mem hk) (N'.mem hk') hxy m
 have ef : farOf x y = farP (fun i j => prc (x.getD i 0) (y.getD j 0)) := rfl
 rw [P_eq N.len N'.len (N.mem hk) (N'.mem hk')] at e ef
 rcases Int.lt_or_le m 0 with h | h
 ·refine ⟨fun h2 => ?_, fun _ => ?_⟩
  ·have := far_nonneg x y
   omega
  ·rw [e]; exact lev_neg _ _ _ _ h
 ·obtain ⟨a, ha, b, hb, p, hp, rfl⟩ := N.ex
  obtain ⟨a', ha', b', hb', p', hp', rfl⟩ := N'.ex
  rw [T9_eq ha hb ha' hb' hp hp' hk hk' hne] at e ef
  have hc := chk_ok hp hp' (prc_u3 a a') (prc_u3 a b') (prc_u3 b a') (prc_u3 b b') h hm
  unfold chk at hc
  rw [← ef, ← e] at hc
  refine ⟨fun h2 => ?_, fun h2 => ?_⟩
  ·rw [if_pos h2] at hc
   simpa using hc
  ·rw [if_neg (by omega)] at hc
   simpa using hc
noncomputable def cost1 (x : List Nat) : List Int := match x with
 | [a, b, c] => (asks1 a b c).map fun p => levD p.1 p.2.1 p.2.2
 | _ => []
noncomputable def cost2 (o : Nat) : List Int := (asks2 o).map fun p => levD p.1 p.2.1 p.2.2
noncomputable def costA (k p : Nat) : Bool := alpha.all fun a => alpha.all fun b => cost1 (mkName a b p k) == [82, 82, 0, 100, 100]
theorem costA00 : costA 0 0 = true := by decide +kernel
theorem costA01 : costA 0 1 = true := by decide +kernel
theorem costA02 : costA 0 2 = true := by decide +kernel
theorem costA10 : costA 1 0 = true := by decide +kernel
theorem costA11 : costA 1 1 = true := by decide +kernel
theorem costA12 : costA 1 2 = true := by decide +kernel
theorem costA20 : costA 2 0 = true := by decide +kernel
theorem costA21 : costA 2 1 = true := by decide +kernel
theorem costA22 : costA 2 2 = true := by decide +kernel
theorem costA30 : costA 3 0 = true := by decide +kernel
theorem costA31 : costA 3 1 = true := by decide +kernel
theorem costA32 : costA 3 2 = true := by decide +kernel
theorem costB : ∀ k ∈ List.range 4, cost2 (112 + k) = [80, 6, 6, 4, 1] := by decide +kernel
theorem cost_ok' {k : Nat} (hk : k < 4) {n : List Nat} (N : IsName k n) : ∃ a b d, n = [a, b, d] ∧ Asc [a, b, d, 112 + k] ∧ costsOf a b d (112 + k) = costN := by
 have hm := N.mem hk
 obtain ⟨a, ha, b, hb, p, hp, rfl⟩ := N.ex
 have h1 : costA k p = true := by
  rcases lt4 hk with rfl | rfl | rfl | rfl <;> rcases lt3 hp with rfl | rfl | rfl
  ·exact costA00
  ·exact costA01
  ·exact costA02
  ·exact costA10
  ·exact costA11
  ·exact costA12
  ·exact costA20
  ·exact costA21
  ·exact costA22
  ·exact costA30
  ·exact costA31
  ·exact costA32
 unfold costA at h1
 have h2 := List.all_eq_true.mp (List.all_eq_true.mp h1 a ha) b hb
 have h3 : cost1 (mkName a b p k) = [82, 82, 0, 100, 100] := by simpa using h2
 have h4 := costB k (List.mem_range.mpr hk)
 have hlen : (mkName a b p k).length = 3 := N.len
 generalize mkName a b p k = n at h3 hm hlen
 match n, hlen with
 | [x, y, z], _ =>
 refine ⟨x, y, z, rfl, ?_, ?_⟩
 ·intro c hc
  have as : ∀ c ∈ alphaAll, c < 128 := by decide
  simp only [List.mem_cons, List.not_mem_nil, or_false] at hc
  rcases hc with rfl | rfl | rfl | rfl
  ·exact as _ (hm _ (by simp))
  ·exact as _ (hm _ (by simp))
  ·exact as _ (hm _ (by simp))
  ·omega
 ·unfold costsOf asksOf
  rw [List.map_append]
  have e1 : (asks1 x y z).map (fun p => levD p.1 p.2.1 p.2.2) = [82, 82, 0, 100, 100] := h3
  have e2 : (asks2 (112 + k)).map (fun p => levD p.1 p.2.1 p.2.2) = [80, 6, 6, 4, 1] := h4
  rw [e1, e2]; rfl
section
variable {hs : List (List Nat)} {f : Row}
structure Heads (hs : List (List Nat)) : Prop extends Hd4 hs where
 ne : ∀ i j, i < 4 → j < 4 → (low (nAt hs i) = low (nAt hs j) ↔ i = j)
noncomputable def rowA (hs : List (List Nat)) (f : Row) (k : Nat) : List Nat × List Nat := (nAt hs k, decN (f k).toNat)
noncomputable def rowU (hs : List (List Nat)) (k : Nat) : List Nat × List Nat := (up (nAt hs k), [57, 57])
noncomputable def rowsOf (hs : List (List Nat)) (f : Row) (t : Row × List Nat) : Rows := (keptOf t.2).map (rowA hs f) ++ (keptOf t.2).reverse.map (rowU hs) ++ t.2.map (rowA hs t.1)
theorem del_app (a b : Rows) (x : List Nat) : delRows (a ++ b) x = delRows a x ++ delRows b x := List.filter_append ..
theorem del_map (H : Heads hs) {G : Nat → List Nat × List Nat} (hG : ∀ k, k < 4 → low (G k).1 = low (nAt hs k)) {j : Nat} (hj : j < 4) : ∀ {L : List Nat}, (∀ k ∈ L, k < 4) → delRows (L.map G) (low (nAt hs j)) = (L.filter fun k => k != j).map G
 | [], _ => rfl
 | k :: L, h => by
  have ih := del_map H hG hj (L := L) fun a ha => h a (.tail _ ha)
  have hk := h k (.head _)
  have e : (low (G k).1 != low (nAt hs j)) = (k != j) := by
   rw [hG k hk, Bool.eq_iff_iff, bne_iff_ne, bne_iff_ne]
   exact not_congr (H.ne k j hk hj)
  unfold delRows at ih ⊢
  rw [List.map_cons, List.filter_cons, List.filter_cons, e]
  by_cases hkj : (k != j) = true
  ·rw [if_pos hkj, if_pos hkj, List.map_cons, ih]
  ·rw [if_neg hkj, if_neg hkj, ih]
theorem kept_step (late : List Nat) (j : Nat) : keptOf (late.filter (fun k => k != j) ++ [j]) = (keptOf late).filter fun k => k != j := by
 unfold keptOf
 rw [List.filter_filter]
 refine List.filter_congr fun k _ => ?_
 rw [List.any_append]
 have e1 : ([j].any fun x => x == k) = (j == k) := by simp
 rw [e1]
 by_cases h : k = j
 ·subst h
  simp
 ·have e2 : ((late.filter fun k => k != j).any fun x => x == k) = late.any fun x => x == k := by
   rw [Bool.eq_iff_iff, List.any_eq_true, List.any_eq_true]
   constructor
   ·rintro ⟨x, hx, e⟩
    exact ⟨x, (List.mem_filter.mp hx).1, e⟩
   ·rintro ⟨x, hx, e⟩
    have : x = k := by simpa using e
    subst this
    exact ⟨x, List.mem_filter.mpr ⟨hx, by simpa using h⟩, e⟩
  have e3 : (j == k) = false := by
   rw [beq_eq_false_iff_ne]; exact fun e => h e.symm
  have e4 : (k != j) = true := by simpa using h
  rw [e2, e3, e4, Bool.or_false, Bool.true_and]
theorem rows_step (H : Heads hs) {t : Row × List Nat} {j : Nat} {v : Int} (hj : j < 4) (hl : ∀ k ∈ t.2, k < 4) :
  setRows (rowsOf hs f t) (nAt hs j) (decN v.toNat) = rowsOf hs f (upd1 t.1 j v, t.2.filter (fun k => k != j) ++ [j]) := by
 have hj' := H.at hj
 have hA : ∀ (g : Row) k, k < 4 → low (rowA hs g k).1 = low (nAt hs k) := fun _ _ _ => rfl
 have hU : ∀ k, k < 4 → low (rowU hs k).1 = low (nAt hs k) := fun k hk => (H.at hk).lowUp
 unfold setRows rowsOf
 dsimp only
 rw [kept_step, del_app, del_app, del_map H (hA f) hj fun k hk => kept_lt k hk, del_map H hU hj (fun k hk => kept_lt k (List.mem_reverse.mp hk)), del_map H (hA t.1) hj hl, List.filter_reverse, List.map_append]
 have e1 : (t.2.filter fun k => k != j).map (rowA hs t.1) = (t.2.filter fun k => k != j).map (rowA hs (upd1 t.1 j v)) := by
  refine List.map_congr_left fun k hk => ?_
  have : k ≠ j := by simpa using (List.mem_filter.mp hk).2
  unfold rowA upd1
  rw [if_neg this]
 have e2 : [j].map (rowA hs (upd1 t.1 j v)) = [(nAt hs j, decN v.toNat)] := by
  show [rowA hs (upd1 t.1 j v) j] = _
  unfold rowA upd1
  rw [if_pos rfl]
 rw [e1, e2]
 simp only [List.append_assoc]
theorem find_map (H : Heads hs) {G : Nat → List Nat × List Nat} (hG : ∀ k, k < 4 → low (G k).1 = low (nAt hs k)) {i : Nat} (hi : i < 4) : ∀ {L : List Nat}, (∀ k ∈ L, k < 4) → (L.map G).find? (fun p => low p.1 == low (nAt hs i)) = if i ∈ L then some (G i) else none
 | [], _ => rfl
 | k :: L, h => by
  have ih := find_map H hG hi (L := L) fun a ha => h a (.tail _ ha)
  have hk := h k (.head _)
  rw [List.map_cons, List.find?_cons]
  by_cases hki : k = i
  ·subst hki
   have e : (low (G k).1 == low (nAt hs k)) = true := by rw [hG k hk]; exact beq_self_eq_true _
   rw [e, if_pos (.head _)]
  ·have e : (low (G k).1 == low (nAt hs i)) = false := by
    rw [hG k hk, beq_eq_false_iff_ne]
    exact fun h => hki ((H.ne k i hk hi).mp h)
   rw [e]
   dsimp only
   rw [ih]
   have hm : (i ∈ k :: L) ↔ i ∈ L := by
    rw [List.mem_cons]
    constructor
    ·rintro (h | h)
     ·exact absurd h.symm hki
     ·exact h
    ·exact .inr
   by_cases hiL : i ∈ L
   ·rw [if_pos hiL, if_pos (hm.mpr hiL)]
   ·rw [if_neg hiL, if_neg fun h => hiL (hm.mp h)]
theorem mem_kept {late : List Nat} {i : Nat} (hi : i < 4) : i ∈ keptOf late ↔ i ∉ late := by
 unfold keptOf
 rw [List.mem_filter]
 have e : (!(late.any fun x => x == i)) = true ↔ i ∉ late := by
  rw [Bool.not_eq_true', ← Bool.not_eq_true, not_congr]
  rw [List.any_eq_true]
  constructor
  ·rintro ⟨x, hx, e⟩
   have : x = i := by simpa using e
   exact this ▸ hx
  ·exact fun h => ⟨i, h, by simp⟩
 rw [e]
 exact ⟨fun h => h.2, fun h => ⟨List.mem_range.mpr hi, h⟩⟩
theorem rows_inv (H : Heads hs) {F : Mat} (M : Metric F) {t : Row × List Nat} (R : RndI F f t) (hf : ∀ k, k < 4 → 0 ≤ f k ∧ f k ≤ 15) (hl : ∀ k ∈ t.2, k < 4) (hz : t.2.length ≤ 12) : RInv hs (t.1, rowsOf hs f t) := by
 have hA : ∀ (g : Row) k, k < 4 → low (rowA hs g k).1 = low (nAt hs k) := fun _ _ _ => rfl
 have hU : ∀ k, k < 4 → low (rowU hs k).1 = low (nAt hs k) := fun k hk => (H.at hk).lowUp
 have bnd : ∀ k, k < 4 → 0 ≤ t.1 k ∧ t.1 k ≤ 15 := by
  intro k hk
  have h1 := R.lo k hk
  have h2 := R.hi k hk
  obtain ⟨i, hi, e⟩ := least_at f F k
  have h3 := M.nonneg i k hi hk
  have h4 := hf i hi
  have h5 := hf k hk
  omega
 refine ⟨⟨?_, ?_⟩, fun i hi => ⟨(bnd i hi).1, (bnd i hi).2, ?_⟩⟩
 ·intro p hp
  have a : ∀ k, k < 4 → (∀ c ∈ nAt hs k, c < 128) ∧ (nAt hs k).length ≤ 90 := fun k hk => ⟨(H.at hk).asc, (H.at hk).len⟩
  rcases List.mem_append.mp hp with hp | hp
  ·rcases List.mem_append.mp hp with hp | hp
   ·obtain ⟨k, hk, rfl⟩ := List.mem_map.mp hp
    obtain ⟨h1, h2⟩ := a k (kept_lt k hk)
    have := dec_len (f k).toNat
    exact ⟨h1, show (nAt hs k).length ≤ 100 by omega, show (decN (f k).toNat).length ≤ 100 by omega⟩
   ·obtain ⟨k, hk, rfl⟩ := List.mem_map.mp hp
    have hk4 := kept_lt k (List.mem_reverse.mp hk)
    obtain ⟨h1, h2⟩ := a k hk4
    exact ⟨(H.at hk4).ascU, show (up (nAt hs k)).length ≤ 100 by rw [up_len]; omega, by simp [rowU]⟩
  ·obtain ⟨k, hk, rfl⟩ := List.mem_map.mp hp
   obtain ⟨h1, h2⟩ := a k (hl k hk)
   have := dec_len (t.1 k).toNat
   exact ⟨h1, show (nAt hs k).length ≤ 100 by omega, show (decN (t.1 k).toNat).length ≤ 100 by omega⟩
 ·show (rowsOf hs f t).length ≤ 100
  unfold rowsOf
  have := kept_len t.2
  rw [List.length_append, List.length_append, List.length_map, List.length_map, List.length_map, List.length_reverse]
  omega
 ·show getSpec (rowsOf hs f t) (low (nAt hs i)) = _
  unfold getSpec rowsOf
  rw [List.find?_append, List.find?_append, find_map H (hA f) hi fun k hk => kept_lt k hk, find_map H hU hi (fun k hk => kept_lt k (List.mem_reverse.mp hk)), find_map H (hA t.1) hi hl]
  by_cases hm : i ∈ t.2
  ·have hn : i ∉ keptOf t.2 := fun h => (mem_kept hi).mp h hm
   rw [if_neg hn, if_neg (fun h => hn (List.mem_reverse.mp h)), if_pos hm]; rfl
  ·have hy : i ∈ keptOf t.2 := (mem_kept hi).mpr hm
   rw [if_pos hy]
   show some (decN (f i).toNat) = _
   rw [R.kept i hi hm]
end
theorem heads_ok (c : List Int) : Heads (hsOf c) where
 toHd4 := hs_ok c
 ne _ _ hi hj := heads_ne hi hj
theorem port_bnd (c : List Int) (k : Nat) : 0 ≤ portF c k ∧ portF c k ≤ 15 := by have := port_lt c k; omega
theorem turn_eq {c : List Int} {t : Row × List Nat} {i j : Nat} (hi : i < 4) (hj : j < 4) (hne : i ≠ j) (hl : ∀ k ∈ t.2, k < 4) (bi : 0 ≤ t.1 i) (bj : t.1 j ≤ 15) :
  roundStep (namesOf c) (hsOf c) (t.1, rowsOf (hsOf c) (portF c) t) (i, j) = ((lateStep (wayAt (namesOf c)) t (i, j)).1, rowsOf (hsOf c) (portF c) (lateStep (wayAt (namesOf c)) t (i, j))) := by
 obtain ⟨l1, l2⟩ := lev_far hi hj hne (nm_at (c := c) hi) (nm_at (c := c) hj) (m := t.1 j - t.1 i - 1) (by omega)
 have ew := way_eq (namesOf c) hne
 unfold roundStep lateStep
 dsimp only
 rw [ew]
 by_cases h : farOf (nAt (namesOf c) i) (nAt (namesOf c) j) ≤ t.1 j - t.1 i - 1
 ·have e := l1 h
  rw [e, if_pos h, if_pos (by omega)]
  dsimp only
  rw [rows_step (heads_ok c) hj hl]
 ·have e := l2 (by omega)
  rw [if_neg (by omega), if_neg (by omega)]
theorem snoc_ind {P : Prs → Prop} (h0 : P []) (h1 : ∀ l p, P l → P (l ++ [p])) (l : Prs) : P l := by
 have key : ∀ l : Prs, P l.reverse := by
  intro l
  induction l with
  | nil => exact h0
  | cons p l ih => rw [List.reverse_cons]; exact h1 _ p ih
 have := key l.reverse
 rw [List.reverse_reverse] at this
 exact this
theorem fold_eq (c : List Int) {ord : Prs} (hp : ord.Perm pairs12) : ∀ done rest, ord = done ++ rest →
  done.foldl (roundStep (namesOf c) (hsOf c)) (st0 c) = ((done.foldl (lateStep (wayAt (namesOf c))) (portF c, [])).1, rowsOf (hsOf c) (portF c) (done.foldl (lateStep (wayAt (namesOf c))) (portF c, []))) ∧
  RInv (hsOf c) (done.foldl (roundStep (namesOf c) (hsOf c)) (st0 c)) := by
 have M := way_metric (namesOf c)
 obtain ⟨ho, hlen⟩ := perm_lt hp
 have hne : ∀ p ∈ ord, p.1 ≠ p.2 := by
  intro p h
  have : ∀ p ∈ pairs12, p.1 ≠ p.2 := by decide
  exact this p (hp.mem_iff.mp h)
 have inv : ∀ done rest, ord = done ++ rest → RInv (hsOf c) ((done.foldl (lateStep (wayAt (namesOf c))) (portF c, [])).1, rowsOf (hsOf c) (portF c) (done.foldl (lateStep (wayAt (namesOf c))) (portF c, []))) ∧
   (∀ k ∈ (done.foldl (lateStep (wayAt (namesOf c))) (portF c, [])).2, k < 4) := by
  intro done rest hd
  have hd1 : ∀ p ∈ done, p.1 < 4 ∧ p.2 < 4 := fun p h => ho p (by rw [hd]; exact List.mem_append_left _ h)
  have hl := late_mem (wayAt (namesOf c)) done (portF c, []) (by simp) hd1
  have hz := late_len (wayAt (namesOf c)) done (portF c, [])
  have hz2 : done.length ≤ ord.length := by rw [hd]; simp
  exact ⟨rows_inv (heads_ok c) M (RndI.fold M (RndI.start M) hd1) (fun k _ => port_bnd c k) hl (by
   have : (done.foldl (lateStep (wayAt (namesOf c))) (portF c, [])).2.length ≤ ([] : List Nat).length + done.length := hz
   simp at this; omega), hl⟩
 refine snoc_ind ?_ ?_
 ·intro rest hd
  have e : st0 c = (portF c, rowsOf (hsOf c) (portF c) (portF c, [])) := rfl
  refine ⟨e, ?_⟩
  show RInv (hsOf c) (st0 c)
  rw [e]
  exact (inv [] rest hd).1
 ·intro done p ih rest hd
  have hd2 : ord = done ++ (p :: rest) := by rw [hd]; simp
  obtain ⟨e, _⟩ := ih (p :: rest) hd2
  have hm : p ∈ ord := by rw [hd2]; simp
  obtain ⟨hi, hj⟩ := ho p hm
  have hn := hne p hm
  obtain ⟨I0, hl⟩ := inv done (p :: rest) hd2
  have I1 := (inv (done ++ [p]) rest hd).1
  have b1 := (I0.now p.1 hi).1
  have b2 := (I0.now p.2 hj).2.1
  have key : (done ++ [p]).foldl (roundStep (namesOf c) (hsOf c)) (st0 c) = (((done ++ [p]).foldl (lateStep (wayAt (namesOf c))) (portF c, [])).1, rowsOf (hsOf c) (portF c) ((done ++ [p]).foldl (lateStep (wayAt (namesOf c))) (portF c, []))) := by
   rw [List.foldl_append, List.foldl_append, e]
   exact turn_eq hi hj hn hl b1 b2
  exact ⟨key, by rw [key]; exact I1⟩
theorem lawF_all (c : List Int) : LawF c where
 say k _ := say_ok c _ k
 nm := names_ok c
 hd := hs_ok c
 wr := wr_ok c
 bad0 := (rows0_ok c).1
 fit0 := (rows0_ok c).2
 inv ord hp done rest hd := (fold_eq c hp done rest hd).2
 fin ord hp := by
  have M := way_metric (namesOf c)
  obtain ⟨ho, _⟩ := perm_lt hp
  rw [(fold_eq c hp ord [] (List.append_nil _).symm).1]
  have hend : ∀ j, j < 4 → (ord.foldl (lateStep (wayAt (namesOf c))) (portF c, [])).1 j = leastI (portF c) (wayAt (namesOf c)) j := fun j hj => round_end M hp hj
  have R := RndI.fold (f := portF c) M (RndI.start M) ho
  have hl := late_mem (wayAt (namesOf c)) ord (portF c, []) (by simp) ho
  unfold lateOf
  generalize ord.foldl (lateStep (wayAt (namesOf c))) (portF c, []) = t at *
  unfold rowsOf dueR
  dsimp only
  have hT : ∀ k, k < 4 → nAt (leastT (portF c) (wayAt (namesOf c))) k = decN (leastI (portF c) (wayAt (namesOf c)) k).toNat := by
   intro k hk
   unfold nAt leastT
   rw [List.getD_eq_getElem?_getD, List.getElem?_map, List.getElem?_range hk]; rfl
  congr 1
  ·congr 1
   refine List.map_congr_left fun k hk => ?_
   have hk4 := kept_lt k hk
   unfold rowA pairAt
   rw [hT k hk4, ← hend k hk4, R.kept k hk4 ((mem_kept hk4).mp hk)]
  ·refine List.map_congr_left fun k hk => ?_
   have hk4 := hl k hk
   unfold rowA pairAt
   rw [hT k hk4, hend k hk4]
 least k hk := by
  have M := way_metric (namesOf c)
  obtain ⟨i, hi, e⟩ := least_at (portF c) (wayAt (namesOf c)) k
  have h1 := least_le (portF c) (wayAt (namesOf c)) hk k
  rw [M.zero k hk] at h1
  have h2 := M.nonneg i k hi hk
  have h3 := port_bnd c i
  have h4 := port_bnd c k
  omega
 cost q hq := cost_ok' hq (nm_at hq)
 bare := bare_ok c
end Mine
open PySem PySem.Calls PyProof.Rows PySem.W
set_option maxRecDepth 100000
set_option maxHeartbeats 8000000
set_option Elab.async true
namespace Mine.hx
theorem tw7117039502732272165 : True := ⟨⟩
theorem tw13994185481600150508 : True := ⟨⟩
theorem tw6694340928300862233 : True := ⟨⟩
theorem tw2848357750357388338 : True := ⟨⟩
theorem tw13574767429253134702 : True := ⟨⟩
theorem tw663058311725963850 : True := ⟨⟩
theorem tw16403607636861804150 : True := ⟨⟩
theorem tw16937982806788184370 : True := ⟨⟩
theorem tw616740878971486716 : True := ⟨⟩
theorem tw4311935586957980807 : True := ⟨⟩
theorem tw1680849517792564725 : True := ⟨⟩
theorem tw8719310546069769394 : True := ⟨⟩
theorem tw1415654423932628287 : True := ⟨⟩
theorem tw13764951562285276426 : True := ⟨⟩
theorem tw6836243782229160083 : True := ⟨⟩
theorem tw12938584960106786947 : True := ⟨⟩
theorem tw13327334872544604925 : True := ⟨⟩
theorem tw5987738072841988675 : True := ⟨⟩
theorem tw11542809368468670571 : True := ⟨⟩
theorem tw2580623763806008135 : True := ⟨⟩
theorem tw18163383231904437410 : True := ⟨⟩
theorem tw9818837363699442920 : True := ⟨⟩
theorem tw9986171129721700794 : True := ⟨⟩
theorem tw6700631356736508036 : True := ⟨⟩
theorem tw11652467807154655573 : True := ⟨⟩
theorem tw7891766511613034010 : True := ⟨⟩
theorem tw15215796203213042296 : True := ⟨⟩
theorem tw2358503780328766540 : True := ⟨⟩
theorem tw11605663943579434254 : True := ⟨⟩
theorem tw10807983823035302247 : True := ⟨⟩
theorem tw1089165632158530400 : True := ⟨⟩
theorem tw5302141714640544522 : True := ⟨⟩
theorem tw13970432741380693950 : True := ⟨⟩
theorem tw3840107357115572158 : True := ⟨⟩
theorem tw12770057050171300576 : True := ⟨⟩
theorem tw16503919762052067167 : True := ⟨⟩
theorem tw14264482880347793263 : True := ⟨⟩
theorem tw8758266848800754368 : True := ⟨⟩
theorem tw18141915107381044649 : True := ⟨⟩
theorem tw6094537120995972945 : True := ⟨⟩
theorem tw14085520422451869811 : True := ⟨⟩
theorem tw3245460484126576377 : True := ⟨⟩
theorem tw1100523350065315309 : True := ⟨⟩
theorem tw3750262793593453663 : True := ⟨⟩
theorem tw8013753438709209555 : True := ⟨⟩
theorem tw15414558616249902002 : True := ⟨⟩
theorem tw7118774718363930462 : True := ⟨⟩
theorem tw18215676871104998399 : True := ⟨⟩
theorem tw396350801418547936 : True := ⟨⟩
theorem tw16220354117797179089 : True := ⟨⟩
theorem tw3151352308241419672 : True := ⟨⟩
theorem tw4621005963601903657 : True := ⟨⟩
theorem tw16653890388018469145 : True := ⟨⟩
theorem tw4835485041952420608 : True := ⟨⟩
theorem tw292709383975957704 : True := ⟨⟩
theorem tw3767164605852734177 : True := ⟨⟩
theorem tw16044307587897543647 : True := ⟨⟩
theorem tw8280520150143245440 : True := ⟨⟩
theorem tw9229111910879503682 : True := ⟨⟩
theorem tw6234722803267601620 : True := ⟨⟩
theorem tw15515426146827161799 : True := ⟨⟩
theorem tw12294144641388205969 : True := ⟨⟩
theorem tw1362163949497883158 : True := ⟨⟩
theorem tw13173629366862862663 : True := ⟨⟩
theorem tw5044738186272462081 : True := ⟨⟩
theorem tw15396066670179936615 : True := ⟨⟩
theorem tw15882349035831147880 : True := ⟨⟩
theorem tw2101144305115712416 : True := ⟨⟩
theorem tw6912957689366828898 : True := ⟨⟩
theorem tw12389214559413477026 : True := ⟨⟩
theorem tw16254761555390375193 : True := ⟨⟩
theorem tw12392353606877693820 : True := ⟨⟩
theorem tw6150637109426312374 : True := ⟨⟩
theorem tw17809212181156274236 : True := ⟨⟩
theorem tw5973647403945334939 : True := ⟨⟩
theorem tw12764173250460046966 : True := ⟨⟩
theorem tw18436102530548493083 : True := ⟨⟩
theorem tw14390795809031884612 : True := ⟨⟩
theorem tw1749809594243765621 : True := ⟨⟩
theorem tw7135545248255827829 : True := ⟨⟩
theorem tw919350103801827390 : True := ⟨⟩
theorem tw5229663503899665235 : True := ⟨⟩
theorem tw16530790135194553822 : True := ⟨⟩
theorem tw15719070241404046249 : True := ⟨⟩
theorem tw1343601587134825943 : True := ⟨⟩
theorem tw11235557421540341822 : True := ⟨⟩
theorem tw14648767878841662682 : True := ⟨⟩
theorem tw10939141181510983603 : True := ⟨⟩
theorem tw14958249954385249000 : True := ⟨⟩
theorem tw15192764956840726322 : True := ⟨⟩
theorem tw4790614838382506437 : True := ⟨⟩
theorem tw8210334511716523686 : True := ⟨⟩
theorem tw2530950033039335674 : True := ⟨⟩
theorem tw16751661018229691023 : True := ⟨⟩
theorem tw3064612590093021604 : True := ⟨⟩
theorem tw4778239293986166988 : True := ⟨⟩
theorem tw9608145549414365227 : True := ⟨⟩
theorem tw4638685165426952821 : True := ⟨⟩
theorem tw5572912245335256022 : True := ⟨⟩
theorem tw4205994103841450751 : True := ⟨⟩
theorem tw8916866690797206258 : True := ⟨⟩
theorem tw11576060578404032109 : True := ⟨⟩
theorem tw13887421244684101553 : True := ⟨⟩
theorem tw6893509615905794137 : True := ⟨⟩
theorem tw1837536587343590555 : True := ⟨⟩
theorem tw3772895889506965678 : True := ⟨⟩
theorem tw9728688711462037987 : True := ⟨⟩
theorem tw13100434611214814302 : True := ⟨⟩
theorem tw3936704402894765144 : True := ⟨⟩
theorem tw14728151803300476778 : True := ⟨⟩
theorem tw11461702876261154779 : True := ⟨⟩
theorem tw11529457255951468018 : True := ⟨⟩
theorem tw13348707166376220045 : True := ⟨⟩
theorem tw540753489051694059 : True := ⟨⟩
theorem tw8313530265402521625 : True := ⟨⟩
theorem tw4925180145992722077 : True := ⟨⟩
theorem tw13418063953174990607 : True := ⟨⟩
theorem tw16670953707802882552 : True := ⟨⟩
theorem tw634369046800973281 : True := ⟨⟩
theorem tw2933574226750363228 : True := ⟨⟩
theorem tw8866640492970853812 : True := ⟨⟩
theorem tw4736886695178322556 : True := ⟨⟩
theorem tw7604391641041716378 : True := ⟨⟩
theorem tw4081245987573513101 : True := ⟨⟩
theorem tw12886684066980348408 : True := ⟨⟩
theorem tw11803736057804005719 : True := ⟨⟩
theorem tw3126803895974666599 : True := ⟨⟩
theorem tw811370354263480444 : True := ⟨⟩
theorem tw8374021121780711109 : True := ⟨⟩
theorem tw5663202204576575629 : True := ⟨⟩
theorem tw8791178820788453978 : True := ⟨⟩
theorem tw14344502140286423506 : True := ⟨⟩
theorem tw440200682837978379 : True := ⟨⟩
theorem tw9279888435216144913 : True := ⟨⟩
theorem tw2884559834261289398 : True := ⟨⟩
theorem tw17363319697987627524 : True := ⟨⟩
theorem tw10596243801935397713 : True := ⟨⟩
theorem tw16053221933270867258 : True := ⟨⟩
theorem tw11876859455004161157 : True := ⟨⟩
theorem tw4178432983367478423 : True := ⟨⟩
theorem tw9115037031211061566 : True := ⟨⟩
theorem tw3127049559752940807 : True := ⟨⟩
theorem tw8644560031705490810 : True := ⟨⟩
theorem tw11068126759796092325 : True := ⟨⟩
theorem tw6225824510542169761 : True := ⟨⟩
theorem tw15222671194020912597 : True := ⟨⟩
theorem tw10617194249185857529 : True := ⟨⟩
theorem tw7168309623211571701 : True := ⟨⟩
theorem tw2618490190428073017 : True := ⟨⟩
theorem tw3461369719786860586 : True := ⟨⟩
theorem tw4277992108151645805 : True := ⟨⟩
theorem tw1463196147053303394 : True := ⟨⟩
theorem tw10147221347258369205 : True := ⟨⟩
theorem tw6590801892334686599 : True := ⟨⟩
theorem tw17573937718456619690 : True := ⟨⟩
theorem tw12377959399836290067 : True := ⟨⟩
theorem tw1542206093075745799 : True := ⟨⟩
theorem tw7448076970475776704 : True := ⟨⟩
theorem tw16328980522917596230 : True := ⟨⟩
theorem tw990764820897086996 : True := ⟨⟩
theorem tw9463795675075205437 : True := ⟨⟩
theorem tw8078265402885471976 : True := ⟨⟩
theorem tw16625174259953595169 : True := ⟨⟩
theorem tw5284089832466597352 : True := ⟨⟩
theorem tw4216420034110358939 : True := ⟨⟩
theorem tw7822914085060208528 : True := ⟨⟩
theorem tw2745991006798580251 : True := ⟨⟩
theorem tw3809554658679441229 : True := ⟨⟩
theorem tw14919038862432082165 : True := ⟨⟩
theorem tw6948474134290792126 : True := ⟨⟩
theorem tw1016313470199982537 : True := ⟨⟩
theorem tw10471693372546886218 : True := ⟨⟩
theorem tw13588689596132362657 : True := ⟨⟩
theorem tw15656486127985483219 : True := ⟨⟩
theorem tw18112682675998309622 : True := ⟨⟩
theorem tw9592554324860578136 : True := ⟨⟩
theorem tw14817645703785147396 : True := ⟨⟩
theorem tw17453721029707611201 : True := ⟨⟩
theorem tw13915438201234971384 : True := ⟨⟩
theorem tw5345257021437362142 : True := ⟨⟩
theorem tw3597224387928761530 : True := ⟨⟩
theorem tw6821187626703829088 : True := ⟨⟩
theorem tw829882407734958542 : True := ⟨⟩
theorem tw15031465929163138751 : True := ⟨⟩
theorem tw7822962280082496512 : True := ⟨⟩
theorem tw4039083011212233968 : True := ⟨⟩
theorem tw12531592957024129060 : True := ⟨⟩
theorem tw4443683451718327492 : True := ⟨⟩
theorem tw4400082454429041863 : True := ⟨⟩
theorem tw11388261020817367519 : True := ⟨⟩
theorem tw12840931332580689146 : True := ⟨⟩
theorem tw8383832312975943185 : True := ⟨⟩
theorem tw15020162214462287587 : True := ⟨⟩
theorem tw8294567603793468075 : True := ⟨⟩
theorem tw9440667166201527827 : True := ⟨⟩
theorem tw4550061093857923882 : True := ⟨⟩
theorem tw10259550172225532679 : True := ⟨⟩
theorem tw14311561367197305191 : True := ⟨⟩
theorem tw2951018021206863066 : True := ⟨⟩
theorem tw18025658111944671314 : True := ⟨⟩
theorem tw7271874215164270623 : True := ⟨⟩
theorem tw1624557340753844931 : True := ⟨⟩
theorem tw2660992353704633501 : True := ⟨⟩
theorem tw3221206007101484751 : True := ⟨⟩
theorem tw11074221192868344092 : True := ⟨⟩
theorem tw2533170188022924913 : True := ⟨⟩
theorem tw9300793153402489460 : True := ⟨⟩
theorem tw17016924944305248243 : True := ⟨⟩
theorem tw1890682559011639224 : True := ⟨⟩
theorem tw9313591890549905059 : True := ⟨⟩
theorem tw16290631286737737129 : True := ⟨⟩
theorem tw2822907071458423533 : True := ⟨⟩
theorem tw10742297795112918153 : True := ⟨⟩
theorem tw11873219079051621416 : True := ⟨⟩
theorem tw5151445886737355997 : True := ⟨⟩
theorem tw8153351105357841641 : True := ⟨⟩
theorem tw11511833604947660874 : True := ⟨⟩
theorem tw3722370046394560457 : True := ⟨⟩
theorem tw5644764048023550207 : True := ⟨⟩
theorem tw13904747866207299807 : True := ⟨⟩
theorem tw10116244012155279326 : True := ⟨⟩
theorem tw17557955846509285157 : True := ⟨⟩
theorem tw4567310155831165015 : True := ⟨⟩
theorem tw14221590416393904004 : True := ⟨⟩
theorem tw15003182733627720372 : True := ⟨⟩
theorem tw17589684436434577441 : True := ⟨⟩
theorem tw1658197193684275316 : True := ⟨⟩
theorem tw4743368475946334711 : True := ⟨⟩
theorem tw16058991070295768540 : True := ⟨⟩
theorem tw14992983214800064602 : True := ⟨⟩
theorem tw14169341511654307922 : True := ⟨⟩
theorem tw16123065961656689723 : True := ⟨⟩
theorem tw6768751125542400157 : True := ⟨⟩
theorem tw15662756325033996771 : True := ⟨⟩
theorem tw13360980773314081272 : True := ⟨⟩
theorem tw1881273628141950129 : True := ⟨⟩
theorem tw6111261592326885668 : True := ⟨⟩
theorem tw4774948093478016081 : True := ⟨⟩
theorem tw9504622745713830366 : True := ⟨⟩
theorem tw17039554997033918745 : True := ⟨⟩
theorem tw10089113472772384774 : True := ⟨⟩
theorem tw2687802829100569433 : True := ⟨⟩
theorem tw288411641489606368 : True := ⟨⟩
theorem tw764732042479237497 : True := ⟨⟩
theorem tw16179723595558240676 : True := ⟨⟩
theorem tw16268382344902531218 : True := ⟨⟩
theorem tw1972047601138287618 : True := ⟨⟩
theorem tw6661065052353065320 : True := ⟨⟩
theorem tw7010757331310601657 : True := ⟨⟩
theorem tw12876500496384970917 : True := ⟨⟩
theorem tw5060404574720663952 : True := ⟨⟩
theorem tw12030256587067620103 : True := ⟨⟩
theorem tw568883250039891352 : True := ⟨⟩
theorem tw2063962012853046974 : True := ⟨⟩
theorem tw7492030116529166354 : True := ⟨⟩
theorem tw16051292036045715728 : True := ⟨⟩
theorem tw3897231576808763883 : True := ⟨⟩
theorem tw2024369426084107867 : True := ⟨⟩
theorem tw4003515419551643288 : True := ⟨⟩
theorem tw9425653185733914764 : True := ⟨⟩
theorem tw5286479519828484009 : True := ⟨⟩
theorem tw4643808109359329299 : True := ⟨⟩
theorem tw5002266203513084153 : True := ⟨⟩
theorem tw2911593502983421243 : True := ⟨⟩
theorem tw17001873279354605088 : True := ⟨⟩
theorem tw17393156024033759196 : True := ⟨⟩
theorem tw11501113234145657499 : True := ⟨⟩
theorem tw10610913765530660747 : True := ⟨⟩
theorem tw12821517133369311258 : True := ⟨⟩
theorem tw5819880787501774758 : True := ⟨⟩
theorem tw2201176655943343924 : True := ⟨⟩
theorem tw16584103675982884176 : True := ⟨⟩
theorem tw18011543497392634282 : True := ⟨⟩
theorem tw9067985455519472299 : True := ⟨⟩
theorem tw11648549221805079087 : True := ⟨⟩
theorem tw30516888858077971 : True := ⟨⟩
theorem tw10683619853160712676 : True := ⟨⟩
theorem tw12544056204730560957 : True := ⟨⟩
theorem tw13923397955430767758 : True := ⟨⟩
theorem tw10918413460159112602 : True := ⟨⟩
theorem tw5984905357544954840 : True := ⟨⟩
theorem tw2492048929613541025 : True := ⟨⟩
theorem tw15695149568941424871 : True := ⟨⟩
theorem tw8800404311707590821 : True := ⟨⟩
theorem tw11133863230559657982 : True := ⟨⟩
theorem tw551878033868750631 : True := ⟨⟩
theorem tw8576703452051888039 : True := ⟨⟩
theorem tw18288557733248936724 : True := ⟨⟩
theorem tw4626587452002532517 : True := ⟨⟩
theorem tw5074251886428752240 : True := ⟨⟩
theorem tw2404633205489611897 : True := ⟨⟩
theorem tw3105936464211144054 : True := ⟨⟩
theorem tw16509932877354490577 : True := ⟨⟩
theorem tw8069092538493481521 : True := ⟨⟩
theorem tw2822385975729611342 : True := ⟨⟩
theorem tw14547076071350101635 : True := ⟨⟩
theorem tw11578488819760341122 : True := ⟨⟩
theorem tw8427485113769799218 : True := ⟨⟩
theorem tw8059141126832881916 : True := ⟨⟩
theorem tw3892913461802216228 : True := ⟨⟩
theorem tw11180674998892410296 : True := ⟨⟩
theorem tw17158850808337323685 : True := ⟨⟩
theorem tw11442105100669052236 : True := ⟨⟩
theorem tw4820356001183778062 : True := ⟨⟩
theorem tw9071423850677124175 : True := ⟨⟩
theorem tw8016503042654326230 : True := ⟨⟩
theorem tw9728156084186220081 : True := ⟨⟩
theorem tw10783175264176337430 : True := ⟨⟩
theorem tw17812654206654028429 : True := ⟨⟩
theorem tw16174250225865239651 : True := ⟨⟩
theorem tw5309930749667887705 : True := ⟨⟩
theorem tw3502533989761060701 : True := ⟨⟩
theorem tw2504348554245470067 : True := ⟨⟩
theorem tw13047111702688295373 : True := ⟨⟩
theorem tw4870609095116367995 : True := ⟨⟩
theorem tw11868710178002341650 : True := ⟨⟩
theorem tw3089318795281737075 : True := ⟨⟩
theorem tw10307356883056191786 : True := ⟨⟩
theorem tw14349752981382075830 : True := ⟨⟩
theorem tw7876969669924440321 : True := ⟨⟩
theorem tw5044532516427930034 : True := ⟨⟩
theorem tw2049375122918656981 : True := ⟨⟩
theorem tw4951867800294161291 : True := ⟨⟩
theorem tw12545834286116690562 : True := ⟨⟩
theorem tw5971702529781738994 : True := ⟨⟩
theorem tw7411675879612560423 : True := ⟨⟩
theorem tw8629640164197408899 : True := ⟨⟩
theorem tw6382291294955211999 : True := ⟨⟩
theorem tw14938798612039523107 : True := ⟨⟩
theorem tw2146883442004570292 : True := ⟨⟩
theorem tw16831101020866358490 : True := ⟨⟩
theorem tw9960968122618143832 : True := ⟨⟩
theorem tw7789537453598603269 : True := ⟨⟩
theorem tw15369465458315143963 : True := ⟨⟩
theorem tw11986628712928427922 : True := ⟨⟩
theorem tw4562425501774194348 : True := ⟨⟩
theorem tw64630411898889128 : True := ⟨⟩
theorem tw5012581791309765258 : True := ⟨⟩
theorem tw16810214309375985759 : True := ⟨⟩
theorem tw5548490626718368004 : True := ⟨⟩
theorem tw10872142100059809350 : True := ⟨⟩
theorem tw16889384090722931010 : True := ⟨⟩
theorem tw17478428059220288493 : True := ⟨⟩
theorem tw9819894657917094784 : True := ⟨⟩
theorem tw576899675763343441 : True := ⟨⟩
theorem tw14775527904853000749 : True := ⟨⟩
theorem tw5859954059831970930 : True := ⟨⟩
theorem tw1510941156237703019 : True := ⟨⟩
theorem tw1709533345360563255 : True := ⟨⟩
theorem tw9580440979016352591 : True := ⟨⟩
theorem tw1742656451142089649 : True := ⟨⟩
theorem tw12870832547070010083 : True := ⟨⟩
theorem tw18383182533153586477 : True := ⟨⟩
theorem tw4928779516658127728 : True := ⟨⟩
theorem tw12677999345953698985 : True := ⟨⟩
theorem tw9733707994341241046 : True := ⟨⟩
theorem tw17493533222571850228 : True := ⟨⟩
theorem tw7196959931366684185 : True := ⟨⟩
theorem tw15784146693891255721 : True := ⟨⟩
theorem tw17093792507239897499 : True := ⟨⟩
theorem tw16447564128994577934 : True := ⟨⟩
theorem tw1352479365382649514 : True := ⟨⟩
theorem tw2497926436135343631 : True := ⟨⟩
theorem tw17832744011254776289 : True := ⟨⟩
theorem tw15637220148305887217 : True := ⟨⟩
theorem tw1358250369764232750 : True := ⟨⟩
theorem tw432897219053493142 : True := ⟨⟩
theorem tw2896438728730547279 : True := ⟨⟩
theorem tw18286160104727862462 : True := ⟨⟩
theorem tw3264777137382535416 : True := ⟨⟩
theorem tw15088266657895807461 : True := ⟨⟩
theorem tw11108718026129502348 : True := ⟨⟩
theorem tw5215890235029086482 : True := ⟨⟩
theorem tw8339939058450410749 : True := ⟨⟩
theorem tw6938760501003799309 : True := ⟨⟩
theorem tw7494296812056875437 : True := ⟨⟩
theorem tw16929762562273154506 : True := ⟨⟩
theorem tw12867322890000570906 : True := ⟨⟩
theorem tw9926087939513100535 : True := ⟨⟩
theorem tw11950744475718057257 : True := ⟨⟩
theorem tw1514262835583746478 : True := ⟨⟩
theorem tw14304415443402900283 : True := ⟨⟩
theorem tw1628044414854275119 : True := ⟨⟩
theorem tw10516643663288343842 : True := ⟨⟩
theorem tw12741305705280892733 : True := ⟨⟩
theorem tw7445733027249461639 : True := ⟨⟩
theorem tw10483263613327836230 : True := ⟨⟩
theorem tw8680568747675894556 : True := ⟨⟩
theorem tw16503685224865804450 : True := ⟨⟩
theorem tw5785601672118008014 : True := ⟨⟩
theorem tw10143001506211119355 : True := ⟨⟩
theorem tw1472627028676479429 : True := ⟨⟩
theorem tw10804217046144596232 : True := ⟨⟩
theorem tw17601551063327761115 : True := ⟨⟩
theorem tw15890461587552314789 : True := ⟨⟩
theorem tw14364110991727458282 : True := ⟨⟩
theorem tw17365841796568000854 : True := ⟨⟩
theorem tw7864485984771250624 : True := ⟨⟩
theorem tw10782636077873877296 : True := ⟨⟩
theorem tw16422446190411312259 : True := ⟨⟩
theorem tw10864032600957282309 : True := ⟨⟩
theorem tw6346493079076818392 : True := ⟨⟩
theorem tw5633044805437122751 : True := ⟨⟩
theorem tw14629616601678125156 : True := ⟨⟩
theorem tw13397665003865654982 : True := ⟨⟩
theorem tw12203261482158421150 : True := ⟨⟩
theorem tw8063799498105216150 : True := ⟨⟩
theorem tw11255313108558152148 : True := ⟨⟩
theorem tw7713150392837591654 : True := ⟨⟩
theorem tw3778313439561597904 : True := ⟨⟩
theorem tw5033423968699698886 : True := ⟨⟩
theorem tw5602258624995510178 : True := ⟨⟩
theorem tw4709067958626073384 : True := ⟨⟩
theorem tw1765193833724418456 : True := ⟨⟩
theorem tw17967490135107311282 : True := ⟨⟩
theorem tw8072070048918887560 : True := ⟨⟩
theorem tw14829580396654412330 : True := ⟨⟩
theorem tw10606685759059100015 : True := ⟨⟩
theorem tw17469929296604087836 : True := ⟨⟩
theorem tw15462683395770930534 : True := ⟨⟩
theorem tw13028522948772262508 : True := ⟨⟩
theorem tw14780050976537163602 : True := ⟨⟩
theorem tw45817232647829279 : True := ⟨⟩
theorem tw10378792918218926003 : True := ⟨⟩
theorem tw2702912257362749870 : True := ⟨⟩
theorem tw15880504448479711350 : True := ⟨⟩
theorem tw6810358813687007468 : True := ⟨⟩
theorem tw4518221268279412019 : True := ⟨⟩
theorem tw5492716820719653743 : True := ⟨⟩
theorem tw8683918616840425538 : True := ⟨⟩
theorem tw7105652820812284432 : True := ⟨⟩
theorem tw6598653712756694132 : True := ⟨⟩
theorem tw15102594672415386349 : True := ⟨⟩
theorem tw8462949007004437653 : True := ⟨⟩
theorem tw932451246233767929 : True := ⟨⟩
theorem tw13251139996166171883 : True := ⟨⟩
theorem tw3864814513713628098 : True := ⟨⟩
theorem tw4957977497641929111 : True := ⟨⟩
theorem tw13051606616835114215 : True := ⟨⟩
end Mine.hx
namespace Mine
noncomputable abbrev theW (w : World) (h : Heap) : Wd := ⟨PySem.Challenge.rw_wo0078_01.row.prog, w, h, GT⟩
noncomputable def isTextKey (e : DictEntry) : Bool := match e.key with
  | .str _ _ => true
  | _ => false
theorem strKeys_of {es : Array DictEntry} (h : es.all isTextKey = true) : StrKeys es := by
  intro e he
  have := Array.all_eq_true'.mp h e he
  unfold isTextKey at this
  split at this
  · exact ⟨_, _, by assumption⟩
  · cases this
section
variable {w : World} {h : Heap}
noncomputable def nsOf : Option Obj → PySem.Str → Option Value
  | some o, y => match o.data with
    | .dict es _ => nsFind es y
    | _ => none
  | none, _ => none
noncomputable def valB : CV → Option Value → Bool
  | .int i, some (.int j _) => decide (i = j)
  | .con v, some u => decide (v = u)
  | _, _ => false
noncomputable def gtB (o : Option Obj) (p : PySem.Str × CV) : Bool := !(p.1 == ("__debug__" : PySem.Str)) && !(p.1 == ("__name__" : PySem.Str)) && (match nsOf o p.1 with
  | some v => valB p.2 (some v)
  | none => valB p.2 (bootBuiltins p.1))
theorem valB_ok {c : CV} {v : Value} (q : valB c (some v) = true) : ∀ D h, CRel D h v c := by
  cases c with
  | int i => cases v with
    | int j t => obtain rfl : i = j := of_decide_eq_true q; exact fun _ _ => .int ..
    | _ => cases q
  | con u => obtain rfl : u = v := of_decide_eq_true q; exact fun _ _ => .con _
  | _ => cases q
theorem gt_ok {K : Frag} {mg mb : PySem.Str → Option Value} (KX : K.In h) (hg : h.Ns mainGlobals mg) (hbi : ∀ x : PySem.Str, x ≠ "__name__" → mb x = bootBuiltins x) (hs : (K.lookup mainGlobals).isSome = true) (e : GT.all (gtB (K.lookup mainGlobals)) = true) :
    ∀ x c, (x, c) ∈ GT → (x == ("__debug__" : PySem.Str)) = false ∧ ∃ v, (mg x = some v ∨ (mg x = none ∧ mb x = some v)) ∧ ∀ D h, CRel D h v c := by
  intro x c hx
  obtain ⟨o, hK⟩ := Option.isSome_iff_exists.mp hs
  obtain ⟨o', es, ep, ho, hd', hk, hf⟩ := hg
  obtain rfl := Option.some.inj ((KX _ _ hK).symm.trans ho)
  have q := List.all_eq_true.mp e _ hx
  rw [hK] at q
  unfold gtB nsOf at q
  dsimp only at q
  rw [hd'] at q
  dsimp only at q
  rw [hf x, Bool.and_eq_true, Bool.and_eq_true, Bool.not_eq_true', Bool.not_eq_true'] at q
  refine ⟨q.1.1, ?_⟩
  have hn : x ≠ "__name__" := fun z => by rw [z] at q; exact nomatch q.1.2
  cases hm : mg x with
  | some v => rw [hm] at q; exact ⟨v, .inl rfl, valB_ok q.2⟩
  | none =>
    rw [hm] at q
    cases hv : bootBuiltins x with
    | none => rw [hv] at q; have := q.2; cases c <;> cases this
    | some v => rw [hv] at q; exact ⟨v, .inr ⟨rfl, (hbi x hn).trans hv⟩, valB_ok q.2⟩
theorem law_at {K : Frag} {mg : PySem.Str → Option Value} {v : Value} (KX : K.In h) (hg : h.Ns mainGlobals mg) (e : nsOf (K.lookup mainGlobals) "law" = some v) : mg "law" = some v := by
  cases hK : K.lookup mainGlobals with
  | none => rw [hK] at e; cases e
  | some o =>
    obtain ⟨o', es, ep, ho, hd', hk, hf⟩ := hg
    obtain rfl := Option.some.inj ((KX _ _ hK).symm.trans ho)
    rw [hK] at e
    unfold nsOf at e
    dsimp only at e
    rw [hd'] at e
    exact (hf _).symm.trans e
theorem well_ints {P : Params} {D : Addr → Prop} {h : Heap} {a : Addr} {z : List Int} (W : Well P h (.ref a) (ofPy (.list (z.map .int)))) : ∃ vs n, h.get? a = some (lstObj vs n) ∧ CRels D h vs.toList (z.map .int) := by
  have hx : ofPy (.list (z.map .int)) = .list ((z.map PyData.int).map ofPy) := by unfold ofPy; rw [ofPys_eq]
  rw [hx] at W
  cases W with
  | list ho hw =>
    rename_i vs
    refine ⟨vs.toArray, 0, ho, ?_⟩
    rw [List.toList_toArray]
    clear ho hx
    induction z generalizing vs with
    | nil => cases hw; exact .nil
    | cons n z ih =>
      cases hw with | cons w1 w2 =>
      cases w1
      exact .cons (.int ..) (ih w2)
theorem j_call {s₁ : Shared} {mg mb : PySem.Str → Option Value} {a : Addr} {z : List Int} (Tp : TopA (theW w s₁.heap)) {fd : FuncData} (F : FnAt (theW w s₁.heap) 317 (defAt 32) .none fd) (hok : (theW w s₁.heap).Ok mg mb) (hW : Well w.params s₁.heap (.ref a) (ofPy (.list (z.map .int)))) (hz : z.length ≤ 63) :
    codeAny (model PySem.Challenge.rw_wo0078_01.row.prog w) callerA (.call (.ref 317) { pos := [.ref a] }) (fun r s' => r = .ok (.ret (.bool true)) ∧ (∀ b o, s₁.heap.get? b = some o → s'.heap.get? b = some o) ∧ s'.os = s₁.os ∧ s'.gens = s₁.gens) s₁ := by
  have gh : Gh := ⟨[], [], fun _ => False, fun _ => False⟩
  have H := call_law (lv := 0) Tp F (z := z) (by omega) (lawF_all _) callerA [] ⟨[], [], fun _ => False, fun _ => False⟩ s₁ [.ref a] [] ⟨⟨fun _ x => x⟩, fun _ _ x => x, fun _ x => x.elim, fun _ x => x.elim, .nil, fun b hb => by simp at hb, by simp, ⟨rfl, fun e he => by simp at he⟩, ⟨by decide +kernel, by decide +kernel⟩, rfl, ⟨mg, mb, hok⟩⟩ ?_ .nil
  · refine codeAny_mono H ?_
    rintro r s' h
    cases r with
    | error e =>
      obtain ⟨_, _, _, _, _, _, _, hx⟩ := h
      exact hx.elim
    | ok f =>
      cases f with
      | ret v =>
        rcases h with ⟨x, glob, O, r, rfl, _⟩ | ⟨_, _, _, _, _, _, _, _, _, _, hx, _⟩
        · cases r
          exact ⟨rfl, O.base, O.same.os, O.same.gens⟩
        · cases hx
      | next => exact h.elim
      | brk => exact h.elim
      | cont => exact h.elim
  · obtain ⟨vs, n, ho, hr⟩ := well_ints (D := fun _ => False) hW
    exact .cons (.c (.lst ho nofun hr)) .nil
end
theorem hx : PySem.Challenge.rw_wo0078_01.Holds := by
  w_on; o_law; k_head; (case hw => w_witness2)
  k_fill
  intro w s₀ s₁ mg mb G Y fa o pm cd doc dV kV ho hdd hcd hD hmg hg args vals as hpre hlay hrd hwl hlo
  have KX := kIn_of Y
  refine Ground.open G ?_
  intro T B D TE TW
  wrow_args hpre hlay hrd hwl hlo
  refine enter_call ?_
  have efa : fa = 317 := by
    have := (law_at (v := .ref 317) KX T.g (by kernel_rfl)).symm.trans hmg
    cases this; rfl
  subst efa
  obtain ⟨h, hh⟩ : ∃ h, h = s₁.heap := ⟨_, rfl⟩
  rw [← hh] at KX
  clear ho hdd hcd hD
  have j_f45 : ∃ fd, FnAt (theW w h) 45 (defAt 6) .none fd :=
    ⟨_, ⟨⟨⟨_, KX 45 _ rfl, rfl⟩, ⟨44, _, _, _, rfl, KX 44 _ rfl, rfl, rfl⟩, rfl, rfl, rfl, rfl, rfl, rfl, rfl⟩, rfl, rfl, rfl, rfl⟩⟩
  have j_f52 : ∃ fd, FnAt (theW w h) 52 (defAt 7) .none fd :=
    ⟨_, ⟨⟨⟨_, KX 52 _ rfl, rfl⟩, ⟨51, _, _, _, rfl, KX 51 _ rfl, rfl, rfl⟩, rfl, rfl, rfl, rfl, rfl, rfl, rfl⟩, rfl, rfl, rfl, rfl⟩⟩
  have j_p229 : ∃ fd, FnAt (theW w h) 96 (defAt 12) .none fd :=
    ⟨_, ⟨⟨⟨_, KX 96 _ rfl, rfl⟩, ⟨95, _, _, _, rfl, KX 95 _ rfl, rfl, rfl⟩, rfl, rfl, rfl, rfl, rfl, rfl, rfl⟩, rfl, rfl, rfl, rfl⟩⟩
  have j_p257 : ∃ fd, FnAt (theW w h) 103 (defAt 13) .none fd :=
    ⟨_, ⟨⟨⟨_, KX 103 _ rfl, rfl⟩, ⟨102, _, _, _, rfl, KX 102 _ rfl, rfl, rfl⟩, rfl, rfl, rfl, rfl, rfl, rfl, rfl⟩, rfl, rfl, rfl, rfl⟩⟩
  have j_init : ∃ fd, FnAt (theW w h) 128 (methAt 17 0) (.ref 121) fd :=
    ⟨_, ⟨⟨⟨_, KX 128 _ rfl, rfl⟩, ⟨127, _, _, _, rfl, KX 127 _ rfl, rfl, rfl⟩, rfl, rfl, rfl, rfl, rfl, rfl, rfl⟩, rfl, rfl, rfl, rfl⟩⟩
  have j_conv : ∃ fd, FnAt (theW w h) 135 (methAt 17 1) .none fd :=
    ⟨_, ⟨⟨⟨_, KX 135 _ rfl, rfl⟩, ⟨134, _, _, _, rfl, KX 134 _ rfl, rfl, rfl⟩, rfl, rfl, rfl, rfl, rfl, rfl, rfl⟩, rfl, rfl, rfl, rfl⟩⟩
  have j_seti : ∃ fd, FnAt (theW w h) 149 (methAt 17 3) .none fd :=
    ⟨_, ⟨⟨⟨_, KX 149 _ rfl, rfl⟩, ⟨148, _, _, _, rfl, KX 148 _ rfl, rfl, rfl⟩, rfl, rfl, rfl, rfl, rfl, rfl, rfl⟩, rfl, rfl, rfl, rfl⟩⟩
  have j_deli : ∃ fd, FnAt (theW w h) 154 (methAt 17 4) .none fd :=
    ⟨_, ⟨⟨⟨_, KX 154 _ rfl, rfl⟩, ⟨153, _, _, _, rfl, KX 153 _ rfl, rfl, rfl⟩, rfl, rfl, rfl, rfl, rfl, rfl, rfl⟩, rfl, rfl, rfl, rfl⟩⟩
  have j_get : ∃ fd, FnAt (theW w h) 183 (methAt 17 8) (.ref 176) fd :=
    ⟨_, ⟨⟨⟨_, KX 183 _ rfl, rfl⟩, ⟨182, _, _, _, rfl, KX 182 _ rfl, rfl, rfl⟩, rfl, rfl, rfl, rfl, rfl, rfl, rfl⟩, rfl, rfl, rfl, rfl⟩⟩
  have j_items : ∃ fd, FnAt (theW w h) 200 (methAt 17 11) .none fd :=
    ⟨_, ⟨⟨⟨_, KX 200 _ rfl, rfl⟩, ⟨199, _, _, _, rfl, KX 199 _ rfl, rfl, rfl⟩, rfl, rfl, rfl, rfl, rfl, rfl, rfl⟩, rfl, rfl, rfl, rfl⟩⟩
  have j_esc : ∃ fd, FnAt (theW w h) 254 (defAt 20) .none fd :=
    ⟨_, ⟨⟨⟨_, KX 254 _ rfl, rfl⟩, ⟨253, _, _, _, rfl, KX 253 _ rfl, rfl, rfl⟩, rfl, rfl, rfl, rfl, rfl, rfl, rfl⟩, rfl, rfl, rfl, rfl⟩⟩
  have j_lnames : ∃ fd, FnAt (theW w h) 261 (defAt 22) .none fd :=
    ⟨_, ⟨⟨⟨_, KX 261 _ rfl, rfl⟩, ⟨260, _, _, _, rfl, KX 260 _ rfl, rfl, rfl⟩, rfl, rfl, rfl, rfl, rfl, rfl, rfl⟩, rfl, rfl, rfl, rfl⟩⟩
  have j_lorder : ∃ fd, FnAt (theW w h) 266 (defAt 23) .none fd :=
    ⟨_, ⟨⟨⟨_, KX 266 _ rfl, rfl⟩, ⟨265, _, _, _, rfl, KX 265 _ rfl, rfl, rfl⟩, rfl, rfl, rfl, rfl, rfl, rfl, rfl⟩, rfl, rfl, rfl, rfl⟩⟩
  have j_lround : ∃ fd, FnAt (theW w h) 273 (defAt 24) .none fd :=
    ⟨_, ⟨⟨⟨_, KX 273 _ rfl, rfl⟩, ⟨272, _, _, _, rfl, KX 272 _ rfl, rfl, rfl⟩, rfl, rfl, rfl, rfl, rfl, rfl, rfl⟩, rfl, rfl, rfl, rfl⟩⟩
  have j_lread : ∃ fd, FnAt (theW w h) 280 (defAt 25) .none fd :=
    ⟨_, ⟨⟨⟨_, KX 280 _ rfl, rfl⟩, ⟨279, _, _, _, rfl, KX 279 _ rfl, rfl, rfl⟩, rfl, rfl, rfl, rfl, rfl, rfl, rfl⟩, rfl, rfl, rfl, rfl⟩⟩
  have j_lbare : ∃ fd, FnAt (theW w h) 287 (defAt 26) .none fd :=
    ⟨_, ⟨⟨⟨_, KX 287 _ rfl, rfl⟩, ⟨286, _, _, _, rfl, KX 286 _ rfl, rfl, rfl⟩, rfl, rfl, rfl, rfl, rfl, rfl, rfl⟩, rfl, rfl, rfl, rfl⟩⟩
  have j_lcosts : ∃ fd, FnAt (theW w h) 292 (defAt 27) .none fd :=
    ⟨_, ⟨⟨⟨_, KX 292 _ rfl, rfl⟩, ⟨291, _, _, _, rfl, KX 291 _ rfl, rfl, rfl⟩, rfl, rfl, rfl, rfl, rfl, rfl, rfl⟩, rfl, rfl, rfl, rfl⟩⟩
  have j_lwritten : ∃ fd, FnAt (theW w h) 297 (defAt 28) .none fd :=
    ⟨_, ⟨⟨⟨_, KX 297 _ rfl, rfl⟩, ⟨296, _, _, _, rfl, KX 296 _ rfl, rfl, rfl⟩, rfl, rfl, rfl, rfl, rfl, rfl, rfl⟩, rfl, rfl, rfl, rfl⟩⟩
  have j_lfar : ∃ fd, FnAt (theW w h) 302 (defAt 29) .none fd :=
    ⟨_, ⟨⟨⟨_, KX 302 _ rfl, rfl⟩, ⟨301, _, _, _, rfl, KX 301 _ rfl, rfl, rfl⟩, rfl, rfl, rfl, rfl, rfl, rfl, rfl⟩, rfl, rfl, rfl, rfl⟩⟩
  have j_lways : ∃ fd, FnAt (theW w h) 307 (defAt 30) .none fd :=
    ⟨_, ⟨⟨⟨_, KX 307 _ rfl, rfl⟩, ⟨306, _, _, _, rfl, KX 306 _ rfl, rfl, rfl⟩, rfl, rfl, rfl, rfl, rfl, rfl, rfl⟩, rfl, rfl, rfl, rfl⟩⟩
  have j_llate : ∃ fd, FnAt (theW w h) 312 (defAt 31) .none fd :=
    ⟨_, ⟨⟨⟨_, KX 312 _ rfl, rfl⟩, ⟨311, _, _, _, rfl, KX 311 _ rfl, rfl, rfl⟩, rfl, rfl, rfl, rfl, rfl, rfl, rfl⟩, rfl, rfl, rfl, rfl⟩⟩
  have j_llaw : ∃ fd, FnAt (theW w h) 317 (defAt 32) .none fd :=
    ⟨_, ⟨⟨⟨_, KX 317 _ rfl, rfl⟩, ⟨316, _, _, _, rfl, KX 316 _ rfl, rfl, rfl⟩, rfl, rfl, rfl, rfl, rfl, rfl, rfl⟩, rfl, rfl, rfl, rfl⟩⟩
  have j_e75 : ErrAt (theW w h) 75 := {
    cls := ⟨_, _, _, _, _, _, _, _, _, _, _, _, _, _, _, KX 75 _ rfl, ⟨_, ⟨_, _, _, KX 74 _ rfl, rfl, strKeys_of (by kernel_rfl), fun _ => rfl⟩, by kernel_rfl, by kernel_rfl⟩⟩,
    top := ⟨_, _, _, _, _, KX 62 _ rfl, ⟨_, _, _, KX 61 _ rfl, rfl, strKeys_of (by kernel_rfl), fun _ => rfl⟩, by kernel_rfl, by kernel_rfl⟩ }
  have j_e87 : ErrAt (theW w h) 87 := {
    cls := ⟨_, _, _, _, _, _, _, _, _, _, _, _, _, _, _, KX 87 _ rfl, ⟨_, ⟨_, _, _, KX 86 _ rfl, rfl, strKeys_of (by kernel_rfl), fun _ => rfl⟩, by kernel_rfl, by kernel_rfl⟩⟩,
    top := ⟨_, _, _, _, _, KX 62 _ rfl, ⟨_, _, _, KX 61 _ rfl, rfl, strKeys_of (by kernel_rfl), fun _ => rfl⟩, by kernel_rfl, by kernel_rfl⟩ }
  have j_hd : HdAt (theW w h) := {
    cls := ⟨_, _, _, _, _, _, _, _, _, _, _, _, KX 236 _ rfl⟩,
    ns := ⟨_, ⟨_, _, _, KX 235 _ rfl, rfl, strKeys_of (by kernel_rfl), fun _ => rfl⟩, ⟨by kernel_rfl, by kernel_rfl, by kernel_rfl, by kernel_rfl, by kernel_rfl, by kernel_rfl⟩, by kernel_rfl, by kernel_rfl, by kernel_rfl, by kernel_rfl⟩,
    fns := by
      intro f hf
      simp only [List.mem_cons, List.not_mem_nil, or_false] at hf
      rcases hf with rfl | rfl | rfl | rfl | rfl | rfl
      · exact ⟨_, _, KX 128 _ rfl, rfl, rfl⟩
      · exact ⟨_, _, KX 135 _ rfl, rfl, rfl⟩
      · exact ⟨_, _, KX 149 _ rfl, rfl, rfl⟩
      · exact ⟨_, _, KX 154 _ rfl, rfl, rfl⟩
      · exact ⟨_, _, KX 183 _ rfl, rfl, rfl⟩
      · exact ⟨_, _, KX 200 _ rfl, rfl, rfl⟩ }
  have j_rn : PatAt (theW w h) 108 setN := {
    code := ⟨codeN, 11, 107, _, _, _, _, _, _, patN, KX 108 _ rfl, rfl, rfl, rfl, KX 107 _ rfl, by kernel_rfl⟩ }
  have j_rv : PatAt (theW w h) 113 setV := {
    code := ⟨codeV, 15, 112, _, _, _, _, _, _, patV, KX 113 _ rfl, rfl, rfl, rfl, KX 112 _ rfl, by kernel_rfl⟩ }
  have j_d121 : IsTup (theW w h).base 121 #[.none] := ⟨_, KX 121 _ rfl, rfl, _, rfl⟩
  have j_d176 : IsTup (theW w h).base 176 #[.none] := ⟨_, KX 176 _ rfl, rfl, _, rfl⟩
  have j_top : TopA (theW w h) := {
    gt := rfl,
    f45 := j_f45,
    f52 := j_f52,
    p229 := j_p229,
    p257 := j_p257,
    init := j_init,
    conv := j_conv,
    seti := j_seti,
    deli := j_deli,
    get := j_get,
    items := j_items,
    esc := j_esc,
    lnames := j_lnames,
    lorder := j_lorder,
    lround := j_lround,
    lread := j_lread,
    lbare := j_lbare,
    lcosts := j_lcosts,
    lwritten := j_lwritten,
    lfar := j_lfar,
    lways := j_lways,
    llate := j_llate,
    e75 := j_e75,
    e87 := j_e87,
    hd := j_hd,
    rn := j_rn,
    rv := j_rv,
    d121 := j_d121,
    d176 := j_d176 }
  subst hh
  have hok : (theW w s₁.heap).Ok mg mb := ⟨T.g, T.b, T.nolimit, T.nodigits, gt_ok KX T.g T.builtins (by kernel_rfl) (by kernel_rfl)⟩
  obtain ⟨fd, F⟩ := j_llaw
  refine codeAny_mono (j_call j_top F hok (by assumption) (by omega)) ?_
  rintro r s' ⟨rfl, hk, hos, hgn⟩
  refine GoodW.toG ⟨.inl ⟨_, .bool true, [], rfl, fun _ => by rfl, .bool true, ?_, unshared_nil⟩, hk, hos, hgn.trans hg⟩
  wrow_post
end Mine
theorem PySem.Challenge.cw_wo0078_01_holds : PySem.Challenge.rw_wo0078_01.Holds :=
  Mine.hx

