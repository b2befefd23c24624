import PyProof.Rows.All
import Wide.All
import OpenK.AllK
import Wide.FinOn
import PyProof.Rows.StrBin
import PyProof.StrBlockL
import KE.KSortTup
import OpenK.KRaise
import Lean
import PySem.Challenge.RW_un0027_01
set_option Elab.async false
set_option bootstrap.genMatcherCode false
set_option genSizeOf false
set_option genInjectivity false
set_option genCtorIdx false
section
open PySem PySem.W PyProof.Rows
namespace Mine.Internal
set_option linter.unusedVariables false

/-- the heap never shrinks -/
theorem runs_size {M : Model} {Γ : Ctx} {p : Pos} {t : Sem Fin} {fs : List Frame} {s s' : Shared} {e : End} (h : Runs M Γ p t fs s e s') : s.heap.objs.size ≤ s'.heap.objs.size := by
  induction h <;> (try simp only [Shared.setGen, Heap.size_push, Heap.size_after_update] at *) <;> omega
theorem wakes_size {M : Model} {Γ : Ctx} {p : Pos} {g : Nat} {r : Resume} {s s' : Shared} {res : GenResult} (h : Wakes M Γ p g r s res s') : s.heap.objs.size ≤ s'.heap.objs.size := by
  unfold Wakes at h
  split at h
  · exact h.elim
  · split at h
    · obtain ⟨e, s1, hr, _, _, rfl⟩ := h; exact (runs_size hr : (s.setGen g .running).heap.objs.size ≤ s1.heap.objs.size)
    · rw [h.2]; exact Nat.le_refl _
    · rw [h.2]; exact Nat.le_refl _
  · obtain ⟨e, s1, hr, _, _, rfl⟩ := h; exact (runs_size hr : (s.setGen g .running).heap.objs.size ≤ s1.heap.objs.size)
  · rw [h.2]; exact Nat.le_refl _
  · rw [h.2]; exact Nat.le_refl _
theorem wp_size {α : Type} (M : Model) (Γ : Ctx) (n : Nat) (t : Sem α) : ∀ (Q : α → Pos → Shared → Prop) (E : Value → Pos → Shared → Prop) (p : Pos) (s : Shared), n ≤ s.heap.objs.size → Sem.wp M Γ t Q E p s →
    Sem.wp M Γ t (fun a p' s' => n ≤ s'.heap.objs.size ∧ Q a p' s') (fun e p' s' => n ≤ s'.heap.objs.size ∧ E e p' s') p s := by
  induction t with
  | pure a => intro Q E p s hn h; exact ⟨hn, h⟩
  | raise e => intro Q E p s hn h; exact ⟨hn, h⟩
  | load a _ k ih => intro Q E p s hn h; obtain ⟨o, ho, h⟩ := h; exact ⟨o, ho, ih o Q E p s hn h⟩
  | update a _ f k ih => intro Q E p s hn h; exact ⟨h.1, ih () Q E p _ (by simpa using hn) h.2⟩
  | alloc o k ih => intro Q E p s hn h; exact ih _ Q E p _ (by simp; lia) h
  | «at» p' k ih => intro Q E p s hn h; exact ih () Q E p' s hn h
  | choose src m k ih => intro Q E p s hn h; exact ⟨h.1, ih _ Q E p _ hn h.2⟩
  | call c hd _ _ k ih => intro Q E p s hn h; obtain ⟨r, s', hr, h⟩ := h; exact ⟨r, s', hr, ih r Q E p s' (Nat.le_trans hn (runs_size hr)) h⟩
  | genState g k ih => intro Q E p s hn h; obtain ⟨st, hs, h⟩ := h; exact ⟨st, hs, ih _ Q E p s hn h⟩
  | resume g r _ k ih => intro Q E p s hn h; obtain ⟨res, s', hw, h⟩ := h; exact ⟨res, s', hw, ih res Q E p s' (Nat.le_trans hn (wakes_size hw)) h⟩
  | unsupported => intro Q E p s _ h; exact h
  | finish => intro Q E p s _ h; exact h
  | register => intro Q E p s _ h; exact h
  | yield => intro Q E p s _ h; exact h
  | fork => intro Q E p s _ h; exact h
  | await => intro Q E p s _ h; exact h
  | rule _ k ih => intro Q E p s hn h; exact ih _ Q E p s hn h
  | loadIfAlive _ k ih => intro Q E p s hn h; exact ih _ Q E p s hn h
  | point _ k ih => intro Q E p s hn h; exact ih _ Q E p s hn h
  | fresh k ih => intro Q E p s hn h; exact ih _ Q E p _ hn h
  | ask k ih => intro Q E p s hn h; exact ih _ Q E p s hn h
  | os q _ k ih => intro Q E p s hn h; exact ih _ Q E p _ hn h
  | handled own k ih => intro Q E p s hn h; exact ih _ Q E p s hn h
  | newGen c k ih => intro Q E p s hn h; exact ih _ Q E p _ hn h
  | stack k ih => intro Q E p s hn h; exact ih _ Q E p s hn h
  | thread k ih => intro Q E p s hn h; exact ih _ Q E p s hn h

theorem wpAny_with_size {α : Type} {M : Model} {A : Around} {s : Shared} {t : Sem α} {Q : α → Shared → Prop} {E : Value → Shared → Prop}
    (h : wpAny M A t (fun a s' => s.heap.objs.size ≤ s'.heap.objs.size → Q a s') E s) : wpAny M A t Q E s := fun Γ p hΓ =>
  Sem.wp_mono M Γ t (fun _ _ _ x => x.2 x.1) (fun _ _ _ x => x.2) p s (wp_size M Γ _ t _ _ p s (Nat.le_refl _) (h Γ p hΓ))
end Mine.Internal
end
section
namespace Mine.Internal
open PySem
set_option genCtorIdx false

set_option genCtorIdx true in
inductive Prim where
  | len | range | reversed | iter | next | enumerate | zip | sorted | max | sum | hex
  deriving DecidableEq

set_option genCtorIdx true in
inductive Meth where
  | append | pop | extend | sort | join | split | get
  deriving DecidableEq

inductive Fn where
  | user (k : Nat)
  | prim (p : Prim)
  | flags

inductive PV where
  | none
  | bool (b : Bool)
  | int (i : Int)
  | str (s : Str)
  | tup (xs : List PV)
  | ref (i : Nat)
  | fn (f : Fn)

inductive PO where
  | list (xs : List PV)
  | ro (xs : List PV)
  | range (a b c : Int)
  | rangeIter (x left step : Int)
  | listIter (l i : Nat)
  | tupIter (xs : List PV) (i : Nat)
  | enum (it : Nat) (i : Nat)
  | zip (a b : Nat)
  | dead

set_option genCtorIdx true in
inductive Op where
  | add | sub | mul | fdiv | mod | shl | shr | band | bor | bxor
set_option genCtorIdx true in
inductive COp where
  | eq | ne | lt | le | gt | ge | is | isin | notin

inductive Tgt where
  | v (k : Nat)
  | tup (ks : List Nat)

mutual
inductive IE where
  | const (c : PV)
  | var (k : Nat)
  | bin (op : Op) (a b : IE)
  | neg (a : IE)
  | cmp (op : COp) (a b : IE)
  | list (es : List IE)
  | tup (es : List IE)
  | idx (a i : IE)
  | slice (a : IE) (lo hi : Option IE)
  | call (f : IE) (es : List IE)
  | meth (m : Meth) (a : IE) (es : List IE)
  | comp (elt : IE) (gs : List IGen) (m : Nat)
  | ife (t : IT) (a b : IE)
  | bad
inductive IT where
  | e (x : IE)
  | not (t : IT)
  | and (a b : IT)
  | or (a b : IT)
inductive IGen where
  | mk (t : Tgt) (iter : IE) (ifs : List IT)
end

inductive IS where
  | expr (e : IE)
  | asg (t : Tgt) (e : IE)
  | asgIdx (a i e : IE)
  | aug (k : Nat) (op : Op) (e : IE)
  | ife (t : IT) (b o : List IS)
  | whl (t : IT) (b : List IS)
  | fr (t : Tgt) (e : IE) (b o : List IS)
  | ret (e : IE)
  | brk
  | cont
  | pass
  | try (b o : List IS)
  | rd (kt kn : Nat)
  | bad

structure St where
  sl : List (Option PV)
  ob : List PO

inductive FnI where
  | code (np : Nat) (ns : Nat) (dflts : List PV) (body : List IS)
  | spec (F : List PV → List PO → Option (PV × List PO))

inductive Flow where
  | next | brk | cont | ret (v : PV)

noncomputable def Fn.ctorIdx (x : Fn) : Nat := @Fn.casesOn (fun _ => Nat) x (fun _ => 0) (fun _ => 1) 2
noncomputable def PV.ctorIdx (x : PV) : Nat := @PV.casesOn (fun _ => Nat) x 0 (fun _ => 1) (fun _ => 2) (fun _ => 3) (fun _ => 4) (fun _ => 5) (fun _ => 6)
noncomputable def PO.ctorIdx (x : PO) : Nat := @PO.casesOn (fun _ => Nat) x (fun _ => 0) (fun _ => 1) (fun _ _ _ => 2) (fun _ _ _ => 3) (fun _ _ => 4) (fun _ _ => 5) (fun _ _ => 6) (fun _ _ => 7) 8
noncomputable def Tgt.ctorIdx (x : Tgt) : Nat := @Tgt.casesOn (fun _ => Nat) x (fun _ => 0) (fun _ => 1)
noncomputable def IT.ctorIdx (x : IT) : Nat := @IT.casesOn (fun _ => Nat) x (fun _ => 0) (fun _ => 1) (fun _ _ => 2) (fun _ _ => 3)
noncomputable def IE.ctorIdx (x : IE) : Nat := @IE.casesOn (fun _ => Nat) x (fun _ => 0) (fun _ => 1) (fun _ _ _ => 2) (fun _ => 3) (fun _ _ _ => 4) (fun _ => 5) (fun _ => 6) (fun _ _ => 7) (fun _ _ _ => 8) (fun _ _ => 9) (fun _ _ _ => 10) (fun _ _ _ => 11) (fun _ _ _ => 12) 13
noncomputable def IS.ctorIdx (x : IS) : Nat := @IS.casesOn (fun _ => Nat) x (fun _ => 0) (fun _ _ => 1) (fun _ _ _ => 2) (fun _ _ _ => 3) (fun _ _ _ => 4) (fun _ _ => 5) (fun _ _ _ _ => 6) (fun _ => 7) 8 9 10 (fun _ _ => 11) (fun _ _ => 12) 13
noncomputable def FnI.ctorIdx (x : FnI) : Nat := @FnI.casesOn (fun _ => Nat) x (fun _ _ _ _ => 0) (fun _ => 1)
noncomputable def Flow.ctorIdx (x : Flow) : Nat := @Flow.casesOn (fun _ => Nat) x 0 1 2 (fun _ => 3)

/-! values -/
mutual
noncomputable def okV (n : Nat) : PV → Bool
  | .ref i => Nat.blt i n
  | .tup xs => okVs n xs
  | _ => true
noncomputable def okVs (n : Nat) : List PV → Bool
  | [] => true
  | x :: r => okV n x && okVs n r
end
noncomputable def okS (n : Nat) : Option PV → Bool
  | some v => okV n v
  | none => true
noncomputable def okSs (n : Nat) : List (Option PV) → Bool
  | [] => true
  | x :: r => okS n x && okSs n r
noncomputable def okO (n : Nat) : PO → Bool
  | .list xs => okVs n xs
  | .ro xs => okVs n xs
  | .listIter l _ => Nat.blt l n
  | .tupIter xs _ => okVs n xs
  | .enum it _ => Nat.blt it n
  | .zip _ _ => false
  | _ => true
noncomputable def okOs (n : Nat) : List PO → Bool
  | [] => true
  | x :: r => okO n x && okOs n r

noncomputable def gc (n : Nat) (st : St) : St :=
  match okSs n st.sl && okOs n (st.ob.take n) with
  | true => ⟨st.sl, st.ob.take n⟩
  | false => st

noncomputable def push (st : St) (o : PO) : PV × St := (.ref st.ob.length, ⟨st.sl, st.ob ++ [o]⟩)
noncomputable def setO (st : St) (i : Nat) (o : PO) : St := ⟨st.sl, st.ob.set i o⟩
noncomputable def setS (st : St) (k : Nat) (v : PV) : Option St := match Nat.blt k st.sl.length with
  | true => some ⟨st.sl.set k (some v), st.ob⟩
  | false => none
noncomputable def items (st : St) (i : Nat) : Option (List PV) := match st.ob[i]? with
  | some (.list xs) => some xs
  | some (.ro xs) => some xs
  | _ => none

noncomputable def big : Int := 4611686018427387904
noncomputable def fits (i : Int) : Bool := decide (-big < i) && decide (i < big)
noncomputable def mkI (i : Int) : Option PV := match fits i with
  | true => some (.int i)
  | false => none
noncomputable def room : Nat := 4096

/-! arguments, taken apart -/
noncomputable def asR : PV → Option Nat
  | .ref i => some i
  | _ => none
noncomputable def asI : PV → Option Int
  | .int i => some i
  | _ => none
noncomputable def asS : PV → Option Str
  | .str s => some s
  | _ => none
noncomputable def asT : PV → Option (List PV)
  | .tup xs => some xs
  | _ => none
noncomputable def asN : PV → Option Unit
  | .none => some ()
  | _ => none

noncomputable def intOp (op : Op) (a b : Int) : Option Int := match op with
  | .add => some (a + b)
  | .sub => some (a - b)
  | .mul => if fits a then some (a * b) else none
  | .fdiv => if b = 0 ∨ ¬ (b.natAbs < 1073741824) then none else some (Int.fdiv a b)
  | .mod => if b = 0 then none else some (Int.fmod a b)
  | .shl => if fits a ∧ 0 ≤ a ∧ 0 ≤ b ∧ b < 64 then some (a * ((2 ^ b.toNat : Nat) : Int)) else none
  | .shr => if 0 ≤ a ∧ 0 ≤ b ∧ b < 64 then some (Int.fdiv a ((2 ^ b.toNat : Nat) : Int)) else none
  | .band => if 0 ≤ a ∧ 0 ≤ b then some (((a.toNat &&& b.toNat : Nat)) : Int) else none
  | .bor => if 0 ≤ a ∧ 0 ≤ b then some (((a.toNat ||| b.toNat : Nat)) : Int) else none
  | .bxor => if 0 ≤ a ∧ 0 ≤ b then some ((((a.toNat ||| b.toNat : Nat)) : Int) - (((a.toNat &&& b.toNat : Nat)) : Int)) else none

noncomputable def binS (op : Op) (x y : Str) (st : St) : Option (PV × St) := match op with
  | .add => if x.cps.size + y.cps.size ≤ room then some (.str (x ++ y), st) else none
  | _ => none
noncomputable def binL (op : Op) (i j : Nat) (st : St) : Option (PV × St) := match op with
  | .add => do
    let xs ← items st i
    let ys ← items st j
    if xs.length + ys.length ≤ room then some (push st (.list (xs ++ ys))) else none
  | _ => none
noncomputable def binop (op : Op) (a b : PV) (st : St) : Option (PV × St) := match a with
  | .int x => do
    let y ← asI b
    let r ← intOp op x y
    let v ← mkI r
    some (v, st)
  | .str x => do
    let y ← asS b
    binS op x y st
  | .ref i => do
    let j ← asR b
    binL op i j st
  | _ => none

noncomputable def strEq (a b : Str) : Bool := decide (a = b)
noncomputable def intsOf : List PV → Option (List Int)
  | [] => some []
  | .int i :: r => do
    let xs ← intsOf r
    return i :: xs
  | _ => none
noncomputable def strsOf : List PV → Option (List Str)
  | [] => some []
  | .str s :: r => do
    let xs ← strsOf r
    return s :: xs
  | _ => none
noncomputable def inI (k : Int) : List Int → Bool
  | [] => false
  | x :: r => decide (k = x) || inI k r
noncomputable def inS (k : Str) : List Str → Bool
  | [] => false
  | x :: r => decide (k = x) || inS k r
noncomputable def okStrs : List Str → Bool
  | [] => true
  | s :: r => s.cps.all (fun c => decide (c < 1114112)) && okStrs r
noncomputable def neVs (xs ys : List PV) : Option Bool := match intsOf xs, intsOf ys with
  | some a, some b => some (!decide (a = b))
  | _, _ => match strsOf xs, strsOf ys with
    | some a, some b => if okStrs a && okStrs b then some (!decide (a = b)) else none
    | _, _ => none
noncomputable def memV (x : PV) (ys : List PV) : Option Bool := match x with
  | .int k => (intsOf ys).map (inI k)
  | .str k => (strsOf ys).map (inS k)
  | _ => none
noncomputable def asP : List PV → Option (Int × Int)
  | x :: r => do
    let a ← asI x
    match r with
    | [] => none
    | y :: r => do
      let b ← asI y
      match r with
      | [] => some (a, b)
      | _ :: _ => none
  | [] => none
noncomputable def pairLt (xs ys : List PV) : Option Bool := do
  let p ← asP xs
  let q ← asP ys
  some (decide (p.1 < q.1) || (decide (p.1 = q.1) && decide (p.2 < q.2)))

noncomputable def cmpI (op : COp) (x y : Int) : Option Bool := match op with
  | .eq => some (decide (x = y))
  | .ne => some (!decide (x = y))
  | .lt => some (decide (x < y))
  | .le => some (decide (x ≤ y))
  | .gt => some (decide (y < x))
  | .ge => some (decide (y ≤ x))
  | _ => none
noncomputable def cmpS (op : COp) (x y : Str) : Option Bool := match op with
  | .eq => some (strEq x y)
  | .ne => some (!strEq x y)
  | _ => none
noncomputable def cmpT (op : COp) (xs ys : List PV) : Option Bool := match op with
  | .lt => pairLt xs ys
  | _ => none
noncomputable def cmpN (op : COp) : Option Bool := match op with
  | .is => some true
  | _ => none
noncomputable def cmpL (op : COp) (i j : Nat) (st : St) : Option Bool := match op with
  | .ne => do
    let xs ← items st i
    let ys ← items st j
    if xs.length ≤ room ∧ ys.length ≤ room then neVs xs ys else none
  | _ => none
noncomputable def cmpG (op : COp) (a b : PV) (st : St) : Option Bool := match a with
  | .int x => do
    let y ← asI b
    cmpI op x y
  | .str x => do
    let y ← asS b
    cmpS op x y
  | .tup xs => do
    let ys ← asT b
    cmpT op xs ys
  | .none => do
    let _ ← asN b
    cmpN op
  | .ref i => do
    let j ← asR b
    cmpL op i j st
  | _ => none
noncomputable def cmpop (op : COp) (a b : PV) (st : St) : Option Bool := match op with
  | .isin => do
    let j ← asR b
    let ys ← items st j
    memV a ys
  | .notin => do
    let j ← asR b
    let ys ← items st j
    let b ← memV a ys
    some (!b)
  | _ => cmpG op a b st

noncomputable def truthV (v : PV) (st : St) : Option Bool := match v with
  | .bool b => some b
  | .int i => some (!decide (i = 0))
  | .ref i => do
    let xs ← items st i
    if xs.length ≤ room then return !xs.isEmpty else none
  | _ => none

noncomputable def idxop (a i : PV) (st : St) : Option (PV × St) := do
  let k ← asI i
  if 0 ≤ k ∧ k < big then (match a with
    | .ref l => do
      let xs ← items st l
      let x ← xs[k.toNat]?
      some (x, st)
    | .tup xs => do
      let x ← xs[k.toNat]?
      some (x, st)
    | .str s => do
      let c ← s.cps[k.toNat]?
      some (.str ⟨#[c]⟩, st)
    | _ => none) else none

/-- where a slice begins and ends -/
noncomputable def clamp (n : Nat) (d : Nat) : Option PV → Option Nat
  | none => some d
  | some (.int k) => if 0 ≤ k then some (min k.toNat n) else some (n - (-k).toNat)
  | _ => none
noncomputable def sliceop (a : PV) (lo hi : Option PV) (st : St) : Option (PV × St) := match a with
  | .ref l => do
    let xs ← items st l
    let i ← clamp xs.length 0 lo
    let j ← clamp xs.length xs.length hi
    if xs.length ≤ room then some (push st (.list ((xs.take j).drop i))) else none
  | .str s => do
    let i ← clamp s.cps.size 0 lo
    let j ← clamp s.cps.size s.cps.size hi
    if s.cps.size ≤ room then some (.str ⟨((s.cps.toList.take j).drop i).toArray⟩, st) else none
  | _ => none

noncomputable def rangeLen (a b c : Int) : Int :=
  if 0 < c then (if a < b then (b - a - 1) / c + 1 else 0)
  else (if b < a then (a - b - 1) / (-c) + 1 else 0)

noncomputable def iterP (i : Nat) (st : St) : PO → Option (Nat × St)
  | .list _ => some (st.ob.length, ⟨st.sl, st.ob ++ [.listIter i 0]⟩)
  | .ro _ => some (st.ob.length, ⟨st.sl, st.ob ++ [.listIter i 0]⟩)
  | .range a b c => some (st.ob.length, ⟨st.sl, st.ob ++ [.rangeIter a (rangeLen a b c) c]⟩)
  | .listIter _ _ => some (i, st)
  | .rangeIter _ _ _ => some (i, st)
  | .enum _ _ => some (i, st)
  | .zip _ _ => some (i, st)
  | .tupIter _ _ => none
  | .dead => none
noncomputable def iterI (v : PV) (st : St) : Option (Nat × St) := match v with
  | .ref i => st.ob[i]? >>= iterP i st
  | .tup xs => some (st.ob.length, ⟨st.sl, st.ob ++ [.tupIter xs 0]⟩)
  | _ => none

/-- next of a plain iterator -/
noncomputable def nx (a b : St) : Option PV → Option PV × St
  | some x => (some x, a)
  | none => (none, b)
noncomputable def next1P (it : Nat) (st : St) : PO → Option (Option PV × St)
  | .listIter l i => do
    let xs ← items st l
    some (nx (setO st it (.listIter l (i + 1))) (setO st it .dead) xs[i]?)
  | .tupIter xs i => some (nx (setO st it (.tupIter xs (i + 1))) (setO st it .dead) xs[i]?)
  | .rangeIter x left step => some (if 0 < left then (some (.int x), setO st it (.rangeIter (x + step) (left - 1) step)) else (none, setO st it .dead))
  | _ => none
noncomputable def next1 (it : Nat) (st : St) : Option (Option PV × St) := st.ob[it]? >>= next1P it st
noncomputable def Tgt.isTup : Tgt → Bool
  | .tup _ => true
  | .v _ => false
noncomputable def PO.isZip : PO → Bool
  | .zip _ _ => true
  | _ => false
noncomputable def onlyZip (it : Nat) : Nat → List PO → Bool
  | _, [] => true
  | k, o :: r => (Nat.beq k it || !o.isZip) && onlyZip it (k + 1) r
noncomputable def lenOk (i : Nat) : Option (List PV) → Bool
  | some xs => Nat.ble i xs.length
  | none => false
noncomputable def enumP (i : Nat) (st : St) : Option PO → Bool
  | some (.listIter l j) => Nat.beq i j && lenOk i (items st l)
  | some (.tupIter xs j) => Nat.beq i j && Nat.ble i xs.length
  | _ => false
noncomputable def enumOut (it it' i : Nat) (st1 : St) : Option PV → Option PV × St
  | some x => (some (.tup [.int i, x]), setO st1 it (.enum it' (i + 1)))
  | none => (none, setO st1 it .dead)
noncomputable def asRangeIter : Option PO → Option (Int × Int × Int)
  | some (.rangeIter x left step) => some (x, left, step)
  | _ => none
noncomputable def asListIter : Option PO → Option (Nat × Nat)
  | some (.listIter l k) => some (l, k)
  | _ => none
noncomputable def zipNext (it a b : Nat) (st : St) : Option (Option PV × St) := do
  let p ← asRangeIter st.ob[a]?
  let q ← asListIter st.ob[b]?
  let ys ← items st q.1
  if 0 < p.2.1 then (do
    let y ← ys[q.2]?
    some (some (.tup [.int p.1, y]), setO (setO st a (.rangeIter (p.1 + p.2.2) (p.2.1 - 1) p.2.2)) b (.listIter q.1 (q.2 + 1))))
  else some (none, setO (setO st a .dead) it .dead)
noncomputable def enumNext (it it' i : Nat) (st : St) : Bool → Option (Option PV × St)
  | true => do
    let p ← next1 it' st
    some (enumOut it it' i p.2 p.1)
  | false => none
noncomputable def zipNext1 (it a b : Nat) (st : St) : Bool → Option (Option PV × St)
  | true => zipNext it a b st
  | false => none
noncomputable def nextP (t : Tgt) (it : Nat) (st : St) : PO → Option (Option PV × St)
  | .enum it' i => enumNext it it' i st (t.isTup && enumP i st st.ob[it']?)
  | .zip a b => zipNext1 it a b st (t.isTup && onlyZip it 0 st.ob)
  | .listIter l i => next1P it st (.listIter l i)
  | .tupIter xs i => next1P it st (.tupIter xs i)
  | .rangeIter x left step => next1P it st (.rangeIter x left step)
  | _ => none
/-- next of an iterator, for a target: enumerate and zip hand out tuples that are unpacked at once -/
noncomputable def nextI (t : Tgt) (it : Nat) (st : St) : Option (Option PV × St) := st.ob[it]? >>= nextP t it st

noncomputable def maxL : Int → List Int → Int
  | m, [] => m
  | m, x :: r => maxL (if m < x then x else m) r
noncomputable def ltCodes : List Nat → List Nat → Bool
  | _, [] => false
  | [], _ :: _ => true
  | x :: xs, y :: ys => Nat.blt x y || (Nat.beq x y && ltCodes xs ys)
noncomputable def insStr (s : Str) : List Str → List Str
  | [] => [s]
  | t :: r => match ltCodes t.cps.toList s.cps.toList with
    | true => t :: insStr s r
    | false => s :: t :: r
noncomputable def sortStrs : List Str → List Str
  | [] => []
  | s :: r => insStr s (sortStrs r)
noncomputable def hexS (i : Int) : Option Str := if 0 ≤ i ∧ i < 4294967296 then some (baseText "0x" 16 i) else none

noncomputable def rangeFits (a b c : Int) : Bool := fits a && fits b && !decide (c = 0) && decide (-1024 < c) && decide (c < 1024)

noncomputable def arg0 : List PV → Option Unit
  | [] => some ()
  | _ => none
noncomputable def arg1 : List PV → Option PV
  | [v] => some v
  | _ => none
noncomputable def asRange : Option PO → Option (Int × Int × Int)
  | some (.range a b c) => some (a, b, c)
  | _ => none
noncomputable def asList : Option PO → Option (List PV)
  | some (.list xs) => some xs
  | _ => none
noncomputable def consI : List Int → Option (Int × List Int)
  | [] => none
  | m :: r => some (m, r)
noncomputable def mkRange (a b c : Int) (st : St) : Option (PV × St) := if rangeFits a b c then some (push st (.range a b c)) else none
noncomputable def pRange (vs : List PV) (st : St) : Option (PV × St) := match vs with
  | [] => none
  | x :: r => match r with
    | [] => do
      let b ← asI x
      mkRange 0 b 1 st
    | y :: r => match r with
      | [] => do
        let a ← asI x
        let b ← asI y
        mkRange a b 1 st
      | z :: r => match r with
        | [] => do
          let a ← asI x
          let b ← asI y
          let c ← asI z
          mkRange a b c st
        | _ :: _ => none
noncomputable def pZip (vs : List PV) (st : St) : Option (PV × St) := match vs with
  | [] => none
  | v :: r => do
    let u ← arg1 r
    let (a, st1) ← iterI v st
    let (b, st2) ← iterI u st1
    if a = b then none else some (.ref st2.ob.length, ⟨st2.sl, st2.ob ++ [.zip a b, .dead]⟩)
noncomputable def primop (p : Prim) (vs : List PV) (st : St) : Option (PV × St) := match p with
  | .len => do
    let v ← arg1 vs
    let l ← asR v
    let xs ← items st l
    if xs.length ≤ room then some (.int xs.length, st) else none
  | .range => pRange vs st
  | .reversed => do
    let v ← arg1 vs
    let r ← asR v
    let q ← asRange st.ob[r]?
    some (push st (.rangeIter (q.1 + (rangeLen q.1 q.2.1 q.2.2 - 1) * q.2.2) (rangeLen q.1 q.2.1 q.2.2) (-q.2.2)))
  | .iter => do
    let v ← arg1 vs
    let (it, st1) ← iterI v st
    some (.ref it, st1)
  | .next => do
    let v ← arg1 vs
    let i ← asR v
    let q ← asListIter st.ob[i]?
    let xs ← items st q.1
    let x ← xs[q.2]?
    some (x, setO st i (.listIter q.1 (q.2 + 1)))
  | .enumerate => do
    let v ← arg1 vs
    let (it, st1) ← iterI v st
    some (push st1 (.enum it 0))
  | .zip => pZip vs st
  | .sorted => do
    let v ← arg1 vs
    let l ← asR v
    let xs ← items st l
    let ss ← strsOf xs
    if ss.length < 64 then some (push st (.list ((sortStrs ss).map .str))) else none
  | .max => do
    let v ← arg1 vs
    let l ← asR v
    let xs ← items st l
    let ns ← intsOf xs
    let q ← consI ns
    some (.int (maxL q.1 q.2), st)
  | .sum => do
    let v ← arg1 vs
    let l ← asR v
    let xs ← items st l
    let ns ← intsOf xs
    if ns.length ≤ room ∧ ns.all (fun x => decide (-4294967296 < x) && decide (x < 4294967296)) then some (.int ns.sum, st) else none
  | .hex => do
    let v ← arg1 vs
    let i ← asI v
    let s ← hexS i
    some (.str s, st)
end Mine.Internal
end
section
namespace Mine.Internal
open PySem

noncomputable def pairP (v : PV) : Option (Int × Int) := do
  let xs ← asT v
  asP xs
noncomputable def ltP (p q : Int × Int) : Bool := decide (p.1 < q.1) || (decide (p.1 = q.1) && decide (p.2 < q.2))
noncomputable def cmpP (xs : List PV) (i j : Nat) : Option Bool := do
  let x ← xs[i]?
  let y ← xs[j]?
  let p ← pairP x
  let q ← pairP y
  return ltP p q
noncomputable def runT {α : Type} (cmp : Nat → Nat → Option Bool) : PySem.W.KasT α → Option α
  | .ret a => some a
  | .ask i j k => match cmp i j with
    | some true => runT cmp (k true)
    | some false => runT cmp (k false)
    | none => none
noncomputable def mapO {α β : Type} (f : α → Option β) : List α → Option (List β)
  | [] => some []
  | x :: r => do
    let y ← f x
    let ys ← mapO f r
    return y :: ys
/-- pairs of ints, in order: the sort's own questions -/
noncomputable def sortPs (xs : List PV) : Option (List PV) := do
  let _ ← mapO pairP xs
  let p ← runT (cmpP xs) (PySem.W.kas_sort xs.length)
  mapO (fun i => xs[i]?) p.toList

noncomputable def flagNames : List (Int × Str) := [(1, "OPTIMIZED"), (2, "NEWLOCALS"), (4, "VARARGS"), (8, "VARKEYWORDS"), (16, "NESTED"), (32, "GENERATOR"), (64, "NOFREE"), (128, "COROUTINE"), (256, "ITERABLE_COROUTINE"), (512, "ASYNC_GENERATOR")]
noncomputable def lookI (k : Int) : List (Int × Str) → Option Str
  | [] => none
  | p :: r => if p.1 = k then some p.2 else lookI k r

noncomputable def asFlags : PV → Option Unit
  | .fn .flags => some ()
  | _ => none
noncomputable def unsnoc (xs : List PV) : Option (PV × List PV) := match xs.reverse with
  | x :: r => some (x, r.reverse)
  | [] => none
noncomputable def mGet (k : Int) (z : Str) (st : St) : Option (PV × St) := match lookI k flagNames with
  | some s => some (.str s, st)
  | none => some (.str z, st)
noncomputable def methop (m : Meth) (o : PV) (vs : List PV) (st : St) : Option (PV × St) := match m with
  | .append => do
    let l ← asR o
    let v ← arg1 vs
    let xs ← asList st.ob[l]?
    if xs.length ≤ room then some (.none, setO st l (.list (xs ++ [v]))) else none
  | .pop => do
    let l ← asR o
    let _ ← arg0 vs
    let xs ← asList st.ob[l]?
    let q ← unsnoc xs
    if xs.length ≤ room then some (q.1, setO st l (.list q.2)) else none
  | .extend => do
    let l ← asR o
    let v ← arg1 vs
    let k ← asR v
    let xs ← asList st.ob[l]?
    let ys ← asList st.ob[k]?
    if xs.length + ys.length ≤ room ∧ l ≠ k then some (.none, setO st l (.list (xs ++ ys))) else none
  | .sort => do
    let l ← asR o
    let _ ← arg0 vs
    let xs ← asList st.ob[l]?
    if 2 ≤ xs.length ∧ xs.length < 64 then (do
      let ys ← sortPs xs
      some (.none, setO st l (.list ys))) else none
  | .join => do
    let s ← asS o
    let v ← arg1 vs
    let l ← asR v
    let xs ← items st l
    let ss ← strsOf xs
    if ss.length ≤ 64 ∧ ss.all (fun x => decide (x.cps.size ≤ room)) ∧ s.cps.size ≤ room then some (.str (Txt.join s ss), st) else none
  | .split => do
    let s ← asS o
    let v ← arg1 vs
    let t ← asS v
    if s.cps.size ≤ room ∧ t.cps.size ≠ 0 then some (push st (.list ((Txt.split s t).map .str))) else none
  | .get => do
    let _ ← asFlags o
    match vs with
    | [] => none
    | x :: r => do
      let y ← arg1 r
      let k ← asI x
      let z ← asS y
      mGet k z st

/-! references handed to a def of the text's own -/
noncomputable def addNew (i : Nat) (ids : List Nat) : List Nat := if ids.any (Nat.beq i) then ids else ids ++ [i]
noncomputable def refsIn : List PV → List Nat → List Nat
  | [], ids => ids
  | .ref i :: r, ids => refsIn r (addNew i ids)
  | _ :: r, ids => refsIn r ids
noncomputable def place (i : Nat) : List Nat → Option Nat
  | [] => none
  | j :: r => match Nat.beq i j with
    | true => some 0
    | false => (place i r).map (· + 1)
noncomputable def toLocV (ids : List Nat) : PV → Option PV
  | .ref i => (place i ids).map .ref
  | v => match okV 0 v with
    | true => some v
    | false => none
noncomputable def bareO : PO → Option PO
  | .list xs => match okVs 0 xs with
    | true => some (.list xs)
    | false => none
  | _ => none
noncomputable def getAll (ob : List PO) (ids : List Nat) : Option (List PO) := mapO (fun i => ob[i]?) ids
noncomputable def putBack : List Nat → List PO → List PO → Option (List PO)
  | [], _, ob => some ob
  | i :: r, o :: os, ob => do
    let o' ← bareO o
    putBack r os (ob.set i o')
  | _ :: _, [], _ => none
noncomputable def enterObs (args : List PV) (ob : List PO) : Option (List Nat × List PV × List PO) := do
  let ids := refsIn args []
  let vs ← mapO (toLocV ids) args
  let os ← getAll ob ids
  let ls ← mapO bareO os
  return (ids, vs, ls)
/-- what a call hands back: the local result and the local objects, put back -/
noncomputable def leaveObs (ids : List Nat) (r : PV) (ls : List PO) (ob : List PO) : Option (PV × List PO) := do
  let ob' ← putBack ids ls ob
  match r with
  | .ref j => match Nat.ble ids.length j with
    | true => match ls[j]? with
      | some (.list xs) => match okVs 0 xs with
        | true => return (.ref ob.length, ob' ++ [.list xs])
        | false => none
      | _ => none
    | false => none
  | v => match okV 0 v with
    | true => return (v, ob')
    | false => none

noncomputable def setT : Tgt → PV → St → Option St
  | .v k, v, st => setS st k v
  | .tup ks, .tup xs, st => setAll ks xs st
  | .tup _, _, _ => none
where setAll : List Nat → List PV → St → Option St
  | [], [], st => some st
  | k :: ks, x :: xs, st => do
    let s1 ← setS st k x
    setAll ks xs s1
  | _, _, _ => none

noncomputable def PO.isList : Option PO → Bool
  | some (.list _) => true
  | _ => false
noncomputable def PV.isList (o : PV) (st : St) : Bool := match o with
  | .ref l => PO.isList st.ob[l]?
  | _ => false
noncomputable def PV.isStr : PV → Bool
  | .str _ => true
  | _ => false
noncomputable def PV.isFlags : PV → Bool
  | .fn .flags => true
  | _ => false
noncomputable def recvOk (m : Meth) (o : PV) (st : St) : Bool := match m with
  | .join => o.isStr
  | .split => o.isStr
  | .get => o.isFlags
  | .append => o.isList st
  | .pop => o.isList st
  | .extend => o.isList st
  | .sort => o.isList st
/-- no object that an end has left, no zip: a def may be called -/
noncomputable def callOk : List PO → Bool
  | [] => true
  | .zip _ _ :: _ => false
  | .dead :: _ => false
  | _ :: r => callOk r
noncomputable def augOk : Op → Bool
  | .add => true
  | .sub => true
  | .bxor => true
  | .shl => true
  | .bor => true
  | _ => false
noncomputable def iterC (v : PV) (st : St) : Option (Nat × St) := match v with
  | .ref i => iterI (.ref i) st
  | _ => none

/-- the depth of the law's own frame -/
noncomputable abbrev topD : Nat := 8
/-- one storey of the interpreter -/
structure Ev where
  e : Nat → IE → St → Option (PV × St)
  es : Nat → List IE → St → Option (List PV × St)
  t : Nat → IT → St → Option (Bool × St)
  ts : Nat → List IT → St → Option (Bool × St)
  c : Nat → IE → Tgt → List IT → List IGen → Nat → Nat → St → Option St
  call : Nat → Nat → List PV → List PO → Option (PV × List PO)
  ss : Nat → List IS → St → Option (Flow × St)
  s : Nat → IS → St → Option (Flow × St)
  w : Nat → IT → List IS → St → Option (Flow × St)
  f : Nat → Tgt → List IS → List IS → Nat → St → Option (Flow × St)
variable (V : Ev) (d : Nat)
noncomputable def xVar (k : Nat) (st : St) : Option (PV × St) := do
  let v ← st.sl[k]?
  let v ← v
  return (v, st)
noncomputable def xNeg (x : PV) (s1 : St) : Option (PV × St) := match x with
  | .int i => (mkI (-i)).map fun v => (v, s1)
  | _ => none
noncomputable def xSlice (x : PV) (lo hi : Option IE) (s1 : St) : Option (PV × St) := match lo with
  | none => (match hi with
    | none => sliceop x none none s1
    | some h => do
      let (v, s2) ← V.e d h s1
      sliceop x none (some v) s2)
  | some l => (match hi with
    | none => do
      let (u, s2) ← V.e d l s1
      sliceop x (some u) none s2
    | some h => do
      let (u, s2) ← V.e d l s1
      let (v, s3) ← V.e d h s2
      sliceop x (some u) (some v) s3)
noncomputable def xFn (f : Fn) (vs : List PV) (s2 : St) : Option (PV × St) := match f with
  | .user k => do
    let (r, ob) ← V.call d k vs s2.ob
    return (r, ⟨s2.sl, ob⟩)
  | .prim p => primop p vs s2
  | .flags => none
noncomputable def xCall (fv : PV) (vs : List PV) (s2 : St) : Option (PV × St) := match fv with
  | .fn f => xFn V d f vs s2
  | _ => none
noncomputable def xMeth (b : Bool) (m : Meth) (o : PV) (es : List IE) (s1 : St) : Option (PV × St) := match b with
  | true => do
    let (vs, s2) ← V.es d es s1
    methop m o vs s2
  | false => none
/-- what a comprehension hands back -/
noncomputable def xOut (st : St) (s4 : St) (o : Option PO) : Option (PV × St) := match o with
  | some (.list xs) => match okVs 0 xs && okSs st.ob.length (s4.sl.take st.sl.length) && okOs st.ob.length (s4.ob.take st.ob.length) with
    | true => some (.ref st.ob.length, ⟨s4.sl.take st.sl.length, s4.ob.take st.ob.length ++ [.list xs]⟩)
    | false => none
  | _ => none
noncomputable def xGen (elt : IE) (m : Nat) (r : List IGen) (st : St) : IGen → Option (PV × St)
  | .mk t it ifs => do
    let (x, s1) ← V.e d it st
    let (i, s2) ← iterC x s1
    let s4 ← V.c d elt t ifs r i s2.ob.length ⟨s2.sl ++ List.replicate m none, s2.ob ++ [.list []]⟩
    xOut st s4 s4.ob[s2.ob.length]?
noncomputable def xComp (elt : IE) (m : Nat) (gs : List IGen) (st : St) : Option (PV × St) := match gs with
  | g :: r => xGen V d elt m r st g
  | [] => none
noncomputable def stE (e : IE) (st : St) : Option (PV × St) := match e with
  | .const c => some (c, st)
  | .var k => xVar k st
  | .bin op a b => do
    let (x, s1) ← V.e d a st
    let (y, s2) ← V.e d b s1
    binop op x y s2
  | .neg a => do
    let (x, s1) ← V.e d a st
    xNeg x s1
  | .cmp op a b => do
    let (x, s1) ← V.e d a st
    let (y, s2) ← V.e d b s1
    let r ← cmpop op x y s2
    return (.bool r, s2)
  | .list es => do
    let (xs, s1) ← V.es d es st
    if xs.length ≤ room then return push s1 (.list xs) else none
  | .tup es => do
    let (xs, s1) ← V.es d es st
    if xs.length ≤ room then return (.tup xs, s1) else none
  | .idx a i => do
    let (x, s1) ← V.e d a st
    let (y, s2) ← V.e d i s1
    idxop x y s2
  | .slice a lo hi => do
    let (x, s1) ← V.e d a st
    xSlice V d x lo hi s1
  | .call f es => do
    let (fv, s1) ← V.e d f st
    let (vs, s2) ← V.es d es s1
    xCall V d fv vs s2
  | .meth m a es => do
    let (o, s1) ← V.e d a st
    xMeth V d (recvOk m o s1) m o es s1
  | .comp elt gs m => xComp V d elt m gs st
  | .ife t a b => do
    let (c, s1) ← V.t d t st
    match c with
    | true => V.e d a s1
    | false => V.e d b s1
  | .bad => none
noncomputable def stEs (es : List IE) (st : St) : Option (List PV × St) := match es with
  | [] => some ([], st)
  | e :: r => do
    let (v, s1) ← V.e d e st
    let (vs, s2) ← V.es d r s1
    return (v :: vs, s2)
noncomputable def stT (t : IT) (st : St) : Option (Bool × St) := match t with
  | .e x => do
    let (v, s1) ← V.e d x st
    let b ← truthV v s1
    return (b, s1)
  | .not t => do
    let (b, s1) ← V.t d t st
    return (!b, s1)
  | .and a b => do
    let (x, s1) ← V.t d a st
    match x with
    | true => V.t d b s1
    | false => return (false, s1)
  | .or a b => do
    let (x, s1) ← V.t d a st
    match x with
    | true => return (true, s1)
    | false => V.t d b s1
noncomputable def stTs (ts : List IT) (st : St) : Option (Bool × St) := match ts with
  | [] => some (true, st)
  | t :: r => do
    let (b, s1) ← V.t d t st
    match b with
    | true => V.ts d r s1
    | false => return (false, s1)
/-- what a turn of a comprehension does with its value -/
noncomputable def xTurn (elt : IE) (acc : Nat) (gs : List IGen) (s3 : St) : Option St := match gs with
  | [] => do
    let (x, s) ← V.e d elt s3
    let (_, s') ← methop .append (.ref acc) [x] s
    return s'
  | g :: gs' => match g with
    | .mk t' it' ifs' => do
      let (x, s) ← V.e d it' s3
      let (i, s') ← iterC x s
      V.c d elt t' ifs' gs' i acc s'
noncomputable def xOk (ok : Bool) (elt : IE) (acc : Nat) (gs : List IGen) (s3 : St) : Option St := match ok with
  | true => xTurn V d elt acc gs s3
  | false => some s3
/-- a comprehension's turns -/
noncomputable def stC (elt : IE) (t : Tgt) (ifs : List IT) (gs : List IGen) (it acc : Nat) (st : St) : Option St := do
  let (r, s1) ← nextI t it st
  match r with
  | none => return s1
  | some v => do
    let s2 ← setT t v s1
    let (ok, s3) ← V.ts d ifs s2
    let s4 ← xOk V d ok elt acc gs s3
    V.c d elt t ifs gs it acc s4
noncomputable def retOf : Flow → Option PV
  | .ret v => some v
  | .next => some .none
  | _ => none
noncomputable def xSpec (F : List PV → List PO → Option (PV × List PO)) (args : List PV) (ob : List PO) (b : Bool) : Option (PV × List PO) := match b with
  | true => do
    let (ids, vs, ls) ← enterObs args ob
    let (r, ls') ← F vs ls
    leaveObs ids r ls' ob
  | false => none
noncomputable def xCode (np ns : Nat) (df : List PV) (body : List IS) (args : List PV) (ob : List PO) : Option (PV × List PO) := do
  let (ids, vs, ls) ← enterObs args ob
  if (vs ++ df.drop (vs.length + df.length - np)).length = np ∧ np ≤ ns then (do
    let (fl, s1) ← V.ss d body ⟨(vs ++ df.drop (vs.length + df.length - np)).map some ++ List.replicate (ns - np) none, ls⟩
    let r ← retOf fl
    leaveObs ids r s1.ob ob) else none
noncomputable def xFnI (args : List PV) (ob : List PO) (F : Option FnI) : Option (PV × List PO) := match F with
  | none => none
  | some f => match f with
    | .spec F => xSpec F args ob (Nat.beq (d + 1) topD)
    | .code np ns df body => xCode V d np ns df body args ob
variable (Φ : Nat → Option FnI)
noncomputable def stCall (k : Nat) (args : List PV) (ob : List PO) : Option (PV × List PO) := match d with
  | 0 => none
  | d + 1 => match callOk ob with
    | false => none
    | true => xFnI V d args ob (Φ k)
noncomputable def xThen (f : Flow) (o : List IS) (s1 : St) : Option (Flow × St) := match f with
  | .next => V.ss d o s1
  | .brk => some (.brk, s1)
  | .cont => some (.cont, s1)
  | .ret v => some (.ret v, s1)
noncomputable def stSs (ss : List IS) (st : St) : Option (Flow × St) := match ss with
  | [] => some (.next, st)
  | s :: r => do
    let (f, s1) ← V.s d s st
    xThen V d f r s1
noncomputable def xPut (v x y : PV) (s3 : St) : Option (Flow × St) := match x with
  | .ref l => match y with
    | .int k => match s3.ob[l]? with
      | some (.list xs) => if 0 ≤ k ∧ k.toNat < xs.length ∧ k < big then some (.next, setO s3 l (.list (xs.set k.toNat v))) else none
      | _ => none
    | _ => none
  | _ => none
noncomputable def xAug (k : Nat) (op : Op) (x y : PV) (s1 : St) : Option (Flow × St) := match x with
  | .int a => match y with
    | .int b => do
      let r ← intOp op a b
      let v ← mkI r
      let s2 ← setS s1 k v
      return (.next, s2)
    | _ => none
  | _ => none
noncomputable def xAug1 (ok : Bool) (k : Nat) (op : Op) (x y : PV) (s1 : St) : Option (Flow × St) := match ok with
  | true => xAug k op x y s1
  | false => none
noncomputable def xFr (m : Nat) (f : Flow) (s3 : St) : Flow × St := match f with
  | .ret v => (.ret v, s3)
  | .next => (.next, gc m s3)
  | .brk => (.brk, gc m s3)
  | .cont => (.cont, gc m s3)
noncomputable def stS (s : IS) (st : St) : Option (Flow × St) := match s with
  | .expr e => do
    let (_, s1) ← V.e d e st
    return (.next, s1)
  | .asg t e => do
    let (v, s1) ← V.e d e st
    let s2 ← setT t v s1
    return (.next, s2)
  | .asgIdx a i e => do
    let (v, s1) ← V.e d e st
    let (x, s2) ← V.e d a s1
    let (y, s3) ← V.e d i s2
    xPut v x y s3
  | .aug k op e => do
    let x ← st.sl[k]?
    let x ← x
    let (y, s1) ← V.e d e st
    xAug1 (augOk op) k op x y s1
  | .ife t b o => do
    let (c, s1) ← V.t d t st
    match c with
    | true => V.ss d b s1
    | false => V.ss d o s1
  | .whl t b => V.w d t b st
  | .fr t e b o => do
    let (x, s1) ← V.e d e st
    let (i, s2) ← iterI x s1
    let (f, s3) ← V.f d t b o i s2
    return xFr st.ob.length f s3
  | .ret e => do
    let (v, s1) ← V.e d e st
    return (.ret v, s1)
  | .brk => some (.brk, st)
  | .cont => some (.cont, st)
  | .pass => some (.next, st)
  | .try b o => do
    let (f, s1) ← V.ss d b st
    xThen V d f o s1
  | .rd _ _ => none
  | .bad => none
noncomputable def xWt (t : IT) (b : List IS) (m : Nat) (f : Flow) (s2 : St) : Option (Flow × St) := match f with
  | .next => V.w d t b (gc m s2)
  | .cont => V.w d t b (gc m s2)
  | .brk => some (.next, gc m s2)
  | .ret v => some (.ret v, s2)
noncomputable def stW (t : IT) (b : List IS) (st : St) : Option (Flow × St) := do
  let (c, s1) ← V.t d t st
  match c with
  | false => return (.next, gc st.ob.length s1)
  | true => do
    let (f, s2) ← V.ss d b s1
    xWt V d t b st.ob.length f s2
noncomputable def xFt (t : Tgt) (b o : List IS) (it m : Nat) (f : Flow) (s3 : St) : Option (Flow × St) := match f with
  | .next => V.f d t b o it (gc m s3)
  | .cont => V.f d t b o it (gc m s3)
  | .brk => some (.next, s3)
  | .ret v => some (.ret v, s3)
noncomputable def stF (t : Tgt) (b o : List IS) (it : Nat) (st : St) : Option (Flow × St) := do
  let (r, s1) ← nextI t it st
  match r with
  | none => V.ss d o s1
  | some v => do
    let s2 ← setT t v s1
    let (f, s3) ← V.ss d b s2
    xFt V d t b o it st.ob.length f s3
noncomputable def ev : Nat → Ev
  | 0 => ⟨fun _ _ _ => none, fun _ _ _ => none, fun _ _ _ => none, fun _ _ _ => none, fun _ _ _ _ _ _ _ _ => none, fun _ _ _ _ => none, fun _ _ _ => none, fun _ _ _ => none, fun _ _ _ _ => none, fun _ _ _ _ _ _ => none⟩
  | n + 1 => ⟨stE (ev n), stEs (ev n), stT (ev n), stTs (ev n), stC (ev n), fun d k => stCall (ev n) d Φ k, stSs (ev n), stS (ev n), stW (ev n), stF (ev n)⟩
variable (n : Nat)
noncomputable def evE (d : Nat) (e : IE) (st : St) : Option (PV × St) := (ev Φ n).e d e st
noncomputable def evEs (d : Nat) (es : List IE) (st : St) : Option (List PV × St) := (ev Φ n).es d es st
noncomputable def evT (d : Nat) (t : IT) (st : St) : Option (Bool × St) := (ev Φ n).t d t st
noncomputable def evTs (d : Nat) (ts : List IT) (st : St) : Option (Bool × St) := (ev Φ n).ts d ts st
noncomputable def evC (d : Nat) (elt : IE) (t : Tgt) (ifs : List IT) (gs : List IGen) (it acc : Nat) (st : St) : Option St := (ev Φ n).c d elt t ifs gs it acc st
noncomputable def evCall (d k : Nat) (args : List PV) (ob : List PO) : Option (PV × List PO) := (ev Φ n).call d k args ob
noncomputable def evSs (d : Nat) (ss : List IS) (st : St) : Option (Flow × St) := (ev Φ n).ss d ss st
noncomputable def evS (d : Nat) (s : IS) (st : St) : Option (Flow × St) := (ev Φ n).s d s st
noncomputable def evW (d : Nat) (t : IT) (b : List IS) (st : St) : Option (Flow × St) := (ev Φ n).w d t b st
noncomputable def evF (d : Nat) (t : Tgt) (b o : List IS) (it : Nat) (st : St) : Option (Flow × St) := (ev Φ n).f d t b o it st
end Mine.Internal
end
section
namespace Mine.Internal
open PySem
set_option linter.unusedVariables false
variable {Φ : Nat → Option FnI} {st st' : St}


theorem setS_len {k : Nat} {v : PV} (e : setS st k v = some st') : st'.sl.length = st.sl.length := by
  unfold setS at e
  split at e
  · cases e; simp
  · cases e
theorem gc_len (m : Nat) (st : St) : (gc m st).sl.length = st.sl.length := by
  unfold gc; split <;> rfl
section
variable {P : Prop}
theorem bindE {α β : Type} {o : Option α} {f : α → Option β} {r : β} (h : (o >>= f) = some r) (k : ∀ x, o = some x → f x = some r → P) : P := by
  cases o with
  | none => cases h
  | some x => exact k x rfl h
theorem bindP {α σ β : Type} {o : Option (α × σ)} {f : α × σ → Option β} {r : β} (h : (o >>= f) = some r) (k : ∀ x s, o = some (x, s) → f (x, s) = some r → P) : P := bindE h fun p => k p.1 p.2
theorem iteE {β : Type} {c : Prop} [Decidable c] {a : Option β} {r : β} (h : (if c then a else none) = some r) (k : c → a = some r → P) : P := by
  by_cases hc : c
  · exact k hc ((if_pos hc).symm.trans h)
  · exact nomatch (if_neg hc).symm.trans h
theorem pairE {α β : Type} {a b : α} {c d : β} (h : some (a, c) = some (b, d)) (k : a = b → c = d → P) : P := by cases h; exact k rfl rfl
theorem asR_el {v : PV} {i : Nat} (h : asR v = some i) : v = .ref i := by cases v <;> cases h; rfl
theorem asI_el {v : PV} {i : Int} (h : asI v = some i) : v = .int i := by cases v <;> cases h; rfl
theorem asS_el {v : PV} {s : Str} (h : asS v = some s) : v = .str s := by cases v <;> cases h; rfl
theorem asT_el {v : PV} {xs : List PV} (h : asT v = some xs) : v = .tup xs := by cases v <;> cases h; rfl
theorem asN_el {v : PV} {u : Unit} (h : asN v = some u) : v = .none := by cases v <;> cases h; rfl
theorem arg1_el {vs : List PV} {v : PV} (h : arg1 vs = some v) : vs = [v] := by
  cases vs with
  | nil => cases h
  | cons x r => cases r <;> cases h; rfl
theorem arg0_el {vs : List PV} {u : Unit} (h : arg0 vs = some u) : vs = [] := by cases vs <;> cases h; rfl
theorem asFlags_el {v : PV} {u : Unit} (h : asFlags v = some u) : v = .fn .flags := by
  cases v with
  | fn f => cases f <;> cases h; rfl
  | _ => cases h
theorem asRange_el {o : Option PO} {q : Int × Int × Int} (h : asRange o = some q) : o = some (.range q.1 q.2.1 q.2.2) := by
  cases o with
  | none => cases h
  | some o => cases o <;> cases h; rfl
theorem asListIter_el {o : Option PO} {q : Nat × Nat} (h : asListIter o = some q) : o = some (.listIter q.1 q.2) := by
  cases o with
  | none => cases h
  | some o => cases o <;> cases h; rfl
theorem asList_el {o : Option PO} {xs : List PV} (h : asList o = some xs) : o = some (.list xs) := by
  cases o with
  | none => cases h
  | some o => cases o <;> cases h; rfl
theorem unsnoc_el {xs : List PV} {q : PV × List PV} (h : unsnoc xs = some q) : xs = q.2 ++ [q.1] := by
  unfold unsnoc at h
  split at h
  · rename_i x r e
    cases h
    rw [← List.reverse_reverse xs, e]; simp
  · cases h
theorem asP_el {xs : List PV} {p : Int × Int} (h : asP xs = some p) : xs = [.int p.1, .int p.2] := by
  cases xs with
  | nil => cases h
  | cons x r =>
    refine bindE (o := asI x) h fun a e1 h => ?_
    cases r with
    | nil => cases h
    | cons y r =>
      refine bindE (o := asI y) h fun b e2 h => ?_
      cases r with
      | nil => cases h; rw [asI_el e1, asI_el e2]
      | cons => cases h
/-! what each operator does -/
inductive BinR (st : St) (op : Op) : PV → PV → PV → St → Prop
  | int {x y r v} (e : intOp op x y = some r) (e2 : mkI r = some v) : BinR st op (.int x) (.int y) v st
  | str {x y} (h : op = .add) (hz : x.cps.size + y.cps.size ≤ room) : BinR st op (.str x) (.str y) (.str (x ++ y)) st
  | list {i j xs ys} (h : op = .add) (ei : items st i = some xs) (ej : items st j = some ys) (hz : xs.length + ys.length ≤ room) : BinR st op (.ref i) (.ref j) (.ref st.ob.length) ⟨st.sl, st.ob ++ [.list (xs ++ ys)]⟩
theorem bin_rel {op : Op} {a b v : PV} (h : binop op a b st = some (v, st')) : BinR st op a b v st' := by
  cases a with
  | int x => exact bindE (o := asI b) h fun y e1 h => bindE (o := intOp op x y) h fun r e2 h => bindE (o := mkI r) h fun v e3 h => pairE h fun q1 q2 => asI_el e1 ▸ q1 ▸ q2 ▸ .int e2 e3
  | str x =>
    exact bindE (o := asS b) h fun y e1 h => by
      cases op with
      | add => exact iteE h fun hz h => pairE h fun q1 q2 => asS_el e1 ▸ q1 ▸ q2 ▸ .str rfl hz
      | _ => cases h
  | ref i =>
    exact bindE (o := asR b) h fun j e1 h => by
      cases op with
      | add => exact bindE (o := items st i) h fun xs e2 h => bindE (o := items st j) h fun ys e3 h => iteE h fun hz h => pairE h fun q1 q2 => asR_el e1 ▸ q1 ▸ q2 ▸ .list rfl e2 e3 hz
      | _ => cases h
  | _ => cases h
theorem binop_len {op : Op} {a b v : PV} (e : binop op a b st = some (v, st')) : st'.sl.length = st.sl.length := by
  replace e := bin_rel e
  induction e using BinR.casesOn <;> rfl
inductive IdxR (st : St) (k : Int) : PV → PV → Prop
  | list {l xs x} (ei : items st l = some xs) (ex : xs[k.toNat]? = some x) : IdxR st k (.ref l) x
  | tup {xs x} (ex : xs[k.toNat]? = some x) : IdxR st k (.tup xs) x
  | str {s c} (ex : s.cps[k.toNat]? = some c) : IdxR st k (.str s) (.str ⟨#[c]⟩)
theorem idx_rel {a i v : PV} (h : idxop a i st = some (v, st')) (k : ∀ k, i = .int k → 0 ≤ k → k < big → IdxR st k a v → st = st' → P) : P :=
  bindE (o := asI i) h fun j e1 h => iteE h fun hj h => by
    cases a with
    | ref l => exact bindE (o := items st l) h fun xs e2 h => bindE (o := xs[j.toNat]?) h fun x e3 h => pairE h fun q1 q2 => k j (asI_el e1) hj.1 hj.2 (.list e2 (q1 ▸ e3)) q2
    | tup xs => exact bindE (o := xs[j.toNat]?) h fun x e3 h => pairE h fun q1 q2 => k j (asI_el e1) hj.1 hj.2 (.tup (q1 ▸ e3)) q2
    | str s => exact bindE (o := s.cps[j.toNat]?) h fun x e3 h => pairE h fun q1 q2 => k j (asI_el e1) hj.1 hj.2 (q1 ▸ .str e3) q2
    | _ => cases h
theorem idxop_len {a b v : PV} (e : idxop a b st = some (v, st')) : st'.sl.length = st.sl.length := idx_rel e fun _ _ _ _ _ q => q ▸ rfl
inductive SliceR (st : St) (lo hi : Option PV) : PV → PV → St → Prop
  | list {l xs i j} (ei : items st l = some xs) (e1 : clamp xs.length 0 lo = some i) (e2 : clamp xs.length xs.length hi = some j) (hz : xs.length ≤ room) : SliceR st lo hi (.ref l) (.ref st.ob.length) ⟨st.sl, st.ob ++ [.list ((xs.take j).drop i)]⟩
  | str {s i j} (e1 : clamp s.cps.size 0 lo = some i) (e2 : clamp s.cps.size s.cps.size hi = some j) (hz : s.cps.size ≤ room) : SliceR st lo hi (.str s) (.str ⟨((s.cps.toList.take j).drop i).toArray⟩) st
theorem slice_rel {a v : PV} {lo hi : Option PV} (h : sliceop a lo hi st = some (v, st')) : SliceR st lo hi a v st' := by
  cases a with
  | ref l => exact bindE (o := items st l) h fun xs e0 h => bindE (o := clamp xs.length 0 lo) h fun i e1 h => bindE (o := clamp xs.length xs.length hi) h fun j e2 h => iteE h fun hz h => pairE h fun q1 q2 => q1 ▸ q2 ▸ .list e0 e1 e2 hz
  | str s => exact bindE (o := clamp s.cps.size 0 lo) h fun i e1 h => bindE (o := clamp s.cps.size s.cps.size hi) h fun j e2 h => iteE h fun hz h => pairE h fun q1 q2 => q1 ▸ q2 ▸ .str e1 e2 hz
  | _ => cases h
theorem sliceop_len {a v : PV} {lo hi : Option PV} (e : sliceop a lo hi st = some (v, st')) : st'.sl.length = st.sl.length := by
  replace e := slice_rel e
  induction e using SliceR.casesOn <;> rfl
inductive CmpR (st : St) : COp → PV → PV → Bool → Prop
  | int {op x y b} (e : cmpI op x y = some b) : CmpR st op (.int x) (.int y) b
  | str {op x y b} (e : cmpS op x y = some b) : CmpR st op (.str x) (.str y) b
  | tup {a b c d} : CmpR st .lt (.tup [.int a, .int b]) (.tup [.int c, .int d]) (decide (a < c) || (decide (a = c) && decide (b < d)))
  | none : CmpR st .is .none .none true
  | ne {i j xs ys b} (ei : items st i = some xs) (ej : items st j = some ys) (e : neVs xs ys = some b) : CmpR st .ne (.ref i) (.ref j) b
  | isin {x j ys b} (ej : items st j = some ys) (e : memV x ys = some b) : CmpR st .isin x (.ref j) b
  | notin {x j ys b} (ej : items st j = some ys) (e : memV x ys = some b) : CmpR st .notin x (.ref j) (!b)
theorem cmpG_rel {op : COp} {a b : PV} {c : Bool} (h : cmpG op a b st = some c) : CmpR st op a b c := by
  cases a with
  | int x => exact bindE (o := asI b) h fun y e1 h => asI_el e1 ▸ .int h
  | str x => exact bindE (o := asS b) h fun y e1 h => asS_el e1 ▸ .str h
  | tup xs =>
    exact bindE (o := asT b) h fun ys e1 h => by
      cases op with
      | lt =>
        refine bindE (o := asP xs) h fun p e2 h => bindE (o := asP ys) h fun q e3 h => ?_
        have h := Option.some.inj h
        rw [asT_el e1, asP_el e2, asP_el e3, ← h]; exact .tup
      | _ => cases h
  | none =>
    exact bindE (o := asN b) h fun u e1 h => by
      cases op with
      | is => cases h; rw [asN_el e1]; exact .none
      | _ => cases h
  | ref i =>
    exact bindE (o := asR b) h fun j e1 h => by
      cases op with
      | ne => exact bindE (o := items st i) h fun xs e2 h => bindE (o := items st j) h fun ys e3 h => iteE h fun _ h => asR_el e1 ▸ .ne e2 e3 h
      | _ => cases h
  | _ => cases h
theorem cmp_rel {op : COp} {a b : PV} {c : Bool} (h : cmpop op a b st = some c) : CmpR st op a b c := by
  cases op with
  | isin => exact bindE (o := asR b) h fun j e1 h => bindE (o := items st j) h fun ys e2 h => asR_el e1 ▸ .isin e2 h
  | notin => exact bindE (o := asR b) h fun j e1 h => bindE (o := items st j) h fun ys e2 h => bindE (o := memV a ys) h fun c e3 h => Option.some.inj h ▸ asR_el e1 ▸ .notin e2 e3
  | _ => exact cmpG_rel h
end
section
variable {P : Prop}
inductive IterR (st : St) : PV → Nat → St → Prop
  | list {i xs} (eo : st.ob[i]? = some (.list xs)) : IterR st (.ref i) st.ob.length ⟨st.sl, st.ob ++ [.listIter i 0]⟩
  | ro {i xs} (eo : st.ob[i]? = some (.ro xs)) : IterR st (.ref i) st.ob.length ⟨st.sl, st.ob ++ [.listIter i 0]⟩
  | range {i a b c} (eo : st.ob[i]? = some (.range a b c)) : IterR st (.ref i) st.ob.length ⟨st.sl, st.ob ++ [.rangeIter a (rangeLen a b c) c]⟩
  | listIter {i l k} (eo : st.ob[i]? = some (.listIter l k)) : IterR st (.ref i) i st
  | rangeIter {i x l s} (eo : st.ob[i]? = some (.rangeIter x l s)) : IterR st (.ref i) i st
  | enum {i a b} (eo : st.ob[i]? = some (.enum a b)) : IterR st (.ref i) i st
  | zip {i a b} (eo : st.ob[i]? = some (.zip a b)) : IterR st (.ref i) i st
  | tup {xs} : IterR st (.tup xs) st.ob.length ⟨st.sl, st.ob ++ [.tupIter xs 0]⟩
theorem iter_rel {v : PV} {i : Nat} (h : iterI v st = some (i, st')) : IterR st v i st' := by
  cases v with
  | ref k =>
    refine bindE (o := st.ob[k]?) h fun o eo h => ?_
    cases o with
    | list => exact pairE h fun q1 q2 => q1 ▸ q2 ▸ .list eo
    | ro => exact pairE h fun q1 q2 => q1 ▸ q2 ▸ .ro eo
    | range => exact pairE h fun q1 q2 => q1 ▸ q2 ▸ .range eo
    | listIter => exact pairE h fun q1 q2 => q1 ▸ q2 ▸ .listIter eo
    | rangeIter => exact pairE h fun q1 q2 => q1 ▸ q2 ▸ .rangeIter eo
    | enum => exact pairE h fun q1 q2 => q1 ▸ q2 ▸ .enum eo
    | zip => exact pairE h fun q1 q2 => q1 ▸ q2 ▸ .zip eo
    | _ => cases h
  | tup xs => exact pairE h fun q1 q2 => q1 ▸ q2 ▸ .tup
  | _ => cases h
theorem iterI_len {v : PV} {i : Nat} (e : iterI v st = some (i, st')) : st'.sl.length = st.sl.length := by
  replace e := iter_rel e
  induction e using IterR.casesOn <;> rfl
theorem iterC_len {v : PV} {i : Nat} (e : iterC v st = some (i, st')) : st'.sl.length = st.sl.length := by
  unfold iterC at e
  split at e
  · exact iterI_len e
  · cases e
theorem nx_el {a b : St} {o r : Option PV} (h : nx a b o = (r, st')) : (∃ x, o = some x ∧ some x = r ∧ a = st') ∨ (o = none ∧ none = r ∧ b = st') := by
  cases o with
  | some x => exact .inl ⟨x, rfl, congrArg (·.1) h, congrArg (·.2) h⟩
  | none => exact .inr ⟨rfl, congrArg (·.1) h, congrArg (·.2) h⟩
inductive Next1R (st : St) (it : Nat) : Option PV → St → Prop
  | list {l i xs x} (eo : st.ob[it]? = some (.listIter l i)) (ei : items st l = some xs) (ex : xs[i]? = some x) : Next1R st it (some x) (setO st it (.listIter l (i + 1)))
  | listEnd {l i xs} (eo : st.ob[it]? = some (.listIter l i)) (ei : items st l = some xs) (ex : xs[i]? = none) : Next1R st it none (setO st it .dead)
  | tup {xs i x} (eo : st.ob[it]? = some (.tupIter xs i)) (ex : xs[i]? = some x) : Next1R st it (some x) (setO st it (.tupIter xs (i + 1)))
  | tupEnd {xs i} (eo : st.ob[it]? = some (.tupIter xs i)) (ex : xs[i]? = none) : Next1R st it none (setO st it .dead)
  | range {x left step} (eo : st.ob[it]? = some (.rangeIter x left step)) (hl : 0 < left) : Next1R st it (some (.int x)) (setO st it (.rangeIter (x + step) (left - 1) step))
  | rangeEnd {x left step} (eo : st.ob[it]? = some (.rangeIter x left step)) (hl : ¬ 0 < left) : Next1R st it none (setO st it .dead)
theorem next1P_rel {it : Nat} {o : PO} {r : Option PV} (eo : st.ob[it]? = some o) (h : next1P it st o = some (r, st')) : Next1R st it r st' := by
  cases o with
  | listIter l i =>
    refine bindE (o := items st l) h fun xs e2 h => ?_
    rcases nx_el (Option.some.inj h) with ⟨x, h1, h2, h3⟩ | ⟨h1, h2, h3⟩
    · exact h2 ▸ h3 ▸ .list eo e2 h1
    · exact h2 ▸ h3 ▸ .listEnd eo e2 h1
  | tupIter xs i =>
    rcases nx_el (Option.some.inj h) with ⟨x, h1, h2, h3⟩ | ⟨h1, h2, h3⟩
    · exact h2 ▸ h3 ▸ .tup eo h1
    · exact h2 ▸ h3 ▸ .tupEnd eo h1
  | rangeIter x left step =>
    have h := Option.some.inj h
    by_cases hl : 0 < left
    · rw [if_pos hl] at h; cases h; exact .range eo hl
    · rw [if_neg hl] at h; cases h; exact .rangeEnd eo hl
  | _ => cases h
theorem next1_rel {it : Nat} {r : Option PV} (h : next1 it st = some (r, st')) : Next1R st it r st' := bindE (o := st.ob[it]?) h fun _ eo h => next1P_rel eo h
theorem Next1R.len {it : Nat} {r : Option PV} (e : Next1R st it r st') : st'.sl.length = st.sl.length := by induction e using Next1R.casesOn <;> rfl
theorem asRangeIter_el {o : Option PO} {q : Int × Int × Int} (h : asRangeIter o = some q) : o = some (.rangeIter q.1 q.2.1 q.2.2) := by
  cases o with
  | none => cases h
  | some o => cases o <;> cases h; rfl
inductive NextR (st : St) (t : Tgt) (it : Nat) : Option PV → St → Prop
  | plain {r st'} (h : Next1R st it r st') : NextR st t it r st'
  | enum {it' i r st1} (eo : st.ob[it]? = some (.enum it' i)) (ht : t.isTup = true) (hok : enumP i st st.ob[it']? = true) (e : Next1R st it' r st1) : NextR st t it (enumOut it it' i st1 r).1 (enumOut it it' i st1 r).2
  | zip {a b x left step l j ys y} (eo : st.ob[it]? = some (.zip a b)) (ht : t.isTup = true) (hz : onlyZip it 0 st.ob = true) (ea : st.ob[a]? = some (.rangeIter x left step)) (eb : st.ob[b]? = some (.listIter l j)) (ei : items st l = some ys) (hl : 0 < left) (ey : ys[j]? = some y) :
      NextR st t it (some (.tup [.int x, y])) (setO (setO st a (.rangeIter (x + step) (left - 1) step)) b (.listIter l (j + 1)))
  | zipEnd {a b x left step l j ys} (eo : st.ob[it]? = some (.zip a b)) (ht : t.isTup = true) (hz : onlyZip it 0 st.ob = true) (ea : st.ob[a]? = some (.rangeIter x left step)) (eb : st.ob[b]? = some (.listIter l j)) (ei : items st l = some ys) (hl : ¬ 0 < left) :
      NextR st t it none (setO (setO st a .dead) it .dead)
theorem nextI_rel {t : Tgt} {it : Nat} {r : Option PV} (h : nextI t it st = some (r, st')) : NextR st t it r st' := bindE (o := st.ob[it]?) h fun o eo h => by
  cases o with
  | enum it' i =>
    have h : enumNext it it' i st (t.isTup && enumP i st st.ob[it']?) = some (r, st') := h
    cases hc : t.isTup && enumP i st st.ob[it']? with
    | false => rw [hc] at h; cases h
    | true =>
      rw [hc] at h
      rw [Bool.and_eq_true] at hc
      refine bindE (o := next1 it' st) h fun p e1 h => ?_
      have q := NextR.enum eo hc.1 hc.2 (next1_rel (r := p.1) (st' := p.2) e1)
      rwa [show enumOut it it' i p.2 p.1 = (r, st') from Option.some.inj h] at q
  | zip a b =>
    have h : zipNext1 it a b st (t.isTup && onlyZip it 0 st.ob) = some (r, st') := h
    cases hc : t.isTup && onlyZip it 0 st.ob with
    | false => rw [hc] at h; cases h
    | true =>
      rw [hc] at h
      rw [Bool.and_eq_true] at hc
      refine bindE (o := asRangeIter st.ob[a]?) h fun p e1 h => bindE (o := asListIter st.ob[b]?) h fun q e2 h => bindE (o := items st q.1) h fun ys e3 h => ?_
      by_cases hl : 0 < p.2.1
      · rw [if_pos hl] at h
        exact bindE (o := ys[q.2]?) h fun y e4 h => pairE h fun q1 q2 => q1 ▸ q2 ▸ .zip eo hc.1 hc.2 (asRangeIter_el e1) (asListIter_el e2) e3 hl e4
      · rw [if_neg hl] at h
        exact pairE h fun q1 q2 => q1 ▸ q2 ▸ .zipEnd eo hc.1 hc.2 (asRangeIter_el e1) (asListIter_el e2) e3 hl
  | listIter => exact .plain (next1P_rel eo h)
  | tupIter => exact .plain (next1P_rel eo h)
  | rangeIter => exact .plain (next1P_rel eo h)
  | _ => cases h
theorem nextI_len {t : Tgt} {it : Nat} {r : Option PV} (e : nextI t it st = some (r, st')) : st'.sl.length = st.sl.length := by
  replace e := nextI_rel e
  induction e using NextR.casesOn with
  | plain h => exact h.len
  | @enum _ _ r _ _ _ _ h => cases r <;> exact h.len
  | _ => rfl
end
section
variable {P : Prop}
inductive PrimR (st : St) : Prim → List PV → PV → St → Prop
  | len {l xs} (ei : items st l = some xs) (hz : xs.length ≤ room) : PrimR st .len [.ref l] (.int xs.length) st
  | range1 {b} (h : rangeFits 0 b 1 = true) : PrimR st .range [.int b] (.ref st.ob.length) ⟨st.sl, st.ob ++ [.range 0 b 1]⟩
  | range2 {a b} (h : rangeFits a b 1 = true) : PrimR st .range [.int a, .int b] (.ref st.ob.length) ⟨st.sl, st.ob ++ [.range a b 1]⟩
  | range3 {a b c} (h : rangeFits a b c = true) : PrimR st .range [.int a, .int b, .int c] (.ref st.ob.length) ⟨st.sl, st.ob ++ [.range a b c]⟩
  | reversed {i a b c} (eo : st.ob[i]? = some (.range a b c)) : PrimR st .reversed [.ref i] (.ref st.ob.length) ⟨st.sl, st.ob ++ [.rangeIter (a + (rangeLen a b c - 1) * c) (rangeLen a b c) (-c)]⟩
  | iter {v it s1} (e : iterI v st = some (it, s1)) : PrimR st .iter [v] (.ref it) s1
  | next {i l k xs x} (eo : st.ob[i]? = some (.listIter l k)) (ei : items st l = some xs) (ex : xs[k]? = some x) : PrimR st .next [.ref i] x (setO st i (.listIter l (k + 1)))
  | enumerate {v it s1} (e : iterI v st = some (it, s1)) : PrimR st .enumerate [v] (.ref s1.ob.length) ⟨s1.sl, s1.ob ++ [.enum it 0]⟩
  | zip {v u a s1 b s2} (e1 : iterI v st = some (a, s1)) (e2 : iterI u s1 = some (b, s2)) (hab : a ≠ b) : PrimR st .zip [v, u] (.ref s2.ob.length) ⟨s2.sl, s2.ob ++ [.zip a b, .dead]⟩
  | sorted {l xs ss} (ei : items st l = some xs) (es : strsOf xs = some ss) (hz : ss.length < 64) : PrimR st .sorted [.ref l] (.ref st.ob.length) ⟨st.sl, st.ob ++ [.list ((sortStrs ss).map .str)]⟩
  | max {l xs m r} (ei : items st l = some xs) (es : intsOf xs = some (m :: r)) : PrimR st .max [.ref l] (.int (maxL m r)) st
  | sum {l xs ns} (ei : items st l = some xs) (es : intsOf xs = some ns) (h1 : ns.length ≤ room) (h2 : ns.all (fun x => decide (-4294967296 < x) && decide (x < 4294967296)) = true) : PrimR st .sum [.ref l] (.int ns.sum) st
  | hex {i s} (e : hexS i = some s) : PrimR st .hex [.int i] (.str s) st
theorem range_rel {vs : List PV} {v : PV} (h : pRange vs st = some (v, st')) : PrimR st .range vs v st' := by
  cases vs with
  | nil => cases h
  | cons x r => cases r with
    | nil => exact bindE (o := asI x) h fun b e1 h => iteE h fun hr h => pairE h fun q1 q2 => asI_el e1 ▸ q1 ▸ q2 ▸ .range1 hr
    | cons y r => cases r with
      | nil => exact bindE (o := asI x) h fun a e1 h => bindE (o := asI y) h fun b e2 h => iteE h fun hr h => pairE h fun q1 q2 => asI_el e1 ▸ asI_el e2 ▸ q1 ▸ q2 ▸ .range2 hr
      | cons z r => cases r with
        | nil => exact bindE (o := asI x) h fun a e1 h => bindE (o := asI y) h fun b e2 h => bindE (o := asI z) h fun c e3 h => iteE h fun hr h => pairE h fun q1 q2 => asI_el e1 ▸ asI_el e2 ▸ asI_el e3 ▸ q1 ▸ q2 ▸ .range3 hr
        | cons => cases h
theorem zip_rel {vs : List PV} {v : PV} (h : pZip vs st = some (v, st')) : PrimR st .zip vs v st' := by
  cases vs with
  | nil => cases h
  | cons x r =>
    refine bindE (o := arg1 r) h fun u e1 h => bindP (o := iterI x st) h fun a s1 e2 h => bindP (o := iterI u s1) h fun b s2 e3 h => ?_
    by_cases hab : a = b
    · exact nomatch (if_pos hab).symm.trans h
    · exact pairE ((if_neg hab).symm.trans h) fun q1 q2 => arg1_el e1 ▸ q1 ▸ q2 ▸ .zip e2 e3 hab
theorem prim_rel {p : Prim} {vs : List PV} {v : PV} (h : primop p vs st = some (v, st')) : PrimR st p vs v st' := by
  cases p with
  | len => exact bindE (o := arg1 vs) h fun u e1 h => bindE (o := asR u) h fun l e2 h => bindE (o := items st l) h fun xs e3 h => iteE h fun hz h => pairE h fun q1 q2 => arg1_el e1 ▸ asR_el e2 ▸ q1 ▸ q2 ▸ .len e3 hz
  | range => exact range_rel h
  | reversed => exact bindE (o := arg1 vs) h fun u e1 h => bindE (o := asR u) h fun l e2 h => bindE (o := asRange st.ob[l]?) h fun q e3 h => pairE h fun q1 q2 => arg1_el e1 ▸ asR_el e2 ▸ q1 ▸ q2 ▸ .reversed (asRange_el e3)
  | iter => exact bindE (o := arg1 vs) h fun u e1 h => bindP (o := iterI u st) h fun it s1 e2 h => pairE h fun q1 q2 => arg1_el e1 ▸ q1 ▸ q2 ▸ .iter e2
  | next => exact bindE (o := arg1 vs) h fun u e1 h => bindE (o := asR u) h fun l e2 h => bindE (o := asListIter st.ob[l]?) h fun q e3 h => bindE (o := items st q.1) h fun xs e4 h => bindE (o := xs[q.2]?) h fun x e5 h => pairE h fun q1 q2 => arg1_el e1 ▸ asR_el e2 ▸ q1 ▸ q2 ▸ .next (asListIter_el e3) e4 e5
  | enumerate => exact bindE (o := arg1 vs) h fun u e1 h => bindP (o := iterI u st) h fun it s1 e2 h => pairE h fun q1 q2 => arg1_el e1 ▸ q1 ▸ q2 ▸ .enumerate e2
  | zip => exact zip_rel h
  | sorted => exact bindE (o := arg1 vs) h fun u e1 h => bindE (o := asR u) h fun l e2 h => bindE (o := items st l) h fun xs e3 h => bindE (o := strsOf xs) h fun ss e4 h => iteE h fun hz h => pairE h fun q1 q2 => arg1_el e1 ▸ asR_el e2 ▸ q1 ▸ q2 ▸ .sorted e3 e4 hz
  | max =>
    exact bindE (o := arg1 vs) h fun u e1 h => bindE (o := asR u) h fun l e2 h => bindE (o := items st l) h fun xs e3 h => bindE (o := intsOf xs) h fun ns e4 h => bindE (o := consI ns) h fun q e5 h => pairE h fun q1 q2 => by
      cases ns with
      | nil => cases e5
      | cons m r => cases e5; exact arg1_el e1 ▸ asR_el e2 ▸ q1 ▸ q2 ▸ .max e3 e4
  | sum => exact bindE (o := arg1 vs) h fun u e1 h => bindE (o := asR u) h fun l e2 h => bindE (o := items st l) h fun xs e3 h => bindE (o := intsOf xs) h fun ns e4 h => iteE h fun hz h => pairE h fun q1 q2 => arg1_el e1 ▸ asR_el e2 ▸ q1 ▸ q2 ▸ .sum e3 e4 hz.1 hz.2
  | hex => exact bindE (o := arg1 vs) h fun u e1 h => bindE (o := asI u) h fun i e2 h => bindE (o := hexS i) h fun s e3 h => pairE h fun q1 q2 => arg1_el e1 ▸ asI_el e2 ▸ q1 ▸ q2 ▸ .hex e3
theorem primop_len {p : Prim} {vs : List PV} {v : PV} (e : primop p vs st = some (v, st')) : st'.sl.length = st.sl.length := by
  replace e := prim_rel e
  induction e using PrimR.casesOn with
  | iter e => exact iterI_len e
  | enumerate e => exact (iterI_len e :)
  | zip e1 e2 => exact ((iterI_len e2).trans (iterI_len e1) :)
  | _ => rfl
inductive MethR (st : St) : Meth → PV → List PV → PV → St → Prop
  | append {l v xs} (eo : st.ob[l]? = some (.list xs)) (hz : xs.length ≤ room) : MethR st .append (.ref l) [v] .none (setO st l (.list (xs ++ [v])))
  | pop {l x r} (eo : st.ob[l]? = some (.list (r ++ [x]))) (hz : (r ++ [x]).length ≤ room) : MethR st .pop (.ref l) [] x (setO st l (.list r))
  | extend {l k xs ys} (eo : st.ob[l]? = some (.list xs)) (ek : st.ob[k]? = some (.list ys)) (hz : xs.length + ys.length ≤ room) (hlk : l ≠ k) : MethR st .extend (.ref l) [.ref k] .none (setO st l (.list (xs ++ ys)))
  | sort {l xs ys} (eo : st.ob[l]? = some (.list xs)) (h1 : 2 ≤ xs.length) (h2 : xs.length < 64) (e : sortPs xs = some ys) : MethR st .sort (.ref l) [] .none (setO st l (.list ys))
  | join {s l xs ss} (ei : items st l = some xs) (es : strsOf xs = some ss) (h1 : ss.length ≤ 64) (h2 : ss.all (fun x => decide (x.cps.size ≤ room)) = true) (h3 : s.cps.size ≤ room) : MethR st .join (.str s) [.ref l] (.str (Txt.join s ss)) st
  | split {s t} (h1 : s.cps.size ≤ room) (h2 : t.cps.size ≠ 0) : MethR st .split (.str s) [.str t] (.ref st.ob.length) ⟨st.sl, st.ob ++ [.list ((Txt.split s t).map .str)]⟩
  | get {k z} : MethR st .get (.fn .flags) [.int k, .str z] (.str ((lookI k flagNames).getD z)) st
theorem meth_rel {m : Meth} {o : PV} {vs : List PV} {v : PV} (h : methop m o vs st = some (v, st')) : MethR st m o vs v st' := by
  cases m with
  | append => exact bindE (o := asR o) h fun l e1 h => bindE (o := arg1 vs) h fun u e2 h => bindE (o := asList st.ob[l]?) h fun xs e3 h => iteE h fun hz h => pairE h fun q1 q2 => asR_el e1 ▸ arg1_el e2 ▸ q1 ▸ q2 ▸ .append (asList_el e3) hz
  | pop =>
    refine bindE (o := asR o) h fun l e1 h => bindE (o := arg0 vs) h fun u e2 h => bindE (o := asList st.ob[l]?) h fun xs e3 h => bindE (o := unsnoc xs) h fun q e4 h => iteE h fun hz h => pairE h fun q1 q2 => ?_
    have e5 := unsnoc_el e4
    rw [asR_el e1, arg0_el e2, ← q1, ← q2]
    exact .pop ((asList_el e3).trans (e5 ▸ rfl)) (e5 ▸ hz)
  | extend => exact bindE (o := asR o) h fun l e1 h => bindE (o := arg1 vs) h fun u e2 h => bindE (o := asR u) h fun k e3 h => bindE (o := asList st.ob[l]?) h fun xs e4 h => bindE (o := asList st.ob[k]?) h fun ys e5 h => iteE h fun hz h => pairE h fun q1 q2 => asR_el e1 ▸ arg1_el e2 ▸ asR_el e3 ▸ q1 ▸ q2 ▸ .extend (asList_el e4) (asList_el e5) hz.1 hz.2
  | sort => exact bindE (o := asR o) h fun l e1 h => bindE (o := arg0 vs) h fun u e2 h => bindE (o := asList st.ob[l]?) h fun xs e3 h => iteE h fun hz h => bindE (o := sortPs xs) h fun ys e4 h => pairE h fun q1 q2 => asR_el e1 ▸ arg0_el e2 ▸ q1 ▸ q2 ▸ .sort (asList_el e3) hz.1 hz.2 e4
  | join => exact bindE (o := asS o) h fun s e1 h => bindE (o := arg1 vs) h fun u e2 h => bindE (o := asR u) h fun l e3 h => bindE (o := items st l) h fun xs e4 h => bindE (o := strsOf xs) h fun ss e5 h => iteE h fun hz h => pairE h fun q1 q2 => asS_el e1 ▸ arg1_el e2 ▸ asR_el e3 ▸ q1 ▸ q2 ▸ .join e4 e5 hz.1 hz.2.1 hz.2.2
  | split => exact bindE (o := asS o) h fun s e1 h => bindE (o := arg1 vs) h fun u e2 h => bindE (o := asS u) h fun t e3 h => iteE h fun hz h => pairE h fun q1 q2 => asS_el e1 ▸ arg1_el e2 ▸ asS_el e3 ▸ q1 ▸ q2 ▸ .split hz.1 hz.2
  | get =>
    refine bindE (o := asFlags o) h fun u e1 h => ?_
    cases vs with
    | nil => cases h
    | cons x r =>
      refine bindE (o := arg1 r) h fun y e2 h => bindE (o := asI x) h fun k e3 h => bindE (o := asS y) h fun z e4 h => ?_
      have h : mGet k z st = some (v, st') := h
      have q : mGet k z st = some (.str ((lookI k flagNames).getD z), st) := by unfold mGet; cases lookI k flagNames <;> rfl
      exact pairE (q.symm.trans h) fun q1 q2 => asFlags_el e1 ▸ arg1_el e2 ▸ asI_el e3 ▸ asS_el e4 ▸ q1 ▸ q2 ▸ .get
theorem methop_len {m : Meth} {o : PV} {vs : List PV} {v : PV} (e : methop m o vs st = some (v, st')) : st'.sl.length = st.sl.length := by
  replace e := meth_rel e
  induction e using MethR.casesOn <;> rfl
end
theorem setAll_len : ∀ {ks : List Nat} {xs : List PV} {st : St}, setT.setAll ks xs st = some st' → st'.sl.length = st.sl.length
  | [], [], st, e => by cases e; rfl
  | [], _ :: _, st, e => by cases e
  | _ :: _, [], st, e => by cases e
  | k :: ks, x :: xs, st, e => by
    replace e : (setS st k x).bind (setT.setAll ks xs) = some st' := e
    simp only [Option.bind_eq_bind, Option.bind_eq_some_iff, Option.pure_def] at e; obtain ⟨s1, e1, e⟩ := e
    exact (setAll_len e).trans (setS_len e1)
theorem setT_len {t : Tgt} {v : PV} (e : setT t v st = some st') : st'.sl.length = st.sl.length := by
  unfold setT at e
  split at e
  · exact setS_len e
  · exact setAll_len e
  · cases e
theorem obS {α β : Type} {o : Option α} {x : α} {f : α → Option β} {y : Option β} (h : o = some x) (k : f x = y) : (o >>= f) = y := by rw [h]; exact k
theorem iS {α : Type} {c : Prop} [Decidable c] {a b y : Option α} (h : c) (k : a = y) : (if c then a else b) = y := (if_pos h).trans k
theorem m3a (a b c : Nat) : a ≤ max a (max b c) := Nat.le_max_left ..
theorem m3b (a b c : Nat) : b ≤ max a (max b c) := Nat.le_trans (Nat.le_max_left ..) (Nat.le_max_right ..)
theorem m3c (a b c : Nat) : c ≤ max a (max b c) := Nat.le_trans (Nat.le_max_right ..) (Nat.le_max_right ..)


/-! what a run of a construct is made of; each told in a small room -/
section
variable {P : Prop}
variable {n d : Nat} {r : PV} {st1 : St} {a b : IE} {es : List IE}
theorem evE_const {c : PV} (h : evE Φ (n + 1) d (.const c) st = some (r, st')) : c = r ∧ st = st' := pairE h And.intro
theorem evE_var {i : Nat} (h : evE Φ (n + 1) d (.var i) st = some (r, st')) : st.sl[i]? = some (some r) ∧ st = st' :=
  bindE (o := st.sl[i]?) h fun x e1 h => bindE (o := x) h fun v e2 h => pairE h fun q1 q2 => ⟨by rw [e1, e2, q1], q2⟩
theorem evE_bin {op : Op} (h : evE Φ (n + 1) d (.bin op a b) st = some (r, st')) (k : ∀ x s1 y s2, evE Φ n d a st = some (x, s1) → evE Φ n d b s1 = some (y, s2) → binop op x y s2 = some (r, st') → P) : P :=
  bindP (o := evE Φ n d a st) h fun x s1 e1 h => bindP (o := evE Φ n d b s1) h fun y s2 e2 h => k x s1 y s2 e1 e2 h
theorem evE_neg (h : evE Φ (n + 1) d (.neg a) st = some (r, st')) (k : ∀ i, evE Φ n d a st = some (.int i, st') → mkI (-i) = some r → P) : P :=
  bindP (o := evE Φ n d a st) h fun x s1 e1 h => by
    cases x with
    | int i =>
      refine bindE (o := mkI (-i)) (f := fun v => some (v, s1)) (by rw [← h]; show _ = (mkI (-i)).map _; cases mkI (-i) <;> rfl) fun v e2 h => pairE h fun q1 q2 => ?_
      exact k i (q2 ▸ e1) (q1 ▸ e2)
    | _ => exact nomatch h
theorem evE_cmp {op : COp} (h : evE Φ (n + 1) d (.cmp op a b) st = some (r, st')) (k : ∀ x s1 y c, evE Φ n d a st = some (x, s1) → evE Φ n d b s1 = some (y, st') → cmpop op x y st' = some c → .bool c = r → P) : P :=
  bindP (o := evE Φ n d a st) h fun x s1 e1 h => bindP (o := evE Φ n d b s1) h fun y s2 e2 h => bindE (o := cmpop op x y s2) h fun c e3 h => pairE h fun q1 q2 => k x s1 y c e1 (q2 ▸ e2) (q2 ▸ e3) q1
theorem evE_list (h : evE Φ (n + 1) d (.list es) st = some (r, st')) (k : ∀ xs s1, evEs Φ n d es st = some (xs, s1) → xs.length ≤ room → .ref s1.ob.length = r → (⟨s1.sl, s1.ob ++ [.list xs]⟩ : St) = st' → P) : P :=
  bindP (o := evEs Φ n d es st) h fun xs s1 e1 h => iteE h fun hz h => pairE h fun q1 q2 => k xs s1 e1 hz q1 q2
theorem evE_tup (h : evE Φ (n + 1) d (.tup es) st = some (r, st')) (k : ∀ xs, evEs Φ n d es st = some (xs, st') → xs.length ≤ room → .tup xs = r → P) : P :=
  bindP (o := evEs Φ n d es st) h fun xs s1 e1 h => iteE h fun hz h => pairE h fun q1 q2 => k xs (q2 ▸ e1) hz q1
theorem evE_idx (h : evE Φ (n + 1) d (.idx a b) st = some (r, st')) (k : ∀ x s1 y s2, evE Φ n d a st = some (x, s1) → evE Φ n d b s1 = some (y, s2) → idxop x y s2 = some (r, st') → P) : P :=
  bindP (o := evE Φ n d a st) h fun x s1 e1 h => bindP (o := evE Φ n d b s1) h fun y s2 e2 h => k x s1 y s2 e1 e2 h
/-- a bound of a slice: nothing, or a run -/
inductive BdR (Φ : Nat → Option FnI) (n d : Nat) (st : St) : Option IE → Option PV → St → Prop
  | none : BdR Φ n d st none none st
  | some {a x s1} (e : evE Φ n d a st = some (x, s1)) : BdR Φ n d st (some a) (some x) s1
theorem evE_slice {lo hi : Option IE} (h : evE Φ (n + 1) d (.slice a lo hi) st = some (r, st')) (k : ∀ x s1 u s2 v s3, evE Φ n d a st = some (x, s1) → BdR Φ n d s1 lo u s2 → BdR Φ n d s2 hi v s3 → sliceop x u v s3 = some (r, st') → P) : P :=
  bindP (o := evE Φ n d a st) h fun x s1 e1 h => by
    cases lo with
    | none =>
      cases hi with
      | none => exact k x s1 none s1 none s1 e1 .none .none h
      | some l => exact bindP (o := evE Φ n d l s1) h fun v s2 e2 h => k x s1 none s1 (some v) s2 e1 .none (.some e2) h
    | some l =>
      cases hi with
      | none => exact bindP (o := evE Φ n d l s1) h fun v s2 e2 h => k x s1 (some v) s2 none s2 e1 (.some e2) .none h
      | some l' => exact bindP (o := evE Φ n d l s1) h fun v s2 e2 h => bindP (o := evE Φ n d l' s2) h fun v' s3 e3 h => k x s1 (some v) s2 (some v') s3 e1 (.some e2) (.some e3) h
/-- a call: a def of the text's own, or a builtin -/
inductive CallR (Φ : Nat → Option FnI) (n d : Nat) (vs : List PV) (s2 : St) (r : PV) : PV → St → Prop
  | user {k ob} (e : evCall Φ n d k vs s2.ob = some (r, ob)) : CallR Φ n d vs s2 r (.fn (.user k)) ⟨s2.sl, ob⟩
  | prim {p st'} (e : primop p vs s2 = some (r, st')) : CallR Φ n d vs s2 r (.fn (.prim p)) st'
theorem evE_call (h : evE Φ (n + 1) d (.call a es) st = some (r, st')) (k : ∀ x s1 vs s2, evE Φ n d a st = some (x, s1) → evEs Φ n d es s1 = some (vs, s2) → CallR Φ n d vs s2 r x st' → P) : P :=
  bindP (o := evE Φ n d a st) h fun x s1 e1 h => bindP (o := evEs Φ n d es s1) h fun vs s2 e2 h => k x s1 vs s2 e1 e2 (by
    cases x with
    | fn f =>
      cases f with
      | user j => exact bindP (o := evCall Φ n d j vs s2.ob) h fun v ob e3 h => pairE h fun q1 q2 => q2 ▸ .user (q1 ▸ e3)
      | prim p => exact .prim h
      | flags => exact nomatch h
    | _ => exact nomatch h)
theorem evE_meth {m : Meth} (h : evE Φ (n + 1) d (.meth m a es) st = some (r, st')) (k : ∀ x s1 vs s2, evE Φ n d a st = some (x, s1) → recvOk m x s1 = true → evEs Φ n d es s1 = some (vs, s2) → methop m x vs s2 = some (r, st') → P) : P :=
  bindP (o := evE Φ n d a st) h fun x s1 e1 h => by
    have h : xMeth (ev Φ n) d (recvOk m x s1) m x es s1 = some (r, st') := h
    cases hr : recvOk m x s1 with
    | false => rw [hr] at h; exact nomatch h
    | true => rw [hr] at h; exact bindP (o := evEs Φ n d es s1) h fun vs s2 e2 h => k x s1 vs s2 e1 hr e2 h
theorem evE_comp {gs : List IGen} {m : Nat} (h : evE Φ (n + 1) d (.comp a gs m) st = some (r, st')) (k : ∀ t it ifs rest x s1 i s2 s4 xs, gs = .mk t it ifs :: rest → evE Φ n d it st = some (x, s1) → iterC x s1 = some (i, s2) →
    evC Φ n d a t ifs rest i s2.ob.length ⟨s2.sl ++ List.replicate m none, s2.ob ++ [.list []]⟩ = some s4 → s4.ob[s2.ob.length]? = some (.list xs) → okVs 0 xs = true → okSs st.ob.length (s4.sl.take st.sl.length) = true → okOs st.ob.length (s4.ob.take st.ob.length) = true →
    .ref st.ob.length = r → (⟨s4.sl.take st.sl.length, s4.ob.take st.ob.length ++ [.list xs]⟩ : St) = st' → P) : P := by
  cases gs with
  | nil => exact nomatch h
  | cons g rest =>
    cases g with
    | mk t it ifs =>
      refine bindP (o := evE Φ n d it st) h fun x s1 e1 h => bindP (o := iterC x s1) h fun i s2 e2 h => bindE (o := evC Φ n d a t ifs rest i s2.ob.length ⟨s2.sl ++ List.replicate m none, s2.ob ++ [.list []]⟩) h fun s4 e4 h => ?_
      have h : xOut st s4 s4.ob[s2.ob.length]? = some (r, st') := h
      cases eo : s4.ob[s2.ob.length]? with
      | none => rw [eo] at h; exact nomatch h
      | some o =>
        rw [eo] at h
        cases o with
        | list xs =>
          unfold xOut at h
          dsimp only at h
          split at h
          · rename_i hc
            rw [Bool.and_eq_true, Bool.and_eq_true] at hc
            exact pairE h fun q1 q2 => k t it ifs rest x s1 i s2 s4 xs rfl e1 e2 e4 eo hc.1.1 hc.1.2 hc.2 q1 q2
          · cases h
        | _ => exact nomatch h
theorem evE_ife {t : IT} (h : evE Φ (n + 1) d (.ife t a b) st = some (r, st')) (k : ∀ c s1, evT Φ n d t st = some (c, s1) → evE Φ n d (cond c a b) s1 = some (r, st') → P) : P :=
  bindP (o := evT Φ n d t st) h fun c s1 e1 h => k c s1 e1 (by cases c <;> exact h)
theorem evE_bad (h : evE Φ n d .bad st = some (r, st')) : False := by cases n <;> exact nomatch h
theorem evEs_nil {vs : List PV} (h : evEs Φ (n + 1) d [] st = some (vs, st')) : [] = vs ∧ st = st' := pairE h And.intro
theorem evEs_cons {vs : List PV} (h : evEs Φ (n + 1) d (a :: es) st = some (vs, st')) (k : ∀ x s1 xs, evE Φ n d a st = some (x, s1) → evEs Φ n d es s1 = some (xs, st') → x :: xs = vs → P) : P :=
  bindP (o := evE Φ n d a st) h fun x s1 e1 h => bindP (o := evEs Φ n d es s1) h fun xs s2 e2 h => pairE h fun q1 q2 => k x s1 xs e1 (q2 ▸ e2) q1
variable {c : Bool} {t u : IT} {ts : List IT}
theorem evT_e (h : evT Φ (n + 1) d (.e a) st = some (c, st')) (k : ∀ v, evE Φ n d a st = some (v, st') → truthV v st' = some c → P) : P :=
  bindP (o := evE Φ n d a st) h fun x s1 e1 h => bindE (o := truthV x s1) h fun b e2 h => pairE h fun q1 q2 => k x (q2 ▸ e1) (q1 ▸ q2 ▸ e2)
theorem evT_not (h : evT Φ (n + 1) d (.not t) st = some (c, st')) (k : ∀ b, evT Φ n d t st = some (b, st') → (!b) = c → P) : P :=
  bindP (o := evT Φ n d t st) h fun x s1 e1 h => pairE h fun q1 q2 => k x (q2 ▸ e1) q1
theorem evT_and (h : evT Φ (n + 1) d (.and t u) st = some (c, st')) (k : ∀ x s1, evT Φ n d t st = some (x, s1) → (bif x then evT Φ n d u s1 else some (false, s1)) = some (c, st') → P) : P :=
  bindP (o := evT Φ n d t st) h fun x s1 e1 h => k x s1 e1 (by cases x <;> exact h)
theorem evT_or (h : evT Φ (n + 1) d (.or t u) st = some (c, st')) (k : ∀ x s1, evT Φ n d t st = some (x, s1) → (bif x then some (true, s1) else evT Φ n d u s1) = some (c, st') → P) : P :=
  bindP (o := evT Φ n d t st) h fun x s1 e1 h => k x s1 e1 (by cases x <;> exact h)
theorem evTs_nil (h : evTs Φ (n + 1) d [] st = some (c, st')) : true = c ∧ st = st' := pairE h And.intro
theorem evTs_cons (h : evTs Φ (n + 1) d (t :: ts) st = some (c, st')) (k : ∀ x s1, evT Φ n d t st = some (x, s1) → (bif x then evTs Φ n d ts s1 else some (false, s1)) = some (c, st') → P) : P :=
  bindP (o := evT Φ n d t st) h fun x s1 e1 h => k x s1 e1 (by cases x <;> exact h)
variable {tg : Tgt} {gs : List IGen} {it acc : Nat}
/-- a turn of a comprehension, its tests passed -/
inductive TurnR (Φ : Nat → Option FnI) (n d : Nat) (a : IE) (acc : Nat) (s3 s4 : St) : List IGen → Prop
  | last {x s u} (e : evE Φ n d a s3 = some (x, s)) (e2 : methop .append (.ref acc) [x] s = some (u, s4)) : TurnR Φ n d a acc s3 s4 []
  | more {t it ifs gs x s i s'} (e : evE Φ n d it s3 = some (x, s)) (e2 : iterC x s = some (i, s')) (e3 : evC Φ n d a t ifs gs i acc s' = some s4) : TurnR Φ n d a acc s3 s4 (.mk t it ifs :: gs)
theorem xTurn_el {s3 s4 : St} (h : xTurn (ev Φ n) d a acc gs s3 = some s4) : TurnR Φ n d a acc s3 s4 gs := by
  cases gs with
  | nil => exact bindP (o := evE Φ n d a s3) h fun x s e1 h => bindP (o := methop .append (.ref acc) [x] s) h fun u s' e2 h => by cases h; exact .last e1 e2
  | cons g gs =>
    cases g with
    | mk t it ifs => exact bindP (o := evE Φ n d it s3) h fun x s e1 h => bindP (o := iterC x s) h fun i s' e2 h => .more e1 e2 h
/-- a call of a def -/
inductive FnR (Φ : Nat → Option FnI) (n d k : Nat) (args : List PV) (ob : List PO) (r : PV) (ob' : List PO) : Prop
  | spec {F ids vs ls r0 ls'} (eF : Φ k = some (.spec F)) (hc : callOk ob = true) (he : enterObs args ob = some (ids, vs, ls)) (e1 : F vs ls = some (r0, ls')) (e2 : leaveObs ids r0 ls' ob = some (r, ob')) (hd : d + 1 = topD)
  | code {np ns df body ids ys ls fl s1 r0} (eF : Φ k = some (.code np ns df body)) (hc : callOk ob = true) (he : enterObs args ob = some (ids, ys, ls)) (h1 : (ys ++ df.drop (ys.length + df.length - np)).length = np) (h2 : np ≤ ns)
      (hev : evSs Φ n d body ⟨(ys ++ df.drop (ys.length + df.length - np)).map some ++ List.replicate (ns - np) none, ls⟩ = some (fl, s1)) (hfl : retOf fl = some r0) (hlv : leaveObs ids r0 s1.ob ob = some (r, ob'))
theorem evCall_zero {k : Nat} {args : List PV} {ob ob' : List PO} (h : evCall Φ n 0 k args ob = some (r, ob')) : False := by cases n <;> exact nomatch h
theorem xFnI_el {k : Nat} {args : List PV} {ob ob' : List PO} {F : Option FnI} (hF : Φ k = F) (hc : callOk ob = true) (h : xFnI (ev Φ n) d args ob F = some (r, ob')) : FnR Φ n d k args ob r ob' := by
  cases F with
  | none => exact nomatch h
  | some f =>
    cases f with
    | spec F =>
      have h : xSpec F args ob (Nat.beq (d + 1) topD) = some (r, ob') := h
      cases hd : Nat.beq (d + 1) topD with
      | false => rw [hd] at h; exact nomatch h
      | true =>
        rw [hd] at h
        exact bindE (o := enterObs args ob) h fun p e1 h => bindP (o := F p.2.1 p.2.2) h fun r0 ls' e2 h => .spec hF hc e1 e2 h (Nat.eq_of_beq_eq_true hd)
    | code np ns df body =>
      exact bindE (o := enterObs args ob) h fun p e1 h => iteE h fun hc' h => bindP (o := evSs Φ n d body ⟨(p.2.1 ++ df.drop (p.2.1.length + df.length - np)).map some ++ List.replicate (ns - np) none, p.2.2⟩) h fun fl s1 e2 h => bindE (o := retOf fl) h fun r0 e3 h => .code hF hc e1 hc'.1 hc'.2 e2 e3 h
theorem evCall_el {k : Nat} {args : List PV} {ob ob' : List PO} (h : evCall Φ (n + 1) (d + 1) k args ob = some (r, ob')) : FnR Φ n d k args ob r ob' := by
  have h : (match callOk ob with | false => none | true => xFnI (ev Φ n) d args ob (Φ k)) = some (r, ob') := h
  cases hc : callOk ob with
  | false => rw [hc] at h; exact nomatch h
  | true => rw [hc] at h; exact xFnI_el rfl hc h
inductive OkR (Φ : Nat → Option FnI) (n d : Nat) (a : IE) (acc : Nat) (gs : List IGen) (s3 : St) : Bool → St → Prop
  | skip : OkR Φ n d a acc gs s3 false s3
  | take {s4} (h : TurnR Φ n d a acc s3 s4 gs) : OkR Φ n d a acc gs s3 true s4
theorem OkR.no {s3 s4 : St} (h : OkR Φ n d a acc gs s3 false s4) : s3 = s4 := by cases h; rfl
theorem OkR.yes {s3 s4 : St} (h : OkR Φ n d a acc gs s3 true s4) : TurnR Φ n d a acc s3 s4 gs := by cases h; assumption
theorem TurnR.nil {s3 s4 : St} (h : TurnR Φ n d a acc s3 s4 []) (k : ∀ x s u, evE Φ n d a s3 = some (x, s) → methop .append (.ref acc) [x] s = some (u, s4) → P) : P := by cases h with | last e e2 => exact k _ _ _ e e2
theorem TurnR.cons {s3 s4 : St} {t : Tgt} {it : IE} {ifs : List IT} (h : TurnR Φ n d a acc s3 s4 (.mk t it ifs :: gs)) (k : ∀ x s i s', evE Φ n d it s3 = some (x, s) → iterC x s = some (i, s') → evC Φ n d a t ifs gs i acc s' = some s4 → P) : P := by
  cases h with | more e e2 e3 => exact k _ _ _ _ e e2 e3
/-- what follows an item, or none -/
inductive CTail (Φ : Nat → Option FnI) (n d : Nat) (a : IE) (tg : Tgt) (ts : List IT) (gs : List IGen) (it acc : Nat) (s1 st' : St) : Option PV → Prop
  | done (e : s1 = st') : CTail Φ n d a tg ts gs it acc s1 st' none
  | turn {v s2 b s3 s4} (e2 : setT tg v s1 = some s2) (e3 : evTs Φ n d ts s2 = some (b, s3)) (e4 : OkR Φ n d a acc gs s3 b s4) (e5 : evC Φ n d a tg ts gs it acc s4 = some st') : CTail Φ n d a tg ts gs it acc s1 st' (some v)
theorem CTail.no {s1 : St} (h : CTail Φ n d a tg ts gs it acc s1 st' none) : s1 = st' := by cases h; assumption
theorem CTail.yes {s1 : St} {v : PV} (h : CTail Φ n d a tg ts gs it acc s1 st' (some v)) (k : ∀ s2 b s3 s4, setT tg v s1 = some s2 → evTs Φ n d ts s2 = some (b, s3) → OkR Φ n d a acc gs s3 b s4 → evC Φ n d a tg ts gs it acc s4 = some st' → P) : P := by
  cases h with | turn e2 e3 e4 e5 => exact k _ _ _ _ e2 e3 e4 e5
theorem evC_el (h : evC Φ (n + 1) d a tg ts gs it acc st = some st') (k : ∀ r s1, nextI tg it st = some (r, s1) → CTail Φ n d a tg ts gs it acc s1 st' r → P) : P :=
  bindP (o := nextI tg it st) h fun r s1 e1 h => k r s1 e1 (by
    cases r with
    | none => cases h; exact .done rfl
    | some v =>
      exact bindE (o := setT tg v s1) h fun s2 e2 h => bindP (o := evTs Φ n d ts s2) h fun b s3 e3 h => bindE (o := xOk (ev Φ n) d b a acc gs s3) h fun s4 e4 h => .turn e2 e3 (by
        cases b with
        | false => cases e4; exact .skip
        | true => exact .take (xTurn_el e4)) h)
variable {fl : Flow} {s : IS} {ss so : List IS}
/-- a block, its first statement run -/
inductive ThenR (A : Prop) (r : Flow) (s1 st' : St) : Flow → Prop
  | next (h : A) : ThenR A r s1 st' .next
  | stop {f} (hf : f ≠ .next) (e1 : f = r) (e2 : s1 = st') : ThenR A r s1 st' f
theorem ThenR.next' {A : Prop} {r : Flow} {s1 st' : St} (h : ThenR A r s1 st' .next) : A := by
  cases h with
  | next h => exact h
  | stop hf => exact absurd rfl hf
theorem ThenR.stop' {A : Prop} {r f : Flow} {s1 st' : St} (h : ThenR A r s1 st' f) (hf : f ≠ .next) : f = r ∧ s1 = st' := by
  cases h with
  | next h => exact absurd rfl hf
  | stop _ e1 e2 => exact ⟨e1, e2⟩
theorem xThen_el {s1 : St} {f : Flow} (h : xThen (ev Φ n) d f ss s1 = some (fl, st')) : ThenR (evSs Φ n d ss s1 = some (fl, st')) fl s1 st' f := by
  cases f with
  | next => exact .next h
  | _ => exact pairE h fun q1 q2 => .stop (fun z => nomatch z) q1 q2
theorem evSs_nil (h : evSs Φ (n + 1) d [] st = some (fl, st')) : .next = fl ∧ st = st' := pairE h And.intro
theorem evSs_cons (h : evSs Φ (n + 1) d (s :: ss) st = some (fl, st')) (k : ∀ f s1, evS Φ n d s st = some (f, s1) → ThenR (evSs Φ n d ss s1 = some (fl, st')) fl s1 st' f → P) : P :=
  bindP (o := evS Φ n d s st) h fun f s1 e1 h => k f s1 e1 (xThen_el h)
theorem evS_expr (h : evS Φ (n + 1) d (.expr a) st = some (fl, st')) (k : ∀ v, evE Φ n d a st = some (v, st') → .next = fl → P) : P :=
  bindP (o := evE Φ n d a st) h fun v s1 e1 h => pairE h fun q1 q2 => k v (q2 ▸ e1) q1
theorem evS_asg (h : evS Φ (n + 1) d (.asg tg a) st = some (fl, st')) (k : ∀ v s1, evE Φ n d a st = some (v, s1) → setT tg v s1 = some st' → .next = fl → P) : P :=
  bindP (o := evE Φ n d a st) h fun v s1 e1 h => bindE (o := setT tg v s1) h fun s2 e2 h => pairE h fun q1 q2 => k v s1 e1 (q2 ▸ e2) q1
theorem evS_asgIdx {i e : IE} (h : evS Φ (n + 1) d (.asgIdx a i e) st = some (fl, st')) (k : ∀ v s1 l s2 j s3 xs, evE Φ n d e st = some (v, s1) → evE Φ n d a s1 = some (.ref l, s2) → evE Φ n d i s2 = some (.int j, s3) → s3.ob[l]? = some (.list xs) → 0 ≤ j → j.toNat < xs.length → j < big →
    .next = fl → setO s3 l (.list (xs.set j.toNat v)) = st' → P) : P :=
  bindP (o := evE Φ n d e st) h fun v s1 e1 h => bindP (o := evE Φ n d a s1) h fun x s2 e2 h => bindP (o := evE Φ n d i s2) h fun y s3 e3 h => by
    cases x with
    | ref l =>
      cases y with
      | int j =>
        have h : xPut v (.ref l) (.int j) s3 = some (fl, st') := h
        unfold xPut at h
        dsimp only at h
        split at h
        · rename_i xs eo
          exact iteE h fun hc h => pairE h fun q1 q2 => k v s1 l s2 j s3 xs e1 e2 e3 eo hc.1 hc.2.1 hc.2.2 q1 q2
        · cases h
      | _ => exact nomatch h
    | _ => exact nomatch h
theorem evS_aug {i : Nat} {op : Op} (h : evS Φ (n + 1) d (.aug i op a) st = some (fl, st')) (k : ∀ p q z s1, st.sl[i]? = some (some (.int p)) → evE Φ n d a st = some (.int q, s1) → augOk op = true → intOp op p q = some z → ∀ v, mkI z = some v → setS s1 i v = some st' → .next = fl → P) : P :=
  bindE (o := st.sl[i]?) h fun o e0 h => bindE (o := o) h fun x e01 h => bindP (o := evE Φ n d a st) h fun y s1 e1 h => by
    have h : xAug1 (augOk op) i op x y s1 = some (fl, st') := h
    cases ho : augOk op with
    | false => rw [ho] at h; exact nomatch h
    | true =>
      rw [ho] at h
      cases x with
      | int p =>
        cases y with
        | int q => exact bindE (o := intOp op p q) h fun z e2 h => bindE (o := mkI z) h fun v e3 h => bindE (o := setS s1 i v) h fun s2 e4 h => pairE h fun q1 q2 => k p q z s1 (e01 ▸ e0) e1 ho e2 v e3 (q2 ▸ e4) q1
        | _ => exact nomatch h
      | _ => exact nomatch h
theorem evS_ife (h : evS Φ (n + 1) d (.ife t ss so) st = some (fl, st')) (k : ∀ c s1, evT Φ n d t st = some (c, s1) → evSs Φ n d (cond c ss so) s1 = some (fl, st') → P) : P :=
  bindP (o := evT Φ n d t st) h fun c s1 e1 h => k c s1 e1 (by cases c <;> exact h)
theorem evS_whl (h : evS Φ (n + 1) d (.whl t ss) st = some (fl, st')) : evW Φ n d t ss st = some (fl, st') := h
theorem evS_fr (h : evS Φ (n + 1) d (.fr tg a ss so) st = some (fl, st')) (k : ∀ x s1 i s2 f s3, evE Φ n d a st = some (x, s1) → iterI x s1 = some (i, s2) → evF Φ n d tg ss so i s2 = some (f, s3) → xFr st.ob.length f s3 = (fl, st') → P) : P :=
  bindP (o := evE Φ n d a st) h fun x s1 e1 h => bindP (o := iterI x s1) h fun i s2 e2 h => bindP (o := evF Φ n d tg ss so i s2) h fun f s3 e3 h => k x s1 i s2 f s3 e1 e2 e3 (Option.some.inj h)
theorem evS_ret (h : evS Φ (n + 1) d (.ret a) st = some (fl, st')) (k : ∀ v, evE Φ n d a st = some (v, st') → .ret v = fl → P) : P :=
  bindP (o := evE Φ n d a st) h fun v s1 e1 h => pairE h fun q1 q2 => k v (q2 ▸ e1) q1
theorem evS_brk (h : evS Φ (n + 1) d .brk st = some (fl, st')) : .brk = fl ∧ st = st' := pairE h And.intro
theorem evS_cont (h : evS Φ (n + 1) d .cont st = some (fl, st')) : .cont = fl ∧ st = st' := pairE h And.intro
theorem evS_pass (h : evS Φ (n + 1) d .pass st = some (fl, st')) : .next = fl ∧ st = st' := pairE h And.intro
theorem evS_try (h : evS Φ (n + 1) d (.try ss so) st = some (fl, st')) (k : ∀ f s1, evSs Φ n d ss st = some (f, s1) → ThenR (evSs Φ n d so s1 = some (fl, st')) fl s1 st' f → P) : P :=
  bindP (o := evSs Φ n d ss st) h fun f s1 e1 h => k f s1 e1 (xThen_el h)
theorem evS_rd {i j : Nat} (h : evS Φ n d (.rd i j) st = some (fl, st')) : False := by cases n <;> exact nomatch h
theorem evS_bad (h : evS Φ n d .bad st = some (fl, st')) : False := by cases n <;> exact nomatch h
/-- a loop's body run -/
inductive LoopR (A : Prop) (r : Flow) (sb sr st' : St) : Flow → Prop
  | next (h : A) : LoopR A r sb sr st' .next
  | cont (h : A) : LoopR A r sb sr st' .cont
  | brk (e1 : .next = r) (e2 : sb = st') : LoopR A r sb sr st' .brk
  | ret {v} (e1 : .ret v = r) (e2 : sr = st') : LoopR A r sb sr st' (.ret v)
theorem LoopR.next' {A : Prop} {r : Flow} {sb sr st' : St} (h : LoopR A r sb sr st' .next) : A := by cases h; assumption
theorem LoopR.cont' {A : Prop} {r : Flow} {sb sr st' : St} (h : LoopR A r sb sr st' .cont) : A := by cases h; assumption
theorem LoopR.brk' {A : Prop} {r : Flow} {sb sr st' : St} (h : LoopR A r sb sr st' .brk) : .next = r ∧ sb = st' := by cases h; constructor <;> assumption
theorem LoopR.ret' {A : Prop} {r : Flow} {sb sr st' : St} {v : PV} (h : LoopR A r sb sr st' (.ret v)) : .ret v = r ∧ sr = st' := by cases h; constructor <;> assumption
inductive WTail (Φ : Nat → Option FnI) (n d : Nat) (t : IT) (b : List IS) (m : Nat) (r : Flow) (s1 st' : St) : Bool → Prop
  | done (e1 : .next = r) (e2 : gc m s1 = st') : WTail Φ n d t b m r s1 st' false
  | turn {f s2} (e : evSs Φ n d b s1 = some (f, s2)) (h : LoopR (evW Φ n d t b (gc m s2) = some (r, st')) r (gc m s2) s2 st' f) : WTail Φ n d t b m r s1 st' true
theorem WTail.no {m : Nat} {s1 : St} (h : WTail Φ n d t ss m fl s1 st' false) : .next = fl ∧ gc m s1 = st' := by cases h; constructor <;> assumption
theorem WTail.yes {m : Nat} {s1 : St} (h : WTail Φ n d t ss m fl s1 st' true) (k : ∀ f s2, evSs Φ n d ss s1 = some (f, s2) → LoopR (evW Φ n d t ss (gc m s2) = some (fl, st')) fl (gc m s2) s2 st' f → P) : P := by cases h with | turn e h => exact k _ _ e h
theorem evW_el (h : evW Φ (n + 1) d t ss st = some (fl, st')) (k : ∀ c s1, evT Φ n d t st = some (c, s1) → WTail Φ n d t ss st.ob.length fl s1 st' c → P) : P :=
  bindP (o := evT Φ n d t st) h fun c s1 e1 h => k c s1 e1 (by
    cases c with
    | false => exact pairE h fun q1 q2 => .done q1 q2
    | true =>
      refine bindP (o := evSs Φ n d ss s1) h fun f s2 e2 h => .turn e2 ?_
      cases f with
      | next => exact .next h
      | cont => exact .cont h
      | brk => exact pairE h fun q1 q2 => .brk q1 q2
      | ret v => exact pairE h fun q1 q2 => .ret q1 q2)
inductive FTail (Φ : Nat → Option FnI) (n d : Nat) (tg : Tgt) (b o : List IS) (it m : Nat) (r : Flow) (s1 st' : St) : Option PV → Prop
  | done (e : evSs Φ n d o s1 = some (r, st')) : FTail Φ n d tg b o it m r s1 st' none
  | turn {v s2 f s3} (e1 : setT tg v s1 = some s2) (e : evSs Φ n d b s2 = some (f, s3)) (h : LoopR (evF Φ n d tg b o it (gc m s3) = some (r, st')) r s3 s3 st' f) : FTail Φ n d tg b o it m r s1 st' (some v)
theorem FTail.no {m : Nat} {s1 : St} (h : FTail Φ n d tg ss so it m fl s1 st' none) : evSs Φ n d so s1 = some (fl, st') := by cases h; assumption
theorem FTail.yes {m : Nat} {s1 : St} {v : PV} (h : FTail Φ n d tg ss so it m fl s1 st' (some v)) (k : ∀ s2 f s3, setT tg v s1 = some s2 → evSs Φ n d ss s2 = some (f, s3) → LoopR (evF Φ n d tg ss so it (gc m s3) = some (fl, st')) fl s3 s3 st' f → P) : P := by
  cases h with | turn e1 e h => exact k _ _ _ e1 e h
theorem evF_el (h : evF Φ (n + 1) d tg ss so it st = some (fl, st')) (k : ∀ r s1, nextI tg it st = some (r, s1) → FTail Φ n d tg ss so it st.ob.length fl s1 st' r → P) : P :=
  bindP (o := nextI tg it st) h fun r s1 e1 h => k r s1 e1 (by
    cases r with
    | none => exact .done h
    | some v =>
      refine bindE (o := setT tg v s1) h fun s2 e2 h => bindP (o := evSs Φ n d ss s2) h fun f s3 e3 h => .turn e2 e3 ?_
      cases f with
      | next => exact .next h
      | cont => exact .cont h
      | brk => exact pairE h fun q1 q2 => .brk q1 q2
      | ret v => exact pairE h fun q1 q2 => .ret q1 q2)
end

/-! no run turns the number of slots -/
noncomputable def LenE (Φ : Nat → Option FnI) (n : Nat) : Prop := ∀ d e st r st', evE Φ n d e st = some (r, st') → st'.sl.length = st.sl.length
noncomputable def LenEs (Φ : Nat → Option FnI) (n : Nat) : Prop := ∀ d e st r st', evEs Φ n d e st = some (r, st') → st'.sl.length = st.sl.length
noncomputable def LenT (Φ : Nat → Option FnI) (n : Nat) : Prop := ∀ d e st r st', evT Φ n d e st = some (r, st') → st'.sl.length = st.sl.length
noncomputable def LenTs (Φ : Nat → Option FnI) (n : Nat) : Prop := ∀ d e st r st', evTs Φ n d e st = some (r, st') → st'.sl.length = st.sl.length
noncomputable def LenC (Φ : Nat → Option FnI) (n : Nat) : Prop := ∀ d elt t ifs gs it acc st st', evC Φ n d elt t ifs gs it acc st = some st' → st'.sl.length = st.sl.length
noncomputable def LenSs (Φ : Nat → Option FnI) (n : Nat) : Prop := ∀ d e st r st', evSs Φ n d e st = some (r, st') → st'.sl.length = st.sl.length
noncomputable def LenS (Φ : Nat → Option FnI) (n : Nat) : Prop := ∀ d e st r st', evS Φ n d e st = some (r, st') → st'.sl.length = st.sl.length
noncomputable def LenW (Φ : Nat → Option FnI) (n : Nat) : Prop := ∀ d t b st r st', evW Φ n d t b st = some (r, st') → st'.sl.length = st.sl.length
noncomputable def LenF (Φ : Nat → Option FnI) (n : Nat) : Prop := ∀ d t b o it st r st', evF Φ n d t b o it st = some (r, st') → st'.sl.length = st.sl.length
structure LenAll (Φ : Nat → Option FnI) (n : Nat) : Prop where
  e : LenE Φ n
  es : LenEs Φ n
  t : LenT Φ n
  ts : LenTs Φ n
  c : LenC Φ n
  ss : LenSs Φ n
  s : LenS Φ n
  w : LenW Φ n
  f : LenF Φ n

theorem lenE_succ {n : Nat} (H : LenAll Φ n) : LenE Φ (n + 1) := fun d e st r st' h => by
  cases e with
  | const => exact (evE_const h).2 ▸ rfl
  | var => exact (evE_var h).2 ▸ rfl
  | bin => exact evE_bin h fun x s1 y s2 e1 e2 h => (binop_len h).trans ((H.e _ _ _ _ _ e2).trans (H.e _ _ _ _ _ e1))
  | neg => exact evE_neg h fun i e1 _ => H.e _ _ _ _ _ e1
  | cmp => exact evE_cmp h fun x s1 y c e1 e2 _ _ => (H.e _ _ _ _ _ e2).trans (H.e _ _ _ _ _ e1)
  | list => exact evE_list h fun xs s1 e1 _ _ q => by rw [← q]; exact (H.es _ _ _ _ _ e1 :)
  | tup => exact evE_tup h fun xs e1 _ _ => H.es _ _ _ _ _ e1
  | idx => exact evE_idx h fun x s1 y s2 e1 e2 h => (idxop_len h).trans ((H.e _ _ _ _ _ e2).trans (H.e _ _ _ _ _ e1))
  | slice =>
    have hb : ∀ {s1 : St} {a u s2}, BdR Φ n d s1 a u s2 → s2.sl.length = s1.sl.length := fun b => by cases b with | none => rfl | some e => exact H.e _ _ _ _ _ e
    exact evE_slice h fun x s1 u s2 v s3 e1 b1 b2 h => (sliceop_len h).trans ((hb b2).trans ((hb b1).trans (H.e _ _ _ _ _ e1)))
  | call => exact evE_call h fun x s1 vs s2 e1 e2 hc => (show st'.sl.length = s2.sl.length by cases hc with | user => rfl | prim e => exact primop_len e).trans ((H.es _ _ _ _ _ e2).trans (H.e _ _ _ _ _ e1))
  | meth => exact evE_meth h fun x s1 vs s2 e1 _ e2 h => (methop_len h).trans ((H.es _ _ _ _ _ e2).trans (H.e _ _ _ _ _ e1))
  | comp =>
    exact evE_comp h fun t it ifs rest x s1 i s2 s4 xs _ e1 e2 e4 _ _ _ _ _ q => by
      rw [← q]
      have h4 := H.c _ _ _ _ _ _ _ _ _ e4
      rw [List.length_append, List.length_replicate, iterC_len e2, H.e _ _ _ _ _ e1] at h4
      rw [List.length_take, h4]; exact Nat.min_eq_left (Nat.le_add_right _ _)
  | ife => exact evE_ife h fun c s1 e1 h => (H.e _ _ _ _ _ h).trans (H.t _ _ _ _ _ e1)
  | bad => exact (evE_bad h).elim
theorem lenEs_succ {n : Nat} (H : LenAll Φ n) : LenEs Φ (n + 1) := fun d e st r st' h => by
  cases e with
  | nil => exact (evEs_nil h).2 ▸ rfl
  | cons => exact evEs_cons h fun x s1 xs e1 e2 _ => (H.es _ _ _ _ _ e2).trans (H.e _ _ _ _ _ e1)
theorem len_bif {c : Bool} {o : Option (Bool × St)} {b : Bool} {s1 st st' : St} {r : Bool} (h1 : s1.sl.length = st.sl.length) (h : (bif c then o else some (b, s1)) = some (r, st')) (k : o = some (r, st') → st'.sl.length = s1.sl.length) : st'.sl.length = st.sl.length := by
  cases c with
  | true => exact (k h).trans h1
  | false => exact pairE h fun _ q => q ▸ h1
theorem lenT_succ {n : Nat} (H : LenAll Φ n) : LenT Φ (n + 1) := fun d e st r st' h => by
  cases e with
  | e => exact evT_e h fun v e1 _ => H.e _ _ _ _ _ e1
  | not => exact evT_not h fun b e1 _ => H.t _ _ _ _ _ e1
  | and => exact evT_and h fun x s1 e1 h => len_bif (H.t _ _ _ _ _ e1) h fun h => H.t _ _ _ _ _ h
  | or => exact evT_or h fun x s1 e1 h => len_bif (c := !x) (H.t _ _ _ _ _ e1) (by cases x <;> exact h) fun h => H.t _ _ _ _ _ h
theorem lenTs_succ {n : Nat} (H : LenAll Φ n) : LenTs Φ (n + 1) := fun d e st r st' h => by
  cases e with
  | nil => exact (evTs_nil h).2 ▸ rfl
  | cons => exact evTs_cons h fun x s1 e1 h => len_bif (H.t _ _ _ _ _ e1) h fun h => H.ts _ _ _ _ _ h
theorem lenC_succ {n : Nat} (H : LenAll Φ n) : LenC Φ (n + 1) := fun d elt t ifs gs it acc st st' h => evC_el h fun r s1 e1 ht => by
  have h1 := nextI_len e1
  cases ht with
  | done e => exact e ▸ h1
  | turn e2 e3 e4 e5 =>
    refine (H.c _ _ _ _ _ _ _ _ _ e5).trans (Eq.trans ?_ ((H.ts _ _ _ _ _ e3).trans ((setT_len e2).trans h1)))
    cases e4 with
    | skip => rfl
    | take h => cases h with
      | last e e2 => exact (methop_len e2).trans (H.e _ _ _ _ _ e)
      | more e e2 e3 => exact (H.c _ _ _ _ _ _ _ _ _ e3).trans ((iterC_len e2).trans (H.e _ _ _ _ _ e))
theorem len_then {A : Prop} {r f : Flow} {s1 st' : St} (h : ThenR A r s1 st' f) (k : A → st'.sl.length = s1.sl.length) : st'.sl.length = s1.sl.length := by
  cases h with
  | next h => exact k h
  | stop _ _ e => rw [e]
theorem lenSs_succ {n : Nat} (H : LenAll Φ n) : LenSs Φ (n + 1) := fun d e st r st' h => by
  cases e with
  | nil => exact (evSs_nil h).2 ▸ rfl
  | cons => exact evSs_cons h fun f s1 e1 h => (len_then h fun h => H.ss _ _ _ _ _ h).trans (H.s _ _ _ _ _ e1)
theorem lenS_succ {n : Nat} (H : LenAll Φ n) : LenS Φ (n + 1) := fun d e st r st' h => by
  cases e with
  | expr => exact evS_expr h fun v e1 _ => H.e _ _ _ _ _ e1
  | asg => exact evS_asg h fun v s1 e1 e2 _ => (setT_len e2).trans (H.e _ _ _ _ _ e1)
  | asgIdx => exact evS_asgIdx h fun v s1 l s2 j s3 xs e1 e2 e3 _ _ _ _ _ q => q ▸ (H.e _ _ _ _ _ e3).trans ((H.e _ _ _ _ _ e2).trans (H.e _ _ _ _ _ e1))
  | aug => exact evS_aug h fun p q z s1 _ e1 _ _ v _ e2 _ => (setS_len e2).trans (H.e _ _ _ _ _ e1)
  | ife => exact evS_ife h fun c s1 e1 h => (H.ss _ _ _ _ _ h).trans (H.t _ _ _ _ _ e1)
  | whl => exact H.w _ _ _ _ _ _ (evS_whl h)
  | fr =>
    exact evS_fr h fun x s1 i s2 f s3 e1 e2 e3 q => by
      have h3 := (H.f _ _ _ _ _ _ _ _ e3).trans ((iterI_len e2).trans (H.e _ _ _ _ _ e1))
      cases f <;> cases q <;> first | exact h3 | (rw [gc_len]; exact h3)
  | ret => exact evS_ret h fun v e1 _ => H.e _ _ _ _ _ e1
  | brk => exact (evS_brk h).2 ▸ rfl
  | cont => exact (evS_cont h).2 ▸ rfl
  | pass => exact (evS_pass h).2 ▸ rfl
  | «try» => exact evS_try h fun f s1 e1 h => (len_then h fun h => H.ss _ _ _ _ _ h).trans (H.ss _ _ _ _ _ e1)
  | rd => exact (evS_rd h).elim
  | bad => exact (evS_bad h).elim
theorem len_loop {A : Prop} {r f : Flow} {sb sr st' : St} {m : Nat} (h : LoopR A r sb sr st' f) (k : A → st'.sl.length = m) (h1 : sb.sl.length = m) (h2 : sr.sl.length = m) : st'.sl.length = m := by
  cases h with
  | next h => exact k h
  | cont h => exact k h
  | brk _ e => exact e ▸ h1
  | ret _ e => exact e ▸ h2
theorem lenW_succ {n : Nat} (H : LenAll Φ n) : LenW Φ (n + 1) := fun d t b st r st' h => evW_el h fun c s1 e1 h => by
  have h1 := H.t _ _ _ _ _ e1
  cases h with
  | done _ e => rw [← e, gc_len]; exact h1
  | turn e2 h =>
    have h2 := (H.ss _ _ _ _ _ e2).trans h1
    exact len_loop h (fun h => (H.w _ _ _ _ _ _ h).trans ((gc_len _ _).trans h2)) ((gc_len _ _).trans h2) h2
theorem lenF_succ {n : Nat} (H : LenAll Φ n) : LenF Φ (n + 1) := fun d t b o it st r st' h => evF_el h fun c s1 e1 h => by
  have h1 := nextI_len e1
  cases h with
  | done e => exact (H.ss _ _ _ _ _ e).trans h1
  | turn e2 e3 h =>
    have h2 := (H.ss _ _ _ _ _ e3).trans ((setT_len e2).trans h1)
    exact len_loop h (fun h => (H.f _ _ _ _ _ _ _ _ h).trans ((gc_len _ _).trans h2)) h2 h2
theorem len_all : ∀ n, LenAll Φ n
  | 0 => ⟨fun _ _ _ _ _ h => (nomatch h), fun _ _ _ _ _ h => (nomatch h), fun _ _ _ _ _ h => (nomatch h), fun _ _ _ _ _ h => (nomatch h), fun _ _ _ _ _ _ _ _ _ h => (nomatch h),
      fun _ _ _ _ _ h => (nomatch h), fun _ _ _ _ _ h => (nomatch h), fun _ _ _ _ _ _ h => (nomatch h), fun _ _ _ _ _ _ _ _ h => (nomatch h)⟩
  | n + 1 => let H := len_all n; ⟨lenE_succ H, lenEs_succ H, lenT_succ H, lenTs_succ H, lenC_succ H, lenSs_succ H, lenS_succ H, lenW_succ H, lenF_succ H⟩
end Mine.Internal
end
section
open PySem PySem.W PyProof.Rows
namespace Mine.Internal

/-- the address is none of the own ones -/
noncomputable def Off (φ : Nat → Addr) (n : Nat) (a : Addr) : Prop := ∀ i, i < n → φ i ≠ a

inductive VR (fv : Fn → Value) (φ : Nat → Addr) (n : Nat) (h : Heap) : Value → PV → Prop
  | none : VR fv φ n h .none .none
  | bool (b : Bool) : VR fv φ n h (.bool b) (.bool b)
  | int (i : Int) (t : Tok) : VR fv φ n h (.int i t) (.int i)
  | str (s : Str) (t : Tok) : VR fv φ n h (.str s t) (.str s)
  | tup {a : Addr} {vs : List Value} {xs : List PV} (ht : h.IsTuple a vs.toArray) (ho : Off φ n a) (hl : vs.length = xs.length)
      (hp : ∀ (i : Nat) (v : Value) (x : PV), vs[i]? = some v → xs[i]? = some x → VR fv φ n h v x) : VR fv φ n h (.ref a) (.tup xs)
  | ref (i : Nat) (hi : i < n) : VR fv φ n h (.ref (φ i)) (.ref i)
  | fn (f : Fn) : VR fv φ n h (fv f) (.fn f)

noncomputable def VRs (fv : Fn → Value) (φ : Nat → Addr) (n : Nat) (h : Heap) (vs : List Value) (xs : List PV) : Prop :=
  vs.length = xs.length ∧ ∀ (i : Nat) (v : Value) (x : PV), vs[i]? = some v → xs[i]? = some x → VR fv φ n h v x

structure Step (φ : Nat → Addr) (n : Nat) (h : Heap) (φ' : Nat → Addr) (n' : Nat) (h' : Heap) : Prop where
  le : n ≤ n'
  sz : h.objs.size ≤ h'.objs.size
  agr : ∀ i, i < n → φ' i = φ i
  new : ∀ i, n ≤ i → i < n' → ∀ a vs, Off φ n a → h.IsTuple a vs → φ' i ≠ a
  keep : ∀ a vs, Off φ n a → h.IsTuple a vs → h'.IsTuple a vs

theorem Step.refl (φ : Nat → Addr) (n : Nat) (h : Heap) : Step φ n h φ n h := ⟨Nat.le_refl _, Nat.le_refl _, fun _ _ => rfl, fun _ h1 h2 => absurd h2 (Nat.not_lt.mpr h1), fun _ _ _ x => x⟩
theorem Step.off {φ φ' : Nat → Addr} {n n' : Nat} {h h' : Heap} (S : Step φ n h φ' n' h') {a : Addr} {vs : Array Value} (o : Off φ n a) (t : h.IsTuple a vs) : Off φ' n' a := by
  intro i hi
  by_cases q : i < n
  · rw [S.agr i q]; exact o i q
  · exact S.new i (Nat.not_lt.mp q) hi a vs o t
theorem Step.trans {φ φ1 φ2 : Nat → Addr} {n n1 n2 : Nat} {h h1 h2 : Heap} (S : Step φ n h φ1 n1 h1) (T : Step φ1 n1 h1 φ2 n2 h2) : Step φ n h φ2 n2 h2 := by
  refine ⟨Nat.le_trans S.le T.le, Nat.le_trans S.sz T.sz, fun i hi => (T.agr i (Nat.lt_of_lt_of_le hi S.le)).trans (S.agr i hi), fun i hi hi2 a vs o t => ?_, fun a vs o t => T.keep a vs (S.off o t) (S.keep a vs o t)⟩
  by_cases q : i < n1
  · rw [T.agr i q]; exact S.new i hi q a vs o t
  · exact T.new i (Nat.not_lt.mp q) hi2 a vs (S.off o t) (S.keep a vs o t)

variable {fv : Fn → Value} {φ φ' : Nat → Addr} {n n' : Nat} {h h' : Heap}

theorem VR.step {v : Value} {x : PV} (V : VR fv φ n h v x) (S : Step φ n h φ' n' h') : VR fv φ' n' h' v x := by
  induction V with
  | none => exact .none
  | bool b => exact .bool b
  | int i t => exact .int i t
  | str s t => exact .str s t
  | tup ht ho hl _ ih => exact .tup (S.keep _ _ ho ht) (S.off ho ht) hl ih
  | ref i hi => rw [← S.agr i hi]; exact .ref i (Nat.lt_of_lt_of_le hi S.le)
  | fn f => exact .fn f
theorem VRs.step {vs : List Value} {xs : List PV} (V : VRs fv φ n h vs xs) (S : Step φ n h φ' n' h') : VRs fv φ' n' h' vs xs := ⟨V.1, fun i v x a b => (V.2 i v x a b).step S⟩

theorem okVs_get {m : Nat} : ∀ {xs : List PV}, okVs m xs = true → ∀ {i : Nat} {x : PV}, xs[i]? = some x → okV m x = true
  | [], _, i, x, e => by simp at e
  | y :: r, hx, i, x, e => by
    replace hx : okV m y = true ∧ okVs m r = true := Bool.and_eq_true_iff.mp hx
    cases i with
    | zero => simp at e; subst e; exact hx.1
    | succ i => simp at e; exact okVs_get hx.2 e
theorem okVs_of {m : Nat} : ∀ {xs : List PV}, (∀ x ∈ xs, okV m x = true) → okVs m xs = true
  | [], _ => rfl
  | y :: _, hx => Bool.and_eq_true_iff.mpr ⟨hx y (.head _), okVs_of fun x hm => hx x (.tail _ hm)⟩
/-- a value whose references lie below m needs no more -/
theorem VR.cut {v : Value} {x : PV} {m : Nat} (V : VR fv φ n h v x) (hx : okV m x = true) (hm : m ≤ n) : VR fv φ m h v x := by
  induction V with
  | none => exact .none
  | bool b => exact .bool b
  | int i t => exact .int i t
  | str s t => exact .str s t
  | tup ht ho hl hp ih =>
    replace hx : okVs _ _ = true := hx
    exact .tup ht (fun i hi => ho i (Nat.lt_of_lt_of_le hi hm)) hl fun i v x a b => ih i v x a b (okVs_get hx b)
  | ref i hi =>
    exact .ref i (Nat.le_of_ble_eq_true hx)
  | fn f => exact .fn f
theorem VRs.cut {vs : List Value} {xs : List PV} {m : Nat} (V : VRs fv φ n h vs xs) (hx : okVs m xs = true) (hm : m ≤ n) : VRs fv φ m h vs xs := ⟨V.1, fun i v x a b => (V.2 i v x a b).cut (okVs_get hx b) hm⟩

theorem VRs.nil : VRs fv φ n h [] [] := ⟨rfl, fun i v x a _ => by simp at a⟩
theorem VRs.cons {v : Value} {x : PV} {vs : List Value} {xs : List PV} (V : VR fv φ n h v x) (W : VRs fv φ n h vs xs) : VRs fv φ n h (v :: vs) (x :: xs) := by
  refine ⟨by simp [W.1], fun i u y a b => ?_⟩
  cases i with
  | zero => simp at a b; subst a; subst b; exact V
  | succ i => simp at a b; exact W.2 i u y a b
theorem VRs.head {v : Value} {x : PV} {vs : List Value} {xs : List PV} (W : VRs fv φ n h (v :: vs) (x :: xs)) : VR fv φ n h v x := W.2 0 v x rfl rfl
theorem VRs.tail {v : Value} {x : PV} {vs : List Value} {xs : List PV} (W : VRs fv φ n h (v :: vs) (x :: xs)) : VRs fv φ n h vs xs :=
  ⟨by simpa using W.1, fun i u y a b => W.2 (i + 1) u y (by simpa using a) (by simpa using b)⟩
theorem VRs.cases {vs : List Value} {x : PV} {xs : List PV} (W : VRs fv φ n h vs (x :: xs)) : ∃ v r, vs = v :: r ∧ VR fv φ n h v x ∧ VRs fv φ n h r xs := by
  cases vs with
  | nil => exact absurd W.1 (by simp)
  | cons v r => exact ⟨v, r, rfl, W.head, W.tail⟩
theorem VRs.isNil {vs : List Value} (W : VRs fv φ n h vs []) : vs = [] := List.length_eq_zero_iff.mp W.1
theorem VRs.get {vs : List Value} {xs : List PV} (W : VRs fv φ n h vs xs) {i : Nat} {x : PV} (e : xs[i]? = some x) : ∃ v, vs[i]? = some v ∧ VR fv φ n h v x := by
  have hi : i < xs.length := (List.getElem?_eq_some_iff.mp e).1
  have hi' : i < vs.length := W.1 ▸ hi
  exact ⟨vs[i], by simp [hi'], W.2 i _ x (by simp [hi']) e⟩
theorem VRs.append {vs us : List Value} {xs ys : List PV} (W : VRs fv φ n h vs xs) (U : VRs fv φ n h us ys) : VRs fv φ n h (vs ++ us) (xs ++ ys) := by
  refine ⟨by simp [W.1, U.1], fun i v x a b => ?_⟩
  by_cases q : i < vs.length
  · rw [List.getElem?_append_left q] at a
    rw [List.getElem?_append_left (W.1 ▸ q)] at b
    exact W.2 i v x a b
  · rw [List.getElem?_append_right (Nat.not_lt.mp q)] at a
    rw [List.getElem?_append_right (W.1 ▸ Nat.not_lt.mp q)] at b
    rw [← W.1] at b
    exact U.2 _ v x a b
theorem VRs.set {vs : List Value} {xs : List PV} (W : VRs fv φ n h vs xs) {k : Nat} {v : Value} {x : PV} (V : VR fv φ n h v x) : VRs fv φ n h (vs.set k v) (xs.set k x) := by
  refine ⟨by simp [W.1], fun i u y a b => ?_⟩
  rw [List.getElem?_set] at a b
  by_cases q : k = i
  · rw [if_pos q] at a b
    split at a
    · split at b
      · cases a; cases b; exact V
      · cases b
    · cases a
  · rw [if_neg q] at a b; exact W.2 i u y a b
theorem VRs.take {vs : List Value} {xs : List PV} (W : VRs fv φ n h vs xs) (k : Nat) : VRs fv φ n h (vs.take k) (xs.take k) := by
  refine ⟨by simp [W.1], fun i u y a b => ?_⟩
  rw [List.getElem?_take] at a b
  split at a
  · rw [if_pos (by assumption)] at b; exact W.2 i u y a b
  · cases a
theorem VRs.drop {vs : List Value} {xs : List PV} (W : VRs fv φ n h vs xs) (k : Nat) : VRs fv φ n h (vs.drop k) (xs.drop k) := by
  refine ⟨by simp [W.1], fun i u y a b => ?_⟩
  rw [List.getElem?_drop] at a b
  exact W.2 _ u y a b

/-! the objects of the call's own -/
noncomputable def Repr (fv : Fn → Value) (base : Heap) (φ : Nat → Addr) (n : Nat) (h : Heap) (k : Nat) : PO → Prop
  | .list xs => base.get? (φ k) = none ∧ ∃ vs, h.PlainList (φ k) (List.toArray vs) ∧ VRs fv φ n h vs xs
  | .ro xs => (∃ o, base.get? (φ k) = some o) ∧ ∃ vs, h.IsList (φ k) (List.toArray vs) ∧ VRs fv φ n h vs xs
  | .range x y z => base.get? (φ k) = none ∧ rangeFits x y z = true ∧ ∃ t u v, IsRange h (φ k) x y z t u v
  | .rangeIter x l s => base.get? (φ k) = none ∧ IsRangeIter h (φ k) x l s
  | .listIter l i => base.get? (φ k) = none ∧ l < n ∧ h.IsListIter (φ k) (φ l) i
  | .tupIter xs i => base.get? (φ k) = none ∧ ∃ t vs, h.IsTupleIter (φ k) t i ∧ h.IsTuple t (List.toArray vs) ∧ Off φ n t ∧ VRs fv φ n h vs xs
  | .enum it i => base.get? (φ k) = none ∧ it < n ∧ ∃ old, IsEnum h (φ k) (φ it) (i : Int) old
  | .zip a b => base.get? (φ k) = none ∧ a < n ∧ b < n ∧ a ≠ b ∧ k + 1 < n ∧ base.get? (φ (k + 1)) = none ∧
      ∃ TI x y, IsZip h (φ k) TI (φ (k + 1)) .none ∧ IsPair h TI (.ref (φ a)) (.ref (φ b)) ∧ Off φ n TI ∧ IsPair h (φ (k + 1)) x y
  | .dead => base.get? (φ k) = none ∧ φ k < h.objs.size

noncomputable def PO.live : PO → Bool
  | .dead => false
  | _ => true

set_option genCtorIdx false in
inductive Loc where
  | ns (L : Addr) (x : Str)
  | cell (c : Addr)
noncomputable def Loc.ctorIdx (x : Loc) : Nat := @Loc.casesOn (fun _ => Nat) x (fun _ _ => 0) (fun _ => 1)
noncomputable def Loc.at : Loc → Addr
  | .ns L _ => L
  | .cell c => c
noncomputable def SlotIs (fv : Fn → Value) (φ : Nat → Addr) (n : Nat) (h : Heap) : Loc → Option PV → Prop
  | .ns L _, none => ∃ m, h.Ns L m
  | .ns L x, some p => ∃ m, h.Ns L m ∧ ∃ v, m x = some v ∧ VR fv φ n h v p
  | .cell c, none => ∃ v, h.IsCell c v
  | .cell c, some p => ∃ v, h.IsCell c (some v) ∧ VR fv φ n h v p

structure Rel (fv : Fn → Value) (base : Heap) (φ : Nat → Addr) (lay : Nat → Loc) (sl : List (Option PV)) (ob : List PO) (h : Heap) : Prop where
  stays : ∀ b o, base.get? b = some o → h.get? b = some o
  slots : ∀ k p, sl[k]? = some p → SlotIs fv φ ob.length h (lay k) p
  slnew : ∀ k, k < sl.length → base.get? (lay k).at = none
  sldist : ∀ j k, j < sl.length → k < sl.length → lay j = lay k → j = k
  objs : ∀ k o, ob[k]? = some o → Repr fv base φ ob.length h k o
  home : ∃ k p L x, sl[k]? = some p ∧ lay k = .ns L x
  inj : ∀ i j o o', ob[i]? = some o → ob[j]? = some o' → o.live = true → o'.live = true → φ i = φ j → i = j
end Mine.Internal
end
section
open PySem PySem.W PyProof.Rows
namespace Mine.Internal
set_option linter.unusedSectionVars false
set_option linter.unusedVariables false
variable {fv : Fn → Value} {φ φ' : Nat → Addr} {n n' : Nat} {h h' base : Heap} {lay : Nat → Loc} {sl : List (Option PV)} {ob : List PO}

theorem Repr.get {k : Nat} {o : PO} (R : Repr fv base φ n h k o) (hl : o.live = true) : ∃ x, h.get? (φ k) = some x ∧ x.cls ≠ .type "tuple" := by
  cases o with
  | list xs => obtain ⟨_, vs, ⟨c, e⟩, _⟩ := R; exact ⟨_, e, by simp⟩
  | ro xs => obtain ⟨_, vs, ⟨x, e, c, _⟩, _⟩ := R; exact ⟨_, e, by rw [c]; simp⟩
  | range a b c => obtain ⟨_, _, t, u, v, e⟩ := R; exact ⟨_, e, by simp⟩
  | rangeIter x l s => exact ⟨_, R.2, by simp⟩
  | listIter l i => obtain ⟨_, _, x, e, c, _⟩ := R; exact ⟨_, e, by rw [c]; simp⟩
  | tupIter xs i => obtain ⟨_, t, vs, ⟨x, e, c, _⟩, _⟩ := R; exact ⟨_, e, by rw [c]; simp⟩
  | enum it i => obtain ⟨_, _, old, e⟩ := R; exact ⟨_, e, by simp⟩
  | zip a b => obtain ⟨_, _, _, _, _, _, TI, x, y, e, _⟩ := R; exact ⟨_, e, by simp⟩
  | dead => cases hl

theorem Repr.ext {k : Nat} {o : PO} {b : Addr} (R : Repr fv base φ n h k o) (hl : o.live = true) (hk : Heap.ExtBut b h h') (hb : φ k ≠ b) (hbt : ∀ vs, ¬ h.IsTuple b vs)
    (S : Step φ n h φ' n' h') (hkn : k < n) : Repr fv base φ' n' h' k o := by
  have eφ : φ' k = φ k := S.agr k hkn
  have tk : ∀ {a : Addr} {vs : Array Value}, h.IsTuple a vs → h'.IsTuple a vs := fun {a vs} t => t.extBut hk fun e => hbt vs (e ▸ t)
  cases o with
  | list xs => obtain ⟨h0, vs, ⟨c, e⟩, V⟩ := R; exact ⟨by rw [eφ]; exact h0, vs, ⟨c, by rw [eφ]; exact hk _ _ hb e⟩, V.step S⟩
  | ro xs => obtain ⟨h0, vs, V0, V⟩ := R; exact ⟨by rw [eφ]; exact h0, vs, by rw [eφ]; exact V0.extBut hk hb, V.step S⟩
  | range a b c => obtain ⟨h0, hf, t, u, v, e⟩ := R; exact ⟨by rw [eφ]; exact h0, hf, t, u, v, by rw [eφ]; exact hk _ _ hb e⟩
  | rangeIter x l s => exact ⟨by rw [eφ]; exact R.1, by rw [eφ]; exact hk _ _ hb R.2⟩
  | listIter l i => obtain ⟨h0, h1, V⟩ := R; exact ⟨by rw [eφ]; exact h0, Nat.lt_of_lt_of_le h1 S.le, by rw [eφ, S.agr l h1]; exact V.extBut hk hb⟩
  | tupIter xs i => obtain ⟨h0, t, vs, V0, T, O, V⟩ := R; exact ⟨by rw [eφ]; exact h0, t, vs, by rw [eφ]; exact V0.extBut hk hb, tk T, S.off O T, V.step S⟩
  | enum it i => obtain ⟨h0, h1, old, e⟩ := R; exact ⟨by rw [eφ]; exact h0, Nat.lt_of_lt_of_le h1 S.le, old, by rw [eφ, S.agr it h1]; exact hk _ _ hb e⟩
  | zip a c =>
    obtain ⟨h0, h1, h2, h3, h4, h5, TI, x, y, e, eI, O, eO⟩ := R
    have hI : h.IsTuple TI #[.ref (φ a), .ref (φ c)] := ⟨_, eI, rfl, _, rfl⟩
    have hO : h.IsTuple (φ (k + 1)) #[x, y] := ⟨_, eO, rfl, _, rfl⟩
    refine ⟨by rw [eφ]; exact h0, Nat.lt_of_lt_of_le h1 S.le, Nat.lt_of_lt_of_le h2 S.le, h3, Nat.lt_of_lt_of_le h4 S.le, by rw [S.agr _ h4]; exact h5, TI, x, y, ?_, ?_, S.off O hI, ?_⟩
    · rw [eφ, S.agr _ h4]; exact hk _ _ hb e
    · rw [S.agr a h1, S.agr c h2]; exact hk _ _ (fun q => hbt _ (q ▸ hI)) eI
    · rw [S.agr _ h4]; exact hk _ _ (fun q => hbt _ (q ▸ hO)) eO
  | dead => cases hl
theorem Repr.dead {k : Nat} {o : PO} (R : Repr fv base φ n h k o) (hl : o.live = false) (S : Step φ n h φ' n' h') (hkn : k < n) : Repr fv base φ' n' h' k o := by
  cases o with
  | dead => exact ⟨by rw [S.agr k hkn]; exact R.1, by rw [S.agr k hkn]; exact Nat.lt_of_lt_of_le R.2 S.sz⟩
  | _ => cases hl

theorem SlotIs.ext {l : Loc} {p : Option PV} {b : Addr} (R : SlotIs fv φ n h l p) (hk : Heap.ExtBut b h h') (hb : l.at ≠ b) (S : Step φ n h φ' n' h') : SlotIs fv φ' n' h' l p := by
  cases l with
  | ns L x => cases p with
    | none => obtain ⟨m, e⟩ := R; exact ⟨m, e.extBut hk hb⟩
    | some p => obtain ⟨m, e, v, a, V⟩ := R; exact ⟨m, e.extBut hk hb, v, a, V.step S⟩
  | cell c => cases p with
    | none => obtain ⟨v, o, e, d⟩ := R; exact ⟨v, o, hk _ _ hb e, d⟩
    | some p => obtain ⟨v, ⟨o, e, d⟩, V⟩ := R; exact ⟨v, ⟨o, hk _ _ hb e, d⟩, V.step S⟩

/-- what lies at a slot -/
theorem SlotIs.there {l : Loc} {p : Option PV} (R : SlotIs fv φ n h l p) : ∃ o, h.get? l.at = some o ∧ ((∃ es ep, o.data = .dict es ep) ∨ ∃ v, o.data = .cell v) := by
  cases l with
  | ns L x => cases p with
    | none => obtain ⟨m, o, es, ep, e, d, _⟩ := R; exact ⟨o, e, .inl ⟨es, ep, d⟩⟩
    | some p => obtain ⟨m, ⟨o, es, ep, e, d, _⟩, _⟩ := R; exact ⟨o, e, .inl ⟨es, ep, d⟩⟩
  | cell c => cases p with
    | none => obtain ⟨v, o, e, d⟩ := R; exact ⟨o, e, .inr ⟨_, d⟩⟩
    | some p => obtain ⟨v, ⟨o, e, d⟩, _⟩ := R; exact ⟨o, e, .inr ⟨_, d⟩⟩
theorem Repr.data {k : Nat} {o : PO} (R : Repr fv base φ n h k o) (hl : o.live = true) : ∃ x, h.get? (φ k) = some x ∧ ((∃ vs c, x.data = .seq vs c) ∨ ∃ vs, x.data = .fields vs) := by
  cases o with
  | list xs => obtain ⟨_, vs, ⟨c, e⟩, _⟩ := R; exact ⟨_, e, .inl ⟨_, _, rfl⟩⟩
  | ro xs => obtain ⟨_, vs, ⟨x, e, c, m, d⟩, _⟩ := R; exact ⟨_, e, .inl ⟨_, _, d⟩⟩
  | range a b c => obtain ⟨_, _, t, u, v, e⟩ := R; exact ⟨_, e, .inr ⟨_, rfl⟩⟩
  | rangeIter x l s => exact ⟨_, R.2, .inr ⟨_, rfl⟩⟩
  | listIter l i => obtain ⟨_, _, x, e, c, d⟩ := R; exact ⟨_, e, .inr ⟨_, d⟩⟩
  | tupIter xs i => obtain ⟨_, t, vs, ⟨x, e, c, d⟩, _⟩ := R; exact ⟨_, e, .inr ⟨_, d⟩⟩
  | enum it i => obtain ⟨_, _, old, e⟩ := R; exact ⟨_, e, .inr ⟨_, rfl⟩⟩
  | zip a b => obtain ⟨_, _, _, _, _, _, TI, x, y, e, _⟩ := R; exact ⟨_, e, .inr ⟨_, rfl⟩⟩
  | dead => cases hl
theorem slot_ne_obj {l : Loc} {p : Option PV} {k : Nat} {o : PO} (R : SlotIs fv φ n h l p) (X : Repr fv base φ n h k o) (hl : o.live = true) : l.at ≠ φ k := by
  intro e
  obtain ⟨a, ea, da⟩ := R.there
  obtain ⟨b, eb, db⟩ := X.data hl
  rw [e, eb] at ea
  cases ea
  rcases da with ⟨es, ep, d⟩ | ⟨v, d⟩ <;> rcases db with ⟨vs, c, d'⟩ | ⟨vs, d'⟩ <;> rw [d] at d' <;> cases d'

namespace Rel
variable (R : Rel fv base φ lay sl ob h)
include R

theorem lt {k : Nat} {o : PO} (e : ob[k]? = some o) : k < ob.length := (List.getElem?_eq_some_iff.mp e).1

/-- more objects, of no concern -/
theorem step_of_ext (hz : h.objs.size ≤ h'.objs.size) (hk : ∀ b o, h.get? b = some o → h'.get? b = some o) : Step φ ob.length h φ ob.length h' :=
  ⟨Nat.le_refl _, hz, fun _ _ => rfl, fun _ h1 h2 => absurd h2 (Nat.not_lt.mpr h1), fun a vs _ ⟨o, e, r⟩ => ⟨o, hk _ _ e, r⟩⟩
theorem not_tuple_size : ∀ vs, ¬ h.IsTuple h.objs.size vs := fun vs ⟨o, e, _⟩ => Nat.lt_irrefl _ (Heap.lt_size e)
theorem ext (hz : h.objs.size ≤ h'.objs.size) (hk : ∀ b o, h.get? b = some o → h'.get? b = some o) : Rel fv base φ lay sl ob h' := by
  have S := R.step_of_ext hz hk
  have hx : Heap.ExtBut h.objs.size h h' := fun b o _ e => hk b o e
  refine ⟨fun b o e => hk _ _ (R.stays b o e), fun k p e => (R.slots k p e).ext hx ?_ S, R.slnew, R.sldist, fun k o e => ?_, R.home, R.inj⟩
  · obtain ⟨o, eo, _⟩ := (R.slots k p e).there
    exact Nat.ne_of_lt (Heap.lt_size eo)
  · cases hl : o.live with
    | false => exact (R.objs k o e).dead hl S (R.lt e)
    | true =>
      obtain ⟨x, ex, _⟩ := (R.objs k o e).get hl
      exact (R.objs k o e).ext hl hx (Nat.ne_of_lt (Heap.lt_size ex)) R.not_tuple_size S (R.lt e)

theorem ltAll : ∀ k, k < ob.length → φ k < h.objs.size := fun k hk => by
  obtain ⟨o, e⟩ : ∃ o, ob[k]? = some o := ⟨ob[k], by simp [hk]⟩
  cases hl : o.live with
  | true => obtain ⟨x, ex, _⟩ := (R.objs k o e).get hl; exact Heap.lt_size ex
  | false =>
    have X := R.objs k o e
    cases o with
    | dead => exact X.2
    | _ => cases hl
theorem offNew {a : Addr} (ha : h.objs.size ≤ a) : Off φ ob.length a := fun k hk q => by
  have := R.ltAll k hk
  rw [q] at this
  exact absurd this (Nat.not_lt.mpr ha)
/-- one more object of the call's own -/
noncomputable def at_ (φ : Nat → Addr) (n : Nat) (a : Addr) : Nat → Addr := fun i => if i = n then a else φ i
omit R in
theorem at_self (φ : Nat → Addr) (n : Nat) (a : Addr) : at_ φ n a n = a := if_pos rfl
omit R in
theorem at_lt {φ : Nat → Addr} {n i : Nat} {a : Addr} (hi : i < n) : at_ φ n a i = φ i := if_neg (Nat.ne_of_lt hi)
theorem step_push {a : Addr} (hz : h.objs.size ≤ h'.objs.size) (hk : ∀ b o, h.get? b = some o → h'.get? b = some o) (ha : h.get? a = none) : Step φ ob.length h (at_ φ ob.length a) (ob.length + 1) h' := by
  refine ⟨Nat.le_succ _, hz, fun i hi => at_lt hi, fun i h1 h2 b vs _ ⟨o, e, _⟩ q => ?_, fun b vs _ ⟨o, e, r⟩ => ⟨o, hk _ _ e, r⟩⟩
  have : i = ob.length := by lia
  subst this
  rw [at_self] at q
  rw [q, e] at ha; cases ha
theorem push {a : Addr} {o : PO} (hz : h.objs.size ≤ h'.objs.size) (hk : ∀ b o, h.get? b = some o → h'.get? b = some o) (ha : h.get? a = none)
    (hr : Repr fv base (at_ φ ob.length a) (ob.length + 1) h' ob.length o) : Rel fv base (at_ φ ob.length a) lay sl (ob ++ [o]) h' := by
  have S := R.step_push hz hk ha
  have hx : Heap.ExtBut h.objs.size h h' := fun b o _ e => hk b o e
  have hlen : (ob ++ [o]).length = ob.length + 1 := by simp
  have old : ∀ {k : Nat} {x : PO}, (ob ++ [o])[k]? = some x → (k < ob.length ∧ ob[k]? = some x) ∨ (k = ob.length ∧ x = o) := fun {k x} e => by
    by_cases q : k < ob.length
    · rw [List.getElem?_append_left q] at e; exact .inl ⟨q, e⟩
    · rw [List.getElem?_append_right (Nat.not_lt.mp q)] at e
      have : k - ob.length = 0 := by
        have := (List.getElem?_eq_some_iff.mp e).1
        simp at this; omega
      rw [this] at e
      exact .inr ⟨by lia, by simpa using e.symm⟩
  refine ⟨fun b o e => hk _ _ (R.stays b o e), fun k p e => ?_, R.slnew, R.sldist, fun k x e => ?_, R.home, fun i j x y ei ej li lj q => ?_⟩
  · rw [hlen]
    refine (R.slots k p e).ext hx ?_ S
    obtain ⟨o, eo, _⟩ := (R.slots k p e).there
    exact Nat.ne_of_lt (Heap.lt_size eo)
  · rw [hlen]
    rcases old e with ⟨hlt, e'⟩ | ⟨rfl, rfl⟩
    · cases hl : x.live with
      | false => exact (R.objs k x e').dead hl S hlt
      | true =>
        obtain ⟨z, ez, _⟩ := (R.objs k x e').get hl
        exact (R.objs k x e').ext hl hx (Nat.ne_of_lt (Heap.lt_size ez)) R.not_tuple_size S hlt
    · exact hr
  · rcases old ei with ⟨hi, ei'⟩ | ⟨rfl, rfl⟩ <;> rcases old ej with ⟨hj, ej'⟩ | ⟨rfl, rfl⟩
    · rw [at_lt hi, at_lt hj] at q
      exact R.inj i j x y ei' ej' li lj q
    · rw [at_lt hi, at_self] at q
      obtain ⟨z, ez, _⟩ := (R.objs i x ei').get li
      rw [q, ha] at ez; cases ez
    · rw [at_lt hj, at_self] at q
      obtain ⟨z, ez, _⟩ := (R.objs j y ej').get lj
      rw [← q, ha] at ez; cases ez
    · rfl

/-- an object of the call's own turns -/
theorem step_upd {k : Nat} {o : PO} (e : ob[k]? = some o) (hz : h.objs.size ≤ h'.objs.size) (hk : Heap.ExtBut (φ k) h h') : Step φ ob.length h φ ob.length h' :=
  ⟨Nat.le_refl _, hz, fun _ _ => rfl, fun _ h1 h2 => absurd h2 (Nat.not_lt.mpr h1), fun a vs ho ⟨x, ex, r⟩ => ⟨x, hk _ _ (fun q => ho k (R.lt e) q.symm) ex, r⟩⟩
theorem upd {k : Nat} {o o' : PO} (e : ob[k]? = some o) (hl : o.live = true) (hb : base.get? (φ k) = none) (hz : h.objs.size ≤ h'.objs.size) (hk : Heap.ExtBut (φ k) h h') (hr : Repr fv base φ ob.length h' k o') :
    Rel fv base φ lay sl (ob.set k o') h' := by
  have S := R.step_upd e hz hk
  obtain ⟨z, ez, hzc⟩ := (R.objs k o e).get hl
  have hnt : ∀ vs, ¬ h.IsTuple (φ k) vs := fun vs ⟨x, ex, cx, _⟩ => by rw [ez] at ex; cases ex; exact hzc cx
  have hlen : (ob.set k o').length = ob.length := by simp
  have old : ∀ {j : Nat} {x : PO}, (ob.set k o')[j]? = some x → (j ≠ k ∧ ob[j]? = some x) ∨ (j = k ∧ x = o') := fun {j x} ej => by
    rw [List.getElem?_set] at ej
    by_cases q : k = j
    · rw [if_pos q] at ej
      split at ej
      · cases ej; exact .inr ⟨q.symm, rfl⟩
      · cases ej
    · rw [if_neg q] at ej; exact .inl ⟨Ne.symm q, ej⟩
  refine ⟨fun b x ex => hk _ _ (fun q => by rw [q, hb] at ex; cases ex) (R.stays b x ex), fun j p ej => ?_, R.slnew, R.sldist, fun j x ej => ?_, R.home, fun i j x y ei ej li lj q => ?_⟩
  · rw [hlen]
    exact (R.slots j p ej).ext hk (slot_ne_obj (R.slots j p ej) (R.objs k o e) hl) S
  · rw [hlen]
    rcases old ej with ⟨hne, ej'⟩ | ⟨rfl, rfl⟩
    · cases hlx : x.live with
      | false => exact (R.objs j x ej').dead hlx S (R.lt ej')
      | true => exact (R.objs j x ej').ext hlx hk (fun q => hne (R.inj j k x o ej' e hlx hl q)) hnt S (R.lt ej')
    · exact hr
  · rcases old ei with ⟨hi, ei'⟩ | ⟨rfl, rfl⟩ <;> rcases old ej with ⟨hj, ej'⟩ | ⟨rfl, rfl⟩
    · exact R.inj i j x y ei' ej' li lj q
    · exact R.inj i j x o ei' e li hl q
    · exact R.inj i j o y e ej' hl lj q
    · rfl

omit R in
theorem home_set {lay : Nat → Loc} {sl : List (Option PV)} {j : Nat} {q : Option PV} (H : ∃ k p L x, sl[k]? = some p ∧ lay k = .ns L x) : ∃ k p L x, (sl.set j q)[k]? = some p ∧ lay k = .ns L x := by
  obtain ⟨k, p, L, x, e, l⟩ := H
  have hk := (List.getElem?_eq_some_iff.mp e).1
  have : k < (sl.set j q).length := by simpa using hk
  exact ⟨k, _, L, x, List.getElem?_eq_some_iff.mpr ⟨this, rfl⟩, l⟩
/-- a name is bound -/
theorem step_slot {b : Addr} (hz : h.objs.size ≤ h'.objs.size) (hk : Heap.ExtBut b h h') (hb : ∀ vs, ¬ h.IsTuple b vs) : Step φ ob.length h φ ob.length h' :=
  ⟨Nat.le_refl _, hz, fun _ _ => rfl, fun _ h1 h2 => absurd h2 (Nat.not_lt.mpr h1), fun a vs _ t => t.extBut hk fun q => hb vs (q ▸ t)⟩
theorem slot_not_tuple {k : Nat} {p : Option PV} (e : sl[k]? = some p) : ∀ vs, ¬ h.IsTuple (lay k).at vs := fun vs ⟨o, eo, _, c, d⟩ => by
  obtain ⟨x, ex, dx⟩ := (R.slots k p e).there
  rw [eo] at ex; cases ex
  rcases dx with ⟨es, ep, q⟩ | ⟨v, q⟩ <;> rw [d] at q <;> cases q
theorem objs_ext {b : Addr} (hz : h.objs.size ≤ h'.objs.size) (hk : Heap.ExtBut b h h') (hb : ∀ j x, ob[j]? = some x → x.live = true → φ j ≠ b) (hbt : ∀ vs, ¬ h.IsTuple b vs) : ∀ j x, ob[j]? = some x → Repr fv base φ ob.length h' j x := fun j x ej => by
  cases hlx : x.live with
  | false => exact (R.objs j x ej).dead hlx (R.step_slot hz hk hbt) (R.lt ej)
  | true => exact (R.objs j x ej).ext hlx hk (hb j x ej hlx) hbt (R.step_slot hz hk hbt) (R.lt ej)
theorem setLocal {k : Nat} {p : Option PV} {L : Addr} {x : Str} {m : Str → Option Value} {v : Value} {q : PV} (e : sl[k]? = some p) (hlay : lay k = .ns L x) (hm : h.Ns L m)
    (hn : h'.Ns L fun y => if y = x then some v else m y) (hs : Heap.SameBut L h h') (V : VR fv φ ob.length h v q) : Rel fv base φ lay (sl.set k (some q)) ob h' ∧ Step φ ob.length h φ ob.length h' := by
  have hkl : k < sl.length := (List.getElem?_eq_some_iff.mp e).1
  have hx : Heap.ExtBut L h h' := hs.extBut
  have hat : (lay k).at = L := by rw [hlay]; rfl
  have hnt : ∀ vs, ¬ h.IsTuple L vs := hat ▸ R.slot_not_tuple e
  have S := R.step_slot (Nat.le_of_eq hs.1.symm) hx hnt
  refine ⟨⟨fun b o eo => hx _ _ (fun z => ?_) (R.stays b o eo), fun j r ej => ?_, fun j hj => R.slnew j (by simpa using hj), fun i j hi hj => R.sldist i j (by simpa using hi) (by simpa using hj), R.objs_ext (Nat.le_of_eq hs.1.symm) hx (fun j y ej hl => ?_) hnt, home_set R.home, R.inj⟩, S⟩
  · have := R.slnew k hkl
    rw [hat, ← z, eo] at this; cases this
  · rw [List.getElem?_set] at ej
    by_cases hkj : k = j
    · subst hkj
      rw [if_pos rfl, if_pos hkl] at ej
      cases ej
      rw [hlay]
      exact ⟨_, hn, v, if_pos rfl, V.step S⟩
    · rw [if_neg hkj] at ej
      have hjl : j < sl.length := (List.getElem?_eq_some_iff.mp ej).1
      have Sj := R.slots j r ej
      cases hlj : lay j with
      | ns L' y =>
        by_cases hL : L' = L
        · subst hL
          have hy : y ≠ x := fun z => hkj (R.sldist k j hkl hjl (by rw [hlay, hlj, z]))
          rw [hlj] at Sj
          cases r with
          | none => exact ⟨_, hn⟩
          | some r =>
            obtain ⟨m', hm', u, eu, U⟩ := Sj
            refine ⟨_, hn, u, ?_, U.step S⟩
            obtain ⟨o, es, ep, ho, hd, _, hf⟩ := hm
            obtain ⟨o', es', ep', ho', hd', _, hf'⟩ := hm'
            rw [ho] at ho'; cases ho'
            rw [hd] at hd'; cases hd'
            rw [if_neg hy, ← hf, hf', eu]
        · rw [hlj] at Sj
          exact Sj.ext hx hL S
      | cell c =>
        rw [hlj] at Sj
        refine Sj.ext hx (fun z => ?_) S
        have z' : c = L := z
        subst z'
        obtain ⟨o, es, ep, ho, hd, _⟩ := hm
        obtain ⟨o', ho', hd'⟩ := Sj.there
        have ho'' : h.get? c = some o' := ho'
        rw [ho] at ho''; cases ho''
        cases r with
        | none => obtain ⟨v', o2, e2, d2⟩ := Sj; rw [ho] at e2; cases e2; rw [hd] at d2; cases d2
        | some r => obtain ⟨v', ⟨o2, e2, d2⟩, _⟩ := Sj; rw [ho] at e2; cases e2; rw [hd] at d2; cases d2
  · have := slot_ne_obj (R.slots k p e) (R.objs j y ej) hl
    rw [hat] at this
    exact this.symm
theorem setCell {k : Nat} {p : Option PV} {c : Addr} {v : Value} {q : PV} (e : sl[k]? = some p) (hlay : lay k = .cell c)
    (hn : h'.IsCell c (some v)) (hs : Heap.SameBut c h h') (V : VR fv φ ob.length h v q) : Rel fv base φ lay (sl.set k (some q)) ob h' ∧ Step φ ob.length h φ ob.length h' := by
  have hkl : k < sl.length := (List.getElem?_eq_some_iff.mp e).1
  have hx : Heap.ExtBut c h h' := hs.extBut
  have hat : (lay k).at = c := by rw [hlay]; rfl
  have hnt : ∀ vs, ¬ h.IsTuple c vs := hat ▸ R.slot_not_tuple e
  have S := R.step_slot (Nat.le_of_eq hs.1.symm) hx hnt
  refine ⟨⟨fun b o eo => hx _ _ (fun z => ?_) (R.stays b o eo), fun j r ej => ?_, fun j hj => R.slnew j (by simpa using hj), fun i j hi hj => R.sldist i j (by simpa using hi) (by simpa using hj), R.objs_ext (Nat.le_of_eq hs.1.symm) hx (fun j y ej hl => ?_) hnt, home_set R.home, R.inj⟩, S⟩
  · have := R.slnew k hkl
    rw [hat, ← z, eo] at this; cases this
  · rw [List.getElem?_set] at ej
    by_cases hkj : k = j
    · subst hkj
      rw [if_pos rfl, if_pos hkl] at ej
      cases ej
      rw [hlay]
      exact ⟨_, hn, V.step S⟩
    · rw [if_neg hkj] at ej
      have hjl : j < sl.length := (List.getElem?_eq_some_iff.mp ej).1
      refine (R.slots j r ej).ext hx (fun z => ?_) S
      have Sj := R.slots j r ej
      cases hlj : lay j with
      | cell c' =>
        rw [hlj] at z
        exact hkj (R.sldist k j hkl hjl (by rw [hlay, hlj]; exact congrArg Loc.cell z.symm))
      | ns L' y =>
        rw [hlj] at z Sj
        have z' : L' = c := z
        subst z'
        have Sk := R.slots k p e
        rw [hlay] at Sk
        have : ∃ o v', h.get? L' = some o ∧ o.data = .cell v' := by
          cases p with
          | none => obtain ⟨v', o2, e2, d2⟩ := Sk; exact ⟨o2, _, e2, d2⟩
          | some p => obtain ⟨v', ⟨o2, e2, d2⟩, _⟩ := Sk; exact ⟨o2, _, e2, d2⟩
        obtain ⟨o, v', ho, hd⟩ := this
        cases r with
        | none => obtain ⟨m', o', es, ep, ho', hd', _⟩ := Sj; rw [ho] at ho'; cases ho'; rw [hd] at hd'; cases hd'
        | some r => obtain ⟨m', ⟨o', es, ep, ho', hd', _⟩, _⟩ := Sj; rw [ho] at ho'; cases ho'; rw [hd] at hd'; cases hd'
  · have := slot_ne_obj (R.slots k p e) (R.objs j y ej) hl
    rw [hat] at this
    exact this.symm

/-- the frame's own table of names may be laid anew, its names as they were -/
theorem ext_home {L : Addr} {m : Str → Option Value} (hm : h.Ns L m) (hb : base.get? L = none) (hz : h.objs.size ≤ h'.objs.size) (hk : Heap.ExtBut L h h') (hn : h'.Ns L m) : Rel fv base φ lay sl ob h' ∧ Step φ ob.length h φ ob.length h' := by
  obtain ⟨o, es, ep, ho, hd, _, hf⟩ := id hm
  have hnt : ∀ vs, ¬ h.IsTuple L vs := fun vs ⟨x, ex, _, c, d⟩ => by rw [ho] at ex; cases ex; rw [hd] at d; cases d
  have S := R.step_slot hz hk hnt
  have hno : ∀ j x, ob[j]? = some x → x.live = true → φ j ≠ L := fun j x ej hl z => by
    obtain ⟨y, ey, dy⟩ := (R.objs j x ej).data hl
    rw [z, ho] at ey; cases ey
    rcases dy with ⟨vs, c, d⟩ | ⟨vs, d⟩ <;> rw [hd] at d <;> cases d
  refine ⟨⟨fun b o eo => hk _ _ (fun z => by rw [z, hb] at eo; cases eo) (R.stays b o eo), fun j r ej => ?_, R.slnew, R.sldist, R.objs_ext hz hk hno hnt, R.home, R.inj⟩, S⟩
  have Sj := R.slots j r ej
  cases hlj : lay j with
  | ns L' y =>
    by_cases hL : L' = L
    · subst hL
      rw [hlj] at Sj
      cases r with
      | none => exact ⟨_, hn⟩
      | some r =>
        obtain ⟨m', hm', u, eu, U⟩ := Sj
        refine ⟨_, hn, u, ?_, U.step S⟩
        obtain ⟨o', es', ep', ho', hd', _, hf'⟩ := hm'
        rw [ho] at ho'; cases ho'
        rw [hd] at hd'; cases hd'
        rw [← hf, hf', eu]
    · rw [hlj] at Sj
      exact Sj.ext hk hL S
  | cell c =>
    rw [hlj] at Sj
    refine Sj.ext hk (fun z => ?_) S
    have z' : c = L := z
    subst z'
    cases r with
    | none => obtain ⟨v', o2, e2, d2⟩ := Sj; rw [ho] at e2; cases e2; rw [hd] at d2; cases d2
    | some r => obtain ⟨v', ⟨o2, e2, d2⟩, _⟩ := Sj; rw [ho] at e2; cases e2; rw [hd] at d2; cases d2

end Rel

/-- the heap's first L objects -/
noncomputable def cutHeap (h : Heap) (L : Addr) : Heap := { h with objs := h.objs.extract 0 L }
theorem cutHeap_get {h : Heap} {L b : Addr} {o : Obj} (e : (cutHeap h L).get? b = some o) : h.get? b = some o ∧ b < L := by
  obtain ⟨e1, e2⟩ := Heap.get?_some_iff.mp e
  have hlt := (Array.getElem?_eq_some_iff.mp e1).1
  have hs : (cutHeap h L).objs.size = min L h.objs.size := by show (h.objs.extract 0 L).size = _; simp
  refine ⟨Heap.get?_some_iff.mpr ⟨?_, e2⟩, Nat.lt_of_lt_of_le hlt (hs ▸ Nat.min_le_left _ _)⟩
  have e1' : (h.objs.extract 0 L)[b]? = some o := e1
  rw [Array.getElem?_extract] at e1'
  split at e1'
  · simpa using e1'
  · cases e1'
theorem cutHeap_of {h : Heap} {L b : Addr} {o : Obj} (e : h.get? b = some o) (hb : b < L) : (cutHeap h L).get? b = some o := by
  obtain ⟨e1, e2⟩ := Heap.get?_some_iff.mp e
  refine Heap.get?_some_iff.mpr ⟨?_, e2⟩
  show (h.objs.extract 0 L)[b]? = some o
  have hlt := (Array.getElem?_eq_some_iff.mp e1).1
  rw [Array.getElem?_extract, if_pos (by rw [Nat.sub_zero]; exact Nat.lt_min.mpr ⟨hb, hlt⟩)]
  simpa using e1
noncomputable def newsOf (h : Heap) (L : Addr) : List (Addr × Obj) := (List.range h.objs.size).filterMap fun a => if a > L then (h.get? a).map fun o => (a, o) else none
theorem mem_newsOf {h : Heap} {L : Addr} {p : Addr × Obj} : p ∈ newsOf h L ↔ L < p.1 ∧ h.get? p.1 = some p.2 := by
  unfold newsOf
  rw [List.mem_filterMap]
  constructor
  · rintro ⟨a, ha, e⟩
    split at e
    · rename_i hl
      cases hg : h.get? a with
      | none => rw [hg] at e; cases e
      | some o => rw [hg] at e; cases e; exact ⟨hl, hg⟩
    · cases e
  · rintro ⟨hl, e⟩
    exact ⟨p.1, List.mem_range.mpr (Heap.lt_size e), by rw [if_pos hl, e]; rfl⟩

/-- a frame and a ledger, as the library's rules want them -/
theorem frOf {h : Heap} {L : Addr} {m : Str → Option Value} (hm : h.Ns L m) : Fr (cutHeap h L) L h m ∧ News (cutHeap h L) L h (newsOf h L) := by
  refine ⟨⟨hm, fun b o e => (cutHeap_get e).1, ?_⟩, fun p hp => ?_⟩
  · show (h.objs.extract 0 L).size ≤ L
    simp; lia
  · obtain ⟨hl, e⟩ := mem_newsOf.mp hp
    refine ⟨e, Nat.ne_of_gt hl, ?_⟩
    cases q : (cutHeap h L).get? p.1 with
    | none => rfl
    | some o => exact absurd (cutHeap_get q).2 (Nat.not_lt.mpr (Nat.le_of_lt hl))
theorem extOf {h h' : Heap} {L : Addr} {m : Str → Option Value} (F : Fr (cutHeap h L) L h' m) (N : ∀ p ∈ newsOf h L, h'.get? p.1 = some p.2) : Heap.ExtBut L h h' := fun b o hb e => by
  rcases Nat.lt_or_gt_of_ne hb with q | q
  · exact F.keep b o (cutHeap_of e q)
  · exact N (b, o) (mem_newsOf.mpr ⟨q, e⟩)
end Mine.Internal
end
section
open PySem PySem.W PyProof.Rows
namespace Mine.Internal
set_option linter.unusedSectionVars false
set_option linter.unusedVariables false

structure Room (k : Nat) (A : Around) : Prop where
  hh : A.handled = none
  depth : A.depth + k < 600
  units : A.units + 8 * k < 5000

theorem Room.cl {k : Nat} {A : Around} (R : Room k A) : A.units < cLine := by
  have := R.units
  unfold cLine; lia

variable {prog : Program} {w : World} {A : Around} {E : Value → Shared → Prop} {s : Shared}
variable {fv : Fn → Value} {φ φ' : Nat → Addr} {base : Heap} {lay : Nat → Loc} {st st' : St}

noncomputable abbrev RelS (fv : Fn → Value) (base : Heap) (φ : Nat → Addr) (lay : Nat → Loc) (st : St) (h : Heap) : Prop := Rel fv base φ lay st.sl st.ob h
noncomputable abbrev VRS (fv : Fn → Value) (φ : Nat → Addr) (st : St) (h : Heap) (v : Value) (x : PV) : Prop := VR fv φ st.ob.length h v x
noncomputable abbrev StepS (φ : Nat → Addr) (st : St) (h : Heap) (φ' : Nat → Addr) (st' : St) (h' : Heap) : Prop := Step φ st.ob.length h φ' st'.ob.length h'

/-- what a value's computation leaves -/
noncomputable def Post (fv : Fn → Value) (base : Heap) (φ : Nat → Addr) (lay : Nat → Loc) (st st' : St) (r : PV) (s : Shared) (Q : Value → Shared → Prop) : Prop :=
  ∀ φ' v h' tk, RelS fv base φ' lay st' h' → StepS φ st s.heap φ' st' h' → VRS fv φ' st' h' v r → Q v { s with heap := h', toks := tk }
theorem Post.same {Q : Value → Shared → Prop} {r : PV} (P : Post fv base φ lay st st r s Q) (R : RelS fv base φ lay st s.heap) {v : Value} {tk : Nat} (V : VRS fv φ st s.heap v r) : Q v { s with toks := tk } :=
  P φ v s.heap tk R (Step.refl ..) V
theorem Post.same' {Q : Value → Shared → Prop} {r : PV} (P : Post fv base φ lay st st r s Q) (R : RelS fv base φ lay st s.heap) {v : Value} (V : VRS fv φ st s.heap v r) : Q v s :=
  P φ v s.heap s.toks R (Step.refl ..) V

theorem fits_iff {i : Int} : fits i = true ↔ -big < i ∧ i < big := by simp [fits]
theorem mkI_some {i : Int} {v : PV} (e : mkI i = some v) : v = .int i ∧ fits i = true := by
  unfold mkI at e
  split at e
  · cases e; exact ⟨rfl, by assumption⟩
  · cases e
theorem intBits_fits {i : Int} (e : fits i = true) : Builtin.Int.intBits i ≤ 64 := by
  have ⟨h1, h2⟩ := fits_iff.mp e
  unfold big at h1 h2
  unfold Builtin.Int.intBits
  split
  · lia
  · rename_i h
    have h0 : i.natAbs ≠ 0 := by intro z; simp_all
    have : Nat.log2 i.natAbs < 63 := (Nat.log2_lt h0).mpr (by omega)
    lia

noncomputable def opOf : Op → Operator
  | .add => .Add
  | .sub => .Sub
  | .mul => .Mult
  | .fdiv => .FloorDiv
  | .mod => .Mod
  | .shl => .LShift
  | .shr => .RShift
  | .band => .BitAnd
  | .bor => .BitOr
  | .bxor => .BitXor

theorem bitOr_pp {x y : Int} (hx : 0 ≤ x) (hy : 0 ≤ y) : Builtin.bitOr x y = ((x.toNat ||| y.toNat : Nat) : Int) := by
  have nx : ¬ 0 ≤ Builtin.bitNot x := by unfold Builtin.bitNot; lia
  have ny : ¬ 0 ≤ Builtin.bitNot y := by unfold Builtin.bitNot; lia
  have e : ∀ z : Int, Builtin.bitNot (Builtin.bitNot z) = z := fun z => by unfold Builtin.bitNot; lia
  unfold Builtin.bitOr
  rw [bitAnd_nn nx ny, e, e, e]
theorem int_op {op : Op} {a b r : Int} {t u : Tok} {Q : Value → Shared → Prop} (hA : Room k A) (e : intOp op a b = some r) (h : ∀ t tk, Q (.int r t) { s with toks := tk }) :
    wpAny (model prog w) A (binaryOp (opOf op) (.int a t) (.int b u)) Q E s := by
  delta intOp at e; cases op <;> dsimp only at e
  case add => cases e; exact PyProof.Rows.add_int (h _ _)
  case sub => cases e; exact PyProof.Rows.sub_int (h _ _)
  case mul =>
    split at e
    · rename_i hf
      cases e; exact PyProof.Rows.mul_int (h _ _) (IntMulOk.of_left (intBits_fits hf))
    · cases e
  case fdiv =>
    split at e
    · cases e
    · rename_i hb
      cases e
      have hb' : b ≠ 0 ∧ b.natAbs < 1073741824 := by
        refine ⟨fun z => hb (.inl z), Decidable.byContradiction fun z => hb (.inr z)⟩
      exact PyProof.Rows.floordiv_int hb'.1 (h _ _) (Or.inl (PyProof.noPylong_small hb'.2))
  case mod =>
    split at e
    · cases e
    · rename_i hb
      cases e
      exact PyProof.Rows.mod_int' hb (h _ _)
  case shl =>
    split at e
    · rename_i hb
      obtain ⟨hf, h0, h1, h2⟩ := hb
      cases e
      have ⟨f1, f2⟩ := fits_iff.mp hf
      unfold big at f1 f2
      refine PyProof.Rows.lshift_int_small h1 (by lia) (by lia) ?_
      have := h s.toks (s.toks + 1)
      rwa [show (((2 ^ b.toNat : Nat)) : Int) = 2 ^ b.toNat by push_cast; rfl] at this
    · cases e
  case shr =>
    split at e
    · rename_i hb
      obtain ⟨h0, h1, h2⟩ := hb
      cases e
      refine PyProof.Rows.rshift_int h1 ?_
      have := h s.toks (s.toks + 1)
      rwa [show (((2 ^ b.toNat : Nat)) : Int) = 2 ^ b.toNat by push_cast; rfl] at this
    · cases e
  case band =>
    split at e
    · rename_i hb
      cases e
      refine PyProof.Rows.and_int ?_
      rw [bitAnd_pp hb.1 hb.2]
      exact h _ _
    · cases e
  case bor =>
    split at e
    · rename_i hb
      cases e
      refine PyProof.Rows.or_int ?_
      rw [bitOr_pp hb.1 hb.2]
      exact h _ _
    · cases e
  case bxor =>
    split at e
    · rename_i hb
      cases e
      refine PyProof.Rows.xor_int ?_
      unfold Builtin.bitXor
      rw [bitOr_pp hb.1 hb.2, bitAnd_pp hb.1 hb.2]
      exact h _ _
    · cases e
end Mine.Internal
end
section
open PySem PySem.W PyProof.Rows
namespace Mine.Internal
set_option linter.unusedSectionVars false
set_option linter.unusedVariables false
variable {prog : Program} {w : World} {A : Around} {E : Value → Shared → Prop} {s : Shared}
variable {fv : Fn → Value} {φ φ' : Nat → Addr} {n n' : Nat} {h h' base : Heap} {lay : Nat → Loc} {st st' : St}

theorem VR.intv {v : Value} {i : Int} (V : VR fv φ n h v (.int i)) : ∃ t, v = .int i t := by cases V; exact ⟨_, rfl⟩
theorem VR.strv {v : Value} {x : Str} (V : VR fv φ n h v (.str x)) : ∃ t, v = .str x t := by cases V; exact ⟨_, rfl⟩
theorem VR.boolv {v : Value} {b : Bool} (V : VR fv φ n h v (.bool b)) : v = .bool b := by cases V; rfl
theorem VR.nonev {v : Value} (V : VR fv φ n h v .none) : v = .none := by cases V; rfl
theorem VR.refv {v : Value} {i : Nat} (V : VR fv φ n h v (.ref i)) : v = .ref (φ i) ∧ i < n := by cases V; exact ⟨rfl, by assumption⟩
theorem VR.fnv {v : Value} {f : Fn} (V : VR fv φ n h v (.fn f)) : v = fv f := by cases V; rfl
theorem VR.tupv {v : Value} {xs : List PV} (V : VR fv φ n h v (.tup xs)) : ∃ a vs, v = .ref a ∧ h.IsTuple a (List.toArray vs) ∧ Off φ n a ∧ VRs fv φ n h vs xs := by
  cases V with
  | tup ht ho hl hp => exact ⟨_, _, rfl, ht, ho, hl, hp⟩

theorem VRs.intsAre : ∀ {xs : List PV} {vs : List Value} {ns : List Int}, VRs fv φ n h vs xs → intsOf xs = some ns → IntsAre vs ns
  | [], vs, ns, W, e => by
    cases e; rw [W.isNil]; exact .nil
  | x :: r, vs, ns, W, e => by
    obtain ⟨v, us, rfl, V, U⟩ := W.cases
    cases x <;> simp only [intsOf] at e <;> try cases e
    rename_i i
    cases hr : intsOf r with
    | none => rw [hr] at e; cases e
    | some ms =>
      rw [hr] at e; cases e
      obtain ⟨t, rfl⟩ := V.intv
      exact .cons i t (VRs.intsAre U hr)
theorem VRs.strsAre : ∀ {xs : List PV} {vs : List Value} {ns : List Str}, VRs fv φ n h vs xs → strsOf xs = some ns → StrsAre vs ns
  | [], vs, ns, W, e => by
    cases e; rw [W.isNil]; exact .nil
  | x :: r, vs, ns, W, e => by
    obtain ⟨v, us, rfl, V, U⟩ := W.cases
    cases x <;> simp only [strsOf] at e <;> try cases e
    rename_i i
    cases hr : strsOf r with
    | none => rw [hr] at e; cases e
    | some ms =>
      rw [hr] at e; cases e
      obtain ⟨t, rfl⟩ := V.strv
      exact .cons i t (VRs.strsAre U hr)
theorem vrs_of_strs {vs : List Value} {ss : List Str} (W : StrsAre vs ss) : VRs fv φ n h vs (ss.map .str) := by
  induction W with
  | nil => exact .nil
  | cons y t _ ih => exact .cons (.str y t) ih
/-- the list that a reference leads to -/
theorem items_el {i : Nat} {xs : List PV} (e : items st i = some xs) : st.ob[i]? = some (.list xs) ∨ st.ob[i]? = some (.ro xs) := by
  delta items at e
  generalize st.ob[i]? = o at e
  cases o with
  | none => cases e
  | some o => cases o <;> cases e <;> first | exact .inl rfl | exact .inr rfl
theorem items_list (R : RelS fv base φ lay st h) {i : Nat} {xs : List PV} (e : items st i = some xs) : ∃ vs, h.IsList (φ i) (List.toArray vs) ∧ VRs fv φ st.ob.length h vs xs := by
  rcases items_el e with eo | eo
  · obtain ⟨_, vs, ⟨c, eg⟩, V⟩ := R.objs i _ eo
    exact ⟨vs, ⟨_, eg, rfl, _, rfl⟩, V⟩
  · obtain ⟨_, vs, L, V⟩ := R.objs i _ eo
    exact ⟨vs, L, V⟩

theorem carried_strs : ∀ {vs : List Value} {ss : List Str}, StrsAre vs ss → CarriedAll vs (ss.map PyData.str)
  | _, _, .nil => .nil
  | _, _, .cons _ t r => .cons (.str _ t) (carried_strs r)
noncomputable def shortStr (x : Str) : Bool := PyData.strOk x
theorem same_strs : ∀ ns ms : List Str, PySem.Spec.sameAll (ns.map PyData.str) (ms.map PyData.str) = decide (ns = ms)
  | [], [] => rfl
  | [], b :: t => by simp [PySem.Spec.sameAll]
  | a :: r, [] => by simp [PySem.Spec.sameAll]
  | a :: r, b :: t => by
    simp only [List.map_cons, PySem.Spec.sameAll, PySem.Spec.same, same_strs r t]
    by_cases hx : a = b <;> by_cases hy : r = t <;> simp [hx, hy]


theorem okStrs_all : ∀ {ss : List Str}, okStrs ss = true → ss.all PyData.strOk = true
  | [], _ => rfl
  | x :: r, e => by
    rw [okStrs, Bool.and_eq_true] at e
    rw [List.all_cons, okStrs_all e.2, Bool.and_true]
    exact e.1
theorem shaped_strs {ss : List Str} (e : okStrs ss = true) : SeqAt.shaped (.list (ss.map PyData.str)) = true := by
  have h1 : PyData.canLay0 (.list (ss.map PyData.str)) = true := by
    show PyData.canLayAll0 (ss.map PyData.str) = true
    rw [canLayAll_strs', okStrs_all e]
  have h2 : PyData.depth (.list (ss.map PyData.str)) ≤ 64 := by
    show PyData.depthAll (ss.map PyData.str) + 1 ≤ 64
    rw [depthAll_strs']; decide
  exact Bool.and_eq_true_iff.mpr ⟨h1, decide_eq_true h2⟩
theorem ne_strs {a b : Addr} {xs ys : List Value} {ns ms : List Str} {Q : Value → Shared → Prop} (ha : s.heap.IsList a xs.toArray) (hb : s.heap.IsList b ys.toArray) (hi : StrsAre xs ns) (hj : StrsAre ys ms)
    (ho : okStrs ns = true) (ho' : okStrs ms = true) (hu : A.units + 64 < cLine) (h : Q (.bool (!decide (ns = ms))) s) :
    wpAny (model prog w) A (compareOp .NotEq (.ref a) (.ref b)) Q E s :=
  ne_dataH_same (reads_newData ha (carried_strs hi)) (reads_newData hb (carried_strs hj)) (shaped_strs ho) (shaped_strs ho') hu
    (SeqAt.noMix_of_shape (.list .str) rfl _ _ (list_map_has fun _ => rfl) (list_map_has fun _ => rfl))
    (by rw [show PySem.Spec.same (.list (ns.map PyData.str)) (.list (ms.map PyData.str)) = decide (ns = ms) from by simp only [PySem.Spec.same]; exact same_strs ns ms]; exact h)

theorem inI_any {k : Int} : ∀ {ys : List Int}, ys.any (· == k) = inI k ys
  | [] => rfl
  | x :: ys => by
    rw [List.any_cons, inI, inI_any]
    by_cases hx : k = x
    · subst hx; simp
    · have hx' : ¬ x = k := fun q => hx q.symm
      simp [hx, hx']
theorem inS_any {k : Str} : ∀ {ys : List Str}, ys.any (· == k) = inS k ys
  | [] => rfl
  | x :: ys => by
    rw [List.any_cons, inS, inS_any]
    by_cases hx : k = x
    · subst hx; simp
    · have hx' : ¬ x = k := fun q => hx q.symm
      simp [hx, hx']

noncomputable def copOf : COp → CmpOp
  | .eq => .Eq
  | .ne => .NotEq
  | .lt => .Lt
  | .le => .LtE
  | .gt => .Gt
  | .ge => .GtE
  | .is => .Is
  | .isin => .In
  | .notin => .NotIn

/-- two pairs of ints -/
theorem lt_pair {x y : Addr} {a b c d : Int} {ta tb tc td : Tok} {Q : Value → Shared → Prop} (hu : A.units < cLine) (hx : s.heap.IsTuple x #[.int a ta, .int b tb]) (hy : s.heap.IsTuple y #[.int c tc, .int d td])
    (h : Q (.bool (decide (a < c) || (decide (a = c) && decide (b < d)))) s) : wpAny (model prog w) A (compareOp .Lt (.ref x) (.ref y)) Q E s := by
  obtain ⟨ox, eox, cx, nx, dx⟩ := hx
  obtain ⟨oy, eoy, cy, ny, dy⟩ := hy
  have hTx : s.TypeIs (.ref x) "tuple" := ⟨_, eox, cx⟩
  have hTy : s.TypeIs (.ref y) "tuple" := ⟨_, eoy, cy⟩
  show wpAny (model prog w) A (richCompare .Lt (.ref x) (.ref y)) Q E s
  refine wpAny_richCompare_same_room (op := .Lt) hTx hTy F.slot_tuple_lt (wpAny_call_entry F.slot_tuple_lt hTx F.entry_tuple_lt ?_ (F.args_tuple_lt_2 _ _)) hu
  show wpAny _ _ (isInstance (.ref y) (.type "tuple") >>= _) _ _ s
  refine wpAny_bind (wpAny_isInstance hTy isSubtype_tuple_tuple ?_)
  simp only [Bool.not_true, Bool.false_eq_true, if_false]
  refine wpAny_bind (wpAny_tupleItemsOf eox dx ?_)
  refine wpAny_bind (wpAny_tupleItemsOf eoy dy ?_)
  simp only [List.zip_cons_cons, List.zip_nil_right, List.forIn_cons, List.forIn_nil]
  refine wpAny_bind (wpAny_bind (wpAny_bind (wpAny_eqBool_int ?_)))
  by_cases hac : a = c
  · subst hac
    simp only [beq_self_eq_true, Bool.not_true, Bool.false_eq_true, if_false]
    refine wpAny_pure ?_
    refine wpAny_bind (wpAny_bind (wpAny_eqBool_int ?_))
    by_cases hbd : b = d
    · subst hbd
      simp only [beq_self_eq_true, Bool.not_true, Bool.false_eq_true, if_false]
      refine wpAny_pure (wpAny_pure (wpAny_pure ⟨.bool false, rfl, fun q => (nomatch q), ?_⟩))
      simpa using h
    · have e : (b == d) = false := by simpa using hbd
      simp only [e, Bool.not_false, if_true]
      refine wpAny_bind (wpAny_rule (wpAny_bind (wpAny_lt_int (a := b) (b := d) ?_)))
      refine wpAny_bind (wpAny_pure (wpAny_pure (wpAny_pure (wpAny_pure ⟨_, rfl, fun q => (nomatch q), ?_⟩))))
      simpa using h
  · have e : (a == c) = false := by simpa using hac
    simp only [e, Bool.not_false, if_true]
    refine wpAny_bind (wpAny_rule (wpAny_bind (wpAny_lt_int (a := a) (b := c) ?_)))
    refine wpAny_bind (wpAny_pure (wpAny_pure (wpAny_pure (wpAny_pure ⟨_, rfl, fun q => (nomatch q), ?_⟩))))
    simpa [hac] using h


theorem beqd {α : Type} [BEq α] [LawfulBEq α] [DecidableEq α] (a b : α) : (a == b) = decide (a = b) := by
  by_cases q : a = b
  · subst q; simp
  · simp [q]
theorem cmpI_ok {op : COp} {a b : Int} {t t' : Tok} {c : Bool} {Q : Value → Shared → Prop} (e : cmpI op a b = some c) (h : Q (.bool c) s) : wpAny (model prog w) A (compareOp (copOf op) (.int a t) (.int b t')) Q E s := by
  cases op with
  | eq => cases e; exact PyProof.Rows.eq_int (by rw [beqd]; exact h)
  | ne => cases e; exact PyProof.Rows.ne_int (by rw [bne, beqd]; exact h)
  | lt => cases e; exact PyProof.Rows.lt_int h
  | le => cases e; exact PyProof.Rows.le_int h
  | gt => cases e; exact PyProof.Rows.gt_int h
  | ge => cases e; exact PyProof.Rows.ge_int h
  | _ => cases e
theorem cmpS_ok {op : COp} {a b : Str} {t t' : Tok} {c : Bool} {Q : Value → Shared → Prop} (e : cmpS op a b = some c) (h : Q (.bool c) s) : wpAny (model prog w) A (compareOp (copOf op) (.str a t) (.str b t')) Q E s := by
  cases op with
  | eq => cases e; exact PyProof.Rows.eq_str (by rw [beqd]; exact h)
  | ne => cases e; exact PyProof.Rows.ne_str (by rw [bne, beqd]; exact h)
  | _ => cases e
theorem VRs.pair {vs : List Value} {a b : Int} (W : VRs fv φ n h vs [.int a, .int b]) : ∃ t u, vs = [.int a t, .int b u] := by
  obtain ⟨v1, r1, rfl, V1, W⟩ := W.cases
  obtain ⟨v2, r2, rfl, V2, W⟩ := W.cases
  rw [W.isNil]
  obtain ⟨t, rfl⟩ := V1.intv
  obtain ⟨u, rfl⟩ := V2.intv
  exact ⟨t, u, rfl⟩
theorem ne_ok {a b : Addr} {xs ys : List PV} {us vs : List Value} {c : Bool} {Q : Value → Shared → Prop} (e : neVs xs ys = some c) (L : s.heap.IsList a us.toArray) (L' : s.heap.IsList b vs.toArray) (W : VRs fv φ n s.heap us xs) (W' : VRs fv φ n s.heap vs ys) (hu2 : A.units + 64 < cLine) (h : Q (.bool c) s) :
    wpAny (model prog w) A (compareOp .NotEq (.ref a) (.ref b)) Q E s := by
  unfold neVs at e
  split at e
  · rename_i ha hb
    cases e
    exact ke_ne_ints L L' (W.intsAre ha) (W'.intsAre hb) hu2 h
  · split at e
    · rename_i ha hb
      exact iteE e fun hok e => by
        cases e
        rw [Bool.and_eq_true] at hok
        exact ne_strs L L' (W.strsAre ha) (W'.strsAre hb) hok.1 hok.2 hu2 h
    · cases e
theorem mem_ok {x : PV} {ys : List PV} {us : List Value} {c : Bool} {v : Value} {a : Addr} (em : memV x ys = some c) (V : VR fv φ n s.heap v x) (L' : s.heap.IsList a us.toArray) (W' : VRs fv φ n s.heap us ys) :
    wpAny (model prog w) A (compareOp .In v (.ref a)) (fun r s' => r = .bool c ∧ s' = s) E s ∧ wpAny (model prog w) A (compareOp .NotIn v (.ref a)) (fun r s' => r = .bool (!c) ∧ s' = s) E s := by
  cases x with
  | int k =>
    obtain ⟨t, rfl⟩ := V.intv
    obtain ⟨ns, hns, q⟩ := Option.map_eq_some_iff.mp (em : (intsOf ys).map (inI k) = some c)
    subst q
    exact ⟨in_list_ints L' (W'.intsAre hns) ⟨by rw [inI_any], rfl⟩, notin_list_ints L' (W'.intsAre hns) ⟨by rw [inI_any], rfl⟩⟩
  | str k =>
    obtain ⟨t, rfl⟩ := V.strv
    obtain ⟨ns, hns, q⟩ := Option.map_eq_some_iff.mp (em : (strsOf ys).map (inS k) = some c)
    subst q
    exact ⟨in_list_strs L' (W'.strsAre hns) ⟨by rw [inS_any], rfl⟩, notin_list_strs L' (W'.strsAre hns) ⟨by rw [inS_any], rfl⟩⟩
  | _ => cases em
theorem cmp_ok {k : Nat} {op : COp} {x y : PV} {b : Bool} {v u : Value} {Q : Value → Shared → Prop} (hA : Room k A) (e : cmpop op x y st = some b)
    (R : RelS fv base φ lay st s.heap) : VRS fv φ st s.heap v x → VRS fv φ st s.heap u y → Q (.bool b) s → wpAny (model prog w) A (compareOp (copOf op) v u) Q E s := by
  replace e := cmp_rel e
  have hu := hA.cl
  have hu2 : A.units + 64 < cLine := by have := hA.units; unfold cLine; lia
  induction e using CmpR.casesOn with
  | int e => intro V U h; obtain ⟨t, rfl⟩ := V.intv; obtain ⟨t', rfl⟩ := U.intv; exact cmpI_ok e h
  | str e => intro V U h; obtain ⟨t, rfl⟩ := V.strv; obtain ⟨t', rfl⟩ := U.strv; exact cmpS_ok e h
  | tup =>
    intro V U h
    obtain ⟨a, vs, rfl, ta, _, W⟩ := V.tupv
    obtain ⟨a', vs', rfl, ta', _, W'⟩ := U.tupv
    obtain ⟨_, _, rfl⟩ := W.pair
    obtain ⟨_, _, rfl⟩ := W'.pair
    exact lt_pair hu ta ta' h
  | none => intro V U h; rw [V.nonev, U.nonev]; exact wpAny_is_plain rfl h
  | ne ei ej e =>
    intro V U h
    rw [V.refv.1, U.refv.1]
    obtain ⟨vs, L, W⟩ := items_list R ei
    obtain ⟨us, L', W'⟩ := items_list R ej
    exact ne_ok e L L' W W' hu2 h
  | isin ej em =>
    intro V U h
    rw [U.refv.1]
    obtain ⟨us, L', W'⟩ := items_list R ej
    exact wpAny_mono (mem_ok em V L' W').1 (fun r s' q => by rw [q.1, q.2]; exact h) fun _ _ q => q
  | notin ej em =>
    intro V U h
    rw [U.refv.1]
    obtain ⟨us, L', W'⟩ := items_list R ej
    exact wpAny_mono (mem_ok em V L' W').2 (fun r s' q => by rw [q.1, q.2]; exact h) fun _ _ q => q

theorem truth_ok {x : PV} {b : Bool} {v : Value} {Q : Bool → Shared → Prop} (e : truthV x st = some b) (R : RelS fv base φ lay st s.heap) (V : VRS fv φ st s.heap v x) (h : ∀ tk, Q b { s with toks := tk }) : wpAny (model prog w) A (truthy v) Q E s := by
  delta truthV at e; cases x <;> dsimp only at e <;> try cases e
  · rw [V.boolv]; exact wpAny_truthy_bool (h s.toks)
  · rename_i i
    obtain ⟨t, rfl⟩ := V.intv
    refine PyProof.Rows.truthy_int ?_
    have := h s.toks
    simpa [bne, beqd] using this
  · rename_i i
    obtain ⟨rfl, hi⟩ := V.refv
    cases ei : items st i with
    | none => rw [ei] at e; cases e
    | some xs =>
      rw [ei] at e
      simp only [Option.bind_eq_bind, Option.bind_some] at e
      split at e
      · rename_i hl
        cases e
        obtain ⟨vs, L, W⟩ := items_list R ei
        have hs : (List.toArray vs).size = xs.length := by simp [W.1]
        refine wpAny_truthy_list L (by rw [hs]; unfold room at hl; lia) ?_
        have h2 : (List.toArray vs).isEmpty = xs.isEmpty := by
          cases vs with
          | nil => have := W.1; cases xs <;> simp_all
          | cons a r => have := W.1; cases xs <;> simp_all
        rw [h2]; exact h _
      · cases e
end Mine.Internal
end
section
open PySem PySem.W PyProof.Rows
namespace Mine.Internal
set_option linter.unusedSectionVars false
set_option linter.unusedVariables false
variable {prog : Program} {w : World} {A : Around} {E : Value → Shared → Prop} {s : Shared}
variable {fv : Fn → Value} {φ φ' : Nat → Addr} {n n' : Nat} {h h' base : Heap} {lay : Nat → Loc} {st st' : St} {sl : List (Option PV)} {ob : List PO}

theorem Rel.fresh (R : Rel fv base φ lay sl ob h) {a : Addr} (ha : h.get? a = none) : base.get? a = none := by
  cases q : base.get? a with
  | none => rfl
  | some o => rw [R.stays a o q] at ha; cases ha

/-- an object that stands in the heap becomes one of the call's own -/
theorem Rel.adopt (R : Rel fv base φ lay sl ob h) {a : Addr} {o : PO} (hne : ∀ k x, ob[k]? = some x → x.live = true → φ k ≠ a) (hnt : ∀ vs, ¬ h.IsTuple a vs)
    (hr : Repr fv base (Rel.at_ φ ob.length a) (ob.length + 1) h ob.length o) : Rel fv base (Rel.at_ φ ob.length a) lay sl (ob ++ [o]) h ∧ Step φ ob.length h (Rel.at_ φ ob.length a) (ob.length + 1) h := by
  have S : Step φ ob.length h (Rel.at_ φ ob.length a) (ob.length + 1) h := by
    refine ⟨Nat.le_succ _, Nat.le_refl _, fun i hi => Rel.at_lt hi, fun i h1 h2 b vs _ t q => ?_, fun b vs _ t => t⟩
    have : i = ob.length := by lia
    subst this
    rw [Rel.at_self] at q
    exact hnt vs (q ▸ t)
  have hx : Heap.ExtBut h.objs.size h h := Heap.ExtBut.refl _ _
  have hlen : (ob ++ [o]).length = ob.length + 1 := by simp
  have old : ∀ {k : Nat} {x : PO}, (ob ++ [o])[k]? = some x → (k < ob.length ∧ ob[k]? = some x) ∨ (k = ob.length ∧ x = o) := fun {k x} e => by
    by_cases q : k < ob.length
    · rw [List.getElem?_append_left q] at e; exact .inl ⟨q, e⟩
    · rw [List.getElem?_append_right (Nat.not_lt.mp q)] at e
      have : k - ob.length = 0 := by
        have := (List.getElem?_eq_some_iff.mp e).1
        simp at this; omega
      rw [this] at e
      exact .inr ⟨by lia, by simpa using e.symm⟩
  refine ⟨⟨R.stays, fun k p e => ?_, R.slnew, R.sldist, fun k x e => ?_, R.home, fun i j x y ei ej li lj q => ?_⟩, S⟩
  · rw [hlen]
    refine (R.slots k p e).ext hx ?_ S
    obtain ⟨o, eo, _⟩ := (R.slots k p e).there
    exact Nat.ne_of_lt (Heap.lt_size eo)
  · rw [hlen]
    rcases old e with ⟨hlt, e'⟩ | ⟨rfl, rfl⟩
    · cases hl : x.live with
      | false => exact (R.objs k x e').dead hl S hlt
      | true =>
        obtain ⟨z, ez, _⟩ := (R.objs k x e').get hl
        exact (R.objs k x e').ext hl hx (Nat.ne_of_lt (Heap.lt_size ez)) R.not_tuple_size S hlt
    · exact hr
  · rcases old ei with ⟨hi, ei'⟩ | ⟨rfl, rfl⟩ <;> rcases old ej with ⟨hj, ej'⟩ | ⟨rfl, rfl⟩
    · rw [Rel.at_lt hi, Rel.at_lt hj] at q
      exact R.inj i j x y ei' ej' li lj q
    · rw [Rel.at_lt hi, Rel.at_self] at q
      exact absurd q (hne i x ei' li)
    · rw [Rel.at_lt hj, Rel.at_self] at q
      exact absurd q.symm (hne j y ej' lj)
    · rfl

/-- the frame's table, from the relation -/
theorem Rel.homeNs (R : Rel fv base φ lay sl ob h) : ∃ L m, h.Ns L m ∧ base.get? L = none := by
  obtain ⟨k, p, L, x, e, l⟩ := R.home
  have hk := (List.getElem?_eq_some_iff.mp e).1
  have S := R.slots k p e
  have B := R.slnew k hk
  rw [l] at S B
  cases p with
  | none => obtain ⟨m, hm⟩ := S; exact ⟨L, m, hm, B⟩
  | some p => obtain ⟨m, hm, _⟩ := S; exact ⟨L, m, hm, B⟩

/-- behind a rule of the library's: the frame, the ledger, and one new object -/
theorem Rel.madeBy (R : Rel fv base φ lay sl ob h) {L : Addr} {m : Str → Option Value} (hm : h.Ns L m) (hb : base.get? L = none) (F : Fr (cutHeap h L) L h' m) (N : ∀ p ∈ newsOf h L, h'.get? p.1 = some p.2) (hz : h.objs.size ≤ h'.objs.size)
    {a : Addr} {o : PO} (ha : h.get? a = none) (hnt : ∀ vs, ¬ h'.IsTuple a vs)
    (hr : Step φ ob.length h (Rel.at_ φ ob.length a) (ob.length + 1) h' → base.get? a = none → Repr fv base (Rel.at_ φ ob.length a) (ob.length + 1) h' ob.length o) :
    Rel fv base (Rel.at_ φ ob.length a) lay sl (ob ++ [o]) h' ∧ Step φ ob.length h (Rel.at_ φ ob.length a) (ob ++ [o]).length h' ∧ VR fv (Rel.at_ φ ob.length a) (ob ++ [o]).length h' (.ref a) (.ref ob.length) := by
  obtain ⟨R1, S1⟩ := R.ext_home hm hb hz (extOf F N) F.ns
  have S2 : Step φ ob.length h' (Rel.at_ φ ob.length a) (ob.length + 1) h' := by
    refine ⟨Nat.le_succ _, Nat.le_refl _, fun i hi => Rel.at_lt hi, fun i h1 h2 b vs _ t q => ?_, fun b vs _ t => t⟩
    have : i = ob.length := by lia
    subst this
    rw [Rel.at_self] at q
    exact hnt vs (q ▸ t)
  obtain ⟨R2, _⟩ := R1.adopt (a := a) (o := o) (fun k x ek hl q => by
    obtain ⟨z, ez, _⟩ := (R.objs k x ek).get hl
    rw [q, ha] at ez; cases ez) hnt (hr (S1.trans S2) (R.fresh ha))
  have hlen : (ob ++ [o]).length = ob.length + 1 := by simp
  refine ⟨R2, by rw [hlen]; exact S1.trans S2, ?_⟩
  have := VR.ref (fv := fv) (φ := Rel.at_ φ ob.length a) (n := (ob ++ [o]).length) (h := h') ob.length (by simp)
  rwa [Rel.at_self] at this

theorem get_size_none (h : Heap) : h.get? h.objs.size = none := by
  cases q : h.get? h.objs.size with
  | none => rfl
  | some o => exact absurd (Heap.lt_size q) (Nat.lt_irrefl _)
theorem not_tuple_of {a : Addr} {o : Obj} (e : h.get? a = some o) (hc : o.cls ≠ .type "tuple") : ∀ vs, ¬ h.IsTuple a vs := fun vs ⟨x, ex, c, _⟩ => by
  rw [e] at ex; cases ex; exact hc c

theorem Rel.pushNew (R : Rel fv base φ lay sl ob h) {a : Addr} {o : PO} (hz : h.objs.size ≤ h'.objs.size) (hk : ∀ b o, h.get? b = some o → h'.get? b = some o) (ha : h.get? a = none)
    (hr : Step φ ob.length h (Rel.at_ φ ob.length a) (ob.length + 1) h' → base.get? a = none → Repr fv base (Rel.at_ φ ob.length a) (ob.length + 1) h' ob.length o) :
    Rel fv base (Rel.at_ φ ob.length a) lay sl (ob ++ [o]) h' ∧ Step φ ob.length h (Rel.at_ φ ob.length a) (ob ++ [o]).length h' ∧ VR fv (Rel.at_ φ ob.length a) (ob ++ [o]).length h' (.ref a) (.ref ob.length) := by
  have S := R.step_push hz hk ha
  have hlen : (ob ++ [o]).length = ob.length + 1 := by simp
  refine ⟨R.push hz hk ha (hr S (R.fresh ha)), by rw [hlen]; exact S, ?_⟩
  have := VR.ref (fv := fv) (φ := Rel.at_ φ ob.length a) (n := (ob ++ [o]).length) (h := h') ob.length (by simp)
  rwa [Rel.at_self] at this

theorem bin_ok {k : Nat} {op : Op} {x y r : PV} {v u : Value} {Q : Value → Shared → Prop} (hA : Room k A) (e : binop op x y st = some (r, st'))
    (R : RelS fv base φ lay st s.heap) : VRS fv φ st s.heap v x → VRS fv φ st s.heap u y → Post fv base φ lay st st' r s Q → wpAny (model prog w) A (binaryOp (opOf op) v u) Q E s := by
  replace e := bin_rel e
  induction e using BinR.casesOn with
  | int eo em =>
    intro V U P
    obtain ⟨t, rfl⟩ := V.intv
    obtain ⟨t', rfl⟩ := U.intv
    exact int_op hA eo fun t tk => P.same R ((mkI_some em).1 ▸ .int _ t)
  | @str a b h hz =>
    intro V U P
    obtain ⟨t, rfl⟩ := V.strv
    obtain ⟨t', rfl⟩ := U.strv
    rw [h]
    exact PyProof.Rows.add_str (fun t tk => P.same R (.str _ t)) (by show a.cps.size + b.cps.size ≤ sizeLine; unfold room at hz; rw [sizeLine_eq]; lia)
  | @list i j xs ys h ei ej hz =>
    intro V U P
    rw [V.refv.1, U.refv.1, h]
    obtain ⟨vs, L1, W⟩ := items_list R ei
    obtain ⟨us, L2, W'⟩ := items_list R ej
    obtain ⟨L, m, hm, hb⟩ := R.homeNs
    obtain ⟨F, N⟩ := frOf hm
    refine add_arrays F N L1 L2 (fun h' F' N' => ?_) (by rw [List.size_toArray, List.size_toArray, W.1, W'.1, sizeLine_eq]; unfold room at hz; lia)
    have hnew := (N' _ (.head _)).1
    obtain ⟨R', S', V'⟩ := R.madeBy (o := .list (xs ++ ys)) hm hb F' (fun p hp => (N' p (.tail _ hp)).1) (Nat.le_of_lt (Heap.lt_size hnew)) (get_size_none _) (not_tuple_of hnew (by simp)) (fun S hba => ⟨by rw [Rel.at_self]; exact hba, vs ++ us, ⟨_, by
      rw [Rel.at_self]; simpa using hnew⟩, (W.append W').step S⟩)
    exact P _ _ _ s.toks R' S' V'
end Mine.Internal
end
section
open PySem PySem.W PyProof.Rows
namespace Mine.Internal
set_option linter.unusedSectionVars false
set_option linter.unusedVariables false
variable {prog : Program} {w : World} {A : Around} {E : Value → Shared → Prop} {s : Shared}
variable {fv : Fn → Value} {φ φ' : Nat → Addr} {n n' : Nat} {h h' base : Heap} {lay : Nat → Loc} {st st' : St} {sl : List (Option PV)} {ob : List PO}

theorem seqIndex_nat {k : Int} {n : Nat} (h0 : 0 ≤ k) (h1 : k.toNat < n) : seqIndex? k n = some k.toNat := by
  unfold seqIndex?
  have a1 : ¬ k < 0 := by lia
  have a2 : ¬ (n : Int) ≤ k := by lia
  simp [a1, a2] <;> omega

theorem idx_ok {x y r : PV} {v u : Value} {value slice : PySem.Expr} {Q : Value → Shared → Prop} (e : idxop x y st = some (r, st')) (hs : ∀ o i, subscripted slice false o i = operate [o, i] (getItem o i))
    (R : RelS fv base φ lay st s.heap) (V : VRS fv φ st s.heap v x) (U : VRS fv φ st s.heap u y) (P : Post fv base φ lay st st' r s Q) : wpAny (model prog w) A (subscriptTail value slice v u) Q E s := by
  refine idx_rel e fun k qk h0 hb I q => ?_
  subst qk q
  obtain ⟨t', rfl⟩ := U.intv
  have hb' : k < 4611686018427387904 := hb
  revert V P
  clear e
  induction I using IdxR.casesOn with
  | list ei ex =>
    intro V P
    rw [V.refv.1]
    obtain ⟨vs, L, W⟩ := items_list R ei
    obtain ⟨v, ev, V'⟩ := W.get ex
    exact tail_any L.typeIs slot_list_getitem.lookup (wpAny_getItem_list L h0 (by lia) (by simpa using ev) (P.same' R V')) (hs _ _)
  | tup ex =>
    intro V P
    obtain ⟨a, vs, rfl, ta, _, W⟩ := V.tupv
    obtain ⟨v, ev, V'⟩ := W.get ex
    have hlt : k.toNat < vs.length := (List.getElem?_eq_some_iff.mp ev).1
    have hT : s.TypeIs (.ref a) "tuple" := by obtain ⟨o, eo, c, _⟩ := ta; exact ⟨o, eo, c⟩
    exact tail_any hT F.slot_tuple_getitem.lookup (getItem_tuple ta (by lia) (by lia) (seqIndex_nat h0 (by simpa using hlt)) (by simpa using ev) (P.same' R V')) (hs _ _)
  | @str x c ex =>
    intro V P
    obtain ⟨t, rfl⟩ := V.strv
    have hlt : k.toNat < x.cps.size := (Array.getElem?_eq_some_iff.mp ex).1
    have hT : s.TypeIs (.str x t) "str" := rfl
    refine tail_any hT F.slot_str_getitem.lookup (PyProof.Rows.getItem_str ?_ ?_ (P.same R (.str _ _))) (hs _ _)
    · have h1 : ¬ k < -(2 ^ 63 : Int) := by lia
      have h2 : ¬ k ≥ (2 ^ 63 : Int) := by lia
      simp only [decide_eq_false h1, decide_eq_false h2, Bool.or_self]
    · rw [show x.length = x.cps.size from rfl, seqIndex_nat h0 hlt]
      exact ex

/-- a slice's bound -/
inductive Bound : Value → Option PV → Prop
  | none : Bound .none none
  | int (i : Int) (t : Tok) : Bound (.int i t) (some (.int i))
noncomputable def boundInt : Option PV → Option Int
  | some (.int i) => some i
  | _ => none
theorem Bound.part {v : Value} {x : Option PV} (b : Bound v x) : IsPart v (boundInt x) := by cases b <;> constructor
theorem Bound.partv {v : Value} {x : Option PV} (b : Bound v x) : ∃ p : Option (Int × Tok), v = partValue p ∧ p.map (·.1) = boundInt x := by
  cases b with
  | none => exact ⟨Option.none, rfl, rfl⟩
  | int i t => exact ⟨some (i, t), rfl, rfl⟩
theorem clamp_clip {n d j : Nat} {x : Option PV} {v : Value} (b : Bound v x) (e : clamp n d x = some j) : (boundInt x).elim d (clipAt n) = j := by
  cases b with
  | none => simpa [clamp, boundInt] using e
  | int i t =>
    simp only [clamp] at e
    simp only [boundInt, Option.elim]
    split at e
    · rename_i h0
      cases e
      obtain ⟨k, rfl⟩ : ∃ k : Nat, i = (k : Int) := ⟨i.toNat, by lia⟩
      rw [clipAt_nat]; simp
    · rename_i h0
      cases e
      obtain ⟨k, rfl⟩ : ∃ k : Nat, i = -(k : Int) := ⟨(-i).toNat, by lia⟩
      rw [clipAt_neg _ _ (by lia)]; simp

theorem clamp_le {n d j : Nat} {x : Option PV} (hd : d ≤ n) (e : clamp n d x = some j) : j ≤ n := by
  unfold clamp at e
  split at e
  · cases e; exact hd
  · split at e <;> cases e
    · exact Nat.min_le_right _ _
    · exact Nat.sub_le _ _
  · cases e
theorem picked_eq {x : Str} {lo hi : Option PV} {pl pu : Option (Int × Tok)} {i j : Nat} (ql : pl.map (·.1) = boundInt lo) (qu : pu.map (·.1) = boundInt hi) (h1 : (boundInt lo).elim 0 (clipAt x.cps.size) = i) (h2 : (boundInt hi).elim x.cps.size (clipAt x.cps.size) = j) :
    slicePicked x pl pu none = sliceRange i j 1 := by
  have e0 : slicePicked x pl pu none = sliceRange (sliceBounds (boundInt lo) (boundInt hi) none x.cps.size).1 (sliceBounds (boundInt lo) (boundInt hi) none x.cps.size).2.1 1 := by
    unfold slicePicked
    rw [ql, qu]
    rfl
  rw [e0, sliceBounds_plain, h1, h2]
theorem whole_of {x : Str} {i j : Nat} (hj : j ≤ x.cps.size) (hl : (sliceRange i j 1).length = x.length) : (x.cps.toList.take j).drop i = x.cps.toList := by
  have h0 : x.cps.toList.length = x.cps.size := by simp
  have hl' : j - i = x.cps.size := by
    rw [sliceRange_one] at hl
    simpa [Str.length] using hl
  rcases Nat.eq_zero_or_pos x.cps.size with q | q
  · rw [List.length_eq_zero_iff.mp (h0.trans q)]; simp
  · obtain rfl : i = 0 := by lia
    rw [List.drop_zero]
    exact List.take_of_length_le (by lia)
theorem slice_ok {x r : PV} {lo hi : Option PV} {v vl vu : Value} {a : Addr} {value : PySem.Expr} {lower upper : Option PySem.Expr} {p : Pos} {Q : Value → Shared → Prop} (e : sliceop x lo hi st = some (r, st'))
    (R : RelS fv base φ lay st s.heap) (V : VRS fv φ st s.heap v x) (hs : s.heap.get? a = some { cls := .type "slice", data := .fields #[vl, vu, .none] }) (bl : Bound vl lo) (bu : Bound vu hi)
    (P : Post fv base φ lay st st' r s Q) : wpAny (model prog w) A (subscriptTail value (.Slice lower upper none p) v (.ref a)) Q E s := by
  replace e := slice_rel e
  revert V P
  induction e using SliceR.casesOn with
  | @list l xs i j ei e1 e2 hz =>
    intro V P
    rw [V.refv.1]
    obtain ⟨vs, L, W⟩ := items_list R ei
    have hsz : (List.toArray vs).size = xs.length := by rw [List.size_toArray]; exact W.1
    refine tail_any (ops := [.ref a, .ref (φ l)]) L.typeIs slot_list_getitem.lookup (wpAny_getItem_list_slice L ⟨_, hs, rfl, rfl⟩ bl.part bu.part .none (by intro q; cases q) ?_ (by rw [hsz]; unfold room at hz; rw [sizeLine_eq]; lia)) rfl
    have hpick : slicePick (List.toArray vs) (boundInt lo) (boundInt hi) none = List.toArray ((vs.take j).drop i) := by
      rw [slicePick_plain, hsz, clamp_clip bl e1, clamp_clip bu e2]
      simp only [List.drop_take]
    rw [hpick]
    have hx : ∀ b o, s.heap.get? b = some o → (s.heap.push { cls := .type "list", data := .seq (List.toArray ((vs.take j).drop i)) }).get? b = some o := fun b o q => Heap.get?_push_of_some _ q
    obtain ⟨R', S', V'⟩ := R.pushNew (by rw [Heap.size_push]; exact Nat.le_succ _) hx (get_size_none s.heap) (o := .list ((xs.take j).drop i)) fun S hb => ⟨by rw [Rel.at_self]; exact hb, _, ⟨0, by rw [Rel.at_self]; exact Heap.get?_push_size _ rfl⟩, ((W.take j).drop i).step S⟩
    exact P _ _ _ s.toks R' S' V'
  | @str x i j e1 e2 hz =>
    intro V P
    obtain ⟨t, rfl⟩ := V.strv
    obtain ⟨pl, rfl, ql⟩ := bl.partv
    obtain ⟨pu, rfl, qu⟩ := bu.partv
    have e0 := picked_eq ql qu (clamp_clip bl e1) (clamp_clip bu e2)
    have hpick : (slicePicked x pl pu none).filterMap (x.cps[·]?) = (x.cps.toList.take j).drop i := by
      rw [e0]
      simp only [sliceRange_one, pick_run, List.drop_take]
    have hT : s.TypeIs (.str x t) "str" := rfl
    refine tail_any (ops := [.ref a, .str x t]) hT F.slot_str_getitem.lookup (wpAny_getItem_str_slice (l := pl) (u := pu) (st := none) ⟨_, hs, rfl, rfl⟩ rfl ?_) rfl
    unfold sliceMade
    split
    · rename_i hw
      show Q _ _
      have hw' : (slicePicked x pl pu none).length = x.length := by
        have := (Bool.and_eq_true_iff.mp hw).2
        simpa using this
      rw [e0] at hw'
      rw [whole_of (clamp_le (Nat.le_refl _) e2) hw'] at P
      exact P.same' R (.str x t)
    · show _ ∧ Q _ _
      rw [hpick]
      refine ⟨?_, P.same R (.str _ _)⟩
      show (List.toArray ((x.cps.toList.take j).drop i)).size ≤ sizeLine
      rw [List.size_toArray, List.length_drop, List.length_take, sizeLine_eq]
      have : x.cps.toList.length = x.cps.size := by simp
      unfold room at hz
      omega
end Mine.Internal
end
section
open PySem PySem.W PyProof.Rows
namespace Mine.Internal
set_option linter.unusedSectionVars false
set_option linter.unusedVariables false
variable {prog : Program} {w : World} {A : Around} {E : Value → Shared → Prop} {s : Shared}
variable {fv : Fn → Value} {φ φ' : Nat → Addr} {n n' : Nat} {h h' base : Heap} {lay : Nat → Loc} {st st' : St} {sl : List (Option PV)} {ob : List PO}

theorem rangeLen_eq (a b c : Int) : Builtin.Range.rangeSize a b c = rangeLen a b c := by
  unfold Builtin.Range.rangeSize rangeLen
  rfl
theorem rangeFits_el {a b c : Int} (e : rangeFits a b c = true) : ((-4611686018427387904 < a ∧ a < 4611686018427387904) ∧ -4611686018427387904 < b ∧ b < 4611686018427387904) ∧ c ≠ 0 ∧ -1024 < c ∧ c < 1024 := by
  unfold rangeFits at e
  simp only [Bool.and_eq_true, decide_eq_true_eq, Bool.not_eq_true', decide_eq_false_iff_not] at e
  exact ⟨⟨fits_iff.mp e.1.1.1.1, fits_iff.mp e.1.1.1.2⟩, e.1.1.2, e.1.2, e.2⟩
theorem quot_le {x c : Int} (hx : 0 ≤ x) (hc : 0 < c) (hb : x + 1 < 2 * big) : 0 ≤ x / c + 1 ∧ x / c + 1 < 2 * big :=
  ⟨Int.le_add_one (Int.ediv_nonneg hx (Int.le_of_lt hc)), Int.lt_of_le_of_lt (Int.add_le_add_right (Int.ediv_le_self _ hx) 1) hb⟩
theorem diff_lt {a b : Int} (h1 : -4611686018427387904 < a) (h2 : b < 4611686018427387904) : b - a - 1 + 1 < 2 * big := by
  rw [Int.sub_add_cancel]
  exact Int.lt_of_lt_of_le (Int.sub_lt_sub h2 h1) (by decide)
theorem rangeLen_le {a b c : Int} (e : rangeFits a b c = true) : 0 ≤ rangeLen a b c ∧ rangeLen a b c < 2 * big := by
  have ⟨⟨⟨a1, a2⟩, b1, b2⟩, c0, _⟩ := rangeFits_el e
  unfold rangeLen
  split
  · rename_i hc
    split
    · rename_i hab
      exact quot_le (Int.le_sub_one_of_lt (Int.sub_pos_of_lt hab)) hc (diff_lt a1 b2)
    · exact ⟨Int.le_refl 0, by decide⟩
  · rename_i hc
    split
    · rename_i hab
      exact quot_le (Int.le_sub_one_of_lt (Int.sub_pos_of_lt hab)) (Int.neg_pos_of_neg (Int.lt_iff_le_and_ne.mpr ⟨Int.not_lt.mp hc, c0⟩)) (diff_lt b1 a2)
    · exact ⟨Int.le_refl 0, by decide⟩
theorem long_of {i : Int} (h1 : -9223372036854775808 ≤ i) (h2 : i < 9223372036854775808) : Builtin.Range.rangeFitsLong i = true := by
  unfold Builtin.Range.rangeFitsLong
  simp only [Bool.and_eq_true, decide_eq_true_eq]
  lia
theorem long_big {i : Int} (h : -4611686018427387904 < i ∧ i < 4611686018427387904) : Builtin.Range.rangeFitsLong i = true := long_of (Int.le_of_lt (Int.lt_trans (by decide) h.1)) (Int.lt_trans h.2 (by decide))
theorem long_len {i : Int} (h : 0 ≤ i ∧ i < 2 * big) : Builtin.Range.rangeFitsLong i = true := long_of (Int.le_trans (by decide) h.1) h.2
theorem long_c {i : Int} (h : -1024 < i ∧ i < 1024) : Builtin.Range.rangeFitsLong i = true := long_big ⟨Int.lt_trans (by decide) h.1, Int.lt_trans h.2 (by decide)⟩
theorem range_small {a b c : Int} (e : rangeFits a b c = true) : Builtin.Range.small a b c = true := by
  have hl := rangeLen_le e
  have ⟨⟨ha, hb⟩, _, hc⟩ := rangeFits_el e
  unfold Builtin.Range.small
  rw [rangeLen_eq, long_big ha, long_big hb, long_c hc, long_len hl]
  simp only [Bool.true_and, Bool.or_eq_true]
  right
  clear e hl
  split <;> exact long_of (by lia) (by lia)

/-- a new iterator -/
theorem iter_new {Q : Value → Shared → Prop} {o : PO} {x : Obj} (R : RelS fv base φ lay st s.heap) (P : ∀ φ' h' tk, RelS fv base φ' lay ⟨st.sl, st.ob ++ [o]⟩ h' → StepS φ st s.heap φ' ⟨st.sl, st.ob ++ [o]⟩ h' → st.ob.length < (st.ob ++ [o]).length → Q (.ref (φ' st.ob.length)) { s with heap := h', toks := tk })
    (hr : Step φ st.ob.length s.heap (Rel.at_ φ st.ob.length s.heap.objs.size) (st.ob.length + 1) (s.heap.push x) → base.get? s.heap.objs.size = none → Repr fv base (Rel.at_ φ st.ob.length s.heap.objs.size) (st.ob.length + 1) (s.heap.push x) st.ob.length o) :
    Q (.ref s.heap.objs.size) { s with heap := s.heap.push x } := by
  obtain ⟨R', S', V'⟩ := R.pushNew (h' := s.heap.push x) (by rw [Heap.size_push]; exact Nat.le_succ _) (fun b o q => Heap.get?_push_of_some _ q) (get_size_none _) (o := o) hr
  have := P _ _ s.toks R' S' (by simp)
  rwa [Rel.at_self] at this
/-- iter(x) -/
theorem iter_ok {x : PV} {i : Nat} {v : Value} {Q : Value → Shared → Prop} (e : iterI x st = some (i, st')) (R : RelS fv base φ lay st s.heap) : VRS fv φ st s.heap v x →
    (∀ φ' h' tk, RelS fv base φ' lay st' h' → StepS φ st s.heap φ' st' h' → i < st'.ob.length → Q (.ref (φ' i)) { s with heap := h', toks := tk }) → wpAny (model prog w) A (pyIter v) Q E s := by
  replace e := iter_rel e
  induction e using IterR.casesOn with
  | list eo =>
    intro V P
    rw [V.refv.1]
    obtain ⟨hb, vs, ⟨c, eg⟩, W⟩ := R.objs _ _ eo
    exact wpAny_pyIter_list (items := List.toArray vs) ⟨_, eg, rfl, _, rfl⟩ (iter_new R P fun S hb => ⟨by rw [Rel.at_self]; exact hb, Nat.lt_succ_of_lt V.refv.2, by rw [Rel.at_self, Rel.at_lt V.refv.2]; exact ⟨_, Heap.get?_push_size _ rfl, rfl, rfl⟩⟩)
  | ro eo =>
    intro V P
    rw [V.refv.1]
    obtain ⟨hb, vs, L, W⟩ := R.objs _ _ eo
    exact wpAny_pyIter_list L (iter_new R P fun S hb => ⟨by rw [Rel.at_self]; exact hb, Nat.lt_succ_of_lt V.refv.2, by rw [Rel.at_self, Rel.at_lt V.refv.2]; exact ⟨_, Heap.get?_push_size _ rfl, rfl, rfl⟩⟩)
  | range eo =>
    intro V P
    rw [V.refv.1]
    obtain ⟨hb, hf, t, u, v, eg⟩ := R.objs _ _ eo
    refine wpAny_pyIter_range eg (range_small hf) ?_
    rw [rangeLen_eq]
    exact iter_new R P fun S hb => ⟨by rw [Rel.at_self]; exact hb, by rw [Rel.at_self]; exact Heap.get?_push_size _ rfl⟩
  | listIter eo =>
    intro V P
    rw [V.refv.1]
    obtain ⟨hb, hl, I⟩ := R.objs _ _ eo
    exact wpAny_pyIter_listiter I (P φ s.heap s.toks R (Step.refl ..) V.refv.2)
  | rangeIter eo =>
    intro V P
    rw [V.refv.1]
    obtain ⟨hb, I⟩ := R.objs _ _ eo
    exact wpAny_pyIter_rangeiter I (P φ s.heap s.toks R (Step.refl ..) V.refv.2)
  | enum eo =>
    intro V P
    rw [V.refv.1]
    obtain ⟨hb, hl, old, I⟩ := R.objs _ _ eo
    exact wpAny_pyIter_enum I (P φ s.heap s.toks R (Step.refl ..) V.refv.2)
  | zip eo =>
    intro V P
    rw [V.refv.1]
    obtain ⟨hb, _, _, _, _, _, TI, x, y, I, _⟩ := R.objs _ _ eo
    exact wpAny_pyIter_zip I (P φ s.heap s.toks R (Step.refl ..) V.refv.2)
  | @tup xs =>
    intro V P
    obtain ⟨a, vs, rfl, ta, O, W⟩ := V.tupv
    exact wpAny_pyIter_tuple ta (iter_new R P fun S hb => ⟨by rw [Rel.at_self]; exact hb, a, vs, by rw [Rel.at_self]; exact ⟨_, Heap.get?_push_size _ rfl, rfl, rfl⟩, S.keep _ _ O ta, S.off O ta, W.step S⟩)

/-- what next of a plain iterator leaves -/
theorem next1_upd {it : Nat} {o o' : PO} (R : RelS fv base φ lay st h) (e : st.ob[it]? = some o) (hl : o.live = true) (hb : base.get? (φ it) = none) (hz : h.objs.size ≤ h'.objs.size) (hk : Heap.ExtBut (φ it) h h') (hr : Step φ st.ob.length h φ st.ob.length h' → Repr fv base φ st.ob.length h' it o') :
    RelS fv base φ lay (setO st it o') h' ∧ StepS φ st h φ (setO st it o') h' := by
  have S := R.step_upd e hz hk
  refine ⟨R.upd e hl hb hz hk (hr S), ?_⟩
  show Step φ st.ob.length h φ (st.ob.set it o').length h'
  rw [List.length_set]; exact S

/-- what comes of an iterator's value -/
noncomputable def OutR (fv : Fn → Value) (φ : Nat → Addr) (st : St) (h : Heap) (r : Option PV) (u : Option Value) : Prop := match r with
  | none => u = none
  | some x => ∃ v, u = some v ∧ VRS fv φ st h v x
theorem next1_end {it : Nat} {o : PO} {Q : Option Value → Shared → Prop} {h' : Heap} (R : RelS fv base φ lay st s.heap) (eo : st.ob[it]? = some o) (hl : o.live = true) (hb : base.get? (φ it) = none) (hx : Heap.ExtBut (φ it) s.heap h') (hz : s.heap.objs.size ≤ h'.objs.size)
    (P : ∀ u h' tk, RelS fv base φ lay (setO st it .dead) h' → StepS φ st s.heap φ (setO st it .dead) h' → OutR fv φ (setO st it .dead) h' none u → Q u { s with heap := h', toks := tk }) : Q none { s with heap := h' } := by
  obtain ⟨R', S'⟩ := next1_upd (o' := .dead) R eo hl hb hz hx fun S => ⟨hb, Nat.lt_of_lt_of_le (R.ltAll it (R.lt eo)) hz⟩
  exact P _ h' s.toks R' S' rfl
theorem end_at {vs : List Value} {xs : List PV} {m : Nat} {h : Heap} (W : VRs fv φ m h vs xs) {i : Nat} (ex : xs[i]? = none) : (List.toArray vs)[i]? = none := by
  have := W.1
  simp only [List.getElem?_toArray, List.getElem?_eq_none_iff] at ex ⊢; lia
theorem next1_ok {it : Nat} {r : Option PV} {Q : Option Value → Shared → Prop} (hh : A.handled = none) (e : Next1R st it r st') (R : RelS fv base φ lay st s.heap) :
    (∀ u h' tk, RelS fv base φ lay st' h' → StepS φ st s.heap φ st' h' → OutR fv φ st' h' r u → Q u { s with heap := h', toks := tk }) → wpAny (model prog w) A (pyNext (.ref (φ it))) Q E s := by
  induction e using Next1R.casesOn with
  | @list l i xs x eo ei ex =>
    intro P
    obtain ⟨hb, hl, I⟩ := R.objs it _ eo
    obtain ⟨vs, L, W⟩ := items_list R ei
    obtain ⟨v, ev, V⟩ := W.get ex
    refine wpAny_pyNext_list_item I L (by simpa using ev) fun h' I' hs => ?_
    obtain ⟨R', S'⟩ := next1_upd (o' := .listIter l (i + 1)) R eo rfl hb (Nat.le_of_eq hs.1.symm) hs.extBut fun S => ⟨hb, hl, I'⟩
    exact P _ h' s.toks R' S' ⟨v, rfl, V.step S'⟩
  | listEnd eo ei ex =>
    intro P
    obtain ⟨hb, hl, I⟩ := R.objs it _ eo
    obtain ⟨vs, L, W⟩ := items_list R ei
    exact wpAny_with_size (wpAny_pyNext_list_end hh I L (end_at W ex) fun h' hx hz => next1_end R eo rfl hb hx hz P)
  | @tup xs i x eo ex =>
    intro P
    obtain ⟨hb, t, vs, I, T, O, W⟩ := R.objs it _ eo
    obtain ⟨v, ev, V⟩ := W.get ex
    refine wpAny_pyNext_tuple_item I T (by simpa using ev) fun h' I' hs => ?_
    obtain ⟨R', S'⟩ := next1_upd (o' := .tupIter xs (i + 1)) R eo rfl hb (Nat.le_of_eq hs.1.symm) hs.extBut fun S => ⟨hb, t, vs, I', S.keep _ _ O T, S.off O T, W.step S⟩
    exact P _ h' s.toks R' S' ⟨v, rfl, V.step S'⟩
  | tupEnd eo ex =>
    intro P
    obtain ⟨hb, t, vs, I, T, O, W⟩ := R.objs it _ eo
    exact wpAny_with_size (wpAny_pyNext_tuple_end hh I T (end_at W ex) fun h' hx hz => next1_end R eo rfl hb hx hz P)
  | @range x left step eo hl =>
    intro P
    obtain ⟨hb, I⟩ := R.objs it _ eo
    refine wpAny_pyNext_range_item I hl fun h' I' hs => ?_
    obtain ⟨R', S'⟩ := next1_upd (o' := .rangeIter (x + step) (left - 1) step) R eo rfl hb (Nat.le_of_eq hs.1.symm) hs.extBut fun S => ⟨hb, I'⟩
    exact P _ h' _ R' S' ⟨_, rfl, .int x _⟩
  | rangeEnd eo hl =>
    intro P
    obtain ⟨hb, I⟩ := R.objs it _ eo
    exact wpAny_with_size (wpAny_pyNext_range_end hh I (Int.not_lt.mp hl) fun h' hx hz => next1_end R eo rfl hb hx hz P)
end Mine.Internal
end
section
open PySem PySem.W PyProof.Rows
namespace Mine.Internal
set_option linter.unusedSectionVars false
set_option linter.unusedVariables false
variable {prog : Program} {w : World} {A : Around} {E : Value → Shared → Prop} {s : Shared}
variable {fv : Fn → Value} {φ φ' : Nat → Addr} {n n' : Nat} {h h' base : Heap} {lay : Nat → Loc} {st st' : St} {sl : List (Option PV)} {ob : List PO}

theorem letOwned_plain {target : PySem.Expr} {r : Addr} {o : Obj} {T : String} {v : Value} {Q : Unit → Shared → Prop} (e : s.heap.get? r = some o) (hc : o.cls = .type T)
    (hT : (["enumerate", "zip", "dict_itemiterator", "dict_reverseitemiterator", "odict_iterator", "itertools.zip_longest", "itertools.pairwise"] : List String).contains T = false) (h : Q () s) :
    wpAny (model prog w) A (letOwnedTupleGo target (.ref r) v) Q E s := by
  have key : wpAny (model prog w) A (do
      let (.ref r, .ref a) := (Value.ref r, v) | return
      let o ← load r
      match o.cls, o.data with
      | .type n, .fields vs =>
        if ["enumerate", "zip", "dict_itemiterator", "dict_reverseitemiterator", "odict_iterator", "itertools.zip_longest", "itertools.pairwise"].contains n && vs[0]? == some (rawInt a) then
          rule "for.unpacks-the-owned-tuple"
          updateField r 0 .none
      | _, _ => pure () : Sem Unit) Q E s := by
    cases v <;> try exact wpAny_pure h
    refine wpAny_bind (wpAny_load e ?_)
    obtain ⟨c, d, dt, sl⟩ := o
    dsimp only at hc
    subst hc
    cases dt <;> try exact wpAny_pure h
    rename_i a vs
    dsimp only
    rw [hT, Bool.false_and]
    exact wpAny_pure h
  unfold letOwnedTupleGo
  cases target <;> first | exact key | exact wpAny_pure h

theorem stop_iter2 {α : Type} {Q : α → Shared → Prop} (hh : A.handled = none) (hE : ∀ h' e, s.heap.objs.size ≤ h'.objs.size → Heap.MadeExcOf s.heap h' e (.type "StopIteration") [] → E (.ref e) { s with heap := h' }) :
    wpAny (model prog w) A (Builtin.SmallTypes.stopIteration : Sem α) Q E s := by
  unfold Builtin.SmallTypes.stopIteration
  refine wpAny_bind ?_
  simp only [newExc]
  wp_walk
  refine wpAny_raiseNew_none hh ?_
  have e1 : (#[Value.ref s.heap.objs.size, Value.none, Value.none, Value.none, Value.bool false,
      if ((Manifest.find? "StopIteration").elim false fun t => t.mro.contains "StopIteration" || t.mro.contains "SystemExit") = true then ([] : List Value).headD Value.none else Value.none] ++ ownMembersOf (Value.type "StopIteration") []) =
      #[Value.ref s.heap.objs.size, Value.none, Value.none, Value.none, Value.bool false, Value.none] := by
    have h0 : ownMembersOf (Value.type "StopIteration") [] = #[] := by kernel_rfl
    rw [h0]
    split <;> rfl
  rw [e1]
  have hs : ∀ (h : Heap) (o : Obj), (h.push o).objs.size = h.objs.size + 1 := fun h o => Heap.size_push ..
  refine hE _ _ (by rw [hs, hs]; exact Nat.le_succ_of_le (Nat.le_succ _)) ⟨fun b o e => Heap.get?_push_of_some _ (Heap.get?_push_of_some _ e), ?_, s.heap.objs.size, Heap.get?_push_size _ rfl, get_size_none _, Heap.get?_push_of_some _ (Heap.get?_push_size _ rfl)⟩
  rw [hs]
  cases q : s.heap.get? (s.heap.objs.size + 1) with
  | none => rfl
  | some o => exact absurd (Heap.lt_size q) (Nat.not_lt.mpr (Nat.le_succ _))

theorem stop_iter {α : Type} {Q : α → Shared → Prop} (hh : A.handled = none) (hE : ∀ h' e, Heap.MadeExcOf s.heap h' e (.type "StopIteration") [] → E (.ref e) { s with heap := h' }) :
    wpAny (model prog w) A (Builtin.SmallTypes.stopIteration : Sem α) Q E s := stop_iter2 hh fun h' e _ M => hE h' e M

theorem Draws.tup (hh : A.handled = none) (it t : Addr) (items : Array Value) :
    Draws prog w A it [it, t] items.size (fun i v => items[i]? = some v) fun i h => h.IsTupleIter it t i ∧ h.IsTuple t items where
  live i h := fun ⟨⟨o, e, _⟩, _⟩ => ⟨o, e⟩
  frame i h h' := fun ⟨⟨o, e, r⟩, ⟨o', e', r'⟩⟩ hk => ⟨⟨o, hk it (.head _) o e, r⟩, ⟨o', hk t (.tail _ (.head _)) o' e', r'⟩⟩
  item i s Q E hi := fun ⟨I, T⟩ hQ => by
    obtain ⟨o, ho, hc, hd⟩ := id I
    obtain ⟨ot, hot, ct, nt, hdt⟩ := id T
    have hT : s.TypeIs (.ref it) "tuple_iterator" := ⟨o, ho, hc⟩
    have hne : t ≠ it := fun q => by subst q; rw [ho] at hot; cases hot; rw [hc] at ct; simp at ct
    unfold Builtin.SmallTypes.nextOf
    refine wpAny_bind (wpAny_callSpecial?_slot (name := Str.ofString "__next__") hT F.slot_tuple_iterator_next (wpAny_call_entry F.slot_tuple_iterator_next hT F.entry_tuple_iterator_next ?_ (F.args_tuple_iterator_next_1 _)))
    show wpAny _ _ (field (.ref it) 0 >>= _) _ _ s
    refine wpAny_bind (wpAny_field ho hd (x := .ref t) rfl ?_)
    show wpAny _ _ (if (Value.ref t == Value.none) = true then _ else _) _ _ s
    rw [if_neg (show ¬ ((Value.ref t == Value.none) = true) from Bool.false_ne_true)]
    show wpAny _ _ (field (.ref it) 1 >>= _) _ _ s
    refine wpAny_bind (wpAny_field ho hd (x := .int i 0) rfl (wpAny_bind (wpAny_seqItems hot hdt ?_)))
    have hx : items[i]? = some items[i] := by simp [hi]
    simp only [Int.toNat_natCast, hx]
    have hs : Heap.SameBut it s.heap (s.heap.update it (Obj.mapFields (·.setIfInBounds 1 (rawInt ((i : Int) + 1))))) := Heap.SameBut.update ..
    refine wpAny_bind (wpAny_setField ho hd (by simp) (wpAny_pure ⟨_, rfl, wpAny_pure (hQ _ _ s.toks hx ⟨?_, ?_⟩ hs)⟩))
    · exact ⟨_, Heap.get?_update_self _ ho (Obj.isFreed_of_fields (Obj.data_mapFields hd _)), (Obj.cls_mapFields ..).trans hc, by rw [Obj.data_mapFields hd]; simp [rawInt]⟩
    · exact ⟨ot, (hs.2 t hne).trans hot, ct, nt, hdt⟩
  done s Q E := fun ⟨I, T⟩ hE => by
    obtain ⟨o, ho, hc, hd⟩ := id I
    obtain ⟨ot, hot, ct, nt, hdt⟩ := id T
    have hT : s.TypeIs (.ref it) "tuple_iterator" := ⟨o, ho, hc⟩
    unfold Builtin.SmallTypes.nextOf
    refine wpAny_bind (wpAny_callSpecial?_slot (name := Str.ofString "__next__") hT F.slot_tuple_iterator_next (wpAny_call_entry F.slot_tuple_iterator_next hT F.entry_tuple_iterator_next ?_ (F.args_tuple_iterator_next_1 _)))
    show wpAny _ _ (field (.ref it) 0 >>= _) _ _ s
    refine wpAny_bind (wpAny_field ho hd (x := .ref t) rfl ?_)
    show wpAny _ _ (if (Value.ref t == Value.none) = true then _ else _) _ _ s
    rw [if_neg (show ¬ ((Value.ref t == Value.none) = true) from Bool.false_ne_true)]
    show wpAny _ _ (field (.ref it) 1 >>= _) _ _ s
    refine wpAny_bind (wpAny_field ho hd (x := .int (items.size : Nat) 0) rfl (wpAny_bind (wpAny_seqItems hot hdt ?_)))
    simp only [Int.toNat_natCast, Array.getElem?_eq_none (Nat.le_refl _)]
    have hx : Heap.ExtBut it s.heap (s.heap.update it (Obj.mapFields (·.setIfInBounds 0 .none))) := (Heap.SameBut.update ..).extBut
    refine wpAny_bind (wpAny_rule (wpAny_bind (wpAny_setField ho hd (by simp) ?_)))
    refine stop_iter hh fun h' e M => ?_
    obtain ⟨t', ht', _⟩ := M.there
    exact hE _ _ (fun b o hb eo => M.keeps _ _ (hx b o hb eo)) ⟨_, ht', rfl⟩


theorem nextOf_range_item {it : Addr} {x left step : Int} {Q : Value → Shared → Prop} (I : IsRangeIter s.heap it x left step) (hleft : 0 < left)
    (hQ : ∀ h', IsRangeIter h' it (x + step) (left - 1) step → Heap.SameBut it s.heap h' → Q (.int x s.toks) { s with heap := h', toks := s.toks + 1 }) :
    wpAny (model prog w) A (Builtin.SmallTypes.nextOf (.ref it)) Q E s := by
  have hT : s.TypeIs (.ref it) "range_iterator" := ⟨_, I, rfl⟩
  unfold Builtin.SmallTypes.nextOf
  exact wpAny_bind (wpAny_callSpecial?_slot (name := Str.ofString "__next__") hT F.slot_range_iterator_next
    (call_meets F.slot_range_iterator_next hT F.entry_range_iterator_next (F.args_range_iterator_next_1 _) (AutoRange.range_iterator___next___range_iterator_1 it _ _ step (by lia))
      ⟨I, wpAny_pure (hQ _ (Heap.get?_update_self _ (Heap.get?_update_self _ I rfl) rfl) ((Heap.SameBut.update ..).trans (Heap.SameBut.update ..)))⟩))
theorem nextOf_range_end {it : Addr} {x left step : Int} {Q : Value → Shared → Prop} (hh : A.handled = none) (I : IsRangeIter s.heap it x left step) (hleft : left ≤ 0)
    (hE : ∀ h' e, Heap.MadeExcOf s.heap h' e (.type "StopIteration") [] → E (.ref e) { s with heap := h' }) :
    wpAny (model prog w) A (Builtin.SmallTypes.nextOf (.ref it)) Q E s := by
  have hT : s.TypeIs (.ref it) "range_iterator" := ⟨_, I, rfl⟩
  unfold Builtin.SmallTypes.nextOf
  refine wpAny_bind (wpAny_callSpecial?_slot (name := Str.ofString "__next__") hT F.slot_range_iterator_next (wpAny_call_entry F.slot_range_iterator_next hT F.entry_range_iterator_next ?_ (F.args_range_iterator_next_1 _)))
  show wpAny _ _ (field (.ref it) 0 >>= _) _ _ s
  refine wpAny_bind (wpAny_field I rfl (x := rawInt x) rfl ?_)
  show wpAny _ _ (field (.ref it) 1 >>= _) _ _ s
  refine wpAny_bind (wpAny_field I rfl (x := rawInt left) rfl ?_)
  show wpAny _ _ (field (.ref it) 2 >>= _) _ _ s
  refine wpAny_bind (wpAny_field I rfl (x := rawInt step) rfl ?_)
  show wpAny _ _ (if left ≤ 0 then _ else _) _ _ s
  rw [if_pos hleft]
  exact wpAny_bind (wpAny_rule (wpAny_bind (stop_iter hh hE)))

/-- what a for's target gets: the end, or the item, the tuple let go -/
noncomputable def Turn (fv : Fn → Value) (base : Heap) (φ : Nat → Addr) (lay : Nat → Loc) (st st' : St) (r : Option PV) (s : Shared) (N : Shared → Prop) (C : Value → Shared → Prop) : Prop := match r with
  | none => ∀ h' tk, RelS fv base φ lay st' h' → StepS φ st s.heap φ st' h' → N { s with heap := h', toks := tk }
  | some x => ∀ v h' tk, RelS fv base φ lay st' h' → StepS φ st s.heap φ st' h' → VRS fv φ st' h' v x → C v { s with heap := h', toks := tk }

theorem isIter_cls {it : Nat} {o : PO} (R : RelS fv base φ lay st h) (e : st.ob[it]? = some o) (ho : (∃ l i, o = .listIter l i) ∨ (∃ xs i, o = .tupIter xs i) ∨ (∃ a b c, o = .rangeIter a b c)) :
    ∃ ob T, h.get? (φ it) = some ob ∧ ob.cls = .type T ∧ (["enumerate", "zip", "dict_itemiterator", "dict_reverseitemiterator", "odict_iterator", "itertools.zip_longest", "itertools.pairwise"] : List String).contains T = false := by
  have X := R.objs it _ e
  rcases ho with ⟨l, i, rfl⟩ | ⟨xs, i, rfl⟩ | ⟨a, b, c, rfl⟩
  · obtain ⟨_, _, o, eo, c, _⟩ := X; exact ⟨o, _, eo, c, by decide +kernel⟩
  · obtain ⟨_, t, vs, ⟨o, eo, c, _⟩, _⟩ := X; exact ⟨o, _, eo, c, by decide +kernel⟩
  · exact ⟨_, _, X.2, rfl, by decide +kernel⟩

theorem Next1R.iter {it : Nat} {r : Option PV} (e : Next1R st it r st') : r ≠ none → ∃ o', st'.ob[it]? = some o' ∧ ((∃ l i, o' = .listIter l i) ∨ (∃ xs i, o' = .tupIter xs i) ∨ (∃ a b c, o' = .rangeIter a b c)) := by
  have hs : ∀ {o o' : PO}, st.ob[it]? = some o → (setO st it o').ob[it]? = some o' := fun {o o'} e => List.getElem?_set_self (List.getElem?_eq_some_iff.mp e).1
  induction e using Next1R.casesOn with
  | list eo => exact fun _ => ⟨_, hs eo, .inl ⟨_, _, rfl⟩⟩
  | tup eo => exact fun _ => ⟨_, hs eo, .inr (.inl ⟨_, _, rfl⟩)⟩
  | range eo => exact fun _ => ⟨_, hs eo, .inr (.inr ⟨_, _, _, rfl⟩)⟩
  | _ => exact fun h => absurd rfl h
theorem next1_turn {target : PySem.Expr} {it : Nat} {r : Option PV} {N : Shared → Prop} {C : Value → Shared → Prop} (hh : A.handled = none) (e : Next1R st it r st') (R : RelS fv base φ lay st s.heap)
    (P : Turn fv base φ lay st st' r s N C) : wpAny (model prog w) A (pyNext (.ref (φ it))) (fun u s₁ => match u with
      | none => N s₁
      | some v => wpAny (model prog w) A (letOwnedTupleGo target (.ref (φ it)) v) (fun _ s₂ => C v s₂) E s₁) E s := by
  have keep := e.iter
  refine next1_ok hh e R fun u h' tk R' S' hu => ?_
  cases r with
  | none => obtain rfl : u = none := hu; exact P h' tk R' S'
  | some x =>
    obtain ⟨v, rfl, V⟩ : ∃ v, u = some v ∧ VRS fv φ st' h' v x := hu
    obtain ⟨o', eo', ho'⟩ := keep (by simp)
    obtain ⟨ob, T, eg, hc, hT⟩ := isIter_cls R' eo' ho'
    exact letOwned_plain (s := { s with heap := h', toks := tk }) eg hc hT (P v h' tk R' S' V)
end Mine.Internal
end
section
open PySem PySem.W PyProof.Rows
namespace Mine.Internal
set_option linter.unusedSectionVars false
set_option linter.unusedVariables false
variable {prog : Program} {w : World} {A : Around} {E : Value → Shared → Prop} {s : Shared}
variable {fv : Fn → Value} {φ φ' : Nat → Addr} {n n' : Nat} {h h' base : Heap} {lay : Nat → Loc} {st st' : St} {sl : List (Option PV)} {ob ob' : List PO}


/-- several objects of the call's own turn at once -/
theorem Rel.updW (R : Rel fv base φ lay sl ob h) {W : Nat → Prop} (hsz : h.objs.size ≤ h'.objs.size) (hlen : ob'.length = ob.length) (hW : ∀ j, W j → j < ob.length) (hbase : ∀ j, W j → base.get? (φ j) = none)
    (hkind : ∀ j, W j → ∃ x, h.get? (φ j) = some x ∧ ((∃ vs c, x.data = .seq vs c) ∨ ∃ vs, x.data = .fields vs))
    (hne : ∀ j k o, W j → ¬ W k → ob[k]? = some o → o.live = true → φ j ≠ φ k)
    (hz : ∀ k a b, ¬ W k → ob[k]? = some (.zip a b) → ∀ j, W j → φ j ≠ φ (k + 1))
    (hk : ∀ c o, (∀ j, W j → φ j ≠ c) → h.get? c = some o → h'.get? c = some o)
    (hold : ∀ k, ¬ W k → ob'[k]? = ob[k]?)
    (hlive : ∀ k (o : PO), W k → ob'[k]? = some o → o.live = true → ∃ o0 : PO, ob[k]? = some o0 ∧ o0.live = true)
    (hnew : Step φ ob.length h φ ob.length h' → ∀ k o, W k → ob'[k]? = some o → Repr fv base φ ob.length h' k o) :
    Rel fv base φ lay sl ob' h' ∧ Step φ ob.length h φ ob'.length h' := by
  have S : Step φ ob.length h φ ob.length h' := ⟨Nat.le_refl _, hsz, fun _ _ => rfl, fun _ h1 h2 => absurd h2 (Nat.not_lt.mpr h1), fun a vs ho ⟨o, e, r⟩ => ⟨o, hk _ _ (fun j hj q => ho j (hW j hj) q) e, r⟩⟩
  have live0 : ∀ k (o : PO), ob'[k]? = some o → o.live = true → ∃ o0 : PO, ob[k]? = some o0 ∧ o0.live = true := fun k o e hl => by
    by_cases q : W k
    · exact hlive k o q e hl
    · rw [hold k q] at e; exact ⟨o, e, hl⟩
  refine ⟨⟨fun b o e => hk _ _ (fun j hj q => by rw [← q, hbase j hj] at e; cases e) (R.stays b o e), fun k p e => ?_, R.slnew, R.sldist, fun k o e => ?_, R.home, fun i j x y ei ej li lj q => ?_⟩, by rw [hlen]; exact S⟩
  · rw [hlen]
    have X := R.slots k p e
    have hno : ∀ j, W j → φ j ≠ (lay k).at := fun j hj q => by
      obtain ⟨x, ex, dx⟩ := hkind j hj
      obtain ⟨y, ey, dy⟩ := X.there
      rw [q, ey] at ex; cases ex
      rcases dx with ⟨vs, c, d⟩ | ⟨vs, d⟩ <;> rcases dy with ⟨es, ep, d'⟩ | ⟨v, d'⟩ <;> rw [d] at d' <;> cases d'
    cases hl : lay k with
    | ns L x =>
      rw [hl] at X hno
      cases p with
      | none => obtain ⟨m, o, es, ep, e, r⟩ := X; exact ⟨m, o, es, ep, hk _ _ hno e, r⟩
      | some p => obtain ⟨m, ⟨o, es, ep, e, r⟩, v, a, V⟩ := X; exact ⟨m, ⟨o, es, ep, hk _ _ hno e, r⟩, v, a, V.step S⟩
    | cell c =>
      rw [hl] at X hno
      cases p with
      | none => obtain ⟨v, o, e, d⟩ := X; exact ⟨v, o, hk _ _ hno e, d⟩
      | some p => obtain ⟨v, ⟨o, e, d⟩, V⟩ := X; exact ⟨v, ⟨o, hk _ _ hno e, d⟩, V.step S⟩
  · rw [hlen]
    by_cases q : W k
    · exact hnew S k o q e
    · rw [hold k q] at e
      have X := R.objs k o e
      cases hl : o.live with
      | false => exact X.dead hl S (R.lt e)
      | true =>
        have hb : ∀ j, W j → φ j ≠ φ k := fun j hj => hne j k o hj q e hl
        cases o with
        | list xs => obtain ⟨h0, vs, ⟨c, e⟩, V⟩ := X; exact ⟨h0, vs, ⟨c, hk _ _ hb e⟩, V.step S⟩
        | ro xs => obtain ⟨h0, vs, ⟨o, e, r⟩, V⟩ := X; exact ⟨h0, vs, ⟨o, hk _ _ hb e, r⟩, V.step S⟩
        | range a b c => obtain ⟨h0, hf, t, u, v, e⟩ := X; exact ⟨h0, hf, t, u, v, hk _ _ hb e⟩
        | rangeIter x l s => exact ⟨X.1, hk _ _ hb X.2⟩
        | listIter l i => obtain ⟨h0, h1, o, e, r⟩ := X; exact ⟨h0, h1, ⟨o, hk _ _ hb e, r⟩⟩
        | tupIter xs i => obtain ⟨h0, t, vs, ⟨o, e, r⟩, T, O, V⟩ := X; exact ⟨h0, t, vs, ⟨o, hk _ _ hb e, r⟩, S.keep _ _ O T, O, V.step S⟩
        | enum it i => obtain ⟨h0, h1, old, e⟩ := X; exact ⟨h0, h1, old, hk _ _ hb e⟩
        | zip a c =>
          obtain ⟨h0, h1, h2, h3, h4, h5, TI, x, y, e', eI, O, eO⟩ := X
          exact ⟨h0, h1, h2, h3, h4, h5, TI, x, y, hk _ _ hb e', hk _ _ (fun j hj => O j (hW j hj)) eI, O, hk _ _ (hz k a c q e) eO⟩
        | dead => cases hl
  · obtain ⟨x0, e0, l0⟩ := live0 i x ei li
    obtain ⟨y0, e1, l1⟩ := live0 j y ej lj
    exact R.inj i j x0 y0 e0 e1 l0 l1 q



theorem ob_set2 {it it' : Nat} {o1 o2 : PO} (hi : it < ob.length) (hi' : it' < ob.length) (hne : it ≠ it') (k : Nat) :
    ((ob.set it' o1).set it o2)[k]? = if k = it then some o2 else if k = it' then some o1 else ob[k]? := by
  rw [List.getElem?_set]
  by_cases q : it = k
  · subst q
    simp [hi]
  · rw [if_neg q, if_neg (Ne.symm q), List.getElem?_set]
    by_cases q' : it' = k
    · subst q'; simp [hi']
    · rw [if_neg q', if_neg (Ne.symm q')]

theorem enum_core {elts : List PySem.Expr} {x1 : Nat} {pos : Pos} {it it' i : Nat} {N : Shared → Prop} {C : Value → Shared → Prop} {o1 : PO} {fp : List Addr} {k : Nat} {D : Nat → Heap → Prop} {xs : List PV} {vs : List Value} {mk : PO}
    (R : RelS fv base φ lay st s.heap) (eo : st.ob[it]? = some (.enum it' i)) (eo1 : st.ob[it']? = some o1) (hl1 : o1.live = true) (hne : it ≠ it') (hb1 : base.get? (φ it') = none) (hfp : φ it ∉ fp)
    (hn : k = vs.length) (hle : i ≤ vs.length) (W : VRs fv φ st.ob.length s.heap vs xs) (Dr : Draws prog w A.in1 (φ it') fp k (fun i v => (List.toArray vs)[i]? = some v) D) (hst : D i s.heap) (hmkl : mk.live = true)
    (hmk : ∀ h' : Heap, Step φ st.ob.length s.heap φ st.ob.length h' → D (i + 1) h' → Repr fv base φ st.ob.length h' it' mk)
    (hD : ∀ j (h' h'' : Heap), Heap.ExtBut (φ it) h' h'' → D j h' → D j h'')
    (P : Turn fv base φ lay st (match xs[i]? with | some x => setO (setO st it' mk) it (.enum it' (i + 1)) | none => setO (setO st it' .dead) it .dead) (xs[i]?.map fun x => .tup [.int i, x]) s N C) :
    wpAny (model prog w) A (pyNext (.ref (φ it))) (fun u s₁ => match u with
      | none => N s₁
      | some v => wpAny (model prog w) A (letOwnedTupleGo (.Tuple elts x1 pos) (.ref (φ it)) v) (fun _ s₂ => C v s₂) E s₁) E s := by
  obtain ⟨hb, hlt, old, hen⟩ := R.objs it _ eo
  have hitl : it < st.ob.length := R.lt eo
  have hφ : φ it ≠ φ it' := fun q => hne (R.inj it it' _ _ eo eo1 rfl hl1 q)
  have kinds : ∀ j, (j = it ∨ j = it') → ∃ x, s.heap.get? (φ j) = some x ∧ ((∃ vs c, x.data = .seq vs c) ∨ ∃ vs, x.data = .fields vs) := fun j hj => by
    rcases hj with rfl | rfl
    · exact (R.objs _ _ eo).data rfl
    · exact (R.objs _ _ eo1).data hl1
  have notTup : ∀ j, (j = it ∨ j = it') → ∃ x, s.heap.get? (φ j) = some x ∧ x.cls ≠ .type "tuple" := fun j hj => by
    rcases hj with rfl | rfl
    · exact (R.objs _ _ eo).get rfl
    · exact (R.objs _ _ eo1).get hl1
  have live : ∀ j, (j = it ∨ j = it') → ∃ o0 : PO, st.ob[j]? = some o0 ∧ o0.live = true := fun j hj => by
    rcases hj with rfl | rfl
    · exact ⟨_, eo, rfl⟩
    · exact ⟨_, eo1, hl1⟩
  have upd : ∀ {h' : Heap} {m1 m2 : PO}, s.heap.objs.size ≤ h'.objs.size → (∀ c o, c ≠ φ it → c ≠ φ it' → s.heap.get? c = some o → h'.get? c = some o) →
      (Step φ st.ob.length s.heap φ st.ob.length h' → Repr fv base φ st.ob.length h' it' m1 ∧ Repr fv base φ st.ob.length h' it m2) →
      RelS fv base φ lay (setO (setO st it' m1) it m2) h' ∧ StepS φ st s.heap φ (setO (setO st it' m1) it m2) h' := fun {h' m1 m2} hz hk hr => by
    refine R.updW (W := fun j => j = it ∨ j = it') (ob' := (st.ob.set it' m1).set it m2) hz (by simp) (fun j hj => by rcases hj with rfl | rfl <;> first | exact hitl | exact hlt) (fun j hj => by rcases hj with rfl | rfl <;> first | exact hb | exact hb1) kinds
      (fun j k o hj hk' ek hl q => ?_) (fun k a b hk' ek j hj q => ?_) (fun c o hc e => hk c o (fun q => hc it (.inl rfl) q.symm) (fun q => hc it' (.inr rfl) q.symm) e) (fun k hk' => ?_) (fun k o hk' e hl => live k hk') (fun S k o hk' e => ?_)
    · obtain ⟨o0, e0, l0⟩ := live j hj
      have := R.inj j k o0 o e0 ek l0 hl q
      subst this; exact hk' hj
    · obtain ⟨_, _, _, _, _, _, TI, x, y, _, _, _, eO⟩ := R.objs k _ ek
      obtain ⟨z, ez, hc⟩ := notTup j hj
      rw [q, eO] at ez; cases ez
      exact hc rfl
    · rw [ob_set2 hitl hlt hne, if_neg (fun q => hk' (.inl q)), if_neg (fun q => hk' (.inr q))]
    · rw [ob_set2 hitl hlt hne] at e
      rcases hk' with rfl | rfl
      · rw [if_pos rfl] at e; cases e; exact (hr S).2
      · rw [if_neg (Ne.symm hne), if_pos rfl] at e; cases e; exact (hr S).1
  refine wpAny_with_size ?_
  cases hx : xs[i]? with
  | none =>
    rw [hx] at P
    have hi : i = k := by
      have := W.1
      have := List.getElem?_eq_none_iff.mp hx
      lia
    subst hi
    refine wpAny_pyNext_enum_endD Dr hen hst fun h' hx' hz => ?_
    obtain ⟨R', S'⟩ := upd (m1 := .dead) (m2 := .dead) hz (fun c o _ h2 e => hx' c o h2 e) fun S => ⟨⟨hb1, Nat.lt_of_lt_of_le (R.ltAll _ hlt) hz⟩, hb, Nat.lt_of_lt_of_le (R.ltAll _ hitl) hz⟩
    exact P h' s.toks R' S'
  | some x =>
    rw [hx] at P
    obtain ⟨v, ev, V⟩ := W.get hx
    have hik : i < k := by rw [hn]; exact (List.getElem?_eq_some_iff.mp ev).1
    refine wpAny_pyNext_enum_itemD Dr hen hst hik hφ hfp fun y h' tk hP hout hD' htup hsz hk _ => ?_
    have hy : y = v := by
      have hP' : vs[i]? = some y := by simpa using hP
      rw [ev] at hP'; cases hP'; rfl
    subst hy
    refine wpAny_letOwnedTupleGo_enum hout fun h2 hen2 hs2 => ?_
    have hz2 : s.heap.objs.size ≤ h2.objs.size := by rw [hs2.1]; show s.heap.objs.size ≤ h'.objs.size; rw [hsz]; exact Nat.le_succ _
    have hk2 : ∀ c o, c ≠ φ it → c ≠ φ it' → s.heap.get? c = some o → h2.get? c = some o := fun c o h1 h3 e => (hs2.2 c h1).trans (hk c o h1 h3 e)
    obtain ⟨R', S'⟩ := upd (m1 := mk) (m2 := .enum it' (i + 1)) hz2 hk2 fun S => ⟨hmk h2 S (hD _ _ _ hs2.extBut hD'), hb, hlt, y, by
      have := hen2
      rwa [show ((i : Int) + 1) = ((i + 1 : Nat) : Int) by push_cast; rfl] at this⟩
    have ht2 : h2.get? s.heap.objs.size = some { cls := .type "tuple", data := .seq #[.int i tk, y] } := (hs2.2 _ (Ne.symm (Nat.ne_of_lt (R.ltAll it hitl)))).trans htup
    refine P (.ref s.heap.objs.size) h2 _ R' S' (.tup (vs := [.int i tk, y]) ⟨_, ht2, rfl, _, rfl⟩ ?_ rfl ?_)
    · have O := R.offNew (Nat.le_refl s.heap.objs.size)
      intro j hj
      have hlen : (setO (setO st it' mk) it (.enum it' (i + 1))).ob.length = st.ob.length := by simp [setO]
      exact O j (hlen ▸ hj)
    · intro j u z hu hz'
      match j with
      | 0 => simp at hu hz'; subst hu; subst hz'; exact .int _ _
      | 1 => simp at hu hz'; subst hu; subst hz'; exact V.step S'
      | j + 2 => simp at hu


/-- enumerate's turn, its tuple unpacked -/
theorem enum_list {elts : List PySem.Expr} {x1 : Nat} {pos : Pos} {it it' i l : Nat} {xs : List PV} {N : Shared → Prop} {C : Value → Shared → Prop} (hh : A.handled = none) (eo : st.ob[it]? = some (.enum it' i)) (eo1 : st.ob[it']? = some (.listIter l i)) (ei : items st l = some xs)
    (hle : i ≤ xs.length) (R : RelS fv base φ lay st s.heap)
    (P : Turn fv base φ lay st (match xs[i]? with | some x => setO (setO st it' (.listIter l (i + 1))) it (.enum it' (i + 1)) | none => setO (setO st it' .dead) it .dead) (xs[i]?.map fun x => .tup [.int i, x]) s N C) :
    wpAny (model prog w) A (pyNext (.ref (φ it))) (fun u s₁ => match u with
      | none => N s₁
      | some v => wpAny (model prog w) A (letOwnedTupleGo (.Tuple elts x1 pos) (.ref (φ it)) v) (fun _ s₂ => C v s₂) E s₁) E s := by
  have hne : it ≠ it' := fun q => by rw [q, eo1] at eo; cases eo
  obtain ⟨hb1, hl1, I⟩ := R.objs it' _ eo1
  obtain ⟨vs, L, W⟩ := items_list R ei
  have hll : φ l ≠ φ it' := fun q => by
    obtain ⟨o, eo', c, _⟩ := I
    obtain ⟨o2, eo2, c2, _⟩ := L
    rw [q, eo'] at eo2; cases eo2; rw [c] at c2; simp at c2
  have hl2 : φ l ≠ φ it := fun q => by
    obtain ⟨_, _, old, hen⟩ := R.objs it _ eo
    obtain ⟨o2, eo2, c2, _⟩ := L
    rw [q, hen] at eo2; cases eo2; simp at c2
  have hφ : φ it ≠ φ it' := fun q => hne (R.inj it it' _ _ eo eo1 rfl rfl q)
  exact enum_core (mk := .listIter l (i + 1)) R eo eo1 rfl hne hb1 (fp := [φ it', φ l]) (by simp [hφ, Ne.symm hl2]) (k := (List.toArray vs).size) (by simp) (by rw [W.1]; exact hle) W (Draws.list (by exact hh) (φ it') (φ l) hll (List.toArray vs)) ⟨I, L⟩ rfl
    (fun h' S hd => ⟨hb1, hl1, hd.1⟩) (fun j h' h'' hx hd => ⟨hd.1.extBut hx (Ne.symm hφ), hd.2.extBut hx hl2⟩) P
theorem enum_tup {elts : List PySem.Expr} {x1 : Nat} {pos : Pos} {it it' i : Nat} {xs : List PV} {N : Shared → Prop} {C : Value → Shared → Prop} (hh : A.handled = none) (eo : st.ob[it]? = some (.enum it' i)) (eo1 : st.ob[it']? = some (.tupIter xs i))
    (hle : i ≤ xs.length) (R : RelS fv base φ lay st s.heap)
    (P : Turn fv base φ lay st (match xs[i]? with | some x => setO (setO st it' (.tupIter xs (i + 1))) it (.enum it' (i + 1)) | none => setO (setO st it' .dead) it .dead) (xs[i]?.map fun x => .tup [.int i, x]) s N C) :
    wpAny (model prog w) A (pyNext (.ref (φ it))) (fun u s₁ => match u with
      | none => N s₁
      | some v => wpAny (model prog w) A (letOwnedTupleGo (.Tuple elts x1 pos) (.ref (φ it)) v) (fun _ s₂ => C v s₂) E s₁) E s := by
  have hne : it ≠ it' := fun q => by rw [q, eo1] at eo; cases eo
  obtain ⟨hb1, t0, vs, I, T, O, W⟩ := R.objs it' _ eo1
  have hφ : φ it ≠ φ it' := fun q => hne (R.inj it it' _ _ eo eo1 rfl rfl q)
  have hit : it < st.ob.length := R.lt eo
  exact enum_core (mk := .tupIter xs (i + 1)) R eo eo1 rfl hne hb1 (fp := [φ it', t0]) (by simp [hφ, O it hit]) (k := (List.toArray vs).size) (by simp) (by rw [W.1]; exact hle) W (Draws.tup (by exact hh) (φ it') t0 (List.toArray vs)) ⟨I, T⟩ rfl
    (fun h' S hd => ⟨hb1, t0, vs, hd.1, S.keep _ _ O T, S.off O T, W.step S⟩) (fun j h' h'' hx hd => ⟨(by obtain ⟨o, e, r⟩ := hd.1; exact ⟨o, hx _ _ (Ne.symm hφ) e, r⟩), hd.2.extBut hx (Ne.symm (O it hit))⟩) P
theorem enumP_list {i l j : Nat} {xs : List PV} {o : Option PO} (h : enumP i st o = true) (eo : o = some (.listIter l j)) (ei : items st l = some xs) : j = i ∧ i ≤ xs.length := by
  subst eo
  have h := (Bool.and_eq_true_iff.mp (h : (Nat.beq i j && lenOk i (items st l)) = true))
  rw [ei] at h
  exact ⟨(Nat.eq_of_beq_eq_true h.1).symm, Nat.le_of_ble_eq_true h.2⟩
theorem enumP_tup {i j : Nat} {xs : List PV} {o : Option PO} (h : enumP i st o = true) (eo : o = some (.tupIter xs j)) : j = i ∧ i ≤ xs.length := by
  subst eo
  have h := (Bool.and_eq_true_iff.mp (h : (Nat.beq i j && Nat.ble i xs.length) = true))
  exact ⟨(Nat.eq_of_beq_eq_true h.1).symm, Nat.le_of_ble_eq_true h.2⟩
theorem enum_turn {elts : List PySem.Expr} {x1 : Nat} {pos : Pos} {it it' i : Nat} {r : Option PV} {N : Shared → Prop} {C : Value → Shared → Prop} (hh : A.handled = none) (eo : st.ob[it]? = some (.enum it' i)) (hok : enumP i st st.ob[it']? = true)
    (e : Next1R st it' r st') (R : RelS fv base φ lay st s.heap) :
    Turn fv base φ lay st (enumOut it it' i st' r).2 (enumOut it it' i st' r).1 s N C → wpAny (model prog w) A (pyNext (.ref (φ it))) (fun u s₁ => match u with
      | none => N s₁
      | some v => wpAny (model prog w) A (letOwnedTupleGo (.Tuple elts x1 pos) (.ref (φ it)) v) (fun _ s₂ => C v s₂) E s₁) E s := by
  induction e using Next1R.casesOn with
  | list eo1 ei ex => intro P; obtain ⟨rfl, hle⟩ := enumP_list hok eo1 ei; exact enum_list hh eo eo1 ei hle R (by rw [ex]; exact P)
  | listEnd eo1 ei ex => intro P; obtain ⟨rfl, hle⟩ := enumP_list hok eo1 ei; exact enum_list hh eo eo1 ei hle R (by rw [ex]; exact P)
  | tup eo1 ex => intro P; obtain ⟨rfl, hle⟩ := enumP_tup hok eo1; exact enum_tup hh eo eo1 hle R (by rw [ex]; exact P)
  | tupEnd eo1 ex => intro P; obtain ⟨rfl, hle⟩ := enumP_tup hok eo1; exact enum_tup hh eo eo1 hle R (by rw [ex]; exact P)
  | range eo1 => rw [eo1] at hok; cases hok
  | rangeEnd eo1 => rw [eo1] at hok; cases hok
end Mine.Internal
end
section
open PySem PySem.W PyProof.Rows
namespace Mine.Internal
set_option linter.unusedSectionVars false
set_option linter.unusedVariables false
variable {prog : Program} {w : World} {A : Around} {E : Value → Shared → Prop} {s : Shared}
variable {fv : Fn → Value} {φ φ' : Nat → Addr} {n n' : Nat} {h h' base : Heap} {lay : Nat → Loc} {st st' : St} {sl : List (Option PV)} {ob ob' : List PO}

theorem onlyZip_get {it : Nat} : ∀ {l : List PO} {j k : Nat} {a b : Nat}, onlyZip it j l = true → l[k]? = some (.zip a b) → j + k = it
  | o :: r, j, 0, a, b, e, g => by
    simp at g; subst g
    rw [onlyZip, Bool.and_eq_true, Bool.or_eq_true] at e
    rcases e.1 with q | q
    · exact Nat.eq_of_beq_eq_true q
    · cases q
  | o :: r, j, k + 1, a, b, e, g => by
    rw [onlyZip, Bool.and_eq_true] at e
    have := onlyZip_get e.2 (k := k) (a := a) (b := b) (by simpa using g)
    lia
  | [], _, _, _, _, _, g => by simp at g

/-- zip's own table, a range's and a list's iterators within -/
structure Zipped (h : Heap) (z TI TO i1 i2 l : Addr) : Prop where
  zip : IsZip h z TI TO .none
  ins : IsPair h TI (.ref i1) (.ref i2)
  ne1 : i1 ≠ z
  ne2 : i2 ≠ z
  ne3 : TI ≠ TO
  ne4 : TI ≠ i1
  ne5 : TI ≠ i2
  ne6 : TO ≠ i1
  ne7 : TO ≠ i2
  ne8 : i1 ≠ i2
  ne9 : TO ≠ z
  ne10 : TI ≠ z
  ne11 : l ≠ z
  ne12 : l ≠ TO
  ne13 : l ≠ i1
  ne14 : l ≠ i2

theorem zip_rl_item {z TI TO i1 i2 l : Addr} {x left step : Int} {k : Nat} {ys : Array Value} {y a b : Value} {Q : Option Value → Shared → Prop} (Z : Zipped s.heap z TI TO i1 i2 l) (hTO : IsPair s.heap TO a b)
    (h1 : IsRangeIter s.heap i1 x left step) (hl : 0 < left) (h2 : s.heap.IsListIter i2 l k) (hL : s.heap.IsList l ys) (hy : ys[k]? = some y)
    (hQ : ∀ h' t tk, IsZip h' z TI TO (rawInt s.heap.objs.size) → IsPair h' TO (.int x t) y → IsRangeIter h' i1 (x + step) (left - 1) step → h'.IsListIter i2 l (k + 1) → IsPair h' s.heap.objs.size (.int x t) y → h'.objs.size = s.heap.objs.size + 1 →
      (∀ c o, c ≠ z → c ≠ TO → c ≠ i1 → c ≠ i2 → s.heap.get? c = some o → h'.get? c = some o) → Q (some (.ref s.heap.objs.size)) { s with heap := h', toks := tk }) :
    wpAny (model prog w) A (pyNext (.ref z)) Q E s := by
  have hz := Z.zip
  have hT : s.TypeIs (.ref z) "zip" := ⟨_, hz, rfl⟩
  unfold pyNext
  refine wpAny_bind (wpAny_attempt (wpAny_callSpecial?_slot (name := Str.ofString "__next__") hT F.slot_zip_next (wpAny_call_entry F.slot_zip_next hT F.entry_zip_next ?_ (F.args_zip_next_1 _))))
  show wpAny _ _ (field (.ref z) 2 >>= _) _ _ _
  refine wpAny_bind (wpAny_field hz rfl (x := .bool false) rfl ?_)
  show wpAny _ _ (field (.ref z) 3 >>= _) _ _ _
  refine wpAny_bind (wpAny_field hz rfl (x := .ref TI) rfl (wpAny_bind (wpAny_seqItems Z.ins rfl ?_)))
  show wpAny _ _ (Builtin.SmallTypes.ownedTupleIsFree (.ref z) >>= _) _ _ _
  unfold Builtin.SmallTypes.ownedTupleIsFree
  refine wpAny_bind (wpAny_bind (wpAny_field hz rfl (x := .none) rfl (wpAny_pure ?_)))
  simp only [if_true]
  refine wpAny_bind (wpAny_rule (wpAny_bind (wpAny_field hz rfl (x := .ref TO) rfl (wpAny_bind (wpAny_setField_rec hz (by simp) fun g1 gz1 e1 => ?_)))))
  have gz1 : IsZip g1 z TI TO .ellipsis := gz1
  simp only [List.zipIdx_cons, List.zipIdx_nil, List.forIn_cons, List.forIn_nil]
  refine wpAny_bind (wpAny_bind (wpAny_bind (wpAny_onRaise ?_)))
  show wpAny _ _ (Builtin.SmallTypes.nextOf (.ref i1) >>= _) _ _ _
  have x1 := e1.extBut
  refine wpAny_bind (nextOf_range_item (x1 _ _ Z.ne1 h1) hl fun g2 r2 e2 => wpAny_pure ?_)
  have x2 := e2.extBut
  have o2 : IsPair g2 TO a b := x2 _ _ Z.ne6 (x1 _ _ Z.ne9 hTO)
  refine wpAny_bind (wpAny_seqItems o2 rfl (wpAny_bind (wpAny_updateSeq_pair o2 fun g3 o3 e3 => wpAny_bind (wpAny_letGo (wpAny_pure ?_)))))
  have o3 : IsPair g3 TO (.int x s.toks) b := o3
  have x3 := e3.extBut
  refine wpAny_bind (wpAny_bind (wpAny_onRaise ?_))
  show wpAny _ _ (Builtin.SmallTypes.nextOf (.ref i2) >>= _) _ _ _
  refine wpAny_bind (wpAny_nextOf_list_item (((h2.extBut x1 Z.ne2).extBut x2 (Ne.symm Z.ne8)).extBut x3 (Ne.symm Z.ne7)) (((hL.extBut x1 Z.ne11).extBut x2 Z.ne13).extBut x3 Z.ne12) hy fun g4 r4 e4 => wpAny_pure ?_)
  have x4 := e4.extBut
  have o4 : IsPair g4 TO (.int x s.toks) b := x4 _ _ Z.ne7 o3
  refine wpAny_bind (wpAny_seqItems o4 rfl (wpAny_bind (wpAny_updateSeq_pair o4 fun g5 o5 e5 => wpAny_bind (wpAny_letGo (wpAny_pure (wpAny_pure ?_))))))
  have o5 : IsPair g5 TO (.int x s.toks) y := o5
  have x5 := e5.extBut
  have gsz : g5.objs.size = s.heap.objs.size := by rw [e5.1, e4.1, e3.1, e2.1, e1.1]
  have gz5 : IsZip g5 z TI TO .ellipsis := x5 _ _ (Ne.symm Z.ne9) (x4 _ _ (Ne.symm Z.ne2) (x3 _ _ (Ne.symm Z.ne9) (x2 _ _ (Ne.symm Z.ne1) gz1)))
  refine wpAny_bind (wpAny_seqItems o5 rfl (wpAny_bind (wpAny_newTuple ?_)))
  have zlt : z < g5.objs.size := Heap.lt_size gz5
  show wpAny _ _ (Builtin.SmallTypes.ownedTupleHandOut (.ref z) (.ref g5.objs.size) >>= _) _ _ _
  unfold Builtin.SmallTypes.ownedTupleHandOut
  have gz6 : IsZip (g5.push { cls := .type "tuple", data := .seq #[.int x s.toks, y] }) z TI TO .ellipsis := Heap.get?_push_of_some _ gz5
  refine wpAny_bind (wpAny_bind (wpAny_setField_rec gz6 (by simp) fun g7 gz7 e7 => ?_))
  have gz7 : IsZip g7 z TI TO (rawInt g5.objs.size) := gz7
  refine wpAny_setField_rec gz7 (by simp) fun g8 gz8 e8 => ?_
  have gz8 : IsZip g8 z TI TO (rawInt g5.objs.size) := gz8
  have up : ∀ c o, c ≠ z → g5.get? c = some o → g8.get? c = some o := fun c o hc e => e8.extBut _ _ hc (e7.extBut _ _ hc (Heap.get?_push_of_some _ e))
  have t8 : IsPair g8 g5.objs.size (.int x s.toks) y := e8.extBut _ _ (Nat.ne_of_gt zlt) (e7.extBut _ _ (Nat.ne_of_gt zlt) (Heap.get?_push_size _ rfl))
  have s8 : g8.objs.size = g5.objs.size + 1 := by rw [e8.1, e7.1, Heap.size_push]
  rw [gsz] at gz8 t8 s8
  refine wpAny_pure ⟨_, rfl, wpAny_pure ?_⟩
  show Q (some (.ref g5.objs.size)) _
  rw [gsz]
  refine hQ g8 s.toks _ gz8 (up _ _ Z.ne9 o5) (up _ _ Z.ne1 (x5 _ _ (Ne.symm Z.ne6) (x4 _ _ Z.ne8 (x3 _ _ (Ne.symm Z.ne6) r2)))) ?_ t8 s8 fun c o h1 h2 h3 h4 e => up c o h1 (x5 _ _ h2 (x4 _ _ h4 (x3 _ _ h2 (x2 _ _ h3 (x1 _ _ h1 e)))))
  have r5 := r4.extBut x5 (Ne.symm Z.ne7)
  obtain ⟨o, eo, r⟩ := r5
  exact ⟨o, up _ _ Z.ne2 eo, r⟩

theorem zip_rl_end {z TI TO i1 i2 l : Addr} {x left step : Int} {Q : Option Value → Shared → Prop} (hh : A.handled = none) (Z : Zipped s.heap z TI TO i1 i2 l) (h1 : IsRangeIter s.heap i1 x left step) (hl : left ≤ 0)
    (hQ : ∀ h', Heap.ExtBut z s.heap h' → Q none { s with heap := h' }) : wpAny (model prog w) A (pyNext (.ref z)) Q E s := by
  have hz := Z.zip
  have hT : s.TypeIs (.ref z) "zip" := ⟨_, hz, rfl⟩
  unfold pyNext
  refine wpAny_bind (wpAny_attempt (wpAny_callSpecial?_slot (name := Str.ofString "__next__") hT F.slot_zip_next (wpAny_call_entry F.slot_zip_next hT F.entry_zip_next ?_ (F.args_zip_next_1 _))))
  show wpAny _ _ (field (.ref z) 2 >>= _) _ _ _
  refine wpAny_bind (wpAny_field hz rfl (x := .bool false) rfl ?_)
  show wpAny _ _ (field (.ref z) 3 >>= _) _ _ _
  refine wpAny_bind (wpAny_field hz rfl (x := .ref TI) rfl (wpAny_bind (wpAny_seqItems Z.ins rfl ?_)))
  show wpAny _ _ (Builtin.SmallTypes.ownedTupleIsFree (.ref z) >>= _) _ _ _
  unfold Builtin.SmallTypes.ownedTupleIsFree
  refine wpAny_bind (wpAny_bind (wpAny_field hz rfl (x := .none) rfl (wpAny_pure ?_)))
  simp only [if_true]
  refine wpAny_bind (wpAny_rule (wpAny_bind (wpAny_field hz rfl (x := .ref TO) rfl (wpAny_bind (wpAny_setField_rec hz (by simp) fun g1 gz1 e1 => ?_)))))
  have gz1 : IsZip g1 z TI TO .ellipsis := gz1
  simp only [List.zipIdx_cons, List.zipIdx_nil, List.forIn_cons, List.forIn_nil]
  refine wpAny_bind (wpAny_bind (wpAny_bind (wpAny_onRaise ?_)))
  show wpAny _ _ (Builtin.SmallTypes.nextOf (.ref i1) >>= _) _ _ _
  have x1 := e1.extBut
  refine wpAny_bind (nextOf_range_end hh (x1 _ _ Z.ne1 h1) hl fun g2 e M => ?_)
  obtain ⟨t', he, _, _⟩ := M.there
  have gz2 : IsZip g2 z TI TO .ellipsis := M.keeps _ _ gz1
  have hez : e ≠ z := fun q => by have := M.new; rw [q, gz1] at this; cases this
  refine wpAny_setField_rec gz2 (by simp) fun g3 _ e3 => ?_
  refine wpAny_bind (wpAny_isInstance (T := "StopIteration") (b := true) ⟨_, e3.extBut _ _ hez he, rfl⟩ isSubtype_stop ?_)
  exact wpAny_pure (hQ _ fun c o hc eo => e3.extBut _ _ hc (M.keeps _ _ (x1 _ _ hc eo)))


/-- where a zip of a range's and a list's iterators stands -/
structure ZipAt (fv : Fn → Value) (base : Heap) (φ : Nat → Addr) (st : St) (h : Heap) (it a b l j : Nat) (x left step : Int) (TI : Addr) (p q : Value) : Prop where
  eo : st.ob[it]? = some (.zip a b)
  ea : st.ob[a]? = some (.rangeIter x left step)
  eb : st.ob[b]? = some (.listIter l j)
  hoz : onlyZip it 0 st.ob = true
  hb : base.get? (φ it) = none
  ha1 : a < st.ob.length
  hb1 : b < st.ob.length
  hab : a ≠ b
  hk1 : it + 1 < st.ob.length
  hbO : base.get? (φ (it + 1)) = none
  hz : IsZip h (φ it) TI (φ (it + 1)) .none
  hI : IsPair h TI (.ref (φ a)) (.ref (φ b))
  OTI : Off φ st.ob.length TI
  hO : IsPair h (φ (it + 1)) p q
  hba : base.get? (φ a) = none
  hr : IsRangeIter h (φ a) x left step
  hbb : base.get? (φ b) = none
  hll : l < st.ob.length
  hli : h.IsListIter (φ b) (φ l) j
  nai : a ≠ it
  nbi : b ≠ it
  fa : φ a ≠ φ it
  fb : φ b ≠ φ it
  fab : φ a ≠ φ b
  toa : φ (it + 1) ≠ φ a
  tob : φ (it + 1) ≠ φ b
  toz : φ (it + 1) ≠ φ it
theorem zip_at {it a b l j : Nat} {x left step : Int} (R : RelS fv base φ lay st h) (eo : st.ob[it]? = some (.zip a b)) (hoz : onlyZip it 0 st.ob = true) (ea : st.ob[a]? = some (.rangeIter x left step)) (eb : st.ob[b]? = some (.listIter l j)) : ∃ TI p q, ZipAt fv base φ st h it a b l j x left step TI p q := by
  obtain ⟨hb, ha1, hb1, hab, hk1, hbO, TI, p, q, hz, hI, OTI, hO⟩ := R.objs it _ eo
  obtain ⟨hba, hr⟩ := R.objs a _ ea
  obtain ⟨hbb, hll, hli⟩ := R.objs b _ eb
  have hOg : h.get? (φ (it + 1)) = some _ := hO
  have hzg : h.get? (φ it) = some _ := hz
  have hrg : h.get? (φ a) = some _ := hr
  have nai : a ≠ it := fun z => by rw [z, eo] at ea; cases ea
  have nbi : b ≠ it := fun z => by rw [z, eo] at eb; cases eb
  exact ⟨TI, p, q, eo, ea, eb, hoz, hb, ha1, hb1, hab, hk1, hbO, hz, hI, OTI, hO, hba, hr, hbb, hll, hli, nai, nbi, fun z => nai (R.inj a it _ _ ea eo rfl rfl z), fun z => nbi (R.inj b it _ _ eb eo rfl rfl z), fun z => hab (R.inj a b _ _ ea eb rfl rfl z),
    fun z => by rw [z, hrg] at hOg; have q := congrArg Obj.cls (Option.some.inj hOg); simp at q,
    fun z => by
      obtain ⟨o, e1, c1, _⟩ := hli
      rw [z, e1] at hOg; cases hOg; simp at c1,
    fun z => by rw [z, hzg] at hOg; have q := congrArg Obj.cls (Option.some.inj hOg); simp at q⟩
section
variable {it a b l j : Nat} {x left step : Int} {TI : Addr} {p q : Value}
theorem ZipAt.upd (Z : ZipAt fv base φ st h it a b l j x left step TI p q) (R : RelS fv base φ lay st h) {g : Heap} {ob' : List PO} (hsz : h.objs.size ≤ g.objs.size) (hk : ∀ c o, c ≠ φ it → c ≠ φ (it + 1) → c ≠ φ a → c ≠ φ b → h.get? c = some o → g.get? c = some o) (hlen : ob'.length = st.ob.length)
    (hold : ∀ k, k ≠ it → k ≠ a → k ≠ b → ob'[k]? = st.ob[k]?) (hnew : Step φ st.ob.length h φ st.ob.length g → ∀ k o, (k = it ∨ k = a ∨ k = b) → ob'[k]? = some o → Repr fv base φ st.ob.length g k o) :
    RelS fv base φ lay ⟨st.sl, ob'⟩ g ∧ StepS φ st h φ ⟨st.sl, ob'⟩ g := by
  obtain ⟨eo, ea, eb, hoz, hb, ha1, hb1, hab, hk1, hbO, hz, hI, OTI, hO, hba, hr, hbb, hll, hli, nai, nbi, fa, fb, fab, toa, tob, toz⟩ := Z
  have hit : it < st.ob.length := R.lt eo
  have hOg : h.get? (φ (it + 1)) = some _ := hO
  have nta : it + 1 ≠ a := fun z => toa (by rw [z])
  have ntb : it + 1 ≠ b := fun z => tob (by rw [z])
  have deadTO : ∀ o : PO, st.ob[it + 1]? = some o → o.live = false := fun o e' => by
    cases hl : o.live with
    | false => rfl
    | true =>
      obtain ⟨y, ey, hc⟩ := (R.objs _ _ e').get hl
      rw [hOg] at ey; cases ey; exact absurd rfl hc
  refine R.updW (W := fun k => k = it ∨ k = it + 1 ∨ k = a ∨ k = b) hsz hlen (fun j hj => by rcases hj with rfl | rfl | rfl | rfl <;> assumption) (fun j hj => by rcases hj with rfl | rfl | rfl | rfl <;> assumption) (fun k hk => by
      rcases hk with rfl | rfl | rfl | rfl
      · exact (R.objs _ _ eo).data rfl
      · exact ⟨_, hO, .inl ⟨_, _, rfl⟩⟩
      · exact (R.objs _ _ ea).data rfl
      · exact (R.objs _ _ eb).data rfl)
    (fun j k o hj hk' ek hl z => ?_) (fun k c d hk' ek j hj z => ?_) (fun c o hc e => hk c o (fun z => hc _ (.inl rfl) z.symm) (fun z => hc _ (.inr (.inl rfl)) z.symm) (fun z => hc _ (.inr (.inr (.inl rfl))) z.symm) (fun z => hc _ (.inr (.inr (.inr rfl))) z.symm) e)
    (fun k hk' => hold k (fun z => hk' (.inl z)) (fun z => hk' (.inr (.inr (.inl z)))) (fun z => hk' (.inr (.inr (.inr z))))) (fun k o hk' e' hl => ?_) (fun S k o hk' e' => ?_)
  · rcases hj with rfl | rfl | rfl | rfl
    · exact hk' (.inl (R.inj _ _ _ _ eo ek rfl hl z).symm)
    · obtain ⟨y, ey, hc⟩ := (R.objs k o ek).get hl
      rw [← z, hOg] at ey; cases ey; exact hc rfl
    · exact hk' (.inr (.inr (.inl (R.inj _ _ _ _ ea ek rfl hl z).symm)))
    · exact hk' (.inr (.inr (.inr (R.inj _ _ _ _ eb ek rfl hl z).symm)))
  · have := onlyZip_get hoz ek
    exact hk' (.inl (by lia))
  · rcases hk' with rfl | rfl | rfl | rfl
    · exact ⟨_, eo, rfl⟩
    · rw [hold _ (by lia) nta ntb] at e'; exact ⟨o, e', hl⟩
    · exact ⟨_, ea, rfl⟩
    · exact ⟨_, eb, rfl⟩
  · rcases hk' with rfl | rfl | rfl | rfl
    · exact hnew S _ o (.inl rfl) e'
    · rw [hold _ (by omega) nta ntb] at e'
      have := deadTO o e'
      cases o with
      | dead => exact ⟨hbO, Nat.lt_of_lt_of_le (R.ltAll _ hk1) hsz⟩
      | _ => cases this
    · exact hnew S _ o (.inr (.inl rfl)) e'
    · exact hnew S _ o (.inr (.inr rfl)) e'
theorem ZipAt.zipped (Z : ZipAt fv base φ st h it a b l j x left step TI p q) (R : RelS fv base φ lay st h) {l' : Addr} {o : Obj} (eo' : h.get? l' = some o) (hc : o.cls = .type "list") : Zipped h (φ it) TI (φ (it + 1)) (φ a) (φ b) l' := by
  obtain ⟨eo, ea, eb, hoz, hb, ha1, hb1, hab, hk1, hbO, hz, hI, OTI, hO, hba, hr, hbb, hll, hli, nai, nbi, fa, fb, fab, toa, tob, toz⟩ := Z
  have hit : it < st.ob.length := R.lt eo
  have hOg : h.get? (φ (it + 1)) = some _ := hO
  have hzg : h.get? (φ it) = some _ := hz
  have hrg : h.get? (φ a) = some _ := hr
  exact { zip := hz, ins := hI, ne1 := fa, ne2 := fb, ne3 := Ne.symm (OTI _ hk1), ne4 := Ne.symm (OTI _ ha1), ne5 := Ne.symm (OTI _ hb1), ne6 := toa, ne7 := tob, ne8 := fab, ne9 := toz, ne10 := Ne.symm (OTI _ hit),
          ne11 := fun z => by rw [z, hzg] at eo'; cases eo'; simp at hc
          ne12 := fun z => by rw [z, hOg] at eo'; cases eo'; simp at hc
          ne13 := fun z => by rw [z, hrg] at eo'; cases eo'; simp at hc
          ne14 := fun z => by obtain ⟨o2, e2, c2, _⟩ := hli; rw [z, e2] at eo'; cases eo'; rw [c2] at hc; simp at hc }
theorem zip_more {elts : List PySem.Expr} {x1 : Nat} {pos : Pos} {ys : List PV} {y : PV} {N : Shared → Prop} {C : Value → Shared → Prop} (Z : ZipAt fv base φ st s.heap it a b l j x left step TI p q) (ei : items st l = some ys) (hleft : 0 < left) (ey : ys[j]? = some y) (R : RelS fv base φ lay st s.heap)
    (P : Turn fv base φ lay st (setO (setO st a (.rangeIter (x + step) (left - 1) step)) b (.listIter l (j + 1))) (some (.tup [.int x, y])) s N C) : wpAny (model prog w) A (pyNext (.ref (φ it))) (fun u s₁ => match u with
      | none => N s₁
      | some v => wpAny (model prog w) A (letOwnedTupleGo (.Tuple elts x1 pos) (.ref (φ it)) v) (fun _ s₂ => C v s₂) E s₁) E s := by
  obtain ⟨vs, L, W⟩ := items_list R ei
  obtain ⟨v, ev, V⟩ := W.get ey
  have hit : it < st.ob.length := R.lt Z.eo
  refine zip_rl_item (Z.zipped R L.choose_spec.1 L.choose_spec.2.1) Z.hO Z.hr hleft Z.hli L (by simpa using ev) fun g t' tk gz gO gr gl gT gsz gk => wpAny_letOwnedTupleGo_zip gz fun g2 gz2 e2 => ?_
  have x2 := e2.extBut
  have hsz : s.heap.objs.size ≤ g2.objs.size := by rw [e2.1]; show _ ≤ g.objs.size; rw [gsz]; exact Nat.le_succ _
  have hka : ∀ c o, c ≠ φ it → c ≠ φ (it + 1) → c ≠ φ a → c ≠ φ b → s.heap.get? c = some o → g2.get? c = some o := fun c o h1 h2 h3 h4 e' => x2 _ _ h1 (gk c o h1 h2 h3 h4 e')
  obtain ⟨R', S'⟩ := Z.upd R (ob' := (st.ob.set a (.rangeIter (x + step) (left - 1) step)).set b (.listIter l (j + 1))) hsz hka (by simp) (fun k h1 h2 h3 => by rw [ob_set2 Z.hb1 Z.ha1 (Ne.symm Z.hab), if_neg h3, if_neg h2]) fun S k o hk' e' => by
    rw [ob_set2 Z.hb1 Z.ha1 (Ne.symm Z.hab)] at e'
    rcases hk' with rfl | rfl | rfl
    · rw [if_neg (Ne.symm Z.nbi), if_neg (Ne.symm Z.nai), Z.eo] at e'; cases e'
      exact ⟨Z.hb, Z.ha1, Z.hb1, Z.hab, Z.hk1, Z.hbO, TI, _, _, gz2, hka _ _ (Ne.symm (Z.OTI _ hit)) (Ne.symm (Z.OTI _ Z.hk1)) (Ne.symm (Z.OTI _ Z.ha1)) (Ne.symm (Z.OTI _ Z.hb1)) Z.hI, Z.OTI, x2 _ _ Z.toz gO⟩
    · rw [if_neg Z.hab, if_pos rfl] at e'; cases e'
      exact ⟨Z.hba, x2 _ _ Z.fa gr⟩
    · rw [if_pos rfl] at e'; cases e'
      exact ⟨Z.hbb, Z.hll, gl.extBut x2 Z.fb⟩
  have gT2 : IsPair g2 s.heap.objs.size (.int x t') v := x2 _ _ (Ne.symm (Nat.ne_of_lt (R.ltAll it hit))) gT
  refine P (.ref s.heap.objs.size) g2 tk R' S' (.tup (vs := [.int x t', v]) ⟨_, gT2, rfl, _, rfl⟩ ?_ (VRs.cons (.int _ _) (.cons (V.step S') .nil)).1 (VRs.cons (.int _ _) (.cons (V.step S') .nil)).2)
  intro k hk'
  have hlen : (setO (setO st a (.rangeIter (x + step) (left - 1) step)) b (.listIter l (j + 1))).ob.length = st.ob.length := by simp [setO]
  exact R.offNew (Nat.le_refl _) k (hlen ▸ hk')
theorem zip_end {elts : List PySem.Expr} {x1 : Nat} {pos : Pos} {ys : List PV} {N : Shared → Prop} {C : Value → Shared → Prop} (hh : A.handled = none) (Z : ZipAt fv base φ st s.heap it a b l j x left step TI p q) (ei : items st l = some ys) (hleft : ¬ 0 < left) (R : RelS fv base φ lay st s.heap)
    (P : Turn fv base φ lay st (setO (setO st a .dead) it .dead) none s N C) : wpAny (model prog w) A (pyNext (.ref (φ it))) (fun u s₁ => match u with
      | none => N s₁
      | some v => wpAny (model prog w) A (letOwnedTupleGo (.Tuple elts x1 pos) (.ref (φ it)) v) (fun _ s₂ => C v s₂) E s₁) E s := by
  obtain ⟨vs, L, W⟩ := items_list R ei
  have hit : it < st.ob.length := R.lt Z.eo
  refine wpAny_with_size (zip_rl_end hh (Z.zipped R L.choose_spec.1 L.choose_spec.2.1) Z.hr (Int.not_lt.mp hleft) fun g gx hsz => ?_)
  obtain ⟨R', S'⟩ := Z.upd R (ob' := (st.ob.set a .dead).set it .dead) hsz (fun c o h1 _ _ _ e' => gx _ _ h1 e') (by simp) (fun k h1 h2 h3 => by rw [ob_set2 hit Z.ha1 (Ne.symm Z.nai), if_neg h1, if_neg h2]) fun S k o hk' e' => by
    rw [ob_set2 hit Z.ha1 (Ne.symm Z.nai)] at e'
    rcases hk' with rfl | rfl | rfl
    · rw [if_pos rfl] at e'; cases e'; exact ⟨Z.hb, Nat.lt_of_lt_of_le (R.ltAll _ hit) hsz⟩
    · rw [if_neg Z.nai, if_pos rfl] at e'; cases e'; exact ⟨Z.hba, Nat.lt_of_lt_of_le (R.ltAll _ Z.ha1) hsz⟩
    · rw [if_neg Z.nbi, if_neg (Ne.symm Z.hab), Z.eb] at e'; cases e'
      exact ⟨Z.hbb, Z.hll, Z.hli.extBut gx Z.fb⟩
  exact P g s.toks R' S'
end
end Mine.Internal
end
section
open PySem PySem.W PyProof.Rows
namespace Mine.Internal
set_option linter.unusedSectionVars false
set_option linter.unusedVariables false
variable {prog : Program} {w : World} {A : Around} {E : Value → Shared → Prop} {s : Shared}
variable {fv : Fn → Value} {φ φ' : Nat → Addr} {n n' : Nat} {h h' base : Heap} {lay : Nat → Loc} {st st' : St} {sl : List (Option PV)} {ob ob' : List PO}

theorem next_turn {target : PySem.Expr} {t : Tgt} {it : Nat} {r : Option PV} {N : Shared → Prop} {C : Value → Shared → Prop} (hh : A.handled = none)
    (ht : t.isTup = true → ∃ elts x1 pos, target = .Tuple elts x1 pos)
    (e : nextI t it st = some (r, st')) (R : RelS fv base φ lay st s.heap) :
    Turn fv base φ lay st st' r s N C → wpAny (model prog w) A (pyNext (.ref (φ it))) (fun u s₁ => match u with
      | none => N s₁
      | some v => wpAny (model prog w) A (letOwnedTupleGo target (.ref (φ it)) v) (fun _ s₂ => C v s₂) E s₁) E s := by
  replace e := nextI_rel e
  induction e using NextR.casesOn with
  | plain h => exact fun P => next1_turn hh h R P
  | enum eo htup hok h => obtain ⟨elts, x1, pos, rfl⟩ := ht htup; exact fun P => enum_turn hh eo hok h R P
  | zip eo htup hz ea eb ei hl ey => obtain ⟨elts, x1, pos, rfl⟩ := ht htup; obtain ⟨TI, p, q, Z⟩ := zip_at R eo hz ea eb; exact fun P => zip_more Z ei hl ey R P
  | zipEnd eo htup hz ea eb ei hl => obtain ⟨elts, x1, pos, rfl⟩ := ht htup; obtain ⟨TI, p, q, Z⟩ := zip_at R eo hz ea eb; exact fun P => zip_end hh Z ei hl R P
end Mine.Internal
end
section
open PySem PySem.W PyProof.Rows
namespace Mine.Internal
set_option linter.unusedSectionVars false
set_option linter.unusedVariables false
set_option maxRecDepth 100000
variable {prog : Program} {w : World} {A : Around} {E : Value → Shared → Prop} {s : Shared}
variable {fv : Fn → Value} {φ φ' : Nat → Addr} {n n' : Nat} {h h' base : Heap} {lay : Nat → Loc} {st st' : St} {sl : List (Option PV)} {ob ob' : List PO}

/-- two objects at once, of which the second is never looked at by itself -/
theorem Rel.push2 (R : Rel fv base φ lay sl ob h) {a b : Addr} {o : PO} (hz : h.objs.size ≤ h'.objs.size) (hk : ∀ b o, h.get? b = some o → h'.get? b = some o) (ha : h.get? a = none) (hb : h.get? b = none) (hb' : b < h'.objs.size)
    (hr : Step φ ob.length h (Rel.at_ (Rel.at_ φ ob.length a) (ob.length + 1) b) (ob.length + 2) h' → Repr fv base (Rel.at_ (Rel.at_ φ ob.length a) (ob.length + 1) b) (ob.length + 2) h' ob.length o) :
    Rel fv base (Rel.at_ (Rel.at_ φ ob.length a) (ob.length + 1) b) lay sl (ob ++ [o, .dead]) h' ∧ Step φ ob.length h (Rel.at_ (Rel.at_ φ ob.length a) (ob.length + 1) b) (ob ++ [o, .dead]).length h' ∧
      Rel.at_ (Rel.at_ φ ob.length a) (ob.length + 1) b ob.length = a := by
  have e1 : ∀ {i}, i < ob.length → Rel.at_ (Rel.at_ φ ob.length a) (ob.length + 1) b i = φ i := fun {i} hi => by rw [Rel.at_lt (by lia), Rel.at_lt hi]
  have e2 : Rel.at_ (Rel.at_ φ ob.length a) (ob.length + 1) b ob.length = a := by rw [Rel.at_lt (by lia), Rel.at_self]
  have e3 : Rel.at_ (Rel.at_ φ ob.length a) (ob.length + 1) b (ob.length + 1) = b := Rel.at_self ..
  have S : Step φ ob.length h (Rel.at_ (Rel.at_ φ ob.length a) (ob.length + 1) b) (ob.length + 2) h' := by
    refine ⟨by lia, hz, fun i hi => e1 hi, fun i h1 h2 c vs _ ⟨o, e, _⟩ q => ?_, fun b vs _ ⟨o, e, r⟩ => ⟨o, hk _ _ e, r⟩⟩
    by_cases h3 : i = ob.length
    · subst h3; rw [e2] at q; rw [q, e] at ha; cases ha
    · have : i = ob.length + 1 := by lia
      subst this; rw [e3] at q; rw [q, e] at hb; cases hb
  have hx : Heap.ExtBut h.objs.size h h' := fun b o _ e => hk b o e
  have hlen : (ob ++ [o, .dead]).length = ob.length + 2 := by simp
  have old : ∀ {k : Nat} {x : PO}, (ob ++ [o, .dead])[k]? = some x → (k < ob.length ∧ ob[k]? = some x) ∨ (k = ob.length ∧ x = o) ∨ (k = ob.length + 1 ∧ x = .dead) := fun {k x} e => by
    by_cases q : k < ob.length
    · rw [List.getElem?_append_left q] at e; exact .inl ⟨q, e⟩
    · rw [List.getElem?_append_right (Nat.not_lt.mp q)] at e
      match hq : k - ob.length with
      | 0 => rw [hq] at e; exact .inr (.inl ⟨by lia, by simpa using e.symm⟩)
      | 1 => rw [hq] at e; exact .inr (.inr ⟨by lia, by simpa using e.symm⟩)
      | j + 2 => rw [hq] at e; simp at e
  refine ⟨⟨fun b o e => hk _ _ (R.stays b o e), fun k p e => ?_, R.slnew, R.sldist, fun k x e => ?_, R.home, fun i j x y ei ej li lj q => ?_⟩, by rw [hlen]; exact S, e2⟩
  · rw [hlen]
    refine (R.slots k p e).ext hx ?_ S
    obtain ⟨o, eo, _⟩ := (R.slots k p e).there
    exact Nat.ne_of_lt (Heap.lt_size eo)
  · rw [hlen]
    rcases old e with ⟨hlt, e'⟩ | ⟨rfl, rfl⟩ | ⟨rfl, rfl⟩
    · cases hl : x.live with
      | false => exact (R.objs k x e').dead hl S hlt
      | true =>
        obtain ⟨z, ez, _⟩ := (R.objs k x e').get hl
        exact (R.objs k x e').ext hl hx (Nat.ne_of_lt (Heap.lt_size ez)) R.not_tuple_size S hlt
    · exact hr S
    · exact ⟨by rw [e3]; exact R.fresh hb, by rw [e3]; exact hb'⟩
  · rcases old ei with ⟨hi, ei'⟩ | ⟨rfl, rfl⟩ | ⟨rfl, rfl⟩ <;> rcases old ej with ⟨hj, ej'⟩ | ⟨rfl, rfl⟩ | ⟨rfl, rfl⟩
    · rw [e1 hi, e1 hj] at q
      exact R.inj i j x y ei' ej' li lj q
    · rw [e1 hi, e2] at q
      obtain ⟨z, ez, _⟩ := (R.objs i x ei').get li
      rw [q, ha] at ez; cases ez
    · cases lj
    · rw [e1 hj, e2] at q
      obtain ⟨z, ez, _⟩ := (R.objs j y ej').get lj
      rw [← q, ha] at ez; cases ez
    · rfl
    · cases lj
    · cases li
    · cases li
    · cases li

noncomputable abbrev enumObj (it : Value) : Obj := { cls := .type "enumerate", data := .fields #[.none, .bool false, it, rawInt 0, .none, .none] }

theorem enum_new (v : Value) :
    MeetsIn prog w (Builtin.«enumerate.__new__» ⟨[.type "enumerate", v], []⟩) (fun A R s => wpAny (model prog w) A.in1 (pyIter v) (fun it s₁ => R (.ok (.ret (.ref s₁.heap.objs.size))) { s₁ with heap := s₁.heap.push (enumObj it) }) (fun e s' => R (.error e) s') s) :=
  .of_wp fun A R s h => by
    have hsub := PySem.sub_enumerate
    wp_walk
    refine wpAny_stack_any fun st => wpAny_pure ?_
    generalize Builtin.SmallTypes.calledThroughType.match_1 _ _ _ _ = b
    cases b
    · wp_walk using (wpAny_mono h (fun it s₁ h₁ => ?_) fun _ _ x => x)
      exact ⟨_, rfl, h₁⟩
    · wp_walk using (wpAny_mono h (fun it s₁ h₁ => ?_) fun _ _ x => x)
      exact ⟨_, rfl, h₁⟩
noncomputable abbrev zipA (h : Heap) (a b : Value) : Heap := h.push { cls := .type "tuple", data := .seq #[a, b] }
noncomputable abbrev zipB (h : Heap) (a b : Value) : Heap := (zipA h a b).push { cls := .type "tuple", data := .seq #[.none, .none] }
noncomputable abbrev zipC (h : Heap) (a b : Value) : Heap := (zipB h a b).push { cls := .type "zip", data := .fields #[.none, .bool false, .bool false, .ref h.objs.size, .ref (zipA h a b).objs.size] }
theorem zip_new (v u : Value) :
    MeetsIn prog w (Builtin.«zip.__new__» ⟨[.type "zip", v, u], []⟩) (fun A R s => wpAny (model prog w) A.in1 (pyIter v) (fun a s₁ => wpAny (model prog w) A.in1 (pyIter u) (fun b s₂ => R (.ok (.ret (.ref (zipB s₂.heap a b).objs.size))) { s₂ with heap := zipC s₂.heap a b }) (fun e s' => R (.error e) s') s₁) (fun e s' => R (.error e) s') s) :=
  .of_wp fun A R s h => by
    have hsub := PySem.sub_zip
    wp_walk using (wpAny_mono (by assumption) (fun a s₁ h₁ => ?_) fun _ _ x => x)
    exact ⟨_, rfl, h₁⟩

theorem call_enum {v : Value} {Q : Value → Shared → Prop} (h : wpAny (model prog w) A.in1.in1 (pyIter v) (fun it s₁ => Q (.ref s₁.heap.objs.size) { s₁ with heap := s₁.heap.push (enumObj it) }) E s) :
    wpAny (model prog w) A (call (.type "enumerate") [v]) Q E s :=
  callType_newIn F.called_enumerate (by decide) (F.typeCall_enumerate_1 _) (F.newCall_enumerate_1 _) (fun obj => F.args_object_init_2 obj _) F.entry_enumerate_new
    (enum_new v) (wpAny_mono h (fun it s₁ h₁ => ⟨⟨_, Heap.get?_push_size _ rfl, rfl⟩, h₁⟩) fun _ _ x => x)
theorem call_zip {v u : Value} {Q : Value → Shared → Prop} (h : wpAny (model prog w) A.in1.in1 (pyIter v) (fun a s₁ => wpAny (model prog w) A.in1.in1 (pyIter u) (fun b s₂ => Q (.ref (zipB s₂.heap a b).objs.size) { s₂ with heap := zipC s₂.heap a b }) E s₁) E s) :
    wpAny (model prog w) A (call (.type "zip") [v, u]) Q E s :=
  callType_newIn F.called_zip (by decide) (F.typeCall_zip_2 _ _) (F.newCall_zip_2 _ _) (fun obj => F.args_object_init_3 obj _ _) F.entry_zip_new
    (zip_new v u) (wpAny_mono h (fun a s₁ h₁ => wpAny_mono h₁ (fun b s₂ h₂ => ⟨⟨_, Heap.get?_push_size _ rfl, rfl⟩, h₂⟩) fun _ _ x => x) fun _ _ x => x)
end Mine.Internal
end
section
open PySem PySem.W PyProof.Rows
namespace Mine.Internal
set_option linter.unusedSectionVars false
set_option linter.unusedVariables false
set_option maxRecDepth 100000
variable {prog : Program} {w : World} {A : Around} {E : Value → Shared → Prop} {s : Shared}
variable {fv : Fn → Value} {φ φ' : Nat → Addr} {n n' : Nat} {h h' base : Heap} {lay : Nat → Loc} {st st' : St} {sl : List (Option PV)} {ob ob' : List PO}

/-! texts in order -/
theorem ltCodes_eq : ∀ a b : List Nat, ltCodes a b = decide (a < b)
  | a, [] => by simp [ltCodes]
  | [], b :: t => by simp [ltCodes]
  | a :: r, b :: t => by
    rw [ltCodes, ltCodes_eq r t, Bool.eq_iff_iff]
    simp only [Bool.or_eq_true, Bool.and_eq_true, decide_eq_true_eq, List.cons_lt_cons_iff]
    constructor
    · rintro (h | ⟨h1, h2⟩)
      · exact .inl (Nat.le_of_ble_eq_true h)
      · exact .inr ⟨Nat.eq_of_beq_eq_true h1, h2⟩
    · rintro (h | ⟨h1, h2⟩)
      · exact .inl (Nat.ble_eq_true_of_le h)
      · exact .inr ⟨by rw [h1]; exact Nat.beq_refl b, h2⟩
noncomputable def LeS (a b : Str) : Prop := ¬ b.cps.toList < a.cps.toList
theorem LeS.anti {a b : Str} (x : LeS a b) (y : LeS b a) : a = b := by
  have := List.le_antisymm (List.not_lt.mp x) (List.not_lt.mp y)
  cases a; cases b; congr; exact Array.toList_inj.mp this
theorem LeS.trans {a b c : Str} (x : LeS a b) (y : LeS b c) : LeS a c := List.not_lt.mpr (List.le_trans (List.not_lt.mp x) (List.not_lt.mp y))
theorem insStr_perm (s : Str) : ∀ r : List Str, (insStr s r).Perm (s :: r)
  | [] => .refl _
  | t :: r => by
    rw [insStr]
    split
    · exact ((insStr_perm s r).cons t).trans (.swap s t r)
    · exact .refl _
theorem sortStrs_perm : ∀ r : List Str, (sortStrs r).Perm r
  | [] => .refl _
  | s :: r => (insStr_perm s _).trans ((sortStrs_perm r).cons s)
theorem insStr_pw {s : Str} : ∀ {r : List Str}, r.Pairwise LeS → (insStr s r).Pairwise LeS
  | [], _ => by simp [insStr]
  | t :: r, h => by
    rw [insStr, ltCodes_eq]
    have h' := List.pairwise_cons.mp h
    split
    · rename_i hl
      have hl := of_decide_eq_true hl
      refine List.pairwise_cons.mpr ⟨fun x hx => ?_, insStr_pw h'.2⟩
      rcases List.mem_cons.mp ((insStr_perm s r).mem_iff.mp hx) with rfl | hx
      · exact List.lt_asymm hl
      · exact h'.1 x hx
    · rename_i hl
      have hl : LeS s t := fun q => by simp [q] at hl
      refine List.pairwise_cons.mpr ⟨fun x hx => ?_, h⟩
      rcases List.mem_cons.mp hx with rfl | hx
      · exact hl
      · exact hl.trans (h'.1 x hx)
theorem sortStrs_pw : ∀ r : List Str, (sortStrs r).Pairwise LeS
  | [] => .nil
  | s :: r => insStr_pw (sortStrs_pw r)
theorem rising_pw : ∀ {r : List Str} {p : Str}, risingS p r = true → (p :: r).Pairwise LeS
  | [], p, _ => by simp
  | x :: r, p, h => by
    rw [risingS, Bool.and_eq_true] at h
    have ih := rising_pw h.2
    have hl : LeS p x := by
      have := h.1
      rw [ltCps_eq] at this
      simpa [LeS] using this
    refine List.pairwise_cons.mpr ⟨fun y hy => ?_, ih⟩
    rcases List.mem_cons.mp hy with rfl | hy
    · exact hl
    · exact hl.trans ((List.pairwise_cons.mp ih).1 y hy)
theorem sorted_unique {ss ss' : List Str} (hp : ss'.Perm ss) (hs : sortedS ss' = true) : ss' = sortStrs ss := by
  refine List.Perm.eq_of_pairwise (le := LeS) (fun a b _ _ => LeS.anti) ?_ (sortStrs_pw ss) (hp.trans (sortStrs_perm ss).symm)
  cases ss' with
  | nil => exact .nil
  | cons x r => exact rising_pw hs

theorem maxL_mem : ∀ (m : Int) (r : List Int), maxL m r ∈ m :: r
  | m, [] => by simp [maxL]
  | m, x :: r => by
    rw [maxL]
    have := maxL_mem (if m < x then x else m) r
    split at this
    · rw [if_pos (by assumption)]; exact .tail _ this
    · rw [if_neg (by assumption)]
      rcases List.mem_cons.mp this with h | h
      · rw [h]; exact .head _
      · exact .tail _ (.tail _ h)
theorem maxL_le : ∀ (m : Int) (r : List Int), m ≤ maxL m r ∧ ∀ a ∈ r, a ≤ maxL m r
  | m, [] => by simp [maxL]
  | m, x :: r => by
    rw [maxL]
    have ⟨h1, h2⟩ := maxL_le (if m < x then x else m) r
    refine ⟨?_, fun a ha => ?_⟩
    · split at h1 <;> (split <;> simp_all <;> lia)
    · rcases List.mem_cons.mp ha with rfl | ha
      · split at h1 <;> (split <;> simp_all <;> lia)
      · exact h2 a ha

theorem sum_fits : ∀ {ns : List Int}, (ns.all fun x => decide (-4294967296 < x) && decide (x < 4294967296)) = true → -(4294967296 * ns.length) ≤ ns.sum ∧ ns.sum ≤ 4294967296 * ns.length
  | [], _ => by simp
  | x :: r, h => by
    simp only [List.all_cons, Bool.and_eq_true, decide_eq_true_eq] at h
    have := sum_fits (ns := r) h.2
    simp only [List.sum_cons, List.length_cons]
    push_cast
    lia

noncomputable def primV : Prim → Value
  | .len => .builtin "len"
  | .range => .type "range"
  | .reversed => .type "reversed"
  | .iter => .builtin "iter"
  | .next => .builtin "next"
  | .enumerate => .type "enumerate"
  | .zip => .type "zip"
  | .sorted => .builtin "sorted"
  | .max => .builtin "max"
  | .sum => .builtin "sum"
  | .hex => .builtin "hex"

theorem rev_range {r : Addr} {a b c : Int} {t u v : Tok} {Q₁ : Value → Shared → Prop} (hr : IsRange s.heap r a b c t u v)
    (hs : (Builtin.Range.rangeFitsLong a && Builtin.Range.rangeFitsLong b && Builtin.Range.rangeFitsLong c && Builtin.Range.rangeFitsLong (-c) && Builtin.Range.rangeFitsLong (a - c) && Builtin.Range.rangeFitsLong (Builtin.Range.rangeSize a b c)) = true)
    (h : Q₁ (.ref s.heap.objs.size) { s with heap := s.heap.push { cls := .type "range_iterator", data := .fields #[rawInt (a + (Builtin.Range.rangeSize a b c - 1) * c), rawInt (Builtin.Range.rangeSize a b c), rawInt (-c)] } }) :
    wpAny (model prog w) A (call (.builtin "range.__reversed__") [.ref r]) Q₁ E s := by
  have hT : s.TypeIs (.ref r) "range" := ⟨_, hr, rfl⟩
  refine wpAny_call_entry F.slot_range_reversed hT F.entry_range_reversed ?_ (F.args_range_reversed_1 _)
  unfold Builtin.«range.__reversed__» Builtin.Range.rangeFields
  refine wpAny_bind (wpAny_of_eq (a := Value.ref r) rfl ?_)
  refine wpAny_bind (wpAny_bind (wpAny_field hr rfl (x := .int a t) rfl (wpAny_bind (wpAny_of_eq (a := some a) rfl (wpAny_bind (wpAny_field hr rfl (x := .int b u) rfl (wpAny_bind (wpAny_of_eq (a := some b) rfl
    (wpAny_bind (wpAny_field hr rfl (x := .int c v) rfl (wpAny_bind (wpAny_of_eq (a := some c) rfl (wpAny_pure ?_)))))))))))))
  dsimp only
  rw [hs]
  exact wpAny_bind (wpAny_newObj_type (wpAny_pure ⟨_, rfl, h⟩))

theorem code_reversed_range {r : Addr} {a b c : Int} {t u v : Tok} {Q₁ : Value → Shared → Prop} (hr : IsRange s.heap r a b c t u v)
    (hs : (Builtin.Range.rangeFitsLong a && Builtin.Range.rangeFitsLong b && Builtin.Range.rangeFitsLong c && Builtin.Range.rangeFitsLong (-c) && Builtin.Range.rangeFitsLong (a - c) && Builtin.Range.rangeFitsLong (Builtin.Range.rangeSize a b c)) = true)
    (h : Q₁ (.ref s.heap.objs.size) { s with heap := s.heap.push { cls := .type "range_iterator", data := .fields #[rawInt (a + (Builtin.Range.rangeSize a b c - 1) * c), rawInt (Builtin.Range.rangeSize a b c), rawInt (-c)] } }) :
    codeAny (model prog w) A (.call (.builtin "reversed.__new__") ⟨[.type "reversed", .ref r], []⟩) (wants Q₁ E) s := by
  have hT : s.TypeIs (.ref r) "range" := ⟨_, hr, rfl⟩
  refine codeAny_of_tree ?_
  show wpAny _ A.in1 (do checkBuiltinCall "reversed.__new__" ⟨[.type "reversed", .ref r], []⟩; again (.builtin "reversed.__new__" ⟨[.type "reversed", .ref r], []⟩)) _ _ s
  refine wpAny_bind (wpAny_of_eq (F.newCall_reversed_1 _) (wpAny_pure ⟨plainId_quiet F.plain_reversed_new _, codeAny_builtin F.entry_reversed_new ?_⟩))
  rw [Around.under_plainId F.plain_reversed_new _]
  unfold Builtin.«reversed.__new__»
  refine wpAny_bind (wpAny_of_eq (newClass_reversed _) ?_)
  try dsimp only
  refine wpAny_bind (wpAny_of_eq (a := ()) (by first | rfl | kernel_rfl) ?_)
  refine wpAny_bind (wpAny_of_eq (a := ()) (by first | rfl | kernel_rfl) ?_)
  try dsimp only
  refine wpAny_bind (wpAny_specialOf hT F.slot_range_reversed.lookup ?_)
  try dsimp only
  refine wpAny_bind (wpAny_of_eq (F.slot_range_reversed.bind _) ?_)
  try dsimp only
  first
  | rw [if_neg (show ¬ ((Value.builtin "range.__reversed__" == Value.none) = true) from Bool.false_ne_true)]
  | (show wpAny _ _ (if (Value.builtin "range.__reversed__" == Value.none) = true then _ else _) _ _ _; rw [if_neg (show ¬ ((Value.builtin "range.__reversed__" == Value.none) = true) from Bool.false_ne_true)])
  refine wpAny_bind (wpAny_rule ?_)
  refine wpAny_bind (m := runValue (.call (.builtin "range.__reversed__") ⟨[.ref r], []⟩)) (show wpAny _ _ (call (.builtin "range.__reversed__") [.ref r]) _ _ _ from rev_range hr hs ?_)
  first
  | exact wpAny_pure h
  | exact wpAny_bind (wpAny_pure (wpAny_pure h))
end Mine.Internal
end
section
open PySem PySem.W PyProof.Rows
namespace Mine.Internal
set_option linter.unusedSectionVars false
set_option linter.unusedVariables false
set_option maxRecDepth 100000
variable {prog : Program} {w : World} {A : Around} {E : Value → Shared → Prop} {s : Shared}
variable {fv : Fn → Value} {φ φ' : Nat → Addr} {n n' : Nat} {h h' base : Heap} {lay : Nat → Loc} {st st' : St} {sl : List (Option PV)} {ob ob' : List PO}

theorem VRs.one {vs : List Value} {x : PV} (W : VRs fv φ n h vs [x]) : ∃ v, vs = [v] ∧ VR fv φ n h v x := by
  obtain ⟨v, r, rfl, V, W'⟩ := W.cases
  rw [W'.isNil]; exact ⟨v, rfl, V⟩
theorem VRs.two {vs : List Value} {x y : PV} (W : VRs fv φ n h vs [x, y]) : ∃ v u, vs = [v, u] ∧ VR fv φ n h v x ∧ VR fv φ n h u y := by
  obtain ⟨v, r, rfl, V, W'⟩ := W.cases
  obtain ⟨u, rfl, U⟩ := W'.one
  exact ⟨v, u, rfl, V, U⟩
theorem VRs.three {vs : List Value} {x y z : PV} (W : VRs fv φ n h vs [x, y, z]) : ∃ v u t, vs = [v, u, t] ∧ VR fv φ n h v x ∧ VR fv φ n h u y ∧ VR fv φ n h t z := by
  obtain ⟨v, r, rfl, V, W'⟩ := W.cases
  obtain ⟨u, t, rfl, U, T⟩ := W'.two
  exact ⟨v, u, t, rfl, V, U, T⟩

/-- one object, pushed -/
theorem Post.new {Q : Value → Shared → Prop} {o : PO} {x : Obj} {tk : Nat} (R : RelS fv base φ lay st s.heap) (P : Post fv base φ lay st ⟨st.sl, st.ob ++ [o]⟩ (.ref st.ob.length) s Q) (hf : x.isFreed = false)
    (hr : Step φ st.ob.length s.heap (Rel.at_ φ st.ob.length s.heap.objs.size) (st.ob.length + 1) (s.heap.push x) → base.get? s.heap.objs.size = none → Repr fv base (Rel.at_ φ st.ob.length s.heap.objs.size) (st.ob.length + 1) (s.heap.push x) st.ob.length o) :
    Q (.ref s.heap.objs.size) { s with heap := s.heap.push x, toks := tk } := by
  obtain ⟨R', S', V'⟩ := R.pushNew (h' := s.heap.push x) (by rw [Heap.size_push]; exact Nat.le_succ _) (fun b o q => Heap.get?_push_of_some _ q) (get_size_none _) (o := o) hr
  exact P _ _ _ tk R' S' V'

theorem Post.range {Q : Value → Shared → Prop} {a b c : Int} {t u v : Tok} {tk : Nat} (R : RelS fv base φ lay st s.heap) (hf : rangeFits a b c = true) (P : Post fv base φ lay st ⟨st.sl, st.ob ++ [.range a b c]⟩ (.ref st.ob.length) s Q) :
    Q (.ref s.heap.objs.size) { s with heap := s.heap.push { cls := .type "range", data := .fields #[.int a t, .int b u, .int c v] }, toks := tk } :=
  P.new R rfl fun S hb => ⟨by rw [Rel.at_self]; exact hb, hf, t, u, v, by rw [Rel.at_self]; exact IsRange.new ..⟩

theorem range_neg_small {a b c : Int} (e : rangeFits a b c = true) : (Builtin.Range.rangeFitsLong a && Builtin.Range.rangeFitsLong b && Builtin.Range.rangeFitsLong c && Builtin.Range.rangeFitsLong (-c) && Builtin.Range.rangeFitsLong (a - c) && Builtin.Range.rangeFitsLong (Builtin.Range.rangeSize a b c)) = true := by
  have hl := rangeLen_le e
  have ⟨⟨ha, hb⟩, _, hc⟩ := rangeFits_el e
  rw [rangeLen_eq, long_big ha, long_big hb, long_c hc, long_len hl, long_c ⟨Int.neg_lt_neg hc.2, Int.neg_lt_neg hc.1⟩, long_of (i := a - c) (by lia) (by lia)]
  rfl

theorem next_list_item {it l : Addr} {i : Nat} {items : Array Value} {x : Value} {Q : Value → Shared → Prop} (hit : s.heap.IsListIter it l i) (hl : s.heap.IsList l items) (hx : items[i]? = some x)
    (hQ : ∀ h', h'.IsListIter it l (i + 1) → Heap.SameBut it s.heap h' → Q x { s with heap := h' }) : wpAny (model prog w) A (call (.builtin "next") [.ref it]) Q E s := by
  obtain ⟨o, ho, hc, hd⟩ := id hit
  obtain ⟨ol, hol, _, nl, hdl⟩ := hl
  refine PySem.Calls.call_function_entry (by decide +kernel) (by decide +kernel) kdk_entry_next (kdk_args_next _) ?_
  unfold Builtin.«next»
  refine wpAny_bind (m := someArgs "next" 1 2 _) (wpAny_of_eq (a := [Value.ref it]) (by first | rfl | kernel_rfl!) ?_)
  dsimp only
  refine wpAny_bind (wpAny_specialOf (name := Str.ofString "__next__") hit.typeIs slot_listiter_next.lookup ?_)
  refine wpAny_ite_split (fun hab => absurd hab (by decide)) (fun _ => ?_)
  refine wpAny_bind (wpAny_callSpecial?_slot (name := Str.ofString "__next__") hit.typeIs slot_listiter_next
    (wpAny_call_entry slot_listiter_next hit.typeIs entry_listiter_next ?_ (args_listiter_next _)))
  show wpAny _ _ (field (.ref it) 0 >>= _) _ _ s
  refine wpAny_bind (wpAny_field ho hd (x := .ref l) rfl ?_)
  show wpAny _ _ (if (Value.ref l == Value.none) = true then _ else _) _ _ s
  rw [if_neg (show ¬ ((Value.ref l == Value.none) = true) from Bool.false_ne_true)]
  show wpAny _ _ (field (.ref it) 1 >>= _) _ _ s
  refine wpAny_bind (wpAny_field ho hd (x := .int i 0) rfl ?_)
  show wpAny _ _ (seqItems? (.ref l) >>= _) _ _ s
  refine wpAny_bind (wpAny_seqItems hol hdl ?_)
  simp only [Int.toNat_natCast, hx]
  refine wpAny_bind (wpAny_setField ho hd (by simp) (wpAny_pure ⟨x, rfl, wpAny_pure ⟨_, rfl, hQ _ ?_ (Heap.SameBut.update ..)⟩⟩))
  exact ⟨_, Heap.get?_update_self _ ho (Obj.isFreed_of_fields (Obj.data_mapFields hd _)), (Obj.cls_mapFields ..).trans hc, by
    rw [Obj.data_mapFields hd]; simp [rawInt]⟩
theorem next_list_stop {it l : Addr} {i : Nat} {items : Array Value} {Q : Value → Shared → Prop} (hh : A.handled = none) (hit : s.heap.IsListIter it l i) (hl : s.heap.IsList l items) (hx : items[i]? = none)
    (hE : ∀ h1 h' e, Heap.SameBut it s.heap h1 → h1.objs.size ≤ h'.objs.size → Heap.MadeExcOf h1 h' e (.type "StopIteration") [] → E (.ref e) { s with heap := h' }) : wpAny (model prog w) A (call (.builtin "next") [.ref it]) Q E s := by
  obtain ⟨o, ho, hc, hd⟩ := id hit
  obtain ⟨ol, hol, _, nl, hdl⟩ := hl
  refine PySem.Calls.call_function_entry (by decide +kernel) (by decide +kernel) kdk_entry_next (kdk_args_next _) ?_
  unfold Builtin.«next»
  refine wpAny_bind (m := someArgs "next" 1 2 _) (wpAny_of_eq (a := [Value.ref it]) (by first | rfl | kernel_rfl!) ?_)
  dsimp only
  refine wpAny_bind (wpAny_specialOf (name := Str.ofString "__next__") hit.typeIs slot_listiter_next.lookup ?_)
  refine wpAny_ite_split (fun hab => absurd hab (by decide)) (fun _ => ?_)
  refine wpAny_bind (wpAny_callSpecial?_slot (name := Str.ofString "__next__") hit.typeIs slot_listiter_next
    (wpAny_call_entry slot_listiter_next hit.typeIs entry_listiter_next ?_ (args_listiter_next _)))
  show wpAny _ _ (field (.ref it) 0 >>= _) _ _ s
  refine wpAny_bind (wpAny_field ho hd (x := .ref l) rfl ?_)
  show wpAny _ _ (if (Value.ref l == Value.none) = true then _ else _) _ _ s
  rw [if_neg (show ¬ ((Value.ref l == Value.none) = true) from Bool.false_ne_true)]
  show wpAny _ _ (field (.ref it) 1 >>= _) _ _ s
  refine wpAny_bind (wpAny_field ho hd (x := .int i 0) rfl ?_)
  show wpAny _ _ (seqItems? (.ref l) >>= _) _ _ s
  refine wpAny_bind (wpAny_seqItems hol hdl ?_)
  simp only [Int.toNat_natCast, hx]
  refine wpAny_bind (wpAny_rule (wpAny_bind (wpAny_setField ho hd (by simp) ?_)))
  exact stop_iter2 (show A.in1.in1.handled = none from hh) fun h' e hz M => hE _ _ e (Heap.SameBut.update ..) hz M

theorem reversed_ok {i : Nat} {a b c : Int} {Q : Value → Shared → Prop} (eo : st.ob[i]? = some (.range a b c)) (R : RelS fv base φ lay st s.heap)
    (P : Post fv base φ lay st ⟨st.sl, st.ob ++ [.rangeIter (a + (rangeLen a b c - 1) * c) (rangeLen a b c) (-c)]⟩ (.ref st.ob.length) s Q) : wpAny (model prog w) A (call (primV .reversed) [.ref (φ i)]) Q E s := by
  obtain ⟨hb, hf, t, u, v, I⟩ := R.objs i _ eo
  refine callType_other (U := "range_iterator") (Q₁ := fun obj s₁ => obj = .ref s.heap.objs.size ∧ s₁ = { s with heap := s.heap.push { cls := .type "range_iterator", data := .fields #[rawInt (a + (rangeLen a b c - 1) * c), rawInt (rangeLen a b c), rawInt (-c)] } })
    (by decide +kernel) F.create_reversed ⟨_, _, F.mro_reversed⟩ F.made_reversed (by rw [isSubtype_type]; kernel_rfl) (F.typeCall_reversed_1 _) (code_reversed_range I (range_neg_small hf) (by rw [rangeLen_eq]; exact ⟨rfl, rfl⟩)) ?_
  rintro obj s₁ ⟨rfl, rfl⟩
  exact ⟨⟨_, Heap.get?_push_size _ rfl, rfl⟩, Post.new (tk := s.toks) R P rfl fun S hb => ⟨by rw [Rel.at_self]; exact hb, by rw [Rel.at_self]; exact Heap.get?_push_size _ rfl⟩⟩
theorem none_of {h : Heap} {c : Addr} (hc : h.objs.size ≤ c) : h.get? c = none := by
  cases q : h.get? c with
  | none => rfl
  | some o => exact absurd (Heap.lt_size q) (Nat.not_lt.mpr hc)
/-- what a new zip leaves in the heap -/
theorem zip_made {a b : Nat} {x y : Addr} {Q : Value → Shared → Prop} {tk : Nat} (R2 : RelS fv base φ lay st s.heap) (hi2 : a < st.ob.length) (hj : b < st.ob.length) (hab : a ≠ b) (ea : φ a = x) (eb : φ b = y)
    (P : Post fv base φ lay st ⟨st.sl, st.ob ++ [.zip a b, .dead]⟩ (.ref st.ob.length) s Q) : Q (.ref (zipB s.heap (.ref x) (.ref y)).objs.size) { s with heap := zipC s.heap (.ref x) (.ref y), toks := tk } := by
  subst ea eb
  have z1 : (zipA s.heap (.ref (φ a)) (.ref (φ b))).objs.size = s.heap.objs.size + 1 := Heap.size_push ..
  have z2 : (zipB s.heap (.ref (φ a)) (.ref (φ b))).objs.size = s.heap.objs.size + 2 := by rw [Heap.size_push, z1]
  have z3 : (zipC s.heap (.ref (φ a)) (.ref (φ b))).objs.size = s.heap.objs.size + 3 := by rw [Heap.size_push, z2]
  have g5 : (zipC s.heap (.ref (φ a)) (.ref (φ b))).get? (zipB s.heap (.ref (φ a)) (.ref (φ b))).objs.size = some _ := Heap.get?_push_size _ rfl
  have g4 : (zipC s.heap (.ref (φ a)) (.ref (φ b))).get? (zipA s.heap (.ref (φ a)) (.ref (φ b))).objs.size = some _ := Heap.get?_push_of_some _ (Heap.get?_push_size _ rfl)
  have g3 : (zipC s.heap (.ref (φ a)) (.ref (φ b))).get? s.heap.objs.size = some _ := Heap.get?_push_of_some _ (Heap.get?_push_of_some _ (Heap.get?_push_size _ rfl))
  rw [z1] at g5 g4
  rw [z2] at g5
  have hx : ∀ c o, s.heap.get? c = some o → (zipC s.heap (.ref (φ a)) (.ref (φ b))).get? c = some o := fun c o x => Heap.get?_push_of_some _ (Heap.get?_push_of_some _ (Heap.get?_push_of_some _ x))
  have n1 := none_of (show (s.heap.objs.size : Nat) ≤ s.heap.objs.size + 1 from Nat.le_succ _)
  have n2 := none_of (show (s.heap.objs.size : Nat) ≤ s.heap.objs.size + 2 from Nat.le_add_right _ _)
  generalize hφ3 : Rel.at_ (Rel.at_ φ st.ob.length (s.heap.objs.size + 2)) (st.ob.length + 1) (s.heap.objs.size + 1) = φ3
  have lo : ∀ j, j < st.ob.length → φ3 j = φ j := fun j hj => by rw [← hφ3, Rel.at_lt (Nat.lt_succ_of_lt hj), Rel.at_lt hj]
  have e0 : φ3 st.ob.length = s.heap.objs.size + 2 := by rw [← hφ3, Rel.at_lt (Nat.lt_succ_self _), Rel.at_self]
  have e1 : φ3 (st.ob.length + 1) = s.heap.objs.size + 1 := by rw [← hφ3, Rel.at_self]
  obtain ⟨R3, S3, e3⟩ := R2.push2 (a := s.heap.objs.size + 2) (b := s.heap.objs.size + 1) (o := .zip a b) (by rw [z3]; lia) hx n2 n1 (by rw [z3]; exact (show (s.heap.objs.size + 1 : Nat) < s.heap.objs.size + 3 by lia)) fun S => by
    rw [hφ3]
    delta Repr; dsimp only
    rw [e0, e1, lo a hi2, lo b hj]
    refine ⟨R2.fresh n2, Nat.lt_succ_of_lt (Nat.lt_succ_of_lt hi2), Nat.lt_succ_of_lt (Nat.lt_succ_of_lt hj), hab, Nat.lt_succ_self _, R2.fresh n1, s.heap.objs.size, _, _, g5, g3, fun j hj' => ?_, g4⟩
    by_cases q : j < st.ob.length
    · rw [lo j q]; exact Nat.ne_of_lt (R2.ltAll j q)
    · obtain rfl | rfl : j = st.ob.length ∨ j = st.ob.length + 1 := by lia
      · rw [e0]; exact (show (s.heap.objs.size + 2 : Nat) ≠ s.heap.objs.size by lia)
      · rw [e1]; exact (show (s.heap.objs.size + 1 : Nat) ≠ s.heap.objs.size by lia)
  rw [z2]
  refine P _ _ _ tk R3 S3 ?_
  have := VR.ref (fv := fv) (φ := Rel.at_ (Rel.at_ φ st.ob.length (s.heap.objs.size + 2)) (st.ob.length + 1) (s.heap.objs.size + 1)) (n := (st.ob ++ [PO.zip a b, .dead]).length) (h := zipC s.heap (.ref (φ a)) (.ref (φ b))) st.ob.length (by simp)
  rwa [e3] at this
theorem sorted_ok {ys : List PV} {ss : List Str} {l : Addr} {us : List Value} {Q : Value → Shared → Prop} (L : s.heap.IsList l us.toArray) (W' : VRs fv φ st.ob.length s.heap us ys) (es : strsOf ys = some ss) (hz : ss.length < 64) (R : RelS fv base φ lay st s.heap)
    (P : Post fv base φ lay st ⟨st.sl, st.ob ++ [.list ((sortStrs ss).map .str)]⟩ (.ref st.ob.length) s Q) : wpAny (model prog w) A (call (primV .sorted) [.ref l]) Q E s := by
  have SA := W'.strsAre es
  refine sorted_strs L SA (by rw [SA.length]; exact hz) fun out ss' H1 H2 H3 => ?_
  have := sorted_unique H2 H3
  subst this
  obtain ⟨c, hc⟩ := sortedAll_at s.heap us out
  have hnew : (sortedAll s.heap us out).get? (s.heap.objs.size + 1) = some _ := hc
  obtain ⟨R', S', V'⟩ := R.pushNew (h' := sortedAll s.heap us out) (a := s.heap.objs.size + 1) (o := .list ((sortStrs ss).map .str)) (Nat.le_of_lt (Nat.lt_of_succ_lt (Heap.lt_size hnew))) (fun b o => sortedAll_old) (none_of (Nat.le_succ _))
    fun S hb => ⟨by rw [Rel.at_self]; exact hb, out.toList, ⟨_, by rw [Rel.at_self]; exact hnew⟩, vrs_of_strs H1⟩
  exact P _ _ _ s.toks R' S' V'
theorem max_ok {k : Nat} {ys : List PV} {m : Int} {tl : List Int} {l : Addr} {us : List Value} {Q : Value → Shared → Prop} (hA : Room k A) (L : s.heap.IsList l us.toArray) (W' : VRs fv φ st.ob.length s.heap us ys) (es : intsOf ys = some (m :: tl)) (R : RelS fv base φ lay st s.heap)
    (P : Post fv base φ lay st st (.int (maxL m tl)) s Q) : wpAny (model prog w) A (call (primV .max) [.ref l]) Q E s := by
  obtain ⟨LL, mm, hm, hb⟩ := R.homeNs
  obtain ⟨F, N⟩ := frOf hm
  refine wpAny_with_size (max_list_N hA.hh F N L (W'.intsAre es) (by simp) fun h' M t tk F' N' hM hMx hsz => ?_)
  obtain ⟨R1, S1⟩ := R.ext_home hm hb hsz (extOf F' fun p hp => (N' p hp).1) F'.ns
  have : M = maxL m tl := Int.le_antisymm (by
    have ⟨h1, h2⟩ := maxL_le m tl
    rcases List.mem_cons.mp hM with rfl | hM
    · exact h1
    · exact h2 _ hM) (hMx _ (maxL_mem m tl))
  exact P φ _ h' tk R1 S1 (this ▸ .int _ t)
theorem sum_ok {k : Nat} {ys : List PV} {ns : List Int} {l : Addr} {us : List Value} {Q : Value → Shared → Prop} (hA : Room k A) (L : s.heap.IsList l us.toArray) (W' : VRs fv φ st.ob.length s.heap us ys) (es : intsOf ys = some ns) (hz1 : ns.length ≤ room) (hz2 : ns.all (fun x => decide (-4294967296 < x) && decide (x < 4294967296)) = true)
    (R : RelS fv base φ lay st s.heap) (P : Post fv base φ lay st st (.int ns.sum) s Q) : wpAny (model prog w) A (call (primV .sum) [.ref l]) Q E s := by
  have SA := W'.intsAre es
  obtain ⟨xs, exs⟩ := SA.allInts.items
  have hns : ns = xs.toList.map (·.1) := by rw [← SA.numsOf, ← nums_intItems, ← exs]
  have hl : ns.length = xs.size := by rw [hns]; simp
  have fit : ∀ j, -(4294967296 * (ns.take j).length) ≤ (ns.take j).sum ∧ (ns.take j).sum ≤ 4294967296 * (ns.take j).length := fun j => sum_fits (by
    rw [List.all_eq_true]; intro x hx; exact List.all_eq_true.mp hz2 x (List.mem_of_mem_take hx))
  rw [exs] at L
  refine wpAny_with_size (sum_intList hA.hh L (fun j hj => ?_) fun h' tk t' hk hsz => ?_)
  · rw [numAt_eq, preSum_eq, ← hns]
    have hj' : j < ns.length := by lia
    have h1 := fit (j + 1)
    have hlen : (ns.take (j + 1)).length ≤ 4096 := Nat.le_trans (by rw [List.length_take]; lia) hz1
    have h2 := List.all_eq_true.mp hz2 (ns.getD j 0) (by rw [List.getD_eq_getElem?_getD, List.getElem?_eq_getElem hj']; simp)
    simp only [Bool.and_eq_true, decide_eq_true_eq] at h2
    unfold InLong
    constructor <;> constructor <;> lia
  · rw [preSum_eq, ← hns, List.take_of_length_le (by lia)]
    exact P φ _ h' tk (R.ext hsz hk) (R.step_of_ext hsz hk) (.int _ t')

theorem prim_ok {k : Nat} {p : Prim} {xs : List PV} {vs : List Value} {r : PV} {Q : Value → Shared → Prop} (hA : Room k A) (e : primop p xs st = some (r, st'))
    (R : RelS fv base φ lay st s.heap) : VRs fv φ st.ob.length s.heap vs xs → Post fv base φ lay st st' r s Q → wpAny (model prog w) A (call (primV p) vs) Q E s := by
  replace e := prim_rel e
  induction e using PrimR.casesOn with
  | len ei hz =>
    intro W P
    obtain ⟨v, rfl, V⟩ := W.one
    rw [V.refv.1]
    obtain ⟨us, L, W'⟩ := items_list R ei
    have hz' : us.length ≤ 4096 := by rw [W'.1]; exact hz
    refine PySem.Calls.call_len_list L (by simp only [List.size_toArray]; lia) ?_
    have := P.same R (v := .int us.length (s.toks + 1)) (tk := s.toks + 1 + 1) (by rw [W'.1]; exact .int _ _)
    simpa using this
  | range1 h =>
    intro W P
    obtain ⟨v, rfl, V⟩ := W.one
    obtain ⟨t, rfl⟩ := V.intv
    exact call_range_1 (P.range R h)
  | range2 h =>
    intro W P
    obtain ⟨v, u, rfl, V, U⟩ := W.two
    obtain ⟨t, rfl⟩ := V.intv
    obtain ⟨t', rfl⟩ := U.intv
    exact call_range_2 (P.range R h)
  | range3 h =>
    intro W P
    obtain ⟨v, u, z, rfl, V, U, Z⟩ := W.three
    obtain ⟨t, rfl⟩ := V.intv
    obtain ⟨t', rfl⟩ := U.intv
    obtain ⟨t'', rfl⟩ := Z.intv
    have hf' := h
    unfold rangeFits at hf'
    simp only [Bool.and_eq_true, decide_eq_true_eq, Bool.not_eq_true', decide_eq_false_iff_not] at hf'
    exact call_range_3 hf'.1.1.2 (P.range R h) (Or.inl (PyProof.noPylong_small (by omega)))
  | reversed eo =>
    intro W P
    obtain ⟨v, rfl, V⟩ := W.one
    rw [V.refv.1]
    exact reversed_ok eo R P
  | iter e =>
    intro W P
    obtain ⟨v, rfl, V⟩ := W.one
    refine PySem.Calls.call_function_entry (by decide +kernel) (by decide +kernel) kdk_entry_iter (kdk_args_iter _) ?_
    unfold Builtin.«iter»
    refine wpAny_bind (wpAny_of_eq (a := [v]) rfl ?_)
    dsimp only
    exact wpAny_bind (iter_ok e R V fun φ' h' tk R' S' hi => wpAny_pure ⟨_, rfl, P _ _ _ tk R' S' (.ref _ hi)⟩)
  | @next i l k xs x eo ei ex =>
    intro W P
    obtain ⟨v, rfl, V⟩ := W.one
    rw [V.refv.1]
    obtain ⟨hb, hl, I⟩ := R.objs i _ eo
    obtain ⟨us, L, U⟩ := items_list R ei
    obtain ⟨u, eu, Vu⟩ := U.get ex
    refine next_list_item I L (by simpa using eu) fun h' I' hs => ?_
    obtain ⟨R', S'⟩ := next1_upd (o' := .listIter l (k + 1)) R eo rfl hb (Nat.le_of_eq hs.1.symm) hs.extBut fun S => ⟨hb, hl, I'⟩
    exact P _ _ h' s.toks R' S' (Vu.step S')
  | @enumerate v it s1 e =>
    intro W P
    obtain ⟨v, rfl, V⟩ := W.one
    refine call_enum (iter_ok e R V fun φ' h' tk R' S' hi => ?_)
    have P' : Post fv base φ' lay s1 ⟨s1.sl, s1.ob ++ [.enum it 0]⟩ (.ref s1.ob.length) { s with heap := h', toks := tk } Q := fun φ2 v2 h2 tk2 R2 S2 V2 => P φ2 v2 h2 tk2 R2 (S'.trans S2) V2
    exact P'.new (s := { s with heap := h', toks := tk }) (tk := tk) R' rfl fun S hb => ⟨by rw [Rel.at_self]; exact hb, Nat.lt_succ_of_lt hi, .none, by
      rw [Rel.at_self, Rel.at_lt hi]; exact Heap.get?_push_size _ rfl⟩
  | @zip x y a s1 b s2 ei ej hab =>
    intro W P
    obtain ⟨v, u, rfl, V, U⟩ := W.two
    refine call_zip (iter_ok ei R V fun φ1 h1 tk1 R1 S1 hi => iter_ok (s := { s with heap := h1, toks := tk1 }) ej R1 (U.step S1) fun φ2 h2 tk2 R2 S2 hj => ?_)
    have P' : Post fv base φ2 lay s2 ⟨s2.sl, s2.ob ++ [.zip a b, .dead]⟩ (.ref s2.ob.length) { s with heap := h2, toks := tk2 } Q := fun φ3 v3 h3 tk3 R3 S3 V3 => P φ3 v3 h3 tk3 R3 ((S1.trans S2).trans S3) V3
    exact zip_made (s := { s with heap := h2, toks := tk2 }) (tk := tk2) R2 (Nat.lt_of_lt_of_le hi S2.le) hj hab (S2.agr a hi) rfl P'
  | sorted ei es hz =>
    intro W P
    obtain ⟨v, rfl, V⟩ := W.one
    rw [V.refv.1]
    obtain ⟨us, L, W'⟩ := items_list R ei
    exact sorted_ok L W' es hz R P
  | max ei es =>
    intro W P
    obtain ⟨v, rfl, V⟩ := W.one
    rw [V.refv.1]
    obtain ⟨us, L, W'⟩ := items_list R ei
    exact max_ok hA L W' es R P
  | sum ei es h1 h2 =>
    intro W P
    obtain ⟨v, rfl, V⟩ := W.one
    rw [V.refv.1]
    obtain ⟨us, L, W'⟩ := items_list R ei
    exact sum_ok hA L W' es h1 h2 R P
  | @hex i s0 e =>
    intro W P
    obtain ⟨v, rfl, V⟩ := W.one
    obtain ⟨t, rfl⟩ := V.intv
    exact iteE e fun hz e => by
      cases e
      exact PySem.P.hex_of_int (P.same R (.str _ _)) (baseText_under (by decide) (by decide) (by lia))
end Mine.Internal
end
section
open PySem PySem.W PyProof.Rows
namespace Mine.Internal
set_option linter.unusedSectionVars false
set_option linter.unusedVariables false
set_option maxRecDepth 100000
variable {prog : Program} {w : World} {A : Around} {E : Value → Shared → Prop} {s : Shared}
variable {fv : Fn → Value} {φ φ' : Nat → Addr} {n n' : Nat} {h h' base : Heap} {lay : Nat → Loc} {st st' : St} {sl : List (Option PV)} {ob ob' : List PO}

/-! a run of the sort's questions -/
theorem runT_wp {α : Type} {cmp : Nat → Nat → Option Bool} {ask : Nat → Nat → (Bool → Shared → Prop) → Shared → Prop} {Q : α → Shared → Prop} {s : Shared}
    (h : ∀ i j b (C : Bool → Shared → Prop), cmp i j = some b → C b s → ask i j C s) : ∀ (t : KasT α) {r : α}, runT cmp t = some r → Q r s → t.kasWp ask Q s
  | .ret a, r, e, q => by cases e; exact q
  | .ask i j k, r, e, q => by
    unfold runT at e
    show ask i j (fun b s' => (k b).kasWp ask Q s') s
    split at e
    · rename_i hc; exact h i j true _ hc (runT_wp h (k true) e q)
    · rename_i hc; exact h i j false _ hc (runT_wp h (k false) e q)
    · cases e

theorem mapO_length {α β : Type} {f : α → Option β} : ∀ {l : List α} {r : List β}, mapO f l = some r → r.length = l.length
  | [], r, e => by cases e; rfl
  | x :: l, r, e => by
    unfold mapO at e
    cases ex : f x with
    | none => rw [ex] at e; cases e
    | some y =>
      cases el : mapO f l with
      | none => rw [ex, el] at e; cases e
      | some ys => rw [ex, el] at e; cases e; simp [mapO_length el]
theorem mapO_get {α β : Type} {f : α → Option β} : ∀ {l : List α} {r : List β}, mapO f l = some r → ∀ {i : Nat} {x : α}, l[i]? = some x → ∃ y, f x = some y ∧ r[i]? = some y
  | [], r, e, i, x, h => by simp at h
  | z :: l, r, e, i, x, h => by
    unfold mapO at e
    cases ex : f z with
    | none => rw [ex] at e; cases e
    | some y =>
      cases el : mapO f l with
      | none => rw [ex, el] at e; cases e
      | some ys =>
        rw [ex, el] at e; cases e
        cases i with
        | zero => simp at h; subst h; exact ⟨y, ex, rfl⟩
        | succ i => simp at h; simpa using mapO_get el h

theorem pairP_some {x : PV} {p : Int × Int} (e : pairP x = some p) : x = .tup [.int p.1, .int p.2] := by
  exact bindE (o := asT x) e fun xs e1 e => (asT_el e1).trans (congrArg PV.tup (asP_el e))
theorem VR.pair {v : Value} {a b : Int} (V : VR fv φ n h v (.tup [.int a, .int b])) : ∃ (A : Addr) (t u : Tok), v = .ref A ∧ h.IsTuple A #[.int a t, .int b u] := by
  obtain ⟨A, vs, rfl, ht, ho, W⟩ := V.tupv
  obtain ⟨x, y, rfl, X, Y⟩ := W.two
  obtain ⟨t, rfl⟩ := X.intv
  obtain ⟨u, rfl⟩ := Y.intv
  exact ⟨A, t, u, rfl, ht⟩

theorem getD_of {vs : List Value} {i : Nat} {v : Value} (h : vs[i]? = some v) : vs.getD i Value.none = v := by rw [List.getD_eq_getElem?_getD, h]; rfl
theorem ask_two {vs : List Value} {i j : Nat} {v u : Value} {C : Bool → Shared → Prop} (e1 : vs.getD i Value.none = v) (e2 : vs.getD j Value.none = u) (h : wpAny (model prog w) A (keyLt' (tuples' true) v u) C (fun _ _ => False) s) : kas_ask prog w A (tuples' true) vs i j C s := by
  subst e1; subst e2; exact h
theorem lt_walk {p1 p2 q1 q2 : Int} {t1 t2 t3 t4 : Tok} {C : Bool → Shared → Prop} (h : C (decide (p1 < q1) || (decide (p1 = q1) && decide (p2 < q2))) s) :
    KatLex prog w A true false C [(.int p1 t1, .int q1 t3), (.int p2 t2, .int q2 t4)] 0 s := by
  refine kat_cons (wpAny_eqBool_int ?_)
  by_cases h1 : p1 = q1
  · subst h1
    rw [decide_eq_false (Int.lt_irrefl p1), decide_eq_true rfl] at h
    rw [beq_self_eq_true]
    refine kat_yes (kat_cons (wpAny_eqBool_int ?_))
    by_cases h2 : p2 = q2
    · subst h2
      rw [decide_eq_false (Int.lt_irrefl p2)] at h
      rw [beq_self_eq_true]
      exact kat_yes (kat_nil h)
    · rw [beq_false_of_ne h2]
      exact kat_no (kat_one _ _ (PyProof.Rows.lt_int h))
  · rw [decide_eq_false h1, Bool.false_and, Bool.or_false] at h
    rw [beq_false_of_ne h1]
    exact kat_no (kat_lt_int h)
theorem ask_pairs {vs : List Value} {xs : List PV} {i j : Nat} {b : Bool} {C : Bool → Shared → Prop} (W : VRs fv φ n s.heap vs xs) (e : cmpP xs i j = some b) (h : C b s) :
    kas_ask prog w A (tuples' true) vs i j C s := by
  refine bindE (o := xs[i]?) e fun x ei e => bindE (o := xs[j]?) e fun y ej e => bindE (o := pairP x) e fun p ep e => bindE (o := pairP y) e fun q eq e => ?_
  obtain ⟨v, ev, V⟩ := W.get ei
  obtain ⟨u, eu, U⟩ := W.get ej
  rw [pairP_some ep] at V
  rw [pairP_some eq] at U
  obtain ⟨a, t1, t2, e1, oa, ea, _, na, da⟩ := V.pair
  obtain ⟨c, t3, t4, e2, oc, ec, _, nc, dc⟩ := U.pair
  refine ask_two (getD_of (ev.trans (congrArg some e1))) (getD_of (eu.trans (congrArg some e2))) (kat_lt (b := true) ea da ec dc (lt_walk ?_))
  cases e
  exact h

theorem tups_of {xs : List PV} : ∀ {vs : List Value} {ps : List (Int × Int)}, VRs fv φ n h vs xs → mapO pairP xs = some ps → ∃ fs, KatTups h vs fs ∧ fs.length = vs.length ∧ ∀ v ∈ fs, ∃ i t, v = .int i t := by
  induction xs with
  | nil => intro vs ps W e; rw [W.isNil]; exact ⟨[], .nil, rfl, by simp⟩
  | cons x r ih =>
    intro vs ps W e
    obtain ⟨v, us, rfl, V, U⟩ := W.cases
    unfold mapO at e
    cases ex : pairP x with
    | none => rw [ex] at e; cases e
    | some p =>
      cases el : mapO pairP r with
      | none => rw [ex, el] at e; cases e
      | some ps' =>
        obtain ⟨p1, p2⟩ := p
        have := pairP_some ex; subst this
        obtain ⟨a, t1, t2, rfl, oa, ea, ca, na, da⟩ := V.pair
        obtain ⟨fs, T, hl, hi⟩ := ih U el
        exact ⟨.int p1 t1 :: fs, .cons ea ca da rfl T, by simp [hl], fun v hv => by
          rcases List.mem_cons.mp hv with rfl | hv
          · exact ⟨_, _, rfl⟩
          · exact hi v hv⟩
end Mine.Internal
end
section
open PySem PySem.W PyProof.Rows
namespace Mine.Internal
set_option linter.unusedSectionVars false
set_option linter.unusedVariables false
set_option maxRecDepth 100000
variable {prog : Program} {w : World} {A : Around} {E : Value → Shared → Prop} {s : Shared}
variable {fv : Fn → Value} {φ φ' : Nat → Addr} {n n' : Nat} {h h' base : Heap} {lay : Nat → Loc} {st st' : St} {sl : List (Option PV)} {ob ob' : List PO}

/-- a list of the call's own turns -/
theorem Post.list {Q : Value → Shared → Prop} {l : Nat} {xs ys : List PV} {us : List Value} {r : PV} {v : Value} {h' : Heap} {tk : Nat} (R : RelS fv base φ lay st s.heap) (eo : st.ob[l]? = some (.list xs))
    (P : Post fv base φ lay st (setO st l (.list ys)) r s Q) (hsz : s.heap.objs.size ≤ h'.objs.size) (hs : Heap.ExtBut (φ l) s.heap h') (L' : h'.PlainList (φ l) (List.toArray us))
    (W' : Step φ st.ob.length s.heap φ st.ob.length h' → VRs fv φ st.ob.length h' us ys) (V' : Step φ st.ob.length s.heap φ st.ob.length h' → VR fv φ st.ob.length h' v r) : Q v { s with heap := h', toks := tk } := by
  obtain ⟨hb, _, _, _⟩ := R.objs l _ eo
  have S := R.step_upd eo hsz hs
  have R' := R.upd (o' := .list ys) eo rfl hb hsz hs ⟨hb, us, L', W' S⟩
  have hlen : (setO st l (.list ys)).ob.length = st.ob.length := by simp [setO]
  exact P φ v h' tk R' (by unfold StepS; rw [hlen]; exact S) (by unfold VRS; rw [hlen]; exact V' S)

/-- the frame's heap, an object of it hid -/
theorem hidOf {h : Heap} {L a : Addr} {m : Str → Option Value} (hm : h.Ns L m) (ha : a ≠ L) : Fr (hideAll (cutHeap h L) [a]) L h m ∧ News (hideAll (cutHeap h L) [a]) L h ((newsOf h L).filter fun p => decide (p.1 ≠ a)) ∧ (hideAll (cutHeap h L) [a]).get? a = none := by
  obtain ⟨F, N⟩ := frOf hm
  refine ⟨⟨hm, fun b o e => F.keep b o (of_hideAll _ e), by rw [hideAll_size]; exact F.above⟩, fun p hp => ?_, hideAll_none _ (.head _)⟩
  obtain ⟨n1, n2, n3⟩ := N p (List.mem_filter.mp hp).1
  refine ⟨n1, n2, ?_⟩
  cases q : (hideAll (cutHeap h L) [a]).get? p.1 with
  | none => rfl
  | some o => rw [of_hideAll _ q] at n3; cases n3
theorem keptOf {h h' : Heap} {L a : Addr} {m : Str → Option Value} (F : Fr (hideAll (cutHeap h L) [a]) L h' m) (N : ∀ p ∈ (newsOf h L).filter fun p => decide (p.1 ≠ a), h'.get? p.1 = some p.2) : ∀ b o, b ≠ L → b ≠ a → h.get? b = some o → h'.get? b = some o := fun b o hL ha e => by
  rcases Nat.lt_or_gt_of_ne hL with q | q
  · exact F.keep b o (hideAll_get _ (cutHeap_of e q) (by simpa using ha))
  · exact N (b, o) (List.mem_filter.mpr ⟨mem_newsOf.mpr ⟨q, e⟩, by simpa using ha⟩)

/-- the frame's table rests as it is; one object turns -/
theorem Rel.upd_home (R : Rel fv base φ lay sl ob h) {k : Nat} {o o' : PO} {L : Addr} {m : Str → Option Value} (hm : h.Ns L m) (hbL : base.get? L = none) (hn : h'.Ns L m) (e : ob[k]? = some o) (hl : o.live = true) (hb : base.get? (φ k) = none) (hkL : φ k ≠ L)
    (hz : h.objs.size ≤ h'.objs.size) (hk : ∀ b o, b ≠ L → b ≠ φ k → h.get? b = some o → h'.get? b = some o) (hr : Step φ ob.length h φ ob.length h' → Repr fv base φ ob.length h' k o') :
    Rel fv base φ lay sl (ob.set k o') h' ∧ Step φ ob.length h φ (ob.set k o').length h' := by
  obtain ⟨o1, es1, ep1, e1, d1⟩ := id hm
  obtain ⟨o2, es2, ep2, e2, d2⟩ := id hn
  have f2 : o2.isFreed = false := (Heap.get?_some_iff.mp e2).2
  have g1 : (h.update L fun _ => o2).get? L = some o2 := Heap.get?_update_self _ e1 f2
  have hs1 : Heap.SameBut L h (h.update L fun _ => o2) := Heap.SameBut.update ..
  have n1 : (h.update L fun _ => o2).Ns L m := ⟨o2, es2, ep2, g1, d2⟩
  obtain ⟨R1, S1⟩ := R.ext_home hm hbL (Nat.le_of_eq hs1.1.symm) hs1.extBut n1
  have hz2 : (h.update L fun _ => o2).objs.size ≤ h'.objs.size := by rw [hs1.1]; exact hz
  have hk2 : Heap.ExtBut (φ k) (h.update L fun _ => o2) h' := fun b x hbk ex => by
    by_cases q : b = L
    · subst q; rw [g1] at ex; cases ex; exact e2
    · exact hk b x q hbk ((hs1.2 b q).symm.trans ex)
  have S2 := R1.step_upd e hz2 hk2
  refine ⟨R1.upd e hl hb hz2 hk2 (hr (S1.trans S2)), by rw [List.length_set]; exact S1.trans S2⟩

theorem VR.heap {v : Value} {x : PV} (V : VR fv φ n h v x) (hk : ∀ a vs, Off φ n a → h.IsTuple a vs → h'.IsTuple a vs) : VR fv φ n h' v x := by
  induction V with
  | none => exact .none
  | bool b => exact .bool b
  | int i t => exact .int i t
  | str s t => exact .str s t
  | tup ht ho hl _ ih => exact .tup (hk _ _ ho ht) ho hl ih
  | ref i hi => exact .ref i hi
  | fn f => exact .fn f
theorem vrs_pick {us : List Value} {xs : List PV} (W : VRs fv φ n h us xs) : ∀ {p : List Nat} {zs : List PV}, mapO (fun i => xs[i]?) p = some zs → VRs fv φ n h (p.map fun i => us.getD i Value.none) zs
  | [], zs, e => by cases e; exact .nil
  | i :: p, zs, e => by
    unfold mapO at e
    cases ex : xs[i]? with
    | none => rw [ex] at e; cases e
    | some y =>
      cases el : mapO (fun i => xs[i]?) p with
      | none => rw [ex, el] at e; cases e
      | some ys =>
        rw [ex, el] at e; cases e
        obtain ⟨v, ev, V⟩ := W.get ex
        refine .cons ?_ (vrs_pick W el)
        show VR fv φ n h (us.getD i Value.none) y
        rw [List.getD_eq_getElem?_getD, ev]; exact V

noncomputable def methV : Meth → String
  | .append => "list.append"
  | .pop => "list.pop"
  | .extend => "list.extend"
  | .sort => "list.sort"
  | .join => "str.join"
  | .split => "str.split"
  | .get => "dict.get"

noncomputable def flagD : List (PyData × PyData) := flagNames.map fun p => (.int p.1, .str p.2)
theorem lookI_eq (k : Int) : ∀ l : List (Int × Str), Spec.lookup (PyData.int k) (l.map fun p => (PyData.int p.1, PyData.str p.2)) = (lookI k l).map PyData.str
  | [] => rfl
  | (i, x) :: l => by
    show (if Spec.same (PyData.int i) (PyData.int k) = true then some (PyData.str x) else Spec.lookup (PyData.int k) (l.map fun p => (PyData.int p.1, PyData.str p.2))) = (if i = k then some x else lookI k l).map PyData.str
    rw [PyProof.V.same_int, lookI_eq k l]
    by_cases hx : i = k
    · subst hx; simp
    · simp [hx]

/-- the names' table stands in the heap -/
noncomputable def FlagsOk (fv : Fn → Value) (base : Heap) : Prop := ∃ d, fv .flags = .ref d ∧ ∀ (prog : Program) (w : World), IntTab prog w base d flagD

theorem sort_ok {l : Nat} {ys zs : List PV} {Q : Value → Shared → Prop} (eo : st.ob[l]? = some (.list ys)) (z1 : 2 ≤ ys.length) (z2 : ys.length < 64) (eps : sortPs ys = some zs) (hl : l < st.ob.length) (R : RelS fv base φ lay st s.heap)
    (P : Post fv base φ lay st (setO st l (.list zs)) .none s Q) : wpAny (model prog w) A (call (.builtin "list.sort") [.ref (φ l)]) Q E s := by
  refine bindE (o := mapO pairP ys) eps fun ps e1 eps => bindE (o := runT (cmpP ys) (kas_sort ys.length)) eps fun p e2 eps => ?_
  obtain ⟨hb, us, ⟨c, L⟩, W'⟩ := R.objs l _ eo
  obtain ⟨LL, m, hm, hbL⟩ := R.homeNs
  have hkL : φ l ≠ LL := fun z => by
    obtain ⟨o, es, ep, e3, e4, _⟩ := id hm
    rw [← z, L] at e3; cases e3; cases e4
  obtain ⟨F, N, hn⟩ := hidOf (a := φ l) hm hkL
  refine wpAny_call_entry slot_list_sort ⟨_, L, rfl⟩ entry_list_sort (wpAny_with_size (kat_list_sort (n := c) F N L hkL hn (fun q hq => of_decide_eq_true (List.mem_filter.mp hq).2) (by rw [W'.1]; exact z1) (by rw [W'.1]; exact z2) fun e1' h1 F1 N1 => ?_)) (args_list_sort _)
  have kT : ∀ a vs, Off φ st.ob.length a → s.heap.IsTuple a vs → h1.IsTuple a vs := fun a vs ho ⟨o, eo', r⟩ => by
    refine ⟨o, keptOf F1 (fun p hp => (N1 p (.tail _ hp)).1) a o (fun z => ?_) (fun z => ho l hl z.symm) eo', r⟩
    obtain ⟨o2, es, ep, e3, e4, _⟩ := id hm
    rw [z, e3] at eo'; cases eo'
    obtain ⟨_, _, r2⟩ := r
    rw [e4] at r2; cases r2
  have W1 : VRs fv φ st.ob.length h1 us ys := ⟨W'.1, fun i v x a b => (W'.2 i v x a b).heap kT⟩
  obtain ⟨fs, T, hfl, hfi⟩ := tups_of W1 e1
  refine kat_kind (s := { s with heap := h1 }) (T := .type "int") T (by rw [hfl, W'.1]; lia) (fun v hv => ?_) (by decide) ?_
  · obtain ⟨i, t, rfl⟩ := hfi v hv
    exact .now
  · rw [W'.1]
    refine runT_wp (cmp := cmpP ys) (fun i j b C hc hC => ask_pairs (s := { s with heap := h1 }) W1 hc hC) _ e2 ?_
    refine KasFin.intro F1 N1 (.head fun q hq => of_decide_eq_true (List.mem_filter.mp hq).2) fun h' c F2 N2 hsz => ⟨.none, rfl, ?_⟩
    obtain ⟨R', S'⟩ := R.upd_home (o' := .list zs) hm hbL F2.ns eo rfl hb hkL hsz (keptOf F2 fun p hp => (N2 p (.tail _ hp)).1) fun S => ⟨hb, _, ⟨c, (N2 _ (.head _)).1⟩, (vrs_pick W' eps).step S⟩
    exact P φ _ h' s.toks R' S' .none
theorem pop_last {us : List Value} {m : Nat} (hl : us.length = m + 1) : us.toArray.eraseIdxIfInBounds (us.toArray.size - 1) = List.toArray (us.take m) := by
  apply Array.toList_inj.mp
  have : us.toArray.size - 1 < us.toArray.size := by simp; omega
  simp only [Array.eraseIdxIfInBounds, this, dif_pos]
  simp only [List.size_toArray, hl, Nat.add_sub_cancel]
  simp only [List.eraseIdx_toArray]
  rw [List.eraseIdx_eq_take_drop_succ, List.drop_of_length_le (by lia)]
  simp
theorem pop_ok {l : Nat} {r : List PV} {x : PV} {Q : Value → Shared → Prop} (eo : st.ob[l]? = some (.list (r ++ [x]))) (hz : (r ++ [x]).length ≤ room) (R : RelS fv base φ lay st s.heap) (P : Post fv base φ lay st (setO st l (.list r)) x s Q) :
    wpAny (model prog w) A (call (.builtin "list.pop") [.ref (φ l)]) Q E s := by
  obtain ⟨hb, us, ⟨c, L⟩, W'⟩ := R.objs l _ eo
  have hlen := W'.1
  obtain ⟨u, eu, U⟩ := W'.get (i := r.length) (x := x) (by simp)
  have hl' : us.length = r.length + 1 := by rw [hlen]; simp
  refine call_meets PySem.F.slot_list_pop ⟨_, L, rfl⟩ PySem.F.entry_list_pop (PySem.F.args_list_pop_1 _) (PySem.MeetsSeq.list_pop_last (φ l) _ c u (by
    rw [List.size_toArray, hl', Nat.add_sub_cancel]; simpa using eu) (by
    rw [sizeLine_eq, List.size_toArray, hlen]; unfold room at hz; lia)) ⟨L, ?_⟩
  have hs := Heap.SameBut.update s.heap (φ l) (Obj.mapSeq fun xs => xs.eraseIdxIfInBounds (us.toArray.size - 1))
  have q := PySem.IsL.update L fun xs => xs.eraseIdxIfInBounds (us.toArray.size - 1)
  rw [pop_last hl'] at q
  refine Post.list (tk := s.toks) R eo P (Nat.le_of_eq hs.1.symm) hs.extBut (us := us.take r.length) ⟨_, q⟩ (fun S => ?_) fun S => U.step S
  have := (W'.take r.length).step S
  rwa [List.take_left] at this
theorem extend_ok {l j : Nat} {xs ys : List PV} {Q : Value → Shared → Prop} (eo : st.ob[l]? = some (.list xs)) (ej : st.ob[j]? = some (.list ys)) (hz : xs.length + ys.length ≤ room) (R : RelS fv base φ lay st s.heap) (P : Post fv base φ lay st (setO st l (.list (xs ++ ys))) .none s Q) :
    wpAny (model prog w) A (call (.builtin "list.extend") [.ref (φ l), .ref (φ j)]) Q E s := by
  obtain ⟨hb, us, ⟨c, L⟩, W'⟩ := R.objs l _ eo
  obtain ⟨hb2, us2, ⟨c2, L2⟩, W2⟩ := R.objs j _ ej
  have h1 := W'.1
  have h2 := W2.1
  unfold room at hz
  refine call_meets PySem.F.slot_list_extend ⟨_, L, rfl⟩ PySem.F.entry_list_extend (PySem.F.args_list_extend_2 _ _) (PySem.AutoSeq1.list_extend_list_list_0 (φ l) _ c (φ j) _ c2 (by
    simp only [Bool.and_eq_true, not_and]
    intro _
    simp only [List.size_toArray, Builtin.List.listTooLong]
    simp only [sizeLine_eq]
    simp; lia) (by rw [sizeLine_eq, List.size_toArray]; lia) (by rw [sizeLine_eq]; simp only [List.size_toArray]; lia)) ⟨L, L2, ?_⟩
  have hs := Heap.SameBut.update s.heap (φ l) (Obj.mapSeq fun x => x ++ us2.toArray)
  have q := PySem.IsL.update L fun x => x ++ us2.toArray
  exact Post.list (tk := s.toks) R eo P (Nat.le_of_eq hs.1.symm) hs.extBut (us := us ++ us2) ⟨_, by simpa using q⟩ (fun S => (W'.append W2).step S) fun S => .none
theorem sum_len : ∀ {ss : List Str}, (∀ y ∈ ss, y.length ≤ 4096) → (ss.map (·.length)).sum ≤ ss.length * 4096
  | [], _ => Nat.le_refl _
  | y :: r, hB => by
    have h1 := hB y (.head _)
    have h2 := sum_len fun z hz => hB z (.tail _ hz)
    simp only [List.map_cons, List.sum_cons, List.length_cons]
    lia
theorem join_ok {l : Addr} {ys : List PV} {us : List Value} {ss : List Str} {sep : Str} {t : Tok} {Q : Value → Shared → Prop} (L : s.heap.IsList l us.toArray) (W' : VRs fv φ st.ob.length s.heap us ys) (es : strsOf ys = some ss) (z1 : ss.length ≤ 64) (z2 : ss.all (fun x => decide (x.cps.size ≤ room)) = true) (z3 : sep.cps.size ≤ room)
    (R : RelS fv base φ lay st s.heap) (P : Post fv base φ lay st st (.str (Txt.join sep ss)) s Q) : wpAny (model prog w) A (call (.builtin "str.join") [.str sep t, .ref l]) Q E s := by
  unfold room at z2 z3
  refine join_list L (W'.strsAre es) ?_ fun t' k => P.same R (.str _ _)
  have hs := sum_len fun y hy => (of_decide_eq_true (List.all_eq_true.mp z2 y hy) : y.length ≤ 4096)
  have h1 : ss.length * sep.length ≤ 64 * 4096 := Nat.mul_le_mul z1 z3
  have h2 : (ss.map (·.length)).sum ≤ 64 * 4096 := Nat.le_trans hs (Nat.mul_le_mul_right _ z1)
  lia
theorem split_ok {x y : Str} {t t' : Tok} {Q : Value → Shared → Prop} (hz : x.cps.size ≤ room) (hy : y.cps.size ≠ 0) (R : RelS fv base φ lay st s.heap) (P : Post fv base φ lay st ⟨st.sl, st.ob ++ [.list ((Txt.split x y).map .str)]⟩ (.ref st.ob.length) s Q) :
    wpAny (model prog w) A (call (.builtin "str.split") [.str x t, .str y t']) Q E s := by
  obtain ⟨L, m, hm, hb⟩ := R.homeNs
  obtain ⟨F, N⟩ := frOf hm
  unfold room at hz
  refine splitN1 F N (by show (y.cps.size == 0) = false; simpa using hy) (fun l h' k el F' N' => ?_) (by rw [sizeLine_eq]; show x.cps.size + 2 ≤ _; lia)
  have hnew := (N' _ (.head _)).1
  obtain ⟨R', S', V'⟩ := R.madeBy (o := .list ((Txt.split x y).map .str)) hm hb F' (fun p hp => (N' p (.tail _ hp)).1) (Nat.le_of_lt (Heap.lt_size hnew)) (get_size_none _) (not_tuple_of hnew (by simp)) (fun S hba => ⟨by rw [Rel.at_self]; exact hba, strValues l, ⟨_, by
    rw [Rel.at_self]; exact hnew⟩, by rw [← el]; exact vrs_of_strs (strsAre_of_values l)⟩)
  exact P _ _ _ k R' S' V'
theorem get_ok {k : Int} {z : Str} {t t' : Tok} {d : Addr} {Q : Value → Shared → Prop} (T : IntTab prog w base d flagD) (R : RelS fv base φ lay st s.heap) (P : Post fv base φ lay st st (.str ((lookI k flagNames).getD z)) s Q) :
    wpAny (model prog w) A (call (.builtin "dict.get") [.ref d, .int k t, .str z t']) Q E s := by
  refine call_get2_intTab (PyProof.Rows.KTD.tab_keep T R.stays) (PyProof.V.Flat.str z t') fun v hv => ?_
  unfold flagD at hv
  rw [lookI_eq] at hv
  cases hx : lookI k flagNames with
  | none => rw [hx] at hv P; obtain ⟨t2, rfl⟩ := PyProof.V.Flat.str_inv hv; exact P.same R (.str _ _)
  | some x => rw [hx] at hv P; obtain ⟨t2, rfl⟩ := PyProof.V.Flat.str_inv hv; exact P.same R (.str _ _)

theorem meth_ok {k : Nat} {mt : Meth} {x r : PV} {xs : List PV} {v : Value} {vs : List Value} {Q : Value → Shared → Prop} (hA : Room k A) (FO : FlagsOk fv base) (e : methop mt x xs st = some (r, st'))
    (R : RelS fv base φ lay st s.heap) : VRS fv φ st s.heap v x → VRs fv φ st.ob.length s.heap vs xs → Post fv base φ lay st st' r s Q → wpAny (model prog w) A (call (.builtin (methV mt)) (v :: vs)) Q E s := by
  replace e := meth_rel e
  induction e using MethR.casesOn with
  | append eo hz =>
    intro V W P
    rw [V.refv.1]
    obtain ⟨u, rfl, U⟩ := W.one
    obtain ⟨hb, us, L, W'⟩ := R.objs _ _ eo
    refine wpAny_list_append_plain L (fun h' L' hs => ?_) (by rw [sizeLine_eq, List.size_toArray, W'.1]; unfold room at hz; lia)
    exact Post.list (tk := s.toks) R eo P (Nat.le_of_eq hs.1.symm) hs.extBut (us := us ++ [u]) (by simpa using L') (fun S => (W'.append (.cons U .nil)).step S) fun S => .none
  | pop eo hz => intro V W P; rw [V.refv.1, W.isNil]; exact pop_ok eo hz R P
  | extend eo ek hz hlk => intro V W P; obtain ⟨u, rfl, U⟩ := W.one; rw [V.refv.1, U.refv.1]; exact extend_ok eo ek hz R P
  | sort eo h1 h2 e => intro V W P; rw [V.refv.1, W.isNil]; exact sort_ok eo h1 h2 e V.refv.2 R P
  | join ei es h1 h2 h3 =>
    intro V W P
    obtain ⟨t, rfl⟩ := V.strv
    obtain ⟨u, rfl, U⟩ := W.one
    rw [U.refv.1]
    obtain ⟨us, L, W'⟩ := items_list R ei
    exact join_ok L W' es h1 h2 h3 R P
  | split h1 h2 =>
    intro V W P
    obtain ⟨t, rfl⟩ := V.strv
    obtain ⟨u, rfl, U⟩ := W.one
    obtain ⟨t', rfl⟩ := U.strv
    exact split_ok h1 h2 R P
  | get =>
    intro V W P
    obtain ⟨u1, u2, rfl, U1, U2⟩ := W.two
    obtain ⟨t, rfl⟩ := U1.intv
    obtain ⟨t', rfl⟩ := U2.strv
    obtain ⟨d, ed, T⟩ := FO
    rw [V.fnv, ed]
    exact get_ok (T prog w) R P
end Mine.Internal
end
section
open PySem PySem.W PyProof.Rows
namespace Mine.Internal
set_option linter.unusedSectionVars false
set_option linter.unusedVariables false
set_option maxRecDepth 100000
variable {prog : Program} {w : World} {A : Around} {E : Value → Shared → Prop} {s : Shared}
variable {fv : Fn → Value} {φ φ' : Nat → Addr} {n n' : Nat} {h h' base : Heap} {lay : Nat → Loc} {st st' : St} {sl : List (Option PV)} {ob ob' : List PO} {env : Env}

/-- where a name's value is kept -/
inductive At (env : Env) (lay : Nat → Loc) (x : Str) (k : Nat) : Prop
  | loc (h1 : env.kindOf x = some .local) (h2 : lay k = .ns env.locals x)
  | cell (c : Addr) (h1 : env.kindOf x = some .cell) (h2 : env.cells.lookup x = some c) (h3 : lay k = .cell c)
  | free (c : Addr) (h1 : env.kindOf x = some .free) (h2 : env.cells.lookup x = some c) (h3 : lay k = .cell c)

structure EnvOk (env : Env) (N : List (Str × NameKind)) (T : List (Str × Nat)) (lay : Nat → Loc) : Prop where
  scope : env.scope.names = N
  kind : env.scope.kind = .function
  glob : env.globals = mainGlobals
  blt : env.builtins = builtinsNs
  at_ : ∀ x k, T.lookup x = some k → At env lay x k

theorem load_ok {x : Str} {k : Nat} {r : PV} {Q : Value → Shared → Prop} (hk : env.scope.kind = .function) (T : At env lay x k) (hcd : (x == ("__classdict__" : Str)) = false) (e : st.sl[k]? = some (some r)) (R : RelS fv base φ lay st s.heap)
    (P : Post fv base φ lay st st r s Q) : wpAny (model prog w) A (loadName env x) Q E s := by
  have X := R.slots k _ e
  cases T with
  | loc h1 h2 =>
    rw [h2] at X
    obtain ⟨m, hm, v, ev, V⟩ := X
    exact wpAny_loadName_local hk h1 hm ev (P.same' R V)
  | cell c h1 h2 h3 =>
    rw [h3] at X
    obtain ⟨v, hc, V⟩ := X
    exact wpAny_loadName_cell hk h1 h2 hc (P.same' R V)
  | free c h1 h2 h3 =>
    rw [h3] at X
    obtain ⟨v, hc, V⟩ := X
    exact wpAny_loadName_free hk h1 h2 hc (P.same' R V) hcd

/-- what a store leaves -/
noncomputable def PostU (fv : Fn → Value) (base : Heap) (φ : Nat → Addr) (lay : Nat → Loc) (st st' : St) (s : Shared) (Q : Shared → Prop) : Prop :=
  ∀ φ' h' tk, RelS fv base φ' lay st' h' → StepS φ st s.heap φ' st' h' → Q { s with heap := h', toks := tk }

theorem setS_some {st st' : St} {k : Nat} {v : PV} (e : setS st k v = some st') : k < st.sl.length ∧ st' = ⟨st.sl.set k (some v), st.ob⟩ := by
  unfold setS at e
  split at e
  · rename_i h
    cases e; exact ⟨Nat.le_of_ble_eq_true h, rfl⟩
  · cases e
theorem store_ok {x : Str} {k : Nat} {r : PV} {v : Value} {Q : Unit → Shared → Prop} (hk : env.scope.kind = .function) (T : At env lay x k) (hf : env.kindOf x ≠ some .free) (e : setS st k r = some st') (R : RelS fv base φ lay st s.heap) (V : VRS fv φ st s.heap v r)
    (P : PostU fv base φ lay st st' s (Q ())) : wpAny (model prog w) A (storeName env x v) Q E s := by
  obtain ⟨hkl, rfl⟩ := setS_some e
  obtain ⟨p, ep⟩ : ∃ p, st.sl[k]? = some p := ⟨st.sl[k], by simp [hkl]⟩
  have X := R.slots k _ ep
  cases T with
  | loc h1 h2 =>
    rw [h2] at X
    obtain ⟨m, hm⟩ : ∃ m, s.heap.Ns env.locals m := by
      cases p with
      | none => exact X
      | some p => obtain ⟨m, hm, _⟩ := X; exact ⟨m, hm⟩
    refine wpAny_storeName_local h1 hm (fun h' hn hs => ?_) (by rw [hk]; rfl)
    obtain ⟨R', S'⟩ := R.setLocal ep h2 hm hn hs V
    exact P φ h' _ R' S'
  | cell c h1 h2 h3 =>
    rw [h3] at X
    obtain ⟨v0, hc⟩ : ∃ v0, s.heap.IsCell c v0 := by
      cases p with
      | none => exact X
      | some p => obtain ⟨u, hu, _⟩ := X; exact ⟨_, hu⟩
    refine wpAny_storeName_cell hk h1 h2 hc fun h' hc' hs => ?_
    obtain ⟨R', S'⟩ := R.setCell ep h3 hc' hs V
    exact P φ h' s.toks R' S'
  | free c h1 h2 h3 => exact absurd h1 hf

/-- targets -/
inductive CTs (N : List (Str × NameKind)) (T : List (Str × Nat)) : List PySem.Expr → List Nat → Prop
  | nil : CTs N T [] []
  | cons {x : Str} {k : Nat} {pos : Pos} {es : List PySem.Expr} {ks : List Nat} (h1 : T.lookup x = some k) (h2 : N.lookup x ≠ some .free) (r : CTs N T es ks) : CTs N T (.Name x pos :: es) (k :: ks)
inductive CT (N : List (Str × NameKind)) (T : List (Str × Nat)) : PySem.Expr → Tgt → Prop
  | name {x : Str} {k : Nat} {pos : Pos} (h1 : T.lookup x = some k) (h2 : N.lookup x ≠ some .free) : CT N T (.Name x pos) (.v k)
  | tup {es : List PySem.Expr} {c : Nat} {pos : Pos} {ks : List Nat} (h : CTs N T es ks) : CT N T (.Tuple es c pos) (.tup ks)
theorem PostU.trans {Q : Shared → Prop} {st1 : St} {h1 : Heap} {tk1 : Nat} (P : PostU fv base φ lay st st' s Q) (S1 : StepS φ st s.heap φ' st1 h1) : PostU fv base φ' lay st1 st' { s with heap := h1, toks := tk1 } Q :=
  fun φ2 h2 tk2 R2 S2 => P φ2 h2 tk2 R2 (S1.trans S2)

theorem assignAll_ok {env : Env} {N : List (Str × NameKind)} {T : List (Str × Nat)} (O : EnvOk env N T lay) : ∀ {es : List PySem.Expr} {ks : List Nat} {xs : List PV} {vs : List Value} {st : St} {s : Shared} {φ : Nat → Addr} {Q : Unit → Shared → Prop}, CTs N T es ks →
    setT.setAll ks xs st = some st' → RelS fv base φ lay st s.heap → VRs fv φ st.ob.length s.heap vs xs → PostU fv base φ lay st st' s (Q ()) →
    wpAny (model prog w) A (assignInOrder ((assignEach es env).map (·.2)) vs) Q E s
  | [], _, xs, vs, st, s, φ, Q, C, e, R, W, P => by
    cases C
    cases xs with
    | nil =>
      cases e
      rw [W.isNil]
      exact wpAny_pure (P φ s.heap s.toks R (Step.refl ..))
    | cons x r => cases e
  | t :: es, _, xs, vs, st, s, φ, Q, C, e, R, W, P => by
    cases C with
    | cons h1 h2 r =>
      rename_i x k pos ks
      cases xs with
      | nil => cases e
      | cons y ys =>
        obtain ⟨v, us, rfl, V, U⟩ := W.cases
        replace e : (setS st k y).bind (setT.setAll _ ys) = _ := e
        cases es1 : setS st k y with
        | none => rw [es1] at e; cases e
        | some s1 =>
          rw [es1] at e
          show wpAny _ _ (do holding us (assign (.Name x pos) env v); assignInOrder ((assignEach es env).map (·.2)) us) _ _ _
          refine wpAny_bind (wpAny_holding (wpAny_assign_Name (store_ok O.kind (O.at_ x k h1) (by unfold Env.kindOf; rw [O.scope]; exact h2) es1 R V fun φ' h' tk R' S' => ?_)))
          exact assignAll_ok (s := { s with heap := h', toks := tk }) O r e R' (U.step S') (P.trans S')

theorem assign_ok {env : Env} {N : List (Str × NameKind)} {T : List (Str × Nat)} {te : PySem.Expr} {t : Tgt} {x : PV} {v : Value} {Q : Unit → Shared → Prop} (hh : A.handled = none) (O : EnvOk env N T lay) (C : CT N T te t)
    (e : setT t x st = some st') (R : RelS fv base φ lay st s.heap) (V : VRS fv φ st s.heap v x) (P : PostU fv base φ lay st st' s (Q ())) : wpAny (model prog w) A (assign te env v) Q E s := by
  cases C with
  | name h1 h2 => exact wpAny_assign_Name (store_ok O.kind (O.at_ _ _ h1) (by unfold Env.kindOf; rw [O.scope]; exact h2) e R V P)
  | tup h =>
    rename_i es c pos ks
    cases x <;> try cases e
    rename_i xs
    obtain ⟨a, vs, rfl, ht, ho, W⟩ := V.tupv
    have e' : setT.setAll ks xs st = some st' := e
    have hl : ∀ {es : List PySem.Expr} {ks : List Nat}, CTs N T es ks → (assignEach es env).length = ks.length ∧ (assignEach es env).findIdx? (·.1) = none := fun {es ks} C => by
      induction C with
      | nil => exact ⟨rfl, rfl⟩
      | cons h1 h2 r ih =>
        rename_i x k pos es ks
        have : assignEach (.Name x pos :: es) env = (false, assign (.Name x pos) env) :: assignEach es env := rfl
        rw [this]
        exact ⟨by simp [ih.1], by rw [List.findIdx?_cons]; simp [ih.2]⟩
    have hk : ∀ {ks : List Nat} {xs : List PV} {st st' : St}, setT.setAll ks xs st = some st' → ks.length = xs.length := fun {ks} => by
      induction ks with
      | nil => intro xs st st' e; cases xs with
        | nil => rfl
        | cons => cases e
      | cons k ks ih => intro xs st st' e; cases xs with
        | nil => cases e
        | cons y ys =>
          replace e : (setS st k y).bind (setT.setAll ks ys) = _ := e
          cases es1 : setS st k y with
          | none => rw [es1] at e; cases e
          | some s1 => rw [es1] at e; exact congrArg (· + 1) (ih e)
    have hn : (assignEach es env).length = vs.toArray.size := by rw [(hl h).1, hk e', ← W.1]; simp
    rw [arm_assign_Tuple]
    refine wpAny_bind (wpAny_standAt ?_)
    unfold unpack
    rw [hn, (hl h).2]
    refine wpAny_bind (wpAny_holding (wpAny_with_size (wpAny_unpackItems_tuple hh ht fun h' hx hsz => ?_)))
    have hsz' : s.heap.objs.size ≤ h'.objs.size := hsz
    have hkeep : ∀ b o, s.heap.get? b = some o → h'.get? b = some o := fun b o q => hx b o (Nat.ne_of_lt (Heap.lt_size q)) q
    have S1 := R.step_of_ext hsz' hkeep
    exact assignAll_ok (s := { s with heap := h' }) O h e' (R.ext hsz' hkeep) (W.step S1) (PostU.trans (st1 := st) P S1)

/-! what is seen no more -/
theorem Step.cut {m : Nat} (S : Step φ n h φ' n' h') (h1 : n ≤ m) (h2 : m ≤ n') : Step φ n h φ' m h' := ⟨h1, S.sz, S.agr, fun i a b => S.new i a (Nat.lt_of_lt_of_le b h2), S.keep⟩
theorem okSs_get {m : Nat} : ∀ {xs : List (Option PV)}, okSs m xs = true → ∀ {i : Nat} {x : PV}, xs[i]? = some (some x) → okV m x = true
  | [], _, i, x, e => by simp at e
  | y :: r, hx, i, x, e => by
    replace hx : okS m y = true ∧ okSs m r = true := Bool.and_eq_true_iff.mp hx
    cases i with
    | zero => simp at e; subst e; exact hx.1
    | succ i => simp at e; exact okSs_get hx.2 e
theorem okOs_get {m : Nat} : ∀ {xs : List PO}, okOs m xs = true → ∀ {i : Nat} {x : PO}, xs[i]? = some x → okO m x = true
  | [], _, i, x, e => by simp at e
  | y :: r, hx, i, x, e => by
    replace hx : okO m y = true ∧ okOs m r = true := Bool.and_eq_true_iff.mp hx
    cases i with
    | zero => simp at e; subst e; exact hx.1
    | succ i => simp at e; exact okOs_get hx.2 e
theorem Repr.cut {m k : Nat} {o : PO} (X : Repr fv base φ n h k o) (ho : okO m o = true) (hm : m ≤ n) : Repr fv base φ m h k o := by
  cases o with
  | list xs => obtain ⟨b, vs, L, W⟩ := X; exact ⟨b, vs, L, W.cut ho hm⟩
  | ro xs => obtain ⟨b, vs, L, W⟩ := X; exact ⟨b, vs, L, W.cut ho hm⟩
  | range a b c => exact X
  | rangeIter a b c => exact X
  | listIter l i => obtain ⟨b, _, L⟩ := X; exact ⟨b, Nat.le_of_ble_eq_true ho, L⟩
  | tupIter xs i => obtain ⟨b, t, vs, I, T, O, W⟩ := X; exact ⟨b, t, vs, I, T, fun j hj => O j (Nat.lt_of_lt_of_le hj hm), W.cut ho hm⟩
  | enum it i => obtain ⟨b, _, I⟩ := X; exact ⟨b, Nat.le_of_ble_eq_true ho, I⟩
  | zip a b => cases ho
  | dead => exact X
/-- fewer names, fewer objects -/
theorem Rel.cut (R : Rel fv base φ lay sl ob h) {m : Nat} {sl' : List (Option PV)} (hm : m ≤ ob.length) (hs : okSs m sl' = true) (ho : okOs m (ob.take m) = true) (hsl : ∀ (k : Nat) (p : Option PV), sl'[k]? = some p → sl[k]? = some p)
    (hhome : ∃ k p L x, sl'[k]? = some p ∧ lay k = .ns L x) : Rel fv base φ lay sl' (ob.take m) h := by
  have hlen : (ob.take m).length = m := by rw [List.length_take]; lia
  have hlt : ∀ k, k < sl'.length → k < sl.length := fun k hk => (List.getElem?_eq_some_iff.mp (hsl k sl'[k] (by simp [hk]))).1
  have hob : ∀ {k : Nat} {o : PO}, (ob.take m)[k]? = some o → ob[k]? = some o := fun {k o} e => by
    rw [List.getElem?_take] at e
    split at e
    · exact e
    · cases e
  refine ⟨R.stays, fun k p e => ?_, fun k hk => R.slnew k (hlt k hk), fun j k hj hk => R.sldist j k (hlt j hj) (hlt k hk), fun k o e => ?_, hhome, fun i j o o' e1 e2 => R.inj i j o o' (hob e1) (hob e2)⟩
  · rw [hlen]
    have X := R.slots k p (hsl k p e)
    cases hl : lay k with
    | ns L x =>
      rw [hl] at X
      cases p with
      | none => exact X
      | some p => obtain ⟨mm, hmm, v, ev, V⟩ := X; exact ⟨mm, hmm, v, ev, V.cut (okSs_get hs e) hm⟩
    | cell c =>
      rw [hl] at X
      cases p with
      | none => exact X
      | some p => obtain ⟨v, hc, V⟩ := X; exact ⟨v, hc, V.cut (okSs_get hs e) hm⟩
  · rw [hlen]
    exact (R.objs k o (hob e)).cut (okOs_get ho e) hm
theorem gc_ok {m : Nat} (R : RelS fv base φ' lay st h') (hm : m ≤ st.ob.length) (S : Step φ n h φ' st.ob.length h') (hn : n ≤ m) : RelS fv base φ' lay (gc m st) h' ∧ Step φ n h φ' (gc m st).ob.length h' ∧ m ≤ (gc m st).ob.length ∧ (gc m st).sl.length = st.sl.length := by
  unfold gc
  split
  · rename_i hg
    rw [Bool.and_eq_true] at hg
    have hlen : (st.ob.take m).length = m := by rw [List.length_take]; lia
    refine ⟨R.cut hm hg.1 hg.2 (fun k p e => e) R.home, ?_, Nat.le_of_eq hlen.symm, rfl⟩
    show Step φ n h φ' (st.ob.take m).length h'
    rw [hlen]; exact S.cut hn hm
  · exact ⟨R, S, hm, rfl⟩

/-- a value of the module's own, in any frame -/
theorem VR.up {φ0 : Nat → Addr} {v : Value} {c : PV} (V : VR fv φ0 0 base v c) (R : Rel fv base φ lay sl ob h) : VR fv φ ob.length h v c := by
  induction V with
  | none => exact .none
  | bool b => exact .bool b
  | int i t => exact .int i t
  | str s t => exact .str s t
  | tup ht _ hl _ ih =>
    refine .tup (let ⟨o, e, r⟩ := ht; ⟨o, R.stays _ _ e, r⟩) (fun i hi z => ?_) hl ih
    obtain ⟨o, e, hc, _⟩ := id ht
    obtain ⟨x, ex⟩ : ∃ x, ob[i]? = some x := ⟨ob[i], by simp [hi]⟩
    have X := R.objs i x ex
    cases hl : x.live with
    | true =>
      obtain ⟨y, ey, hy⟩ := X.get hl
      rw [z, R.stays _ _ e] at ey; cases ey; exact hy hc
    | false =>
      cases x with
      | dead => rw [← z, X.1] at e; cases e
      | _ => cases hl
  | ref i hi => exact absurd hi (Nat.not_lt_zero _)
  | fn f => exact .fn f
end Mine.Internal
end
section
open PySem PySem.W PyProof.Rows
namespace Mine.Internal
set_option linter.unusedVariables false

noncomputable def userFns : List (Str × Nat) := [("heappush", 0), ("heappop", 1), ("_heapreplace_max", 2), ("_heapify_max", 3), ("_siftdown", 4), ("_siftup", 5), ("_siftdown_max", 6), ("_siftup_max", 7), ("nsmallest", 8), ("pretty_flags", 9), ("_parse_varint", 10), ("S_IFMT", 11), ("filemode", 12), ("_law_ways", 13), ("_law_threes", 14), ("_law_read", 15), ("_law_struck", 16), ("_law_fewest", 17)]
noncomputable def primFns : List (Str × Prim) := [("len", .len), ("range", .range), ("reversed", .reversed), ("iter", .iter), ("next", .next), ("enumerate", .enumerate), ("zip", .zip), ("sorted", .sorted), ("max", .max), ("sum", .sum), ("hex", .hex)]
noncomputable def tabV : PV := .tup [
  .tup [.tup [.int 40960, .str "l"], .tup [.int 49152, .str "s"], .tup [.int 32768, .str "-"], .tup [.int 24576, .str "b"], .tup [.int 16384, .str "d"], .tup [.int 8192, .str "c"], .tup [.int 4096, .str "p"]],
  .tup [.tup [.int 256, .str "r"]], .tup [.tup [.int 128, .str "w"]],
  .tup [.tup [.int 2112, .str "s"], .tup [.int 2048, .str "S"], .tup [.int 64, .str "x"]],
  .tup [.tup [.int 32, .str "r"]], .tup [.tup [.int 16, .str "w"]],
  .tup [.tup [.int 1032, .str "s"], .tup [.int 1024, .str "S"], .tup [.int 8, .str "x"]],
  .tup [.tup [.int 4, .str "r"]], .tup [.tup [.int 2, .str "w"]],
  .tup [.tup [.int 513, .str "t"], .tup [.int 512, .str "T"], .tup [.int 1, .str "x"]]]
noncomputable def constFns : List (Str × PV) := [("S_IFREG", .int 32768), ("_filemode_table", tabV), ("COMPILER_FLAG_NAMES", .fn .flags)]
noncomputable def gtab : List (Str × PV) := userFns.map (fun p => (p.1, PV.fn (.user p.2))) ++ (primFns.map (fun p => (p.1, PV.fn (.prim p.2))) ++ constFns)

/-- the names of a comprehension's block, in a function's block of names N -/
noncomputable def relab (N : List (Str × NameKind)) (names : List (Str × NameKind)) : List (Str × NameKind) := names.map fun (n, k) => if (k == .free && N.lookup n == some .cell) then (n, .cell) else (n, k)
noncomputable def ownT : Nat → List Str → List (Str × Nat)
  | _, [] => []
  | k, x :: r => (x, k) :: ownT (k + 1) r
/-- own names in their order, then those of the block around -/
noncomputable def innerT (N : List (Str × NameKind)) (T : List (Str × Nat)) (ns : Nat) (names : List (Str × NameKind)) (own : List Str) : List (Str × Nat) :=
  ownT ns own ++ T.filter fun p => names.lookup p.1 == some .free && (N.lookup p.1 == some .cell || N.lookup p.1 == some .free)
structure CompOk (N : List (Str × NameKind)) (T : List (Str × Nat)) (sc : Scope) (own : List Str) : Prop where
  kind : sc.kind = .function
  local_ : ∀ x ∈ sc.names, x.2 = .local → sc.names.lookup x.1 = some .local
  noCell : ∀ x ∈ sc.names, x.2 ≠ .cell
  free : ∀ x ∈ sc.names, x.2 = .free → (N.lookup x.1 = some .cell ∨ N.lookup x.1 = some .free) ∧ ∃ k, T.lookup x.1 = some k
  own_ : ∀ x ∈ own, sc.names.lookup x = some .local
  nodup : own.Nodup
  ne : own ≠ []

noncomputable def methS : Meth → Str × String
  | .append => ("append", "list")
  | .pop => ("pop", "list")
  | .extend => ("extend", "list")
  | .sort => ("sort", "list")
  | .join => ("join", "str")
  | .split => ("split", "str")
  | .get => ("get", "dict")

noncomputable def bareCall : PySem.Expr → Bool
  | .Call _ [] [] _ => true
  | _ => false
mutual
inductive CE : List (Str × NameKind) → List (Str × Nat) → Nat → PySem.Expr → IE → Prop
  | bad {N T ns e} : CE N T ns e .bad
  | int {N T ns i k pos} : CE N T ns (.Constant (.int i) k pos) (.const (.int i))
  | str {N T ns x k pos} : CE N T ns (.Constant (.str x) k pos) (.const (.str x))
  | none {N T ns k pos} : CE N T ns (.Constant .none k pos) (.const .none)
  | bool {N T ns b k pos} : CE N T ns (.Constant (.bool b) k pos) (.const (.bool b))
  | name {N T ns x k pos} (h1 : T.lookup x = some k) (h2 : (x == ("__debug__" : Str)) = false) (h3 : (x == ("__classdict__" : Str)) = false) : CE N T ns (.Name x pos) (.var k)
  | glob {N T ns x c pos} (h1 : N.lookup x = some .globalImplicit) (h2 : gtab.lookup x = some c) (h3 : (x == ("__debug__" : Str)) = false) : CE N T ns (.Name x pos) (.const c)
  | bin {N T ns l r op a b pos} (hl : CE N T ns l a) (hr : CE N T ns r b) : CE N T ns (.BinOp l (opOf op) r pos) (.bin op a b)
  | neg {N T ns e a pos} (he : CE N T ns e a) : CE N T ns (.UnaryOp .USub e pos) (.neg a)
  | cmp {N T ns l r op a b pos} (hl : CE N T ns l a) (hr : CE N T ns r b) : CE N T ns (.Compare l [copOf op] [r] pos) (.cmp op a b)
  | list {N T ns es as pos} (h : CEs N T ns es as) : CE N T ns (.List es pos) (.list as)
  | tup {N T ns es as k pos} (h : CEs N T ns es as) : CE N T ns (.Tuple es k pos) (.tup as)
  | idx {N T ns e i a b pos} (he : CE N T ns e a) (hi : CE N T ns i b) : CE N T ns (.Subscript e i pos) (.idx a b)
  | slice {N T ns e lo hi a l u pos p} (he : CE N T ns e a) (hl : CO N T ns lo l) (hu : CO N T ns hi u) : CE N T ns (.Subscript e (.Slice lo hi Option.none p) pos) (.slice a l u)
  | call {N T ns x p f es as pos} (hf : CE N T ns (.Name x p) f) (h : CEs N T ns es as) : CE N T ns (.Call (.Name x p) es [] pos) (.call f as)
  | meth {N T ns o a m es as apos pos} (ho : CE N T ns o a) (h : CEs N T ns es as) (hline : (apos.endLine == pos.line) = true) (hlen : es.length < 20) (hcall : bareCall o = false) : CE N T ns (.Call (.Attribute o (methS m).1 apos) es [] pos) (.meth m a as)
  | comp {N T ns elt target iter ifs rest sc pos own a t it its gs} (ok : CompOk N T sc own)
      (ht : CT (relab N sc.names) (innerT N T ns sc.names own) target t) (hi : CE N T ns iter it) (hf : CBs (relab N sc.names) (innerT N T ns sc.names own) (ns + own.length) ifs its)
      (hr : CGs (relab N sc.names) (innerT N T ns sc.names own) (ns + own.length) rest gs) (he : CE (relab N sc.names) (innerT N T ns sc.names own) (ns + own.length) elt a) :
      CE N T ns (.ListComp elt (⟨target, iter, ifs, 0⟩ :: rest) sc pos) (.comp a (.mk t it its :: gs) own.length)
  | ife {N T ns t b o c x y pos} (ht : CB N T ns t c) (hb : CE N T ns b x) (ho : CE N T ns o y) : CE N T ns (.IfExp t b o pos) (.ife c x y)
inductive CEs : List (Str × NameKind) → List (Str × Nat) → Nat → List PySem.Expr → List IE → Prop
  | nil {N T ns} : CEs N T ns [] []
  | cons {N T ns e es a as} (h : CE N T ns e a) (hs : ∀ x p, e ≠ .Starred x p) (r : CEs N T ns es as) : CEs N T ns (e :: es) (a :: as)
inductive CO : List (Str × NameKind) → List (Str × Nat) → Nat → Option PySem.Expr → Option IE → Prop
  | none {N T ns} : CO N T ns Option.none Option.none
  | some {N T ns e a} (h : CE N T ns e a) : CO N T ns (Option.some e) (Option.some a)
inductive CB : List (Str × NameKind) → List (Str × Nat) → Nat → PySem.Expr → IT → Prop
  | cmp {N T ns l r op a b pos} (hl : CE N T ns l a) (hr : CE N T ns r b) : CB N T ns (.Compare l [copOf op] [r] pos) (.e (.cmp op a b))
  | bin {N T ns l r op a pos} (h : CE N T ns (.BinOp l op r pos) a) : CB N T ns (.BinOp l op r pos) (.e a)
  | name {N T ns x a pos} (h : CE N T ns (.Name x pos) a) : CB N T ns (.Name x pos) (.e a)
  | const {N T ns x k a pos} (h : CE N T ns (.Constant x k pos) a) : CB N T ns (.Constant x k pos) (.e a)
  | not {N T ns e a pos} (h : CB N T ns e a) : CB N T ns (.UnaryOp .Not e pos) (.not a)
  | and {N T ns x y a b pos} (h1 : CB N T ns x a) (h2 : CB N T ns y b) : CB N T ns (.BoolOp .And [x, y] pos) (.and a b)
  | or {N T ns x y a b pos} (h1 : CB N T ns x a) (h2 : CB N T ns y b) : CB N T ns (.BoolOp .Or [x, y] pos) (.or a b)
inductive CBs : List (Str × NameKind) → List (Str × Nat) → Nat → List PySem.Expr → List IT → Prop
  | nil {N T ns} : CBs N T ns [] []
  | cons {N T ns e es a as} (h : CB N T ns e a) (r : CBs N T ns es as) : CBs N T ns (e :: es) (a :: as)
inductive CGs : List (Str × NameKind) → List (Str × Nat) → Nat → List Comprehension → List IGen → Prop
  | nil {N T ns} : CGs N T ns [] []
  | cons {N T ns target iter ifs rest t it its gs} (ht : CT N T target t) (hi : CE N T ns iter it) (hf : CBs N T ns ifs its) (r : CGs N T ns rest gs) : CGs N T ns (⟨target, iter, ifs, 0⟩ :: rest) (.mk t it its :: gs)
end

noncomputable def isComp : PySem.Expr → Bool
  | .ListComp .. | .SetComp .. | .DictComp .. => true
  | _ => false
mutual
inductive CS : List (Str × NameKind) → List (Str × Nat) → Nat → Stmt → IS → Prop
  | bad {N T ns s} : CS N T ns s .bad
  | expr {N T ns f es a pos pos'} (h : CE N T ns (.Call f es [] pos') a) : CS N T ns (.Expr (.Call f es [] pos') pos) (.expr a)
  | asg {N T ns x k a value pos p} (hT : T.lookup x = some k) (hf : N.lookup x ≠ some .free) (h : CE N T ns value a) (hs : isComp value = false ∨ N.lookup x ≠ some .local) : CS N T ns (.Assign [.Name x p] value pos) (.asg (.v k) a)
  | asgComp {N T ns x k a elt gs sc pos p p'} (hT : T.lookup x = some k) (hf : N.lookup x = some .local) (h : CE N T ns (.ListComp elt gs sc p') a) (hl : (p.line == p'.line) = true) (hown : (sc.names.any fun y => y.1 == x && (y.2 == .local || y.2 == .cell)) = false) : CS N T ns (.Assign [.Name x p] (.ListComp elt gs sc p') pos) (.asg (.v k) a)
  | asgTup {N T ns es ks a v i k pos p p'} (hT : CTs N T es ks) (h : CE N T ns (.Subscript v i p') a) : CS N T ns (.Assign [.Tuple es k p] (.Subscript v i p') pos) (.asg (.tup ks) a)
  | asgIdx {N T ns o i value a b c pos p} (ho : CE N T ns o a) (hi : CE N T ns i b) (h : CE N T ns value c) (hs : isComp value = false) : CS N T ns (.Assign [.Subscript o i p] value pos) (.asgIdx a b c)
  | aug {N T ns x k op value a pos p} (hT : T.lookup x = some k) (hf : N.lookup x ≠ some .free) (h3 : (x == ("__classdict__" : Str)) = false) (h : CE N T ns value a) : CS N T ns (.AugAssign (.Name x p) (opOf op) value pos) (.aug k op a)
  | ife {N T ns t b o c x y pos} (ht : CB N T ns t c) (hb : CSs N T ns b x) (ho : CSs N T ns o y) : CS N T ns (.If t b o pos) (.ife c x y)
  | whl {N T ns t b c x pos} (ht : CB N T ns t c) (hb : CSs N T ns b x) : CS N T ns (.While t b [] pos) (.whl c x)
  | fr {N T ns target iter b o t it x y pos} (ht : CT N T target t) (hi : CE N T ns iter it) (hb : CSs N T ns b x) (ho : CSs N T ns o y) : CS N T ns (.For target iter b o pos) (.fr t it x y)
  | ret {N T ns e a pos} (h : CE N T ns e a) : CS N T ns (.Return (some e) pos) (.ret a)
  | brk {N T ns pos} : CS N T ns (.Break pos) .brk
  | cont {N T ns pos} : CS N T ns (.Continue pos) .cont
  | pass {N T ns pos} : CS N T ns (.Pass pos) .pass
  | tr {N T ns b o x y h hs pos} (hb : CSs N T ns b x) (ho : CSs N T ns o y) : CS N T ns (.Try b (h :: hs) o [] pos) (.try x y)
  | rd {N T ns np nm ap tm pos p1 p2 p3 p4 p5 p6 p7 p8 p9 pos' kt kn} (h1 : T.lookup nm = some kn) (h2 : T.lookup tm = some kt) (h3 : N.lookup np = some .globalImplicit) (h4 : gtab.lookup np = some (.fn (.user 10))) (hd1 : (nm == ("__debug__" : Str)) = false) (hd2 : (tm == ("__debug__" : Str)) = false) (hd3 : (np == ("__debug__" : Str)) = false)
      (hc1 : (nm == ("__classdict__" : Str)) = false) (hc2 : (tm == ("__classdict__" : Str)) = false) (hline : (ap.endLine == p1.line) = true) (hx : N.lookup ("StopIteration" : Str) = some .globalImplicit) :
      CS N T ns (.Try [.Expr (.Call (.Attribute (.Name nm p2) "append" ap) [.Call (.Name np p3) [.Name tm p4] [] p5] [] p1) p6] [.ExceptHandler (some (.Name ("StopIteration" : Str) p7)) none [.Return (some (.Name nm p8)) p9] pos'] [] [] pos) (.rd kt kn)
inductive CSs : List (Str × NameKind) → List (Str × Nat) → Nat → List Stmt → List IS → Prop
  | nil {N T ns} : CSs N T ns [] []
  | cons {N T ns s ss a as} (h : CS N T ns s a) (r : CSs N T ns ss as) : CSs N T ns (s :: ss) (a :: as)
end
end Mine.Internal
end
section
open PySem PySem.W PyProof.Rows
namespace Mine.Internal
set_option linter.unusedVariables false

noncomputable abbrev NN := List (Str × NameKind)
noncomputable abbrev TT := List (Str × Nat)

/-! the compiler hands back its proof -/
noncomputable def kchk : (b : Bool) → Option (PLift (b = true))
  | true => some ⟨rfl⟩
  | false => none
noncomputable def kchkF : (b : Bool) → Option (PLift (b = false))
  | false => some ⟨rfl⟩
  | true => none
noncomputable def klook {β : Type} (l : List (Str × β)) (x : Str) : Option {k : β // l.lookup x = some k} := match l.lookup x with
  | some k => some ⟨k, rfl⟩
  | none => none
noncomputable def kone {α : Type} : (l : List α) → Option {x : α // l = [x]}
  | x :: r => match r with
    | [] => some ⟨x, rfl⟩
    | _ :: _ => none
  | [] => none
noncomputable def ktwo {α : Type} : (l : List α) → Option {x : α × α // l = [x.1, x.2]}
  | x :: r => (kone r).map fun y => ⟨(x, y.1), congrArg (x :: ·) y.2⟩
  | [] => none
noncomputable def nil? {α : Type} : (l : List α) → Option (PLift (l = []))
  | [] => some ⟨rfl⟩
  | _ :: _ => none

noncomputable def ofOp : (o : Operator) → Option {p : Op // o = opOf p}
  | .Add => some ⟨.add, rfl⟩
  | .Sub => some ⟨.sub, rfl⟩
  | .Mult => some ⟨.mul, rfl⟩
  | .FloorDiv => some ⟨.fdiv, rfl⟩
  | .Mod => some ⟨.mod, rfl⟩
  | .LShift => some ⟨.shl, rfl⟩
  | .RShift => some ⟨.shr, rfl⟩
  | .BitAnd => some ⟨.band, rfl⟩
  | .BitOr => some ⟨.bor, rfl⟩
  | .BitXor => some ⟨.bxor, rfl⟩
  | _ => none
noncomputable def ofCop : (o : CmpOp) → Option {p : COp // o = copOf p}
  | .Eq => some ⟨.eq, rfl⟩
  | .NotEq => some ⟨.ne, rfl⟩
  | .Lt => some ⟨.lt, rfl⟩
  | .LtE => some ⟨.le, rfl⟩
  | .Gt => some ⟨.gt, rfl⟩
  | .GtE => some ⟨.ge, rfl⟩
  | .Is => some ⟨.is, rfl⟩
  | .In => some ⟨.isin, rfl⟩
  | .NotIn => some ⟨.notin, rfl⟩
  | _ => none
noncomputable def findM (x : Str) : List Meth → Option {m : Meth // x = (methS m).1}
  | [] => none
  | m :: r => if h : x = (methS m).1 then some ⟨m, h⟩ else findM x r
noncomputable def ofMeth (x : Str) : Option {m : Meth // x = (methS m).1} := findM x [.append, .pop, .extend, .sort, .join, .split, .get]

noncomputable def kindIs (N : NN) (x : Str) (k : NameKind) : Bool := match N.lookup x with
  | some j => j == k
  | none => false
theorem kindIs_ok {N : NN} {x : Str} {k : NameKind} (h : kindIs N x k = true) : N.lookup x = some k := by
  unfold kindIs at h
  split at h
  · rename_i j e; rw [e]; congr 1
    cases j <;> cases k <;> first | rfl | cases h
  · cases h

noncomputable abbrev KRE (N : NN) (T : TT) (ns : Nat) (e : PySem.Expr) := {a : IE // CE N T ns e a}
noncomputable abbrev KREs (N : NN) (T : TT) (ns : Nat) (es : List PySem.Expr) := {a : List IE // CEs N T ns es a}
noncomputable abbrev KRO (N : NN) (T : TT) (ns : Nat) (e : Option PySem.Expr) := {a : Option IE // CO N T ns e a}
noncomputable abbrev KRB (N : NN) (T : TT) (ns : Nat) (e : PySem.Expr) := {a : IT // CB N T ns e a}
noncomputable abbrev KRBs (N : NN) (T : TT) (ns : Nat) (es : List PySem.Expr) := {a : List IT // CBs N T ns es a}
noncomputable abbrev KRGs (N : NN) (T : TT) (ns : Nat) (gs : List Comprehension) := {a : List IGen // CGs N T ns gs a}

noncomputable def kName (N : NN) (T : TT) (ns : Nat) (x : Str) (pos : Pos) : KRE N T ns (.Name x pos) := Option.getD (do
  let hd ← kchkF (x == ("__debug__" : Str))
  match klook T x with
  | some k => do
    let hc ← kchkF (x == ("__classdict__" : Str))
    return ⟨.var k.1, .name k.2 hd.1 hc.1⟩
  | none => do
    let hk ← kchk (kindIs N x .globalImplicit)
    let c ← klook gtab x
    return ⟨.const c.1, .glob (kindIs_ok hk.1) c.2 hd.1⟩) ⟨.bad, .bad⟩

noncomputable def freeNot (N : NN) (x : Str) : Bool := match N.lookup x with
  | some .free => false
  | _ => true
theorem freeNot_ok {N : NN} {x : Str} (h : freeNot N x = true) : N.lookup x ≠ some .free := fun e => by
  unfold freeNot at h; rw [e] at h; cases h
noncomputable def kTs (N : NN) (T : TT) : (es : List PySem.Expr) → Option {ks : List Nat // CTs N T es ks}
  | [] => some ⟨[], .nil⟩
  | e :: r => match e with
    | .Name x _ => do
      let k ← klook T x
      let h ← kchk (freeNot N x)
      let ks ← kTs N T r
      return ⟨k.1 :: ks.1, .cons k.2 (freeNot_ok h.1) ks.2⟩
    | _ => none
noncomputable def kT (N : NN) (T : TT) : (e : PySem.Expr) → Option {t : Tgt // CT N T e t}
  | .Name x _ => do
    let k ← klook T x
    let h ← kchk (freeNot N x)
    return ⟨.v k.1, .name k.2 (freeNot_ok h.1)⟩
  | .Tuple es _ _ => (kTs N T es).map fun ks => ⟨.tup ks.1, .tup ks.2⟩
  | _ => none

noncomputable def nodupB : List Str → Bool
  | [] => true
  | x :: r => !r.any (fun y => y == x) && nodupB r
theorem nodupB_ok : ∀ {l : List Str}, nodupB l = true → l.Nodup
  | [], _ => .nil
  | x :: r, h => by
    unfold nodupB at h
    rw [Bool.and_eq_true] at h
    refine List.nodup_cons.mpr ⟨fun hm => ?_, nodupB_ok h.2⟩
    have : r.any (fun y => y == x) = true := List.any_eq_true.mpr ⟨x, hm, by simp⟩
    rw [this] at h; cases h.1
noncomputable def compOkB (N : NN) (T : TT) (sc : Scope) (own : List Str) : Bool :=
  (match sc.kind with | .function => true | _ => false) && sc.names.all (fun x => (x.2 != .local || kindIs sc.names x.1 .local) && x.2 != .cell && (x.2 != .free || ((kindIs N x.1 .cell || kindIs N x.1 .free) && (T.lookup x.1).isSome))) &&
    own.all (fun x => kindIs sc.names x .local) && nodupB own && !own.isEmpty
theorem compOkB_ok {N : NN} {T : TT} {sc : Scope} {own : List Str} (h : compOkB N T sc own = true) : CompOk N T sc own := by
  unfold compOkB at h
  simp only [Bool.and_eq_true, List.all_eq_true] at h
  obtain ⟨⟨⟨⟨h1, h2⟩, h3⟩, h4⟩, h5⟩ := h
  refine ⟨?_, fun x hx hl => ?_, fun x hx => ?_, fun x hx hf => ?_, fun x hx => kindIs_ok (h3 x hx), nodupB_ok h4, fun z => by rw [z] at h5; cases h5⟩
  · revert h1; cases sc.kind <;> first | exact fun _ => rfl | exact fun h => nomatch h
  · have := (h2 x hx).1.1
    rw [hl] at this
    exact kindIs_ok (by simpa using this)
  · intro hc
    have := (h2 x hx).1.2
    rw [hc] at this; cases this
  · have := (h2 x hx).2
    rw [hf] at this
    simp only [Bool.or_eq_true, Bool.and_eq_true] at this
    rcases this with this | ⟨a, b⟩
    · cases this
    · refine ⟨?_, Option.isSome_iff_exists.mp b⟩
      rcases a with a | a
      · exact .inl (kindIs_ok a)
      · exact .inr (kindIs_ok a)
noncomputable def ownOf (sc : Scope) : List Str := (sc.names.filter fun x => x.2 == .local && x.1 != (".0" : Str)).map (·.1)
noncomputable def notStarred : (e : PySem.Expr) → Option (PLift (∀ x p, e ≠ .Starred x p))
  | .Starred .. => none
  | .Name .. => some ⟨fun _ _ h => nomatch h⟩
  | .Constant .. => some ⟨fun _ _ h => nomatch h⟩
  | .BinOp .. => some ⟨fun _ _ h => nomatch h⟩
  | .UnaryOp .. => some ⟨fun _ _ h => nomatch h⟩
  | .Call .. => some ⟨fun _ _ h => nomatch h⟩
  | .Subscript .. => some ⟨fun _ _ h => nomatch h⟩
  | .Compare .. => some ⟨fun _ _ h => nomatch h⟩
  | .List .. => some ⟨fun _ _ h => nomatch h⟩
  | .Tuple .. => some ⟨fun _ _ h => nomatch h⟩
  | .ListComp .. => some ⟨fun _ _ h => nomatch h⟩
  | .IfExp .. => some ⟨fun _ _ h => nomatch h⟩
  | _ => none

theorem CE.bin' {N T ns l r op' op a b pos} (h : op' = opOf op) (hl : CE N T ns l a) (hr : CE N T ns r b) : CE N T ns (.BinOp l op' r pos) (.bin op a b) := h ▸ .bin hl hr
theorem CE.cmp' {N T ns l ops rs op' r op a b pos} (h : ops = [op']) (h2 : op' = copOf op) (h1 : rs = [r]) (hl : CE N T ns l a) (hr : CE N T ns r b) : CE N T ns (.Compare l ops rs pos) (.cmp op a b) := by
  rw [h, h1, h2]; exact .cmp hl hr
theorem CB.cmp' {N T ns l ops rs op' r op a b pos} (h : ops = [op']) (h2 : op' = copOf op) (h1 : rs = [r]) (hl : CE N T ns l a) (hr : CE N T ns r b) : CB N T ns (.Compare l ops rs pos) (.e (.cmp op a b)) := by
  rw [h, h1, h2]; exact .cmp hl hr
theorem CE.meth' {N T ns o x a m es as apos pos} (hx : x = (methS m).1) (ho : CE N T ns o a) (h : CEs N T ns es as) (hline : (apos.endLine == pos.line) = true) (hlen : decide (es.length < 20) = true) (hcall : bareCall o = false) : CE N T ns (.Call (.Attribute o x apos) es [] pos) (.meth m a as) :=
  hx ▸ .meth ho h hline (of_decide_eq_true hlen) hcall
theorem CE.comp' {N T ns elt target iter ifs i0 rest sc pos own a t it its gs} (h0 : decide (i0 = 0) = true) (ok : compOkB N T sc own = true)
    (ht : CT (relab N sc.names) (innerT N T ns sc.names own) target t) (hi : CE N T ns iter it) (hf : CBs (relab N sc.names) (innerT N T ns sc.names own) (ns + own.length) ifs its)
    (hr : CGs (relab N sc.names) (innerT N T ns sc.names own) (ns + own.length) rest gs) (he : CE (relab N sc.names) (innerT N T ns sc.names own) (ns + own.length) elt a) :
    CE N T ns (.ListComp elt (⟨target, iter, ifs, i0⟩ :: rest) sc pos) (.comp a (.mk t it its :: gs) own.length) := by
  rw [of_decide_eq_true h0]; exact .comp (compOkB_ok ok) ht hi hf hr he
theorem CGs.cons' {N T ns target iter ifs i0 rest t it its gs} (h0 : decide (i0 = 0) = true) (ht : CT N T target t) (hi : CE N T ns iter it) (hf : CBs N T ns ifs its) (r : CGs N T ns rest gs) : CGs N T ns (⟨target, iter, ifs, i0⟩ :: rest) (.mk t it its :: gs) := by
  rw [of_decide_eq_true h0]; exact .cons ht hi hf r
theorem CB.and' {N T ns vs x y a b pos} (h : vs = [x, y]) (h1 : CB N T ns x a) (h2 : CB N T ns y b) : CB N T ns (.BoolOp .And vs pos) (.and a b) := h ▸ .and h1 h2
theorem CB.or' {N T ns vs x y a b pos} (h : vs = [x, y]) (h1 : CB N T ns x a) (h2 : CB N T ns y b) : CB N T ns (.BoolOp .Or vs pos) (.or a b) := h ▸ .or h1 h2

/-- one storey of the compiler -/
structure KF where
  e : ∀ N T ns e, KRE N T ns e
  es : ∀ N T ns es, Option (KREs N T ns es)
  b : ∀ N T ns e, Option (KRB N T ns e)
  bs : ∀ N T ns es, Option (KRBs N T ns es)
  gs : ∀ N T ns gs, Option (KRGs N T ns gs)
variable (K : KF) (N : NN) (T : TT) (ns : Nat)
noncomputable def kO : (e : Option PySem.Expr) → KRO N T ns e
  | none => ⟨none, .none⟩
  | some e => ⟨some (K.e N T ns e).1, .some (K.e N T ns e).2⟩
noncomputable def kCmp {A : IE → Prop} {l : PySem.Expr} {ops : List CmpOp} {rs : List PySem.Expr} (f : ∀ {op' op r a b}, ops = [op'] → op' = copOf op → rs = [r] → CE N T ns l a → CE N T ns r b → A (.cmp op a b)) : Option {a : IE // A a} := do
  let op ← kone ops
  let r ← kone rs
  let o ← ofCop op.1
  return ⟨.cmp o.1 (K.e N T ns l).1 (K.e N T ns r.1).1, f op.2 o.2 r.2 (K.e N T ns l).2 (K.e N T ns r.1).2⟩
noncomputable def kSub {pos : Pos} : (e i : PySem.Expr) → Option (KRE N T ns (.Subscript e i pos)) := fun e i => match i with
  | .Slice lo hi st p => match st with
    | none => some ⟨.slice (K.e N T ns e).1 (kO K N T ns lo).1 (kO K N T ns hi).1, .slice (K.e N T ns e).2 (kO K N T ns lo).2 (kO K N T ns hi).2⟩
    | some _ => none
  | i => some ⟨.idx (K.e N T ns e).1 (K.e N T ns i).1, .idx (K.e N T ns e).2 (K.e N T ns i).2⟩
noncomputable def kCall {es : List PySem.Expr} {pos : Pos} : (f : PySem.Expr) → Option (KRE N T ns (.Call f es [] pos))
  | .Name x p => do
    let as ← K.es N T ns es
    return ⟨.call (kName N T ns x p).1 as.1, .call (kName N T ns x p).2 as.2⟩
  | .Attribute o x apos => do
    let m ← ofMeth x
    let as ← K.es N T ns es
    let h1 ← kchk (apos.endLine == pos.line)
    let h2 ← kchk (decide (es.length < 20))
    let h3 ← kchkF (bareCall o)
    return ⟨.meth m.1 (K.e N T ns o).1 as.1, CE.meth' m.2 (K.e N T ns o).2 as.2 h1.1 h2.1 h3.1⟩
  | _ => none
noncomputable def kComp {elt : PySem.Expr} {sc : Scope} {pos : Pos} : (gs : List Comprehension) → Option (KRE N T ns (.ListComp elt gs sc pos))
  | [] => none
  | g :: rest => match g with
    | ⟨target, iter, ifs, i0⟩ => do
        let h0 ← kchk (decide (i0 = 0))
        let ok ← kchk (compOkB N T sc (ownOf sc))
        let t ← kT (relab N sc.names) (innerT N T ns sc.names (ownOf sc)) target
        let its ← K.bs (relab N sc.names) (innerT N T ns sc.names (ownOf sc)) (ns + (ownOf sc).length) ifs
        let gs ← K.gs (relab N sc.names) (innerT N T ns sc.names (ownOf sc)) (ns + (ownOf sc).length) rest
        let x := K.e (relab N sc.names) (innerT N T ns sc.names (ownOf sc)) (ns + (ownOf sc).length) elt
        return ⟨.comp x.1 (.mk t.1 (K.e N T ns iter).1 its.1 :: gs.1) (ownOf sc).length, CE.comp' h0.1 ok.1 t.2 (K.e N T ns iter).2 its.2 gs.2 x.2⟩
noncomputable def kConst {k : Nat} {pos : Pos} : (c : Const) → Option (KRE N T ns (.Constant c k pos))
  | .int i => some ⟨.const (.int i), .int⟩
  | .str x => some ⟨.const (.str x), .str⟩
  | .none => some ⟨.const .none, .none⟩
  | .bool b => some ⟨.const (.bool b), .bool⟩
  | _ => none
noncomputable def kE : (e : PySem.Expr) → Option (KRE N T ns e)
  | .Constant c k p => kConst N T ns c
  | .Name x p => some (kName N T ns x p)
  | .BinOp l op r p => do
    let o ← ofOp op
    return ⟨.bin o.1 (K.e N T ns l).1 (K.e N T ns r).1, CE.bin' o.2 (K.e N T ns l).2 (K.e N T ns r).2⟩
  | .UnaryOp op e p => match op with
    | .USub => some ⟨.neg (K.e N T ns e).1, .neg (K.e N T ns e).2⟩
    | _ => none
  | .Compare l ops rs p => kCmp K N T ns (l := l) CE.cmp'
  | .List es p => (K.es N T ns es).map fun as => ⟨.list as.1, .list as.2⟩
  | .Tuple es k p => (K.es N T ns es).map fun as => ⟨.tup as.1, .tup as.2⟩
  | .Subscript e i p => kSub K N T ns e i
  | .Call f es kw p => match kw with
    | [] => kCall K N T ns f
    | _ :: _ => none
  | .ListComp elt gs sc p => kComp K N T ns gs
  | .IfExp t b o p => (K.b N T ns t).map fun c => ⟨.ife c.1 (K.e N T ns b).1 (K.e N T ns o).1, .ife c.2 (K.e N T ns b).2 (K.e N T ns o).2⟩
  | _ => none
noncomputable def kEs : (es : List PySem.Expr) → Option (KREs N T ns es)
  | [] => some ⟨[], .nil⟩
  | e :: r => do
    let h ← notStarred e
    let as ← K.es N T ns r
    return ⟨(K.e N T ns e).1 :: as.1, .cons (K.e N T ns e).2 h.1 as.2⟩
noncomputable def kBool {vs : List PySem.Expr} {pos : Pos} : (op : BoolOp) → Option (KRB N T ns (.BoolOp op vs pos))
  | .And => do
    let p ← ktwo vs
    let a ← K.b N T ns p.1.1
    let b ← K.b N T ns p.1.2
    return ⟨.and a.1 b.1, CB.and' p.2 a.2 b.2⟩
  | .Or => do
    let p ← ktwo vs
    let a ← K.b N T ns p.1.1
    let b ← K.b N T ns p.1.2
    return ⟨.or a.1 b.1, CB.or' p.2 a.2 b.2⟩
noncomputable def kB : (e : PySem.Expr) → Option (KRB N T ns e)
  | .Compare l ops rs p => (kCmp K N T ns (l := l) (A := fun a => CB N T ns (.Compare l ops rs p) (.e a)) CB.cmp').map fun a => ⟨.e a.1, a.2⟩
  | .BinOp l op r p => some ⟨.e (K.e N T ns (.BinOp l op r p)).1, .bin (K.e N T ns (.BinOp l op r p)).2⟩
  | .Name x p => some ⟨.e (kName N T ns x p).1, .name (kName N T ns x p).2⟩
  | .Constant x k p => some ⟨.e (K.e N T ns (.Constant x k p)).1, .const (K.e N T ns (.Constant x k p)).2⟩
  | .UnaryOp op e p => match op with
    | .Not => (K.b N T ns e).map fun a => ⟨.not a.1, .not a.2⟩
    | _ => none
  | .BoolOp op vs p => kBool K N T ns op
  | _ => none
noncomputable def kBs : (es : List PySem.Expr) → Option (KRBs N T ns es)
  | [] => some ⟨[], .nil⟩
  | e :: r => do
    let a ← K.b N T ns e
    let as ← K.bs N T ns r
    return ⟨a.1 :: as.1, .cons a.2 as.2⟩
noncomputable def kGs : (gs : List Comprehension) → Option (KRGs N T ns gs)
  | [] => some ⟨[], .nil⟩
  | g :: r => match g with
    | ⟨target, iter, ifs, i0⟩ => do
        let h0 ← kchk (decide (i0 = 0))
        let t ← kT N T target
        let its ← K.bs N T ns ifs
        let gs ← K.gs N T ns r
        return ⟨.mk t.1 (K.e N T ns iter).1 its.1 :: gs.1, CGs.cons' h0.1 t.2 (K.e N T ns iter).2 its.2 gs.2⟩
noncomputable def kf : Nat → KF
  | 0 => ⟨fun _ _ _ _ => ⟨.bad, .bad⟩, fun _ _ _ _ => none, fun _ _ _ _ => none, fun _ _ _ _ => none, fun _ _ _ _ => none⟩
  | n + 1 => ⟨fun N T ns e => (kE (kf n) N T ns e).getD ⟨.bad, .bad⟩, kEs (kf n), kB (kf n), kBs (kf n), kGs (kf n)⟩

/-! statements -/
noncomputable abbrev KRS (N : NN) (T : TT) (ns : Nat) (s : Stmt) := {a : IS // CS N T ns s a}
noncomputable abbrev KRSs (N : NN) (T : TT) (ns : Nat) (ss : List Stmt) := {a : List IS // CSs N T ns ss a}
structure KG where
  ss : ∀ N T ns ss, KRSs N T ns ss

theorem CS.asg' {N T ns x k a value pos p} (hT : T.lookup x = some k) (hf : freeNot N x = true) (h : CE N T ns value a) (hs : isComp value = false) : CS N T ns (.Assign [.Name x p] value pos) (.asg (.v k) a) := .asg hT (freeNot_ok hf) h (.inl hs)
theorem CS.asgTup' {N T ns ts es ks a v i k pos p p'} (e : ts = .Tuple es k p) (hT : CTs N T es ks) (h : CE N T ns (.Subscript v i p') a) : CS N T ns (.Assign [ts] (.Subscript v i p') pos) (.asg (.tup ks) a) := e ▸ .asgTup hT h
theorem CS.asgFree {N T ns x k a value pos p} (hT : T.lookup x = some k) (hf : freeNot N x = true) (h : CE N T ns value a) (hs : kindIs N x .local = false) : CS N T ns (.Assign [.Name x p] value pos) (.asg (.v k) a) :=
  .asg hT (freeNot_ok hf) h (.inr fun z => by unfold kindIs at hs; rw [z] at hs; cases hs)
theorem CS.asgComp' {N T ns x k a elt gs sc pos p p'} (hT : T.lookup x = some k) (hf : kindIs N x .local = true) (h : CE N T ns (.ListComp elt gs sc p') a) (hl : ((p.line == p'.line) && !(sc.names.any fun y => y.1 == x && (y.2 == .local || y.2 == .cell))) = true) :
    CS N T ns (.Assign [.Name x p] (.ListComp elt gs sc p') pos) (.asg (.v k) a) := by
  simp only [Bool.and_eq_true, Bool.not_eq_true'] at hl
  exact .asgComp hT (kindIs_ok hf) h hl.1 hl.2
theorem CS.aug' {N T ns x k op' op value a pos p} (ho : op' = opOf op) (hT : T.lookup x = some k) (hf : freeNot N x = true) (h3 : (x == ("__classdict__" : Str)) = false) (h : CE N T ns value a) : CS N T ns (.AugAssign (.Name x p) op' value pos) (.aug k op a) := ho ▸ .aug hT (freeNot_ok hf) h3 h

/-! the turn of _law_read, taken apart -/
noncomputable def asExpr : (s : Stmt) → Option {q : PySem.Expr × Pos // s = .Expr q.1 q.2}
  | .Expr e p => some ⟨(e, p), rfl⟩
  | _ => none
noncomputable def asRet : (s : Stmt) → Option {q : PySem.Expr × Pos // s = .Return (some q.1) q.2}
  | .Return e p => match e with
    | some x => some ⟨(x, p), rfl⟩
    | none => none
  | _ => none
noncomputable def asName : (e : PySem.Expr) → Option {q : Str × Pos // e = .Name q.1 q.2}
  | .Name x p => some ⟨(x, p), rfl⟩
  | _ => none
noncomputable def asAttr : (e : PySem.Expr) → Option {q : PySem.Expr × Str × Pos // e = .Attribute q.1 q.2.1 q.2.2}
  | .Attribute o x p => some ⟨(o, x, p), rfl⟩
  | _ => none
noncomputable def asCall1 : (e : PySem.Expr) → Option {q : PySem.Expr × PySem.Expr × Pos // e = .Call q.1 [q.2.1] [] q.2.2}
  | .Call f es kw p => do
    let a ← kone es
    let n ← nil? kw
    return ⟨(f, a.1, p), by rw [n.1]; exact congrArg (PySem.Expr.Call f · [] p) a.2⟩
  | _ => none
noncomputable def asHand : (h : ExceptHandler) → Option {q : PySem.Expr × List Stmt × Pos // h = .ExceptHandler (some q.1) none q.2.1 q.2.2}
  | .ExceptHandler ty nm b p => match ty, nm with
    | some x, none => some ⟨(x, b, p), rfl⟩
    | _, _ => none
structure RdT (N : NN) (T : TT) (bd : List Stmt) (hs : List ExceptHandler) where
  (nm np tm : Str) (p1 p2 p3 p4 p5 p6 p7 p8 p9 pos' ap : Pos) (kt kn : Nat)
  hb : bd = [.Expr (.Call (.Attribute (.Name nm p2) "append" ap) [.Call (.Name np p3) [.Name tm p4] [] p5] [] p1) p6]
  hh : hs = [.ExceptHandler (some (.Name ("StopIteration" : Str) p7)) none [.Return (some (.Name nm p8)) p9] pos']
  h1 : T.lookup nm = some kn
  h2 : T.lookup tm = some kt
  hn : np = ("_parse_varint" : Str)
  h3 : kindIs N np .globalImplicit = true
  d1 : (nm == ("__debug__" : Str)) = false
  d2 : (tm == ("__debug__" : Str)) = false
  c1 : (nm == ("__classdict__" : Str)) = false
  c2 : (tm == ("__classdict__" : Str)) = false
  hl : (ap.endLine == p1.line) = true
  hx : kindIs N ("StopIteration" : Str) .globalImplicit = true
theorem rd_fact : gtab.lookup ("_parse_varint" : Str) = some (.fn (.user 10)) := by kernel_rfl
theorem tr_eq {N T ns bd bd' hs hs' o pos a} (h1 : bd = bd') (h2 : hs = hs') (h3 : o = []) (h : CS N T ns (.Try bd' hs' [] [] pos) a) : CS N T ns (.Try bd hs o [] pos) a := by rw [h1, h2, h3]; exact h
theorem RdT.ok {N T ns bd hs o pos} (r : RdT N T bd hs) (ho : o = []) : CS N T ns (.Try bd hs o [] pos) (.rd r.kt r.kn) := by
  refine tr_eq r.hb r.hh ho ?_
  exact .rd r.h1 r.h2 (kindIs_ok r.h3) (r.hn ▸ rd_fact) r.d1 r.d2 (r.hn ▸ (by decide)) r.c1 r.c2 r.hl (kindIs_ok r.hx)
noncomputable def keqS (x y : Str) : Option (PLift (x = y)) := if h : x = y then some ⟨h⟩ else none
theorem rd_body {bd : List Stmt} {s : Stmt} {e : PySem.Expr} {p6 p1 p2 p3 p4 p5 ap : Pos} {f a o : PySem.Expr} {ma nm np tm : Str} {g b : PySem.Expr} (h1 : bd = [s]) (h2 : s = .Expr e p6) (h3 : e = .Call f [a] [] p1) (h4 : f = .Attribute o ma ap) (h5 : o = .Name nm p2) (h6 : ma = ("append" : Str))
    (h7 : a = .Call g [b] [] p5) (h8 : g = .Name np p3) (h9 : b = .Name tm p4) : bd = [.Expr (.Call (.Attribute (.Name nm p2) "append" ap) [.Call (.Name np p3) [.Name tm p4] [] p5] [] p1) p6] := by
  rw [h1, h2, h3, h4, h5, h6, h7, h8, h9]
theorem rd_hand {hs : List ExceptHandler} {h : ExceptHandler} {x e : PySem.Expr} {b : List Stmt} {s : Stmt} {p7 p8 p9 pos' : Pos} {sx nm2 nm : Str} (h1 : hs = [h]) (h2 : h = .ExceptHandler (some x) none b pos') (h3 : x = .Name sx p7) (h4 : sx = ("StopIteration" : Str)) (h5 : b = [s]) (h6 : s = .Return (some e) p9) (h7 : e = .Name nm2 p8) (h8 : nm2 = nm) :
    hs = [.ExceptHandler (some (.Name ("StopIteration" : Str) p7)) none [.Return (some (.Name nm p8)) p9] pos'] := by
  rw [h1, h2, h3, h4, h5, h6, h7, h8]
noncomputable def kRd (N : NN) (T : TT) (bd : List Stmt) (hs : List ExceptHandler) : Option (RdT N T bd hs) := do
  let s ← kone bd
  let e ← asExpr s.1
  let c ← asCall1 e.1.1
  let f ← asAttr c.1.1
  let o ← asName f.1.1
  let m ← keqS f.1.2.1 "append"
  let g ← asCall1 c.1.2.1
  let n ← asName g.1.1
  let t ← asName g.1.2.1
  let h ← kone hs
  let q ← asHand h.1
  let x ← asName q.1.1
  let sx ← keqS x.1.1 "StopIteration"
  let b ← kone q.1.2.1
  let r ← asRet b.1
  let y ← asName r.1.1
  let hy ← keqS y.1.1 o.1.1
  let kn ← klook T o.1.1
  let kt ← klook T t.1.1
  let hn ← keqS n.1.1 "_parse_varint"
  let h3 ← kchk (kindIs N n.1.1 .globalImplicit)
  let d1 ← kchkF (o.1.1 == ("__debug__" : Str))
  let d2 ← kchkF (t.1.1 == ("__debug__" : Str))
  let c1 ← kchkF (o.1.1 == ("__classdict__" : Str))
  let c2 ← kchkF (t.1.1 == ("__classdict__" : Str))
  let hl ← kchk (f.1.2.2.endLine == c.1.2.2.line)
  let hx ← kchk (kindIs N ("StopIteration" : Str) .globalImplicit)
  return ⟨o.1.1, n.1.1, t.1.1, c.1.2.2, o.1.2, n.1.2, t.1.2, g.1.2.2, e.1.2, x.1.2, y.1.2, r.1.2, q.1.2.2, f.1.2.2, kt.1, kn.1,
    rd_body s.2 e.2 c.2 f.2 o.2 m.1 g.2 n.2 t.2, rd_hand h.2 q.2 x.2 sx.1 b.2 r.2 y.2 hy.1, kn.2, kt.2, hn.1, h3.1, d1.1, d2.1, c1.1, c2.1, hl.1, hx.1⟩

variable (G : KG)
noncomputable def kAsgC {x : Str} {p pos : Pos} (k : {k : Nat // T.lookup x = some k}) (hf : freeNot N x = true) : (v : PySem.Expr) → Option (KRS N T ns (.Assign [.Name x p] v pos))
  | .ListComp elt gs sc p' => match h : kindIs N x .local with
    | true => do
      let hl ← kchk ((p.line == p'.line) && !(sc.names.any fun y => y.1 == x && (y.2 == .local || y.2 == .cell)))
      return ⟨.asg (.v k.1) (K.e N T ns (.ListComp elt gs sc p')).1, CS.asgComp' k.2 h (K.e N T ns (.ListComp elt gs sc p')).2 hl.1⟩
    | false => some ⟨.asg (.v k.1) (K.e N T ns (.ListComp elt gs sc p')).1, CS.asgFree k.2 hf (K.e N T ns (.ListComp elt gs sc p')).2 h⟩
  | v => do
    let h ← kchkF (isComp v)
    return ⟨.asg (.v k.1) (K.e N T ns v).1, CS.asg' k.2 hf (K.e N T ns v).2 h.1⟩
noncomputable def kAsgT {ts : PySem.Expr} {es : List PySem.Expr} {kk : Nat} {p pos : Pos} (e : ts = .Tuple es kk p) (ks : {ks : List Nat // CTs N T es ks}) : (v : PySem.Expr) → Option (KRS N T ns (.Assign [ts] v pos))
  | .Subscript v i p' => some ⟨.asg (.tup ks.1) (K.e N T ns (.Subscript v i p')).1, CS.asgTup' e ks.2 (K.e N T ns (.Subscript v i p')).2⟩
  | _ => none
noncomputable def kAsg {v : PySem.Expr} {pos : Pos} : (t : PySem.Expr) → Option (KRS N T ns (.Assign [t] v pos))
  | .Name x p => do
    let k ← klook T x
    let h ← kchk (freeNot N x)
    kAsgC K N T ns k h.1 v
  | .Tuple es kk p => do
    let ks ← kTs N T es
    kAsgT K N T ns rfl ks v
  | .Subscript o i p => do
    let h ← kchkF (isComp v)
    return ⟨.asgIdx (K.e N T ns o).1 (K.e N T ns i).1 (K.e N T ns v).1, .asgIdx (K.e N T ns o).2 (K.e N T ns i).2 (K.e N T ns v).2 h.1⟩
  | _ => none
noncomputable def kTry {bd : List Stmt} {o : List Stmt} {pos : Pos} : (hs : List ExceptHandler) → Option (KRS N T ns (.Try bd hs o [] pos))
  | [] => none
  | h :: hs => some (match nil? o, kRd N T bd (h :: hs) with
    | some ho, some r => ⟨.rd r.kt r.kn, r.ok ho.1⟩
    | _, _ => ⟨.try (G.ss N T ns bd).1 (G.ss N T ns o).1, .tr (G.ss N T ns bd).2 (G.ss N T ns o).2⟩)
noncomputable def kS : (s : Stmt) → Option (KRS N T ns s)
  | .Expr e p => match e with
    | .Call f es kw p' => match kw with
      | [] => some ⟨.expr (K.e N T ns (.Call f es [] p')).1, .expr (K.e N T ns (.Call f es [] p')).2⟩
      | _ :: _ => none
    | _ => none
  | .Assign ts v p => match ts with
    | [] => none
    | t :: r => match r with
      | [] => kAsg K N T ns t
      | _ :: _ => none
  | .AugAssign t op v p => match t with
    | .Name x p' => do
      let k ← klook T x
      let h ← kchk (freeNot N x)
      let h3 ← kchkF (x == ("__classdict__" : Str))
      let o ← ofOp op
      return ⟨.aug k.1 o.1 (K.e N T ns v).1, CS.aug' o.2 k.2 h.1 h3.1 (K.e N T ns v).2⟩
    | _ => none
  | .If t b o p => (kB K N T ns t).map fun c => ⟨.ife c.1 (G.ss N T ns b).1 (G.ss N T ns o).1, .ife c.2 (G.ss N T ns b).2 (G.ss N T ns o).2⟩
  | .While t b o p => match o with
    | [] => (kB K N T ns t).map fun c => ⟨.whl c.1 (G.ss N T ns b).1, .whl c.2 (G.ss N T ns b).2⟩
    | _ :: _ => none
  | .For target iter b o p => (kT N T target).map fun t => ⟨.fr t.1 (K.e N T ns iter).1 (G.ss N T ns b).1 (G.ss N T ns o).1, .fr t.2 (K.e N T ns iter).2 (G.ss N T ns b).2 (G.ss N T ns o).2⟩
  | .Return e p => match e with
    | some e => some ⟨.ret (K.e N T ns e).1, .ret (K.e N T ns e).2⟩
    | none => none
  | .Break p => some ⟨.brk, .brk⟩
  | .Continue p => some ⟨.cont, .cont⟩
  | .Pass p => some ⟨.pass, .pass⟩
  | .Try b hs o fin p => match fin with
    | [] => kTry N T ns G hs
    | _ :: _ => none
  | _ => none
noncomputable def kSs : (ss : List Stmt) → KRSs N T ns ss
  | [] => ⟨[], .nil⟩
  | s :: r => ⟨((kS K N T ns G s).getD ⟨.bad, .bad⟩).1 :: (G.ss N T ns r).1, .cons ((kS K N T ns G s).getD ⟨.bad, .bad⟩).2 (G.ss N T ns r).2⟩
theorem bads (N : NN) (T : TT) (ns : Nat) : ∀ ss : List Stmt, CSs N T ns ss (ss.map fun _ => .bad)
  | [] => .nil
  | _ :: r => .cons .bad (bads N T ns r)
noncomputable def kg : Nat → KG
  | 0 => ⟨fun N T ns ss => ⟨_, bads N T ns ss⟩⟩
  | n + 1 => ⟨fun N T ns ss => kSs (kf n) N T ns (kg n) ss⟩
end Mine.Internal
end
section
open PySem PySem.W PyProof.Rows
namespace Mine.Internal
set_option linter.unusedVariables false
set_option maxRecDepth 100000
noncomputable abbrev pw : Program := PySem.Challenge.pw_un0027_01

noncomputable def irHeappush : List IS := [.expr (.meth .append (.var 0) [(.var 1)]), .expr (.call (.const (.fn (.user 4))) [(.var 0), (.const (.int 0)), (.bin .sub (.call (.const (.fn (.prim .len))) [(.var 0)]) (.const (.int 1)))])]
noncomputable def irHeappushN : List Str := ["heap", "item"]
noncomputable def irHeappop : List IS := [.asg (.v 1) (.meth .pop (.var 0) []), .ife (.e (.var 0)) [.asg (.v 2) (.idx (.var 0) (.const (.int 0))), .asgIdx (.var 0) (.const (.int 0)) (.var 1), .expr (.call (.const (.fn (.user 5))) [(.var 0), (.const (.int 0))]), .ret (.var 2)] [], .ret (.var 1)]
noncomputable def irHeappopN : List Str := ["heap", "lastelt", "returnitem"]
noncomputable def irHeapreplaceMax : List IS := [.asg (.v 2) (.idx (.var 0) (.const (.int 0))), .asgIdx (.var 0) (.const (.int 0)) (.var 1), .expr (.call (.const (.fn (.user 7))) [(.var 0), (.const (.int 0))]), .ret (.var 2)]
noncomputable def irHeapreplaceMaxN : List Str := ["heap", "item", "returnitem"]
noncomputable def irHeapifyMax : List IS := [.asg (.v 1) (.call (.const (.fn (.prim .len))) [(.var 0)]), .fr (.v 2) (.call (.const (.fn (.prim .reversed))) [(.call (.const (.fn (.prim .range))) [(.bin .fdiv (.var 1) (.const (.int 2)))])]) [.expr (.call (.const (.fn (.user 7))) [(.var 0), (.var 2)])] []]
noncomputable def irHeapifyMaxN : List Str := ["x", "n", "i"]
noncomputable def irSiftdown : List IS := [.asg (.v 3) (.idx (.var 0) (.var 2)), .whl (.e (.cmp .gt (.var 2) (.var 1))) [.asg (.v 4) (.bin .shr (.bin .sub (.var 2) (.const (.int 1))) (.const (.int 1))), .asg (.v 5) (.idx (.var 0) (.var 4)), .ife (.e (.cmp .lt (.var 3) (.var 5))) [.asgIdx (.var 0) (.var 2) (.var 5), .asg (.v 2) (.var 4), .cont] [], .brk], .asgIdx (.var 0) (.var 2) (.var 3)]
noncomputable def irSiftdownN : List Str := ["heap", "startpos", "pos", "newitem", "parentpos", "parent"]
noncomputable def irSiftup : List IS := [.asg (.v 2) (.call (.const (.fn (.prim .len))) [(.var 0)]), .asg (.v 3) (.var 1), .asg (.v 4) (.idx (.var 0) (.var 1)), .asg (.v 5) (.bin .add (.bin .mul (.const (.int 2)) (.var 1)) (.const (.int 1))), .whl (.e (.cmp .lt (.var 5) (.var 2))) [.asg (.v 6) (.bin .add (.var 5) (.const (.int 1))), .ife (.and (.e (.cmp .lt (.var 6) (.var 2))) (.not (.e (.cmp .lt (.idx (.var 0) (.var 5)) (.idx (.var 0) (.var 6)))))) [.asg (.v 5) (.var 6)] [], .asgIdx (.var 0) (.var 1) (.idx (.var 0) (.var 5)), .asg (.v 1) (.var 5), .asg (.v 5) (.bin .add (.bin .mul (.const (.int 2)) (.var 1)) (.const (.int 1)))], .asgIdx (.var 0) (.var 1) (.var 4), .expr (.call (.const (.fn (.user 4))) [(.var 0), (.var 3), (.var 1)])]
noncomputable def irSiftupN : List Str := ["heap", "pos", "endpos", "startpos", "newitem", "childpos", "rightpos"]
noncomputable def irSiftdownMax : List IS := [.asg (.v 3) (.idx (.var 0) (.var 2)), .whl (.e (.cmp .gt (.var 2) (.var 1))) [.asg (.v 4) (.bin .shr (.bin .sub (.var 2) (.const (.int 1))) (.const (.int 1))), .asg (.v 5) (.idx (.var 0) (.var 4)), .ife (.e (.cmp .lt (.var 5) (.var 3))) [.asgIdx (.var 0) (.var 2) (.var 5), .asg (.v 2) (.var 4), .cont] [], .brk], .asgIdx (.var 0) (.var 2) (.var 3)]
noncomputable def irSiftdownMaxN : List Str := ["heap", "startpos", "pos", "newitem", "parentpos", "parent"]
noncomputable def irSiftupMax : List IS := [.asg (.v 2) (.call (.const (.fn (.prim .len))) [(.var 0)]), .asg (.v 3) (.var 1), .asg (.v 4) (.idx (.var 0) (.var 1)), .asg (.v 5) (.bin .add (.bin .mul (.const (.int 2)) (.var 1)) (.const (.int 1))), .whl (.e (.cmp .lt (.var 5) (.var 2))) [.asg (.v 6) (.bin .add (.var 5) (.const (.int 1))), .ife (.and (.e (.cmp .lt (.var 6) (.var 2))) (.not (.e (.cmp .lt (.idx (.var 0) (.var 6)) (.idx (.var 0) (.var 5)))))) [.asg (.v 5) (.var 6)] [], .asgIdx (.var 0) (.var 1) (.idx (.var 0) (.var 5)), .asg (.v 1) (.var 5), .asg (.v 5) (.bin .add (.bin .mul (.const (.int 2)) (.var 1)) (.const (.int 1)))], .asgIdx (.var 0) (.var 1) (.var 4), .expr (.call (.const (.fn (.user 6))) [(.var 0), (.var 3), (.var 1)])]
noncomputable def irSiftupMaxN : List Str := ["heap", "pos", "endpos", "startpos", "newitem", "childpos", "rightpos"]
noncomputable def irNsmallest : List IS := [.ife (.e (.cmp .eq (.var 0) (.const (.int 1)))) [.asg (.v 3) (.call (.const (.fn (.prim .iter))) [(.var 1)]), .asg (.v 4) (.call .bad []), .asg (.v 5) .bad, .ret (.ife (.e (.cmp .is (.var 5) (.var 4))) (.list []) (.list [(.var 5)]))] [], .try [.asg (.v 6) (.call (.const (.fn (.prim .len))) [(.var 1)])] [.ife (.e (.cmp .ge (.var 0) (.var 6))) [.ret (.slice .bad none (some (.var 0)))] []], .ife (.e (.cmp .is (.var 2) (.const .none))) [.asg (.v 3) (.call (.const (.fn (.prim .iter))) [(.var 1)]), .asg (.v 5) (.comp (.tup [(.var 15), (.var 14)]) [(.mk (.tup [14, 15]) (.call (.const (.fn (.prim .zip))) [(.call (.const (.fn (.prim .range))) [(.var 0)]), (.var 3)]) [])] 2), .ife (.not (.e (.var 5))) [.ret (.var 5)] [], .expr (.call (.const (.fn (.user 3))) [(.var 5)]), .asg (.v 8) (.idx (.idx (.var 5) (.const (.int 0))) (.const (.int 0))), .asg (.v 9) (.var 0), .asg (.v 10) (.const (.fn (.user 2))), .fr (.v 7) (.var 3) [.ife (.e (.cmp .lt (.var 7) (.var 8))) [.expr (.call (.var 10) [(.var 5), (.tup [(.var 7), (.var 9)])]), .asg (.tup [8, 11]) (.idx (.var 5) (.const (.int 0))), .aug 9 .add (.const (.int 1))] []] [], .expr (.meth .sort (.var 5) []), .ret (.comp (.var 14) [(.mk (.tup [14, 15]) (.var 5) [])] 2)] [], .asg (.v 3) (.call (.const (.fn (.prim .iter))) [(.var 1)]), .asg (.v 5) (.comp (.tup [(.call (.var 2) [(.var 15)]), (.var 14), (.var 15)]) [(.mk (.tup [14, 15]) (.call (.const (.fn (.prim .zip))) [(.call (.const (.fn (.prim .range))) [(.var 0)]), (.var 3)]) [])] 2), .ife (.not (.e (.var 5))) [.ret (.var 5)] [], .expr (.call (.const (.fn (.user 3))) [(.var 5)]), .asg (.v 8) (.idx (.idx (.var 5) (.const (.int 0))) (.const (.int 0))), .asg (.v 9) (.var 0), .asg (.v 10) (.const (.fn (.user 2))), .fr (.v 7) (.var 3) [.asg (.v 12) (.call (.var 2) [(.var 7)]), .ife (.e (.cmp .lt (.var 12) (.var 8))) [.expr (.call (.var 10) [(.var 5), (.tup [(.var 12), (.var 9), (.var 7)])]), .asg (.tup [8, 11, 13]) (.idx (.var 5) (.const (.int 0))), .aug 9 .add (.const (.int 1))] []] [], .expr (.meth .sort (.var 5) []), .ret (.comp (.var 16) [(.mk (.tup [14, 15, 16]) (.var 5) [])] 3)]
noncomputable def irNsmallestN : List Str := ["n", "iterable", "key", "it", "sentinel", "result", "size", "elem", "top", "order", "_heapreplace", "_order", "k", "_elem"]
noncomputable def irPrettyFlags : List IS := [.asg (.v 1) (.list []), .fr (.v 2) (.call (.const (.fn (.prim .range))) [(.const (.int 32))]) [.asg (.v 3) (.bin .shl (.const (.int 1)) (.var 2)), .ife (.e (.bin .band (.var 0) (.var 3))) [.expr (.meth .append (.var 1) [(.meth .get (.const (.fn .flags)) [(.var 3), (.call (.const (.fn (.prim .hex))) [(.var 3)])])]), .aug 0 .bxor (.var 3), .ife (.not (.e (.var 0))) [.brk] []] []] [.expr (.meth .append (.var 1) [(.call (.const (.fn (.prim .hex))) [(.var 0)])])], .ret (.meth .join (.const (.str ", ")) [(.var 1)])]
noncomputable def irPrettyFlagsN : List Str := ["flags", "names", "i", "flag"]
noncomputable def irParseVarint : List IS := [.asg (.v 1) (.call (.const (.fn (.prim .next))) [(.var 0)]), .asg (.v 2) (.bin .band (.var 1) (.const (.int 63))), .whl (.e (.bin .band (.var 1) (.const (.int 64)))) [.aug 2 .shl (.const (.int 6)), .asg (.v 1) (.call (.const (.fn (.prim .next))) [(.var 0)]), .aug 2 .bor (.bin .band (.var 1) (.const (.int 63)))], .ret (.var 2)]
noncomputable def irParseVarintN : List Str := ["iterator", "b", "val"]
noncomputable def irSIfmt : List IS := [.ret (.bin .band (.var 0) (.const (.int 61440)))]
noncomputable def irSIfmtN : List Str := ["mode"]
noncomputable def irFilemode : List IS := [.asg (.v 1) (.list []), .fr (.tup [2, 3]) (.call (.const (.fn (.prim .enumerate))) [(.const tabV)]) [.fr (.tup [4, 5]) (.var 3) [.ife (.e (.cmp .eq (.var 2) (.const (.int 0)))) [.ife (.e (.cmp .eq (.call (.const (.fn (.user 11))) [(.var 0)]) (.var 4))) [.expr (.meth .append (.var 1) [(.var 5)]), .brk] []] [.ife (.e (.cmp .eq (.bin .band (.var 0) (.var 4)) (.var 4))) [.expr (.meth .append (.var 1) [(.var 5)]), .brk] []]] [.ife (.e (.cmp .eq (.var 2) (.const (.int 0)))) [.expr (.meth .append (.var 1) [(.const (.str "?"))])] [.expr (.meth .append (.var 1) [(.const (.str "-"))])]]] [], .ret (.meth .join (.const (.str "")) [(.var 1)])]
noncomputable def irFilemodeN : List Str := ["mode", "perm", "index", "table", "bit", "char"]
noncomputable def irLawWays : List IS := [.asg (.v 2) (.const (.int 1)), .fr (.v 3) (.call (.const (.fn (.prim .range))) [(.var 1)]) [.asg (.v 2) (.bin .fdiv (.bin .mul (.var 2) (.bin .sub (.var 0) (.var 3))) (.bin .add (.var 3) (.const (.int 1))))] [], .ret (.var 2)]
noncomputable def irLawWaysN : List Str := ["many", "chosen", "ways", "k"]
noncomputable def irLawThrees : List IS := [.asg (.v 1) (.list []), .fr (.v 2) (.bin .add (.list [(.const (.int 7))]) (.var 0)) [.expr (.call (.const (.fn (.user 0))) [(.var 1), (.var 2)])] [], .asg (.v 3) (.list []), .whl (.e (.var 1)) [.asg (.v 4) (.call (.const (.fn (.user 1))) [(.var 1)]), .ife (.e (.cmp .notin (.var 4) (.slice (.var 3) (some (.neg (.const (.int 1)))) none))) [.expr (.meth .append (.var 3) [(.var 4)]), .fr (.v 5) (.call (.const (.fn (.prim .range))) [(.const (.int 5))]) [.ife (.e (.cmp .eq (.bin .band (.bin .shr (.var 4) (.var 5)) (.const (.int 3))) (.const (.int 1)))) [.expr (.call (.const (.fn (.user 0))) [(.var 1), (.bin .add (.var 4) (.bin .shl (.const (.int 1)) (.var 5)))])] []] []] []], .ret (.var 3)]
noncomputable def irLawThreesN : List Str := ["laid", "heap", "number", "threes", "least", "k"]
noncomputable def irLawRead : List IS := [.asg (.v 1) (.call (.const (.fn (.prim .iter))) [(.var 0)]), .asg (.v 2) (.list []), .fr (.v 3) (.call (.const (.fn (.prim .range))) [(.bin .add (.call (.const (.fn (.prim .len))) [(.var 0)]) (.const (.int 1)))]) [.rd 1 2] [], .ret (.list [])]
noncomputable def irLawReadN : List Str := ["octets", "tape", "numbers", "turn"]
noncomputable def irLawStruck : List IS := [.asg (.v 1) (.list []), .fr (.v 2) (.var 0) [.fr (.v 3) (.call (.const (.fn (.prim .range))) [(.const (.int 1)), (.const (.int 10))]) [.asg (.v 4) (.bin .add (.bin .add (.slice (.var 2) none (some (.var 3))) (.const (.str "-"))) (.slice (.var 2) (some (.bin .add (.var 3) (.const (.int 1)))) none)), .ife (.and (.e (.cmp .ne (.var 4) (.var 2))) (.e (.cmp .notin (.var 4) (.var 1)))) [.expr (.meth .append (.var 1) [(.var 4)])] []] []] [], .ret (.call (.const (.fn (.prim .sorted))) [(.var 1)])]
noncomputable def irLawStruckN : List Str := ["rows", "struck", "row", "place", "less"]
noncomputable def irLawFewest : List IS := [.asg (.v 1) (.const (.int 0)), .fr (.v 2) (.list [(.const (.int 3)), (.const (.int 2)), (.const (.int 1))]) [.asg (.v 3) (.call (.const (.fn (.prim .max))) [(.bin .add (.list [(.const (.int 0))]) (.comp (.var 4) [(.mk (.v 4) (.call (.const (.fn (.prim .range))) [(.const (.int 1)), (.const (.int 7))]) [(.e (.cmp .le (.call (.const (.fn (.user 13))) [(.var 4), (.var 2)]) (.var 0)))])] 1))]), .ife (.e (.cmp .gt (.var 0) (.const (.int 0)))) [.aug 1 .add (.call (.const (.fn (.user 13))) [(.var 3), (.bin .sub (.var 2) (.const (.int 1)))])] [], .aug 0 .sub (.call (.const (.fn (.user 13))) [(.var 3), (.var 2)])] [], .ret (.var 1)]
noncomputable def irLawFewestN : List Str := ["many", "fewest", "chosen", "most"]
noncomputable def irLaw : List IS := [.asg (.v 1) (.list [(.const (.str "OPTIMIZED")), (.const (.str "NEWLOCALS")), (.const (.str "VARARGS")), (.const (.str "VARKEYWORDS")), (.const (.str "NESTED")), (.const (.str "GENERATOR"))]), .asg (.v 2) (.comp (.bin .mod (.var 15) (.const (.int 4000))) [(.mk (.v 15) (.bin .add (.slice (.var 0) none (some (.const (.int 6)))) (.list [(.const (.int 9)), (.const (.int 15))])) [])] 1), .asg (.v 3) (.list []), .fr (.v 4) (.var 2) [.expr (.meth .extend (.var 3) [(.list [(.bin .add (.const (.int 64)) (.bin .fdiv (.var 4) (.const (.int 64)))), (.bin .mod (.var 4) (.const (.int 64)))])])] [], .ife (.e (.cmp .ne (.call (.const (.fn (.user 15))) [(.var 3)]) (.var 2))) [.ret (.const (.bool false))] [], .asg (.v 5) (.comp (.bin .add (.bin .add (.bin .shl (.const (.int 1)) (.var 15)) (.bin .shl (.const (.int 1)) (.var 16))) (.bin .shl (.const (.int 1)) (.var 17))) [(.mk (.v 15) (.call (.const (.fn (.prim .range))) [(.const (.int 6))]) []), (.mk (.v 16) (.call (.const (.fn (.prim .range))) [(.var 15)]) []), (.mk (.v 17) (.call (.const (.fn (.prim .range))) [(.var 16)]) [])] 3), .asg (.v 6) (.comp (.idx (.var 5) (.bin .mod (.var 15) (.const (.int 20)))) [(.mk (.v 15) (.var 2) [])] 1), .asg (.v 7) (.call (.const (.fn (.user 14))) [(.var 6)]), .asg (.v 8) (.comp (.call (.const (.fn (.user 12))) [(.bin .add (.const (.int 32768)) (.var 15))]) [(.mk (.v 15) (.var 7) [])] 1), .asg (.v 9) (.list []), .fr (.v 4) (.var 6) [.ife (.e (.cmp .notin (.call (.const (.fn (.user 12))) [(.bin .add (.const (.int 32768)) (.var 4))]) (.var 9))) [.expr (.meth .append (.var 9) [(.call (.const (.fn (.user 12))) [(.bin .add (.const (.int 32768)) (.var 4))])])] []] [], .asg (.v 10) (.call (.const (.fn (.user 17))) [(.call (.const (.fn (.prim .len))) [(.var 9)])]), .asg (.v 11) (.comp (.bin .add (.bin .shl (.const (.int 1)) (.var 15)) (.bin .shl (.const (.int 1)) (.var 16))) [(.mk (.v 15) (.call (.const (.fn (.prim .range))) [(.const (.int 5)), (.const (.int 0)), (.neg (.const (.int 1)))]) []), (.mk (.v 16) (.call (.const (.fn (.prim .range))) [(.var 15)]) [])] 2), .ife (.e (.cmp .lt (.call (.const (.fn (.prim .len))) [(.call (.const (.fn (.user 16))) [(.var 9)])]) (.var 10))) [.ret (.const (.bool false))] [], .ife (.e (.cmp .ne (.call (.const (.fn (.user 16))) [(.slice (.var 8) none (some (.call (.const (.fn (.prim .len))) [(.var 9)])))]) (.call (.const (.fn (.prim .sorted))) [(.comp (.call (.const (.fn (.user 12))) [(.bin .add (.const (.int 32768)) (.var 15))]) [(.mk (.v 15) (.call (.const (.fn (.user 8))) [(.var 10), (.var 11)]) [])] 1)]))) [.ret (.const (.bool false))] [], .fr (.tup [12, 4]) (.call (.const (.fn (.prim .enumerate))) [(.var 7)]) [.asg (.v 13) (.meth .split (.call (.const (.fn (.user 9))) [(.var 4)]) [(.const (.str ", "))]), .asg (.v 14) (.comp (.var 15) [(.mk (.v 15) (.call (.const (.fn (.prim .range))) [(.const (.int 6))]) [(.e (.cmp .isin (.idx (.var 1) (.var 15)) (.var 13)))])] 1), .ife (.or (.e (.cmp .ne (.var 13) (.comp (.idx (.var 1) (.var 15)) [(.mk (.v 15) (.var 14) [])] 1))) (.e (.cmp .ne (.call (.const (.fn (.prim .len))) [(.var 14)]) (.const (.int 3))))) [.ret (.const (.bool false))] [], .ife (.e (.cmp .ne (.var 12) (.call (.const (.fn (.prim .sum))) [(.comp (.call (.const (.fn (.user 13))) [(.var 16), (.bin .add (.var 15) (.const (.int 1)))]) [(.mk (.tup [15, 16]) (.call (.const (.fn (.prim .enumerate))) [(.var 14)]) [])] 2)]))) [.ret (.const (.bool false))] [], .ife (.e (.cmp .ne (.idx (.var 8) (.var 12)) (.bin .add (.const (.str "----")) (.meth .join (.const (.str "")) [(.comp (.ife (.e (.cmp .isin (.var 15) (.var 14))) (.idx (.const (.str "xwrxwr")) (.var 15)) (.const (.str "-"))) [(.mk (.v 15) (.call (.const (.fn (.prim .range))) [(.const (.int 5)), (.neg (.const (.int 1))), (.neg (.const (.int 1)))]) [])] 1)])))) [.ret (.const (.bool false))] []] [], .ret (.cmp .eq (.call (.const (.fn (.prim .len))) [(.var 7)]) (.const (.int 20)))]
noncomputable def irLawN : List Str := ["script", "names", "drawn", "octets", "number", "ordered", "laid", "threes", "rows", "files", "fewest", "twos", "rank", "words", "places"]

noncomputable def bodyOf (x : Str) : List Stmt := match pw.theDef x with
  | some (_, b, _) => b
  | none => []
noncomputable def scopeOf (x : Str) : List (Str × NameKind) := match pw.theDef x with
  | some (_, _, s) => s.names
  | none => []
theorem irHeappush_eq : ((kg 60).ss (scopeOf "heappush") (ownT 0 irHeappushN) 2 (bodyOf "heappush")).1 = irHeappush := by kernel_rfl
theorem irHeappush_cs : CSs (scopeOf "heappush") (ownT 0 irHeappushN) 2 (bodyOf "heappush") irHeappush := irHeappush_eq ▸ ((kg 60).ss _ _ _ _).2
theorem irHeappop_eq : ((kg 60).ss (scopeOf "heappop") (ownT 0 irHeappopN) 3 (bodyOf "heappop")).1 = irHeappop := by kernel_rfl
theorem irHeappop_cs : CSs (scopeOf "heappop") (ownT 0 irHeappopN) 3 (bodyOf "heappop") irHeappop := irHeappop_eq ▸ ((kg 60).ss _ _ _ _).2
theorem irHeapreplaceMax_eq : ((kg 60).ss (scopeOf "_heapreplace_max") (ownT 0 irHeapreplaceMaxN) 3 (bodyOf "_heapreplace_max")).1 = irHeapreplaceMax := by kernel_rfl
theorem irHeapreplaceMax_cs : CSs (scopeOf "_heapreplace_max") (ownT 0 irHeapreplaceMaxN) 3 (bodyOf "_heapreplace_max") irHeapreplaceMax := irHeapreplaceMax_eq ▸ ((kg 60).ss _ _ _ _).2
theorem irHeapifyMax_eq : ((kg 60).ss (scopeOf "_heapify_max") (ownT 0 irHeapifyMaxN) 3 (bodyOf "_heapify_max")).1 = irHeapifyMax := by kernel_rfl
theorem irHeapifyMax_cs : CSs (scopeOf "_heapify_max") (ownT 0 irHeapifyMaxN) 3 (bodyOf "_heapify_max") irHeapifyMax := irHeapifyMax_eq ▸ ((kg 60).ss _ _ _ _).2
theorem irSiftdown_eq : ((kg 60).ss (scopeOf "_siftdown") (ownT 0 irSiftdownN) 6 (bodyOf "_siftdown")).1 = irSiftdown := by kernel_rfl
theorem irSiftdown_cs : CSs (scopeOf "_siftdown") (ownT 0 irSiftdownN) 6 (bodyOf "_siftdown") irSiftdown := irSiftdown_eq ▸ ((kg 60).ss _ _ _ _).2
theorem irSiftup_eq : ((kg 60).ss (scopeOf "_siftup") (ownT 0 irSiftupN) 7 (bodyOf "_siftup")).1 = irSiftup := by kernel_rfl
theorem irSiftup_cs : CSs (scopeOf "_siftup") (ownT 0 irSiftupN) 7 (bodyOf "_siftup") irSiftup := irSiftup_eq ▸ ((kg 60).ss _ _ _ _).2
theorem irSiftdownMax_eq : ((kg 60).ss (scopeOf "_siftdown_max") (ownT 0 irSiftdownMaxN) 6 (bodyOf "_siftdown_max")).1 = irSiftdownMax := by kernel_rfl
theorem irSiftdownMax_cs : CSs (scopeOf "_siftdown_max") (ownT 0 irSiftdownMaxN) 6 (bodyOf "_siftdown_max") irSiftdownMax := irSiftdownMax_eq ▸ ((kg 60).ss _ _ _ _).2
theorem irSiftupMax_eq : ((kg 60).ss (scopeOf "_siftup_max") (ownT 0 irSiftupMaxN) 7 (bodyOf "_siftup_max")).1 = irSiftupMax := by kernel_rfl
theorem irSiftupMax_cs : CSs (scopeOf "_siftup_max") (ownT 0 irSiftupMaxN) 7 (bodyOf "_siftup_max") irSiftupMax := irSiftupMax_eq ▸ ((kg 60).ss _ _ _ _).2
theorem irNsmallest_eq : ((kg 60).ss (scopeOf "nsmallest") (ownT 0 irNsmallestN) 14 (bodyOf "nsmallest")).1 = irNsmallest := by kernel_rfl
theorem irNsmallest_cs : CSs (scopeOf "nsmallest") (ownT 0 irNsmallestN) 14 (bodyOf "nsmallest") irNsmallest := irNsmallest_eq ▸ ((kg 60).ss _ _ _ _).2
theorem irPrettyFlags_eq : ((kg 60).ss (scopeOf "pretty_flags") (ownT 0 irPrettyFlagsN) 4 (bodyOf "pretty_flags")).1 = irPrettyFlags := by kernel_rfl
theorem irPrettyFlags_cs : CSs (scopeOf "pretty_flags") (ownT 0 irPrettyFlagsN) 4 (bodyOf "pretty_flags") irPrettyFlags := irPrettyFlags_eq ▸ ((kg 60).ss _ _ _ _).2
theorem irParseVarint_eq : ((kg 60).ss (scopeOf "_parse_varint") (ownT 0 irParseVarintN) 3 (bodyOf "_parse_varint")).1 = irParseVarint := by kernel_rfl
theorem irParseVarint_cs : CSs (scopeOf "_parse_varint") (ownT 0 irParseVarintN) 3 (bodyOf "_parse_varint") irParseVarint := irParseVarint_eq ▸ ((kg 60).ss _ _ _ _).2
theorem irSIfmt_eq : ((kg 60).ss (scopeOf "S_IFMT") (ownT 0 irSIfmtN) 1 (bodyOf "S_IFMT")).1 = irSIfmt := by kernel_rfl
theorem irSIfmt_cs : CSs (scopeOf "S_IFMT") (ownT 0 irSIfmtN) 1 (bodyOf "S_IFMT") irSIfmt := irSIfmt_eq ▸ ((kg 60).ss _ _ _ _).2
theorem irFilemode_eq : ((kg 60).ss (scopeOf "filemode") (ownT 0 irFilemodeN) 6 (bodyOf "filemode")).1 = irFilemode := by kernel_rfl
theorem irFilemode_cs : CSs (scopeOf "filemode") (ownT 0 irFilemodeN) 6 (bodyOf "filemode") irFilemode := irFilemode_eq ▸ ((kg 60).ss _ _ _ _).2
theorem irLawWays_eq : ((kg 60).ss (scopeOf "_law_ways") (ownT 0 irLawWaysN) 4 (bodyOf "_law_ways")).1 = irLawWays := by kernel_rfl
theorem irLawWays_cs : CSs (scopeOf "_law_ways") (ownT 0 irLawWaysN) 4 (bodyOf "_law_ways") irLawWays := irLawWays_eq ▸ ((kg 60).ss _ _ _ _).2
theorem irLawThrees_eq : ((kg 60).ss (scopeOf "_law_threes") (ownT 0 irLawThreesN) 6 (bodyOf "_law_threes")).1 = irLawThrees := by kernel_rfl
theorem irLawThrees_cs : CSs (scopeOf "_law_threes") (ownT 0 irLawThreesN) 6 (bodyOf "_law_threes") irLawThrees := irLawThrees_eq ▸ ((kg 60).ss _ _ _ _).2
theorem irLawRead_eq : ((kg 60).ss (scopeOf "_law_read") (ownT 0 irLawReadN) 4 (bodyOf "_law_read")).1 = irLawRead := by kernel_rfl
theorem irLawRead_cs : CSs (scopeOf "_law_read") (ownT 0 irLawReadN) 4 (bodyOf "_law_read") irLawRead := irLawRead_eq ▸ ((kg 60).ss _ _ _ _).2
theorem irLawStruck_eq : ((kg 60).ss (scopeOf "_law_struck") (ownT 0 irLawStruckN) 5 (bodyOf "_law_struck")).1 = irLawStruck := by kernel_rfl
theorem irLawStruck_cs : CSs (scopeOf "_law_struck") (ownT 0 irLawStruckN) 5 (bodyOf "_law_struck") irLawStruck := irLawStruck_eq ▸ ((kg 60).ss _ _ _ _).2
theorem irLawFewest_eq : ((kg 60).ss (scopeOf "_law_fewest") (ownT 0 irLawFewestN) 4 (bodyOf "_law_fewest")).1 = irLawFewest := by kernel_rfl
theorem irLawFewest_cs : CSs (scopeOf "_law_fewest") (ownT 0 irLawFewestN) 4 (bodyOf "_law_fewest") irLawFewest := irLawFewest_eq ▸ ((kg 60).ss _ _ _ _).2
theorem irLaw_eq : ((kg 60).ss (scopeOf "law") (ownT 0 irLawN) 15 (bodyOf "law")).1 = irLaw := by kernel_rfl
theorem irLaw_cs : CSs (scopeOf "law") (ownT 0 irLawN) 15 (bodyOf "law") irLaw := irLaw_eq ▸ ((kg 60).ss _ _ _ _).2

noncomputable def nthO : List (Option FnI) → Nat → Option FnI
  | [], _ => none
  | a :: _, 0 => a
  | _ :: r, k + 1 => nthO r k
noncomputable def AllF (P : Nat → FnI → Prop) : Nat → List (Option FnI) → Prop
  | _, [] => True
  | i, none :: r => AllF P (i + 1) r
  | i, some F :: r => P i F ∧ AllF P (i + 1) r
theorem nth_all {P : Nat → FnI → Prop} : ∀ (l : List (Option FnI)) (i k : Nat), AllF P i l → ∀ F, nthO l k = some F → P (i + k) F
  | [], _, _, _, _, e => nomatch e
  | none :: _, _, 0, _, _, e => nomatch e
  | some _ :: _, _, 0, h, _, e => Option.some.inj e ▸ h.1
  | none :: r, i, k + 1, h, F, e => by rw [← Nat.add_assoc, Nat.add_right_comm]; exact nth_all r (i + 1) k h F e
  | some _ :: r, i, k + 1, h, F, e => by rw [← Nat.add_assoc, Nat.add_right_comm]; exact nth_all r (i + 1) k h.2 F e
noncomputable def tabL : List (Option FnI) := [some (.code 2 2 [] irHeappush), some (.code 1 3 [] irHeappop), some (.code 2 3 [] irHeapreplaceMax), some (.code 1 3 [] irHeapifyMax), some (.code 3 6 [] irSiftdown), some (.code 2 7 [] irSiftup), some (.code 3 6 [] irSiftdownMax), some (.code 2 7 [] irSiftupMax), some (.code 3 14 [.none] irNsmallest), some (.code 1 4 [] irPrettyFlags), some (.code 1 3 [] irParseVarint), some (.code 1 1 [] irSIfmt), some (.code 1 6 [] irFilemode), some (.code 2 4 [] irLawWays), some (.code 1 6 [] irLawThrees), none, some (.code 1 5 [] irLawStruck), some (.code 1 4 [] irLawFewest)]
noncomputable def tabF (k : Nat) : Option FnI := nthO tabL k
end Mine.Internal
end
section
open PySem PySem.W PyProof.Rows
namespace Mine.Internal
set_option linter.unusedSectionVars false
set_option linter.unusedVariables false
set_option maxRecDepth 100000

/-- the frames around, for what an exception looks at -/
structure Fra (A : Around) (base : Heap) (lay : Nat → Loc) (ns : Nat) (d : Nat) : Prop where
  le : d ≤ topD
  top : d = topD → ∃ (env0 : Env) (k : Nat) (L : Addr) (x : Str), A.frames = some [env0] ∧ env0.scope.kind ≠ .module ∧ env0.frame = some L ∧ lay k = .ns L x ∧ k < ns

/-- what a def of the text's own is, in the heap -/
structure CodeF (fv : Fn → Value) (base : Heap) (k np ns : Nat) (df : List PV) (body : List IS) (f : Addr) (o : Obj) (fd : FuncData) (stmts : List Stmt) (names : List Str) : Prop where
  ef : fv (.user k) = .ref f
  eo : base.get? f = some o
  ed : o.data = .func fd
  eb : fd.body = .stmts stmts
  ecl : fd.closure = []
  ecd : base.CodeRec fd.code fd.qualname
  ek : fd.scope.kind = .function
  eco : fd.scope.isCoroutine = false
  eg : fd.scope.isGenerator = false
  egl : fd.globals = mainGlobals
  ebl : fd.builtins = builtinsNs
  enl : names.length = ns
  end_ : names.Nodup
  enp : np ≤ ns
  eloc : ∃ x ∈ names, fd.scope.names.lookup x = some .local
  ekinds : ∀ x ∈ names, fd.scope.names.lookup x = some .local ∨ fd.scope.names.lookup x = some .cell
  enod : (fd.scope.names.map (·.1)).Nodup
  eCS : CSs fd.scope.names (ownT 0 names) ns stmts body
  ebind : ∀ (s : Shared) (vals : List Value), base.StaysIn s.heap → vals.length ≤ np → np ≤ vals.length + df.length → ∃ dv, VRs fv (fun _ => 0) 0 base dv (df.drop (vals.length + df.length - np)) ∧ BindsTo s fd ⟨vals, []⟩ ((names.take np).zip (vals ++ dv))
noncomputable def CodeOk (fv : Fn → Value) (base : Heap) (k np ns : Nat) (df : List PV) (body : List IS) : Prop :=
  ∃ (f : Addr) (o : Obj) (fd : FuncData) (stmts : List Stmt) (names : List Str), CodeF fv base k np ns df body f o fd stmts names

/-- _law_read's own text: numbers are read till the tape ends -/
noncomputable def readIR : List IS := [.asg (.v 1) (.call (.const (.fn (.prim .iter))) [.var 0]), .asg (.v 2) (.list []), .fr (.v 3) (.call (.const (.fn (.prim .range))) [.bin .add (.call (.const (.fn (.prim .len))) [.var 0]) (.const (.int 1))]) [.rd 1 2] [], .ret (.list [])]
structure GlobOk (fv : Fn → Value) (Φ : Nat → Option FnI) (base : Heap) : Prop where
  names : ∃ mg mb, base.Ns mainGlobals mg ∧ base.Ns builtinsNs mb ∧ ∀ x c, gtab.lookup x = some c → ∃ v, (mg x = some v ∨ (mg x = none ∧ mb x = some v)) ∧ VR fv (fun _ => 0) 0 base v c
  flags : FlagsOk fv base
  prims : ∀ p, fv (.prim p) = primV p
  nolimit : base.NoLimit
  isFn : ∀ k F, Φ k = some F → ∃ f o fd, fv (.user k) = .ref f ∧ base.get? f = some o ∧ o.data = .func fd
  code : ∀ k np ns df body, Φ k = some (.code np ns df body) → CodeOk fv base k np ns df body
  read : CodeOk fv base 15 1 4 [] readIR
  stop : ∃ mg mb, base.Ns mainGlobals mg ∧ base.Ns builtinsNs mb ∧ mg ("StopIteration" : Str) = none ∧ mb ("StopIteration" : Str) = some (.type "StopIteration")

structure Cx (fv : Fn → Value) (Φ : Nat → Option FnI) (base : Heap) (A : Around) (env : Env) (N : List (Str × NameKind)) (T : List (Str × Nat)) (lay : Nat → Loc) (d ns : Nat) : Prop where
  room : Room (d + 1) A
  env : EnvOk env N T lay
  glob : GlobOk fv Φ base
  fra : Fra A base lay ns d
  bd : ∀ x k, T.lookup x = some k → k < ns

variable (prog : Program) (w : World) (fv : Fn → Value) (Φ : Nat → Option FnI)

noncomputable def SE (n : Nat) : Prop := ∀ {N T ns e a d st r st' base A env lay φ s Q E}, CE N T ns e a → evE Φ n d a st = some (r, st') → st.sl.length = ns → Cx fv Φ base A env N T lay d ns → RelS fv base φ lay st s.heap →
  Post fv base φ lay st st' r s Q → wpAny (model prog w) A (eval e env) Q E s
/-- several values -/
noncomputable def PostL (fv : Fn → Value) (base : Heap) (φ : Nat → Addr) (lay : Nat → Loc) (st st' : St) (r : List PV) (s : Shared) (Q : List Value → Shared → Prop) : Prop :=
  ∀ φ' v h' tk, RelS fv base φ' lay st' h' → StepS φ st s.heap φ' st' h' → VRs fv φ' st'.ob.length h' v r → Q v { s with heap := h', toks := tk }
noncomputable def SEs (n : Nat) : Prop := ∀ {N T ns e a d st r st' base A env lay φ s pos Q E}, CEs N T ns e a → evEs Φ n d a st = some (r, st') → st.sl.length = ns → Cx fv Φ base A env N T lay d ns → RelS fv base φ lay st s.heap →
  PostL fv base φ lay st st' r s Q → wpAny (model prog w) A (spliced (backTo pos (starEach e env))) Q E s
noncomputable def PostB (fv : Fn → Value) (base : Heap) (φ : Nat → Addr) (lay : Nat → Loc) (st st' : St) (r : Bool) (s : Shared) (Q : Bool → Shared → Prop) : Prop :=
  ∀ φ' h' tk, RelS fv base φ' lay st' h' → StepS φ st s.heap φ' st' h' → Q r { s with heap := h', toks := tk }
noncomputable def ST (n : Nat) : Prop := ∀ {N T ns e a d st r st' base A env lay φ s Q E}, CB N T ns e a → evT Φ n d a st = some (r, st') → st.sl.length = ns → Cx fv Φ base A env N T lay d ns → RelS fv base φ lay st s.heap →
  PostB fv base φ lay st st' r s Q → wpAny (model prog w) A (isTrue e env (eval e env)) Q E s
noncomputable def SCall (n : Nat) : Prop := ∀ {d k args ob r ob' base A lay sl φ s vs Q E}, evCall Φ n d k args ob = some (r, ob') → Room (d + 1) A → GlobOk fv Φ base → Fra A base lay sl.length d → Rel fv base φ lay sl ob s.heap →
  VRs fv φ ob.length s.heap vs args → Post fv base φ lay ⟨sl, ob⟩ ⟨sl, ob'⟩ r s Q → wpAny (model prog w) A (call (fv (.user k)) vs) Q E s
end Mine.Internal
end
section
open PySem PySem.W PyProof.Rows
namespace Mine.Internal
set_option linter.unusedSectionVars false
set_option linter.unusedVariables false
set_option maxRecDepth 100000
variable {prog : Program} {w : World} {fv : Fn → Value} {Φ : Nat → Option FnI}
variable {A : Around} {E : Value → Shared → Prop} {s : Shared} {φ φ' : Nat → Addr} {base : Heap} {lay : Nat → Loc} {st st' st1 : St} {env : Env} {N : List (Str × NameKind)} {T : List (Str × Nat)} {d ns n : Nat}

theorem Post.trans {Q : Value → Shared → Prop} {r : PV} {h1 : Heap} {tk1 : Nat} (P : Post fv base φ lay st st' r s Q) (S1 : StepS φ st s.heap φ' st1 h1) : Post fv base φ' lay st1 st' r { s with heap := h1, toks := tk1 } Q :=
  fun φ2 v2 h2 tk2 R2 S2 V2 => P φ2 v2 h2 tk2 R2 (S1.trans S2) V2
theorem PostB.trans {Q : Bool → Shared → Prop} {r : Bool} {h1 : Heap} {tk1 : Nat} (P : PostB fv base φ lay st st' r s Q) (S1 : StepS φ st s.heap φ' st1 h1) : PostB fv base φ' lay st1 st' r { s with heap := h1, toks := tk1 } Q :=
  fun φ2 h2 tk2 R2 S2 => P φ2 h2 tk2 R2 (S1.trans S2)

/-- a name of the module's -/
theorem glob_ok {x : Str} {c : PV} {pos : Pos} {Q : Value → Shared → Prop} (C : Cx fv Φ base A env N T lay d ns) (h1 : N.lookup x = some .globalImplicit) (h2 : gtab.lookup x = some c) (h3 : (x == ("__debug__" : Str)) = false)
    (R : RelS fv base φ lay st s.heap) (P : Post fv base φ lay st st c s Q) : wpAny (model prog w) A (eval (.Name x pos) env) Q E s := by
  obtain ⟨mg, mb, hg, hb, hn⟩ := C.glob.names
  obtain ⟨v, hv, V⟩ := hn x c h2
  have hg' : s.heap.Ns env.globals mg := by rw [C.env.glob]; exact hg.keeps R.stays
  have hb' : s.heap.Ns env.builtins mb := by rw [C.env.blt]; exact hb.keeps R.stays
  have hq := P.same' R (V.up R)
  refine Calls.Name_function_global C.env.kind (by unfold Env.kindOf; rw [C.env.scope]; exact h1) ?_ h3
  rcases hv with hv | ⟨hm, hv⟩
  · exact Calls.loadGlobal_global hg' hv hq
  · exact Calls.loadGlobal_builtin hg' hm hb' hv hq

/-- the shapes that the compiler takes -/
noncomputable def shape : PySem.Expr → Bool
  | .Constant .. => true
  | .Name .. => true
  | .BinOp .. => true
  | .UnaryOp .. => true
  | .Compare .. => true
  | .List .. => true
  | .Tuple .. => true
  | .Subscript .. => true
  | .Call .. => true
  | .ListComp .. => true
  | .IfExp .. => true
  | _ => false
theorem CE.shape {e : PySem.Expr} {a : IE} (h : CE N T ns e a) : a ≠ .bad → shape e = true := by
  induction h using CE.casesOn <;> first | exact fun hb => absurd rfl hb | exact fun _ => rfl
theorem shape_ok {e : PySem.Expr} : shape e = true → (∀ op, behindInMarks op e = false) ∧ (∀ env x, foldedSetIterable e env x = pure x) ∧ ∀ o i, subscripted e false o i = operate [o, i] (getItem o i) := by
  cases e <;> first | exact fun _ => ⟨fun _ => rfl, fun _ _ => rfl, fun _ _ => rfl⟩ | exact fun h => Bool.noConfusion h
theorem CE.notSet {e : PySem.Expr} {a : IE} (h : CE N T ns e a) (hb : a ≠ .bad) : (∀ op, behindInMarks op e = false) ∧ ∀ env x, foldedSetIterable e env x = pure x :=
  ⟨(shape_ok (h.shape hb)).1, (shape_ok (h.shape hb)).2.1⟩
theorem not_bad {a : IE} {r : PV × St} (h : evE Φ n d a st = some r) : a ≠ .bad := fun z => evE_bad (r := r.1) (st' := r.2) (z ▸ h)
theorem ses_succ (He : SE prog w fv Φ n) (Hs : SEs prog w fv Φ n) (hlen : LenAll Φ n) : SEs prog w fv Φ (n + 1) := by
  intro N T ns e a d st r st' base A env lay φ s pos Q E C
  induction C using CEs.casesOn with
  | nil =>
    intro h hns X R P
    obtain ⟨rfl, rfl⟩ := evEs_nil h
    exact spliced_none (P φ [] s.heap s.toks R (Step.refl ..) .nil)
  | cons hc hs hr =>
    rename_i e es a as
    exact fun h hns X R P => evEs_cons h fun x s1 xs e1 e2 q => spliced_more (He hc e1 hns X R fun φ1 v1 h1 tk1 R1 S1 V1 => Hs hr e2 ((hlen.e _ _ _ _ _ e1).trans hns) X R1 fun φ2 v2 h2 tk2 R2 S2 V2 =>
      P φ2 (v1 :: v2) h2 tk2 R2 (S1.trans S2) (q ▸ .cons (V1.step S2) V2)) (by cases e <;> first | rfl | exact absurd rfl (hs _ _))

/-- a compare, asked for its truth -/
theorem st_cmp (He : ∀ m, m ≤ n → SE prog w fv Φ m) {l r : PySem.Expr} {op : COp} {a b : IE} {pos : Pos} {c : Bool} {Q : Bool → Shared → Prop} (hl : CE N T ns l a) (hr : CE N T ns r b) (h : evT Φ (n + 1) d (.e (.cmp op a b)) st = some (c, st')) (hns : st.sl.length = ns) (X : Cx fv Φ base A env N T lay d ns) (R : RelS fv base φ lay st s.heap)
    (P : PostB fv base φ lay st st' c s Q) : wpAny (model prog w) A (isTrue (.Compare l [copOf op] [r] pos) env (eval (.Compare l [copOf op] [r] pos) env)) Q E s := evT_e h fun v e1 e2 => by
  cases n with
  | zero => exact nomatch e1
  | succ n =>
    exact evE_cmp e1 fun y t1 z c' f1 f2 f3 q => wpAny_isTrue_Compare1 (He n (Nat.le_succ n) hl f1 hns X R fun φ1 v1 h1 tk1 R1 S1 V1 => He n (Nat.le_succ n) hr f2 (((len_all n).e _ _ _ _ _ f1).trans hns) X R1 fun φ2 v2 h2 tk2 R2 S2 V2 =>
      cmp_ok (s := { s with heap := h2, toks := tk2 }) X.room f3 R2 (V1.step S2) V2 (wpAny_truthy_bool ((Option.some.inj ((q ▸ e2 : truthV (.bool c') st' = some c))) ▸ P φ2 h2 tk2 R2 (S1.trans S2)))) ((CE.notSet hr (not_bad f2)).1 _)
theorem st_plain (He : SE prog w fv Φ n) {e : PySem.Expr} {a : IE} {c : Bool} {Q : Bool → Shared → Prop} (hc : CE N T ns e a) (h : evT Φ (n + 1) d (.e a) st = some (c, st')) (hns : st.sl.length = ns) (X : Cx fv Φ base A env N T lay d ns) (R : RelS fv base φ lay st s.heap)
    (P : PostB fv base φ lay st st' c s Q) : wpAny (model prog w) A (eval e env) (fun v s₁ => wpAny (model prog w) A (truthy v) Q E s₁) E s :=
  evT_e h fun v e1 e2 => He hc e1 hns X R fun φ1 v1 h1 tk1 R1 S1 V1 => truth_ok e2 R1 V1 fun tk => P φ1 h1 tk R1 S1

theorem st_succ (He' : ∀ m, m ≤ n → SE prog w fv Φ m) (Ht : ST prog w fv Φ n) (hlen : LenAll Φ n) : ST prog w fv Φ (n + 1) := by
  intro N T ns e a d st r st' base A env lay φ s Q E C
  induction C using CB.casesOn with
  | cmp hl hr => exact st_cmp He' hl hr
  | bin hc => exact fun h hns X R P => wpAny_isTrue_value (st_plain (He' n (Nat.le_refl n)) hc h hns X R P)
  | name hc => exact fun h hns X R P => wpAny_isTrue_value (st_plain (He' n (Nat.le_refl n)) hc h hns X R P)
  | const hc => exact fun h hns X R P => wpAny_isTrue_value (st_plain (He' n (Nat.le_refl n)) hc h hns X R P)
  | not hc => exact fun h hns X R P => evT_not h fun b e1 q => wpAny_isTrue_Not (Ht hc e1 hns X R (fun φ1 h1 tk1 R1 S1 => q ▸ P φ1 h1 tk1 R1 S1))
  | and h1 h2 =>
    exact fun h hns X R P => evT_and h fun x s1 e1 h => wpAny_isTrue_BoolOp (wpAny_allTrue_And_cons (Ht h1 e1 hns X R fun φ1 h1' tk1 R1 S1 => by
      cases x with
      | true => exact wpAny_allTrue_And_cons (Ht h2 h ((hlen.t _ _ _ _ _ e1).trans hns) X R1 fun φ2 h2' tk2 R2 S2 => by
          have := P φ2 h2' tk2 R2 (S1.trans S2)
          cases r
          · exact this
          · exact wpAny_allTrue_And_nil this)
      | false =>
        obtain ⟨rfl, rfl⟩ : false = r ∧ s1 = st' := pairE h And.intro
        exact P φ1 h1' tk1 R1 S1))
  | or h1 h2 =>
    exact fun h hns X R P => evT_or h fun x s1 e1 h => wpAny_isTrue_BoolOp (wpAny_allTrue_Or_cons (Ht h1 e1 hns X R fun φ1 h1' tk1 R1 S1 => by
      cases x with
      | false => exact wpAny_allTrue_Or_cons (Ht h2 h ((hlen.t _ _ _ _ _ e1).trans hns) X R1 fun φ2 h2' tk2 R2 S2 => by
          have := P φ2 h2' tk2 R2 (S1.trans S2)
          cases r
          · exact wpAny_allTrue_Or_nil this
          · exact this)
      | true =>
        obtain ⟨rfl, rfl⟩ : true = r ∧ s1 = st' := pairE h And.intro
        exact P φ1 h1' tk1 R1 S1))
end Mine.Internal
end
section
open PySem PySem.W PyProof.Rows
namespace Mine.Internal
set_option linter.unusedSectionVars false
set_option linter.unusedVariables false
set_option maxRecDepth 100000
variable {prog : Program} {w : World} {fv : Fn → Value} {Φ : Nat → Option FnI}
variable {A : Around} {E : Value → Shared → Prop} {s : Shared} {φ φ' : Nat → Addr} {base : Heap} {lay : Nat → Loc} {st st' st1 : St} {env : Env} {N : List (Str × NameKind)} {T : List (Str × Nat)} {d ns n : Nat}

theorem CEs.star {es : List PySem.Expr} {as : List IE} (h : CEs N T ns es as) (env : Env) : starEach es env = es.map fun e => (false, eval e env) := by
  induction es generalizing as with
  | nil => rfl
  | cons e es ih =>
    cases h with
    | cons hc hs hr =>
      have := ih hr
      cases e <;> first | exact absurd rfl (hs _ _) | exact congrArg _ this
theorem CEs.plain {es : List PySem.Expr} {as : List IE} (h : CEs N T ns es as) (env : Env) (pos : Pos) : (backTo pos (starEach es env)).any (·.1) = false ∧ (backTo pos (starEach es env)).all (fun x => !x.1) = true := by
  rw [h.star env]
  unfold backTo
  constructor
  · rw [List.any_eq_false]; intro x hx; simp only [List.mem_map] at hx; obtain ⟨y, ⟨z, hz, rfl⟩, rfl⟩ := hx; simp
  · rw [List.all_eq_true]; intro x hx; simp only [List.mem_map] at hx; obtain ⟨y, ⟨z, hz, rfl⟩, rfl⟩ := hx; simp

/-- the arguments, then the call -/
theorem args_ok (Hs : SEs prog w fv Φ n) {f : Value} {es : List PySem.Expr} {as : List IE} {xs : List PV} {pos : Pos} {Q : Args → Shared → Prop} (C : CEs N T ns es as) (h : evEs Φ n d as st = some (xs, st')) (hns : st.sl.length = ns) (X : Cx fv Φ base A env N T lay d ns)
    (R : RelS fv base φ lay st s.heap) (P : PostL fv base φ lay st st' xs s (fun vs s' => Q ⟨vs, []⟩ s')) : wpAny (model prog w) A (evalArgs f true (backTo pos (starEach es env)) []) Q E s := by
  have key := Hs (pos := pos) (E := E) C h hns X R P
  have hp := (C.plain env pos).1
  cases hb : backTo pos (starEach es env) with
  | nil =>
    rw [hb] at key
    refine evalArgs_nil3 ?_
    cases n with
    | zero => exact nomatch h
    | succ n =>
      cases C with
      | nil =>
        obtain ⟨rfl, rfl⟩ := evEs_nil h
        exact P φ [] s.heap s.toks R (Step.refl ..) .nil
      | cons hc hs hr =>
        rw [(CEs.cons hc hs hr).star env] at hb
        simp [backTo] at hb
  | cons x r =>
    obtain ⟨b, t⟩ := x
    rw [hb] at key hp
    simp only [List.any_cons, Bool.or_eq_false_iff] at hp
    have : b = false := hp.1
    subst this
    exact Calls.evalArgs_plain key

theorem recv_list {o : PV} {v : Value} (e : o.isList st = true) (R : RelS fv base φ lay st s.heap) (V : VRS fv φ st s.heap v o) : s.TypeIs v "list" ∧ ∀ a, v = .ref a → ∃ ob, s.heap.get? a = some ob ∧ ob.dict = none := by
  cases o with
  | ref l =>
    have e : PO.isList st.ob[l]? = true := e
    unfold PO.isList at e
    split at e
    · rename_i xs eo
      obtain ⟨hb, us, ⟨c, L⟩, W⟩ := R.objs l _ eo
      rw [V.refv.1]
      exact ⟨⟨_, L, rfl⟩, fun a ha => by cases ha; exact ⟨_, L, rfl⟩⟩
    · cases e
  | _ => cases e
theorem recv_str {o : PV} {v : Value} (e : o.isStr = true) (V : VRS fv φ st s.heap v o) : s.TypeIs v "str" ∧ ∀ a, v = .ref a → ∃ ob, s.heap.get? a = some ob ∧ ob.dict = none := by
  cases o with
  | str x => obtain ⟨t, rfl⟩ := V.strv; exact ⟨rfl, fun a ha => by cases ha⟩
  | _ => cases e
theorem isFlags_el {o : PV} (e : o.isFlags = true) : o = .fn .flags := by
  cases o with
  | fn f => cases f <;> first | rfl | cases e
  | _ => cases e
theorem recv_ok (prog : Program) (w : World) {m : Meth} {o : PV} {v : Value} (hf : FlagsOk fv base) (e : recvOk m o st = true) (R : RelS fv base φ lay st s.heap) (V : VRS fv φ st s.heap v o) : s.TypeIs v (methS m).2 ∧ ∀ a, v = .ref a → ∃ ob, s.heap.get? a = some ob ∧ ob.dict = none := by
  cases m with
  | join => exact recv_str e V
  | split => exact recv_str e V
  | get =>
    rw [isFlags_el e] at V
    obtain ⟨dd, ed, Td⟩ := hf
    obtain ⟨_, kvs, ⟨ob, es, ep, ho, hc, _⟩, _⟩ := PyProof.Rows.KTD.tab_keep (Td prog w) R.stays
    rw [V.fnv, ed]
    exact ⟨⟨ob, ho, hc.1⟩, fun a ha => by cases ha; exact ⟨ob, ho, hc.2.1⟩⟩
  | _ => exact recv_list e R V

theorem meth_facts (m : Meth) : PlainAttrs (methS m).2 ∧ Slot (methS m).2 (methS m).1 (methV m) ∧ typeOf (.builtin (methV m)) = pure (.type "method_descriptor") := by
  cases m
  · exact ⟨PySem.F.plainAttrs_list, PySem.F.slot_list_append, PySem.F.type_list_append⟩
  · exact ⟨PySem.F.plainAttrs_list, PySem.F.slot_list_pop, PySem.F.type_list_pop⟩
  · exact ⟨PySem.F.plainAttrs_list, PySem.F.slot_list_extend, PySem.F.type_list_extend⟩
  · exact ⟨PySem.F.plainAttrs_list, PySem.F.slot_list_sort, PySem.F.type_list_sort⟩
  · exact ⟨PySem.F.plainAttrs_str, PySem.F.slot_str_join, PySem.F.type_str_join⟩
  · exact ⟨PySem.F.plainAttrs_str, PySem.F.slot_str_split, PySem.F.type_str_split⟩
  · exact ⟨PySem.F.plainAttrs_dict, PySem.F.slot_dict_get, PySem.F.type_dict_get⟩

theorem clamp_int {m q : Nat} {x : PV} {j : Nat} (e : clamp m q (some x) = some j) : ∃ i, x = .int i := by
  cases x <;> first | exact ⟨_, rfl⟩ | (simp [clamp] at e; done)

/-- what is no slice is asked for by its value -/
theorem CE.sub {e : PySem.Expr} {a : IE} (h : CE N T ns e a) (hb : a ≠ .bad) : ∀ o i, subscripted e false o i = operate [o, i] (getItem o i) := (shape_ok (h.shape hb)).2.2
/-- a comprehension, shown by itself -/
noncomputable def SComp (prog : Program) (w : World) (fv : Fn → Value) (Φ : Nat → Option FnI) (n : Nat) : Prop := ∀ {N T ns elt gens sc pos a gs m d st r st' base A env lay φ s Q E}, CE N T ns (.ListComp elt gens sc pos) (.comp a gs m) → evE Φ n d (.comp a gs m) st = some (r, st') → st.sl.length = ns → Cx fv Φ base A env N T lay d ns → RelS fv base φ lay st s.heap →
  Post fv base φ lay st st' r s Q → wpAny (model prog w) A (eval (.ListComp elt gens sc pos) env) Q E s

theorem attr_call {f : PySem.Expr} {es : List PySem.Expr} {kw : List Keyword} {p : Pos} {name : Str} {whole : Sem Value} (h : bareCall (.Call f es kw p) = false) : attributeBase (.Call f es kw p) name env whole = whole := by
  cases es with
  | nil => cases kw with
    | nil => exact nomatch h
    | cons => cases f <;> rfl
  | cons => cases f <;> rfl
theorem attr_base {o : PySem.Expr} {name : Str} {whole : Sem Value} : bareCall o = false → attributeBase o name env whole = whole := by
  cases o with
  | Call => exact attr_call
  | _ => exact fun _ => rfl

/-- a slice, its bounds at hand -/
theorem slice_step {x r : PV} {lo hi : Option PV} {v vl vu : Value} {value : PySem.Expr} {lower upper : Option PySem.Expr} {p : Pos} {Q : Value → Shared → Prop} (e : sliceop x lo hi st = some (r, st')) (R : RelS fv base φ lay st s.heap)
    (V : VRS fv φ st s.heap v x) (bl : Bound vl lo) (bu : Bound vu hi) (P : Post fv base φ lay st st' r s Q) :
    wpAny (model prog w) A (subscriptTail value (.Slice lower upper none p) v (.ref s.heap.objs.size)) Q E { s with heap := s.heap.push { cls := .type "slice", data := .fields #[vl, vu, .none] } } := by
  have hk : ∀ b o, s.heap.get? b = some o → (s.heap.push { cls := .type "slice", data := .fields #[vl, vu, .none] }).get? b = some o := fun b o q => Heap.get?_push_of_some _ q
  have hz : s.heap.objs.size ≤ (s.heap.push { cls := .type "slice", data := .fields #[vl, vu, .none] }).objs.size := by rw [Heap.size_push]; exact Nat.le_succ _
  have S2 := R.step_of_ext hz hk
  exact slice_ok (s := { s with heap := s.heap.push { cls := .type "slice", data := .fields #[vl, vu, .none] } }) e (R.ext hz hk) (V.step S2) (Heap.get?_push_size _ rfl) bl bu (P.trans (tk1 := s.toks) (st1 := st) S2)
theorem slice_bounds {x r : PV} {lo hi : Option PV} (e : sliceop x lo hi st = some (r, st')) : (∀ y, lo = some y → ∃ i, y = .int i) ∧ ∀ y, hi = some y → ∃ i, y = .int i := by
  replace e := slice_rel e
  induction e using SliceR.casesOn with
  | list _ e1 e2 => exact ⟨fun y h => clamp_int (h ▸ e1), fun y h => clamp_int (h ▸ e2)⟩
  | str e1 e2 => exact ⟨fun y h => clamp_int (h ▸ e1), fun y h => clamp_int (h ▸ e2)⟩
theorem bound_int {v : Value} {x : PV} {φ : Nat → Addr} {m : Nat} {h : Heap} (V : VR fv φ m h v x) (hi : ∃ i, x = .int i) : Bound v (some x) := by
  obtain ⟨i, rfl⟩ := hi
  obtain ⟨t, rfl⟩ := V.intv
  exact .int i t

theorem callWith_prim {p : Prim} {pos : Pos} {args : List (Bool × Sem Value)} {Q : Value → Shared → Prop} (hplain : args.any (·.1) = false)
    (h : wpAny (model prog w) A (evalArgs (primV p) true args []) (fun a s₁ => wpAny (model prog w) A (call (primV p) a.pos a.kw) Q E s₁) E s) : wpAny (model prog w) A (callWith pos (primV p) [] args []) Q E s := by
  cases p
  · exact Calls.callWith_builtin hplain h
  · exact PySem.callWith_type hplain h
  · exact PySem.callWith_type hplain h
  · exact Calls.callWith_builtin hplain h
  · exact Calls.callWith_builtin hplain h
  · exact PySem.callWith_type hplain h
  · exact PySem.callWith_type hplain h
  · exact Calls.callWith_builtin hplain h
  · exact Calls.callWith_builtin hplain h
  · exact Calls.callWith_builtin hplain h
  · exact Calls.callWith_builtin hplain h

theorem prim_step (Hs : SEs prog w fv Φ n) {p : Prim} {es : List PySem.Expr} {as : List IE} {xs : List PV} {r : PV} {pos : Pos} {Q : Value → Shared → Prop} (C : CEs N T ns es as) (h : evEs Φ n d as st = some (xs, st1)) (hns : st.sl.length = ns) (X : Cx fv Φ base A env N T lay d ns)
    (e : primop p xs st1 = some (r, st')) (R : RelS fv base φ lay st s.heap) (P : Post fv base φ lay st st' r s Q) : wpAny (model prog w) A (callWith pos (primV p) [] (backTo pos (starEach es env)) []) Q E s := by
  refine callWith_prim (C.plain env pos).1 (args_ok Hs C h hns X R fun φ2 vs h2 tk2 R2 S2 V2 => ?_)
  show wpAny (model prog w) A (call (primV p) vs) Q E _
  exact prim_ok (s := { s with heap := h2, toks := tk2 }) X.room e R2 V2 (P.trans S2)
theorem meth_step (Hs : SEs prog w fv Φ n) {m : Meth} {o r : PV} {v : Value} {es : List PySem.Expr} {as : List IE} {xs : List PV} {pos : Pos} {Q : Value → Shared → Prop} (C : CEs N T ns es as) (h : evEs Φ n d as st = some (xs, st1)) (hns : st.sl.length = ns) (X : Cx fv Φ base A env N T lay d ns)
    (e : methop m o xs st1 = some (r, st')) (R : RelS fv base φ lay st s.heap) (V : VRS fv φ st s.heap v o) (P : Post fv base φ lay st st' r s Q) : wpAny (model prog w) A (callWith pos (.builtin (methV m)) [v] (backTo pos (starEach es env)) []) Q E s := by
  refine Calls.callWith_builtin (C.plain env pos).1 (args_ok Hs C h hns X R fun φ2 vs h2 tk2 R2 S2 V2 => ?_)
  show wpAny (model prog w) A (call (.builtin (methV m)) (v :: vs)) Q E _
  exact meth_ok (s := { s with heap := h2, toks := tk2 }) X.room X.glob.flags e R2 (V.step S2) V2 (P.trans S2)

theorem evCall_some {k : Nat} {args : List PV} {ob : List PO} {r : PV × List PO} (h : evCall Φ n d k args ob = some r) : ∃ F, Φ k = some F := by
  cases n with
  | zero => exact nomatch h
  | succ n =>
    cases d with
    | zero => exact nomatch h
    | succ d =>
      cases evCall_el (r := r.1) (ob' := r.2) h with
      | spec e => exact ⟨_, e⟩
      | code e => exact ⟨_, e⟩
theorem call_step (Hs : SEs prog w fv Φ n) (Hc : SCall prog w fv Φ n) {k : Nat} {es : List PySem.Expr} {as : List IE} {xs : List PV} {r : PV} {ob' : List PO} {pos : Pos} {Q : Value → Shared → Prop} (C : CEs N T ns es as) (h : evEs Φ n d as st = some (xs, st1)) (hns : st.sl.length = ns) (X : Cx fv Φ base A env N T lay d ns)
    (e : evCall Φ n d k xs st1.ob = some (r, ob')) (R : RelS fv base φ lay st s.heap) (P : Post fv base φ lay st ⟨st1.sl, ob'⟩ r s Q) : wpAny (model prog w) A (callWith pos (fv (.user k)) [] (backTo pos (starEach es env)) []) Q E s := by
  obtain ⟨F, eF⟩ := evCall_some e
  obtain ⟨f, o, fd, ef, eo, ed⟩ := X.glob.isFn k F eF
  have hns1 := ((len_all (Φ := Φ) n).es _ _ _ _ _ h).trans hns
  refine callWith_of (P := fun h => h.get? f = some o) (by rw [(C.plain env pos).1]; rfl) (fun h' hf => ?_) (args_ok Hs C h hns X R fun φ2 vs h2 tk2 R2 S2 V2 => ⟨R2.stays _ _ eo, ?_⟩)
  · rw [ef]
    obtain ⟨c, dct, dt, sl⟩ := o
    dsimp only at ed
    subst ed
    exact ⟨.frame, .inl rfl, (Looks.ld (part := none) hf).andThen .now⟩
  · show wpAny (model prog w) A (call (fv (.user k)) vs) Q E _
    exact Hc (s := { s with heap := h2, toks := tk2 }) e X.room X.glob (by rw [hns1]; exact X.fra) R2 V2 (P.trans S2)

theorem room_line {m : Nat} (h : m ≤ room) : m ≤ sizeLine := by rw [sizeLine_eq]; exact Nat.le_trans h (by decide)
theorem list_new {xs : List PV} {vs : List Value} {Q : Value → Shared → Prop} {tk : Nat} (R : RelS fv base φ lay st s.heap) (V : VRs fv φ st.ob.length s.heap vs xs) (P : Post fv base φ lay st ⟨st.sl, st.ob ++ [.list xs]⟩ (.ref st.ob.length) s Q) :
    Q (.ref s.heap.objs.size) { s with heap := s.heap.push { cls := .type "list", data := .seq vs.toArray }, toks := tk } :=
  Post.new (tk := tk) R P rfl fun S hb => ⟨by rw [Rel.at_self]; exact hb, vs, ⟨0, by rw [Rel.at_self]; exact Heap.get?_push_size _ rfl⟩, V.step S⟩
theorem tup_new {xs : List PV} {vs : List Value} {Q : Value → Shared → Prop} {tk : Nat} (R : RelS fv base φ lay st s.heap) (V : VRs fv φ st.ob.length s.heap vs xs) (P : Post fv base φ lay st st (.tup xs) s Q) :
    Q (.ref s.heap.objs.size) { s with heap := s.heap.push { cls := .type "tuple", data := .seq vs.toArray }, toks := tk } := by
  have hk : ∀ b o, s.heap.get? b = some o → (s.heap.push { cls := .type "tuple", data := .seq vs.toArray }).get? b = some o := fun b o q => Heap.get?_push_of_some _ q
  have hz' : s.heap.objs.size ≤ (s.heap.push { cls := .type "tuple", data := .seq vs.toArray }).objs.size := by rw [Heap.size_push]; exact Nat.le_succ _
  have S2 := R.step_of_ext hz' hk
  exact P φ _ _ tk (R.ext hz' hk) S2 (.tup (vs := vs) ⟨_, Heap.get?_push_size _ rfl, rfl, _, rfl⟩ (R.offNew (Nat.le_refl _)) V.1 (V.step S2).2)
theorem bd_ok (He : SE prog w fv Φ n) {e : Option PySem.Expr} {a : Option IE} {u : Option PV} {Q : Value → Shared → Prop} (C : CO N T ns e a) (h : BdR Φ n d st a u st') (hns : st.sl.length = ns) (X : Cx fv Φ base A env N T lay d ns) (R : RelS fv base φ lay st s.heap) (hu : ∀ y, u = some y → ∃ i, y = .int i)
    (P : ∀ φ' v h' tk, RelS fv base φ' lay st' h' → StepS φ st s.heap φ' st' h' → Bound v u → st'.sl.length = ns → Q v { s with heap := h', toks := tk }) :
    wpAny (model prog w) A (evalPart e env) Q E s := by
  cases C with
  | none => cases h with
    | none => exact wpAny_pure (P φ .none s.heap s.toks R (Step.refl ..) .none hns)
  | some hc => cases h with
    | some e1 => exact He hc e1 hns X R fun φ1 v1 h1 tk1 R1 S1 V1 => P φ1 v1 h1 tk1 R1 S1 (bound_int V1 (hu _ rfl)) (((len_all n).e _ _ _ _ _ e1).trans hns)

theorem se_succ (He : SE prog w fv Φ n) (Hs : SEs prog w fv Φ n) (Ht : ST prog w fv Φ n) (Hc : SCall prog w fv Φ n) (Hp : SComp prog w fv Φ (n + 1)) : SE prog w fv Φ (n + 1) := by
  have hlen := len_all (Φ := Φ) n
  intro N T ns e a d st r st' base A env lay φ s Q E C
  induction C using CE.casesOn with
  | bad => exact fun h => (evE_bad h).elim
  | int => intro h hns X R P; obtain ⟨rfl, rfl⟩ := evE_const h; exact wpAny_Constant_int (P.same R (.int _ _))
  | str => intro h hns X R P; obtain ⟨rfl, rfl⟩ := evE_const h; exact wpAny_Constant_str (P.same R (.str _ _))
  | none => intro h hns X R P; obtain ⟨rfl, rfl⟩ := evE_const h; exact wpAny_Constant_none (P.same' R .none)
  | bool => intro h hns X R P; obtain ⟨rfl, rfl⟩ := evE_const h; exact wpAny_Constant_bool (P.same' R (.bool _))
  | name h1 h2 h3 =>
    intro h hns X R P
    obtain ⟨e1, rfl⟩ := evE_var h
    exact wpAny_Name (load_ok X.env.kind (X.env.at_ _ _ h1) h3 e1 R P) h2
  | glob h1 h2 h3 => intro h hns X R P; obtain ⟨rfl, rfl⟩ := evE_const h; exact glob_ok X h1 h2 h3 R P
  | bin hl hr =>
    exact fun h hns X R P => evE_bin h fun x s1 y s2 e1 e2 h => wpAny_BinOp (He hl e1 hns X R fun φ1 v1 h1 tk1 R1 S1 V1 => He hr e2 ((hlen.e _ _ _ _ _ e1).trans hns) X R1 fun φ2 v2 h2 tk2 R2 S2 V2 =>
      bin_ok (s := { s with heap := h2, toks := tk2 }) X.room h R2 (V1.step S2) V2 (P.trans (S1.trans S2)))
  | neg he =>
    exact fun h hns X R P => evE_neg h fun i e1 hm => wpAny_UnaryOp (He he e1 hns X R fun φ1 v1 h1 tk1 R1 S1 V1 => by
      obtain ⟨t, rfl⟩ := V1.intv
      exact PyProof.Rows.neg_int (P φ1 _ h1 _ R1 S1 (by rw [(mkI_some hm).1]; exact .int _ _)))
  | cmp hl hr =>
    exact fun h hns X R P => evE_cmp h fun x s1 y b e1 e2 e3 q => wpAny_Compare1 (He hl e1 hns X R fun φ1 v1 h1 tk1 R1 S1 V1 => He hr e2 ((hlen.e _ _ _ _ _ e1).trans hns) X R1 fun φ2 v2 h2 tk2 R2 S2 V2 =>
      cmp_ok (s := { s with heap := h2, toks := tk2 }) X.room e3 R2 (V1.step S2) V2 (P φ2 _ h2 tk2 R2 (S1.trans S2) (q ▸ .bool b))) ((CE.notSet hr (not_bad e2)).1 _)
  | list hc =>
    exact fun h hns X R P => evE_list h fun xs s1 e1 hz q1 q2 => wpAny_List_spliced (Hs hc e1 hns X R fun φ1 vs h1 tk1 R1 S1 V1 => ⟨by rw [V1.1]; exact room_line hz,
      list_new (s := { s with heap := h1, toks := tk1 }) R1 V1 (q1 ▸ (q2 ▸ P).trans S1)⟩)
  | tup hc =>
    exact fun h hns X R P => evE_tup h fun xs e1 hz q1 => wpAny_Tuple_spliced (Hs hc e1 hns X R fun φ1 vs h1 tk1 R1 S1 V1 => ⟨by rw [V1.1]; exact room_line hz,
      tup_new (s := { s with heap := h1, toks := tk1 }) R1 V1 (q1 ▸ P.trans S1)⟩)
  | idx he hi =>
    exact fun h hns X R P => evE_idx h fun x s1 y s2 e1 e2 h => Subscript_ (He he e1 hns X R fun φ1 v1 h1 tk1 R1 S1 V1 => He hi e2 ((hlen.e _ _ _ _ _ e1).trans hns) X R1 fun φ2 v2 h2 tk2 R2 S2 V2 =>
      idx_ok (s := { s with heap := h2, toks := tk2 }) h (hi.sub (not_bad e2)) R2 (V1.step S2) V2 (P.trans (S1.trans S2)))
  | slice he hl hu =>
    exact fun h hns X R P => evE_slice h fun x s1 u s2 v s3 e1 b1 b2 h => Subscript_ (He he e1 hns X R fun φ1 v1 h1 tk1 R1 S1 V1 => wpAny_Slice (bd_ok (s := { s with heap := h1, toks := tk1 }) He hl b1 ((hlen.e _ _ _ _ _ e1).trans hns) X R1 (slice_bounds h).1 fun φ2 v2 h2 tk2 R2 S2 B2 hn2 =>
      bd_ok (s := { s with heap := h2, toks := tk2 }) He hu b2 hn2 X R2 (slice_bounds h).2 fun φ3 v3 h3 tk3 R3 S3 B3 hn3 => wpAny_pure (slice_step (s := { s with heap := h3, toks := tk3 }) h R3 (V1.step (S2.trans S3)) B2 B3 (P.trans (S1.trans (S2.trans S3))))))
  | call hf ha =>
    exact fun h hns X R P => evE_call h fun x s1 xs s2 e1 e2 hc => wpAny_Call_NameR (He hf e1 hns X R fun φ1 v1 h1 tk1 R1 S1 V1 => by
      have hns1 := (hlen.e _ _ _ _ _ e1).trans hns
      have P1 := P.trans (tk1 := tk1) S1
      cases hc with
      | user e3 => rw [V1.fnv]; exact call_step (s := { s with heap := h1, toks := tk1 }) Hs Hc ha e2 hns1 X e3 R1 P1
      | prim e3 => rw [V1.fnv, X.glob.prims]; exact prim_step (s := { s with heap := h1, toks := tk1 }) Hs ha e2 hns1 X e3 R1 P1)
  | meth ho ha hline hl hcall =>
    rename_i o a m es as apos pos
    exact fun h hns X R P => evE_meth h fun x s1 xs s2 e1 hr e2 h => wpAny_Call_method (attr_base hcall) (by
        rw [(ha.plain env pos).2, show (backToKw pos (keywordEach [] env)) = [] from rfl]
        simp; lia) hline (meth_facts m).1 (meth_facts m).2.1 (meth_facts m).2.2 (He ho e1 hns X R fun φ1 v1 h1 tk1 R1 S1 V1 =>
      ⟨(recv_ok prog w (s := { s with heap := h1, toks := tk1 }) X.glob.flags hr R1 V1).1, (recv_ok prog w (s := { s with heap := h1, toks := tk1 }) X.glob.flags hr R1 V1).2,
        meth_step (s := { s with heap := h1, toks := tk1 }) Hs ha e2 ((hlen.e _ _ _ _ _ e1).trans hns) X h R1 V1 (P.trans S1)⟩)
  | comp ok ht hi hf hr he => exact Hp (.comp ok ht hi hf hr he)
  | ife ht hb ho =>
    exact fun h hns X R P => evE_ife h fun c s1 e1 h => wpAny_IfExp (Ht ht e1 hns X R fun φ1 h1 tk1 R1 S1 => by
      cases c with
      | true => exact He hb h ((hlen.t _ _ _ _ _ e1).trans hns) X R1 (P.trans S1)
      | false => exact He ho h ((hlen.t _ _ _ _ _ e1).trans hns) X R1 (P.trans S1))
end Mine.Internal
end
section
open PySem PySem.W PyProof.Rows
namespace Mine.Internal
set_option linter.unusedSectionVars false
set_option linter.unusedVariables false
set_option maxRecDepth 100000
variable {prog : Program} {w : World} {fv : Fn → Value} {Φ : Nat → Option FnI}
variable {A : Around} {E : Value → Shared → Prop} {s : Shared} {φ φ' : Nat → Addr} {base : Heap} {lay : Nat → Loc} {st st' st1 : St} {env : Env} {N : List (Str × NameKind)} {T : List (Str × Nat)} {d ns n : Nat}

inductive FlowR (fv : Fn → Value) (φ : Nat → Addr) (n : Nat) (h : Heap) : PySem.Flow → Flow → Prop
  | next : FlowR fv φ n h .next .next
  | brk : FlowR fv φ n h .brk .brk
  | cont : FlowR fv φ n h .cont .cont
  | ret {v x} (V : VR fv φ n h v x) : FlowR fv φ n h (.ret v) (.ret x)

noncomputable def PostF (fv : Fn → Value) (base : Heap) (φ : Nat → Addr) (lay : Nat → Loc) (st st' : St) (r : Flow) (s : Shared) (Q : PySem.Flow → Shared → Prop) : Prop :=
  ∀ φ' f h' tk, RelS fv base φ' lay st' h' → StepS φ st s.heap φ' st' h' → FlowR fv φ' st'.ob.length h' f r → Q f { s with heap := h', toks := tk }
theorem PostF.trans {Q : PySem.Flow → Shared → Prop} {r : Flow} {h1 : Heap} {tk1 : Nat} (P : PostF fv base φ lay st st' r s Q) (S1 : StepS φ st s.heap φ' st1 h1) : PostF fv base φ' lay st1 st' r { s with heap := h1, toks := tk1 } Q :=
  fun φ2 v2 h2 tk2 R2 S2 V2 => P φ2 v2 h2 tk2 R2 (S1.trans S2) V2

noncomputable def SSs (prog : Program) (w : World) (fv : Fn → Value) (Φ : Nat → Option FnI) (n : Nat) : Prop := ∀ {N T ns e a d st r st' base A env lay φ s Q E}, CSs N T ns e a → evSs Φ n d a st = some (r, st') → st.sl.length = ns → Cx fv Φ base A env N T lay d ns → RelS fv base φ lay st s.heap →
  PostF fv base φ lay st st' r s Q → wpAny (model prog w) A (execs e env) Q E s
noncomputable def SS (prog : Program) (w : World) (fv : Fn → Value) (Φ : Nat → Option FnI) (n : Nat) : Prop := ∀ {N T ns e a d st r st' base A env lay φ s Q E}, CS N T ns e a → evS Φ n d a st = some (r, st') → st.sl.length = ns → Cx fv Φ base A env N T lay d ns → RelS fv base φ lay st s.heap →
  PostF fv base φ lay st st' r s Q → wpAny (model prog w) A (exec e env) Q E s
/-- an assignment of a comprehension to a local name, shown by itself -/
noncomputable def SComU (prog : Program) (w : World) (fv : Fn → Value) (Φ : Nat → Option FnI) (n : Nat) : Prop := ∀ {N T ns x k p p' pos elt gs sc a d st r st' base A env lay φ s Q E}, T.lookup x = some k → N.lookup x = some .local → CE N T ns (.ListComp elt gs sc p') a → (p.line == p'.line) = true →
  (sc.names.any fun y => y.1 == x && (y.2 == .local || y.2 == .cell)) = false → evS Φ n d (.asg (.v k) a) st = some (r, st') → st.sl.length = ns → Cx fv Φ base A env N T lay d ns → RelS fv base φ lay st s.heap →
  PostF fv base φ lay st st' r s Q → wpAny (model prog w) A (exec (.Assign [.Name x p] (.ListComp elt gs sc p') pos) env) Q E s

/-- a block goes on, or ends here -/
theorem then_ok {A' : Prop} {f r : Flow} {fl : PySem.Flow} {h1 : Heap} {tk1 : Nat} {B : Shared → Prop} {Q : PySem.Flow → Shared → Prop} (R : RelS fv base φ' lay st1 h1) (S : StepS φ st s.heap φ' st1 h1) (F : FlowR fv φ' st1.ob.length h1 fl f) (T : ThenR A' r st1 st' f)
    (P : PostF fv base φ lay st st' r s Q) (k : A' → B { s with heap := h1, toks := tk1 }) : match (generalizing := false) fl with | .next => B { s with heap := h1, toks := tk1 } | f => Q f { s with heap := h1, toks := tk1 } := by
  induction F using FlowR.casesOn with
  | next => exact k T.next'
  | brk => obtain ⟨rfl, rfl⟩ := T.stop' nofun; exact P φ' _ h1 tk1 R S .brk
  | cont => obtain ⟨rfl, rfl⟩ := T.stop' nofun; exact P φ' _ h1 tk1 R S .cont
  | ret V => obtain ⟨rfl, rfl⟩ := T.stop' nofun; exact P φ' _ h1 tk1 R S (.ret V)
theorem sss_succ (Hs : SS prog w fv Φ n) (Hss : SSs prog w fv Φ n) : SSs prog w fv Φ (n + 1) := by
  intro N T ns e a d st r st' base A env lay φ s Q E C
  induction C using CSs.casesOn with
  | nil =>
    intro h hns X R P
    obtain ⟨rfl, rfl⟩ := evSs_nil h
    exact wpAny_execs_nil (P φ _ s.heap s.toks R (Step.refl ..) .next)
  | cons hc hr =>
    exact fun h hns X R P => evSs_cons h fun f s1 e1 T => wpAny_execs_cons (Hs hc e1 hns X R fun φ1 fl h1 tk1 R1 S1 F1 =>
      then_ok (B := fun s => wpAny _ _ _ _ _ s) R1 S1 F1 T P fun h => Hss hr h (((len_all n).s _ _ _ _ _ e1).trans hns) X R1 (P.trans S1))

theorem inplace_ok {op : Op} {a b r : Int} {t u : Tok} {Q : Value → Shared → Prop} (ho : augOk op = true) (e : intOp op a b = some r) (h : ∀ t tk, Q (.int r t) { s with toks := tk }) :
    wpAny (model prog w) A (inplaceOp (opOf op) (.int a t) (.int b u)) Q E s := by
  delta intOp at e; cases op <;> dsimp only at e <;> first | (cases ho; done) | skip
  · cases e; exact PyProof.Rows.iadd_int (h _ _)
  · cases e; exact PyProof.Rows.isub_int (h _ _)
  · split at e
    · rename_i hb
      obtain ⟨hf, h0, h1, h2⟩ := hb
      cases e
      have ⟨f1, f2⟩ := fits_iff.mp hf
      unfold big at f1 f2
      refine PyProof.Rows.ilshift_int_small h1 (by lia) (by lia) ?_
      have := h s.toks (s.toks + 1)
      rwa [show (((2 ^ b.toNat : Nat)) : Int) = 2 ^ b.toNat by push_cast; rfl] at this
    · cases e
  · split at e
    · rename_i hb
      cases e
      refine PyProof.Rows.ior_int ?_
      rw [bitOr_pp hb.1 hb.2]
      exact h _ _
    · cases e
  · split at e
    · rename_i hb
      cases e
      refine PyProof.Rows.ixor_int ?_
      unfold Builtin.bitXor
      rw [bitOr_pp hb.1 hb.2, bitAnd_pp hb.1 hb.2]
      exact h _ _
    · cases e

theorem notComp {e : PySem.Expr} (hc : isComp e = false) : ∀ (t : Option PySem.Expr) (l : Nat) (env : Env), swapsWith e t l env = pure false := by
  intro t l env
  cases e <;> first | rfl | exact Bool.noConfusion hc

/-- where a while stands -/
noncomputable def WInv (fv : Fn → Value) (Φ : Nat → Option FnI) (base : Heap) (φ : Nat → Addr) (lay : Nat → Loc) (st st' : St) (d ns n : Nat) (s : Shared) (r : Flow) (c : IT) (b : List IS) (m : Nat) (s' : Shared) : Prop :=
  m ≤ n ∧ ∃ st1 φ1 h1 tk1, s' = { s with heap := h1, toks := tk1 } ∧ evW Φ m d c b st1 = some (r, st') ∧ st1.sl.length = ns ∧ RelS fv base φ1 lay st1 h1 ∧ StepS φ st s.heap φ1 st1 h1
theorem winv_again {st1 s3 : St} {m : Nat} {φ1 φ3 : Nat → Addr} {h1 h3 : Heap} {tk3 : Nat} {r : Flow} {c : IT} {b : List IS} (hm : m + 1 ≤ n) (S1 : StepS φ st s.heap φ1 st1 h1) (R3 : RelS fv base φ3 lay s3 h3) (S13 : StepS φ1 st1 h1 φ3 s3 h3) (hl : s3.sl.length = ns)
    (hw : evW Φ m d c b (gc st1.ob.length s3) = some (r, st')) : ∃ m', m' < m + 1 ∧ WInv fv Φ base φ lay st st' d ns n s r c b m' { s with heap := h3, toks := tk3 } := by
  obtain ⟨R4, S4, _, hl4⟩ := gc_ok R3 S13.le S13 (Nat.le_refl _)
  exact ⟨m, Nat.lt_succ_self m, Nat.le_of_succ_le hm, _, φ3, h3, tk3, rfl, hw, hl4.trans hl, R4, S1.trans S4⟩
/-- a turn's end -/
theorem loop_ok {st1 s2 sb : St} {A' : Prop} {B B' : Prop} {f r : Flow} {fl : PySem.Flow} {φ1 φ3 : Nat → Addr} {h1 h3 : Heap} {tk3 : Nat} {Q : Result → Shared → Prop} (S1 : StepS φ st s.heap φ1 st1 h1) (R3 : RelS fv base φ3 lay s2 h3) (S3 : StepS φ1 st1 h1 φ3 s2 h3) (F : FlowR fv φ3 s2.ob.length h3 fl f)
    (L : LoopR A' r sb s2 st' f) (P : PostF fv base φ lay st st' r s (fun f s' => Q (.ok f) s')) (hb : sb = gc st1.ob.length s2 ∨ sb = s2) (k : A' → B) :
    match (generalizing := false) fl with | .next => B | .cont => B | .brk => Q (.ok .next) { s with heap := h3, toks := tk3 } | .ret v => Q (.ok (.ret v)) { s with heap := h3, toks := tk3 } := by
  induction F using FlowR.casesOn with
  | next => exact k L.next'
  | cont => exact k L.cont'
  | brk =>
    obtain ⟨rfl, rfl⟩ := L.brk'
    rcases hb with rfl | rfl
    · obtain ⟨R4, S4, _, _⟩ := gc_ok R3 S3.le S3 (Nat.le_refl _)
      exact P φ3 _ h3 tk3 R4 (S1.trans S4) .next
    · exact P φ3 _ h3 tk3 R3 (S1.trans S3) .next
  | ret V =>
    obtain ⟨rfl, rfl⟩ := L.ret'
    exact P φ3 _ h3 tk3 R3 (S1.trans S3) (.ret V)
/-- while -/
theorem whl_ok (Ht : ∀ m, m ≤ n → ST prog w fv Φ m) (Hss : ∀ m, m ≤ n → SSs prog w fv Φ m) {test : PySem.Expr} {body : List Stmt} {c : IT} {b : List IS} {r : Flow} {Q : Result → Shared → Prop} (Ct : CB N T ns test c) (Cb : CSs N T ns body b)
    (h : evW Φ n d c b st = some (r, st')) (hns : st.sl.length = ns) (X : Cx fv Φ base A env N T lay d ns) (R : RelS fv base φ lay st s.heap) (P : PostF fv base φ lay st st' r s (fun f s' => Q (.ok f) s')) :
    codeAny (model prog w) A (.whileLoop test body [] env) Q s := by
  refine codeAny_whileLoop (WInv fv Φ base φ lay st st' d ns n s r c b) ?_ n ⟨Nat.le_refl n, st, φ, s.heap, s.toks, rfl, h, hns, R, Step.refl ..⟩
  intro m s' I
  refine Classical.byContradiction fun no => ?_
  obtain ⟨hm, st1, φ1, h1, tk1, rfl, hw, hl, R1, S1⟩ := I
  refine no ?_
  cases m with
  | zero => exact nomatch hw
  | succ m =>
    exact evW_el hw fun x s2 e1 hw => Ht m (Nat.le_of_succ_le hm) Ct e1 hl X R1 fun φ2 h2 tk2 R2 S2 => by
      have hl2 := ((len_all (Φ := Φ) m).t _ _ _ _ _ e1).trans hl
      cases x with
      | false =>
        obtain ⟨rfl, rfl⟩ := hw.no
        have hle : st1.ob.length ≤ s2.ob.length := S2.le
        obtain ⟨R3, S3, _, _⟩ := gc_ok R2 hle S2 (Nat.le_refl _)
        exact wpAny_execs_nil (P φ2 _ h2 tk2 R3 (S1.trans S3) .next)
      | true =>
        exact hw.yes fun f s3 e2 L => Hss m (Nat.le_of_succ_le hm) Cb e2 hl2 X R2 fun φ3 fl h3 tk3 R3 S3 F3 =>
          (loop_ok (tk3 := tk3) (B' := True) S1 R3 (S2.trans S3) F3 L P (.inl rfl) fun hw => winv_again (tk3 := tk3) hm S1 R3 (S2.trans S3) (((len_all (Φ := Φ) m).ss _ _ _ _ _ e2).trans hl2) hw :)
theorem CT.isTup {te : PySem.Expr} {t : Tgt} (C : CT N T te t) : t.isTup = true → ∃ elts x1 pos, te = .Tuple elts x1 pos := fun h => by
  cases C with
  | name => cases h
  | tup => exact ⟨_, _, _, rfl⟩

/-- where a for stands -/
noncomputable def FInv (fv : Fn → Value) (Φ : Nat → Option FnI) (base : Heap) (φ : Nat → Addr) (lay : Nat → Loc) (st st' : St) (d ns n : Nat) (s : Shared) (r : Flow) (t : Tgt) (b o : List IS) (it m : Nat) (s' : Shared) : Prop :=
  m ≤ n ∧ ∃ st1 φ1 h1 tk1, s' = { s with heap := h1, toks := tk1 } ∧ evF Φ m d t b o it st1 = some (r, st') ∧ st1.sl.length = ns ∧ RelS fv base φ1 lay st1 h1 ∧ StepS φ st s.heap φ1 st1 h1
theorem finv_again {st1 s3 : St} {m it : Nat} {φ1 φ3 : Nat → Addr} {h1 h3 : Heap} {tk3 : Nat} {r : Flow} {t : Tgt} {b o : List IS} (hm : m + 1 ≤ n) (S1 : StepS φ st s.heap φ1 st1 h1) (R3 : RelS fv base φ3 lay s3 h3) (S13 : StepS φ1 st1 h1 φ3 s3 h3) (hl : s3.sl.length = ns)
    (hw : evF Φ m d t b o it (gc st1.ob.length s3) = some (r, st')) : ∃ m', m' < m + 1 ∧ FInv fv Φ base φ lay st st' d ns n s r t b o it m' { s with heap := h3, toks := tk3 } := by
  obtain ⟨R4, S4, _, hl4⟩ := gc_ok R3 S13.le S13 (Nat.le_refl _)
  exact ⟨m, Nat.lt_succ_self m, Nat.le_of_succ_le hm, _, φ3, h3, tk3, rfl, hw, hl4.trans hl, R4, S1.trans S4⟩
/-- for -/
theorem fr_ok (Hss : ∀ m, m ≤ n → SSs prog w fv Φ m) {target : PySem.Expr} {body orelse : List Stmt} {t : Tgt} {b o : List IS} {it : Nat} {r : Flow} {Q : Result → Shared → Prop} (Ct : CT N T target t) (Cb : CSs N T ns body b) (Co : CSs N T ns orelse o)
    (h : evF Φ n d t b o it st = some (r, st')) (hns : st.sl.length = ns) (hit : it < st.ob.length) (X : Cx fv Φ base A env N T lay d ns) (R : RelS fv base φ lay st s.heap) (P : PostF fv base φ lay st st' r s (fun f s' => Q (.ok f) s')) :
    codeAny (model prog w) A (.forLoop target (.ref (φ it)) body orelse env) Q s := by
  refine codeAny_forLoop_any (FInv fv Φ base φ lay st st' d ns n s r t b o it) ?_ n ⟨Nat.le_refl n, st, φ, s.heap, s.toks, rfl, h, hns, R, Step.refl ..⟩
  intro m s' I
  refine Classical.byContradiction fun no => ?_
  obtain ⟨hm, st1, φ1, h1, tk1, rfl, hw, hl, R1, S1⟩ := I
  refine no ?_
  rw [← S1.agr it hit]
  cases m with
  | zero => exact nomatch hw
  | succ m =>
    exact evF_el hw fun x s2 e1 hw => next_turn (s := { s with heap := h1, toks := tk1 }) (N := fun s₁ => wpAny _ _ _ _ _ s₁) (C := fun v s₁ => wpAny _ _ (assign target env v) _ _ s₁) X.room.hh Ct.isTup e1 R1 (by
      have hl2 := (nextI_len e1).trans hl
      cases x with
      | none => exact fun h2 tk2 R2 S2 => Hss m (Nat.le_of_succ_le hm) Co hw.no hl2 X R2 fun φ3 fl h3 tk3 R3 S3 F3 => P φ3 fl h3 tk3 R3 (S1.trans (S2.trans S3)) F3
      | some v =>
        exact fun u h2 tk2 R2 S2 V2 => hw.yes fun s3 f s4 e2 e3 L => assign_ok (s := { s with heap := h2, toks := tk2 }) X.room.hh X.env Ct e2 R2 V2 fun φ3 h3 tk3 R3 S3 => Hss m (Nat.le_of_succ_le hm) Cb e3 ((setT_len e2).trans hl2) X R3 fun φ4 fl h4 tk4 R4 S4 F4 =>
          (loop_ok (tk3 := tk4) (B' := True) S1 R4 (S2.trans (S3.trans S4)) F4 L P (.inr rfl) fun hw => finv_again (tk3 := tk4) hm S1 R4 (S2.trans (S3.trans S4)) (((len_all (Φ := Φ) m).ss _ _ _ _ _ e3).trans ((setT_len e2).trans hl2)) hw :))
theorem asg_one {te : PySem.Expr} {t : Tgt} {x : PV} {v : Value} {Q : PySem.Flow → Shared → Prop} (X : Cx fv Φ base A env N T lay d ns) (C : CT N T te t) (e : setT t x st = some st') (R : RelS fv base φ lay st s.heap) (V : VRS fv φ st s.heap v x)
    (P : PostF fv base φ lay st st' .next s Q) : wpAny (model prog w) A (assignAll v ((assignEach [te] env).map (·.2))) (fun _ => Q .next) E s := by
  have : (assignEach [te] env).map (·.2) = [assign te env] := by
    cases C <;> rfl
  rw [this]
  exact assign_ok (Q := fun _ => Q .next) X.room.hh X.env C e R V fun φ1 h1 tk1 R1 S1 => P φ1 .next h1 tk1 R1 S1 .next

/-- an item put in its place -/
theorem put_ok {l : Nat} {k : Int} {xs : List PV} {v : PV} {vl vi u : Value} {Q : Unit → Shared → Prop} (R : RelS fv base φ lay st s.heap) (eo : st.ob[l]? = some (.list xs)) (k0 : 0 ≤ k) (k1 : k.toNat < xs.length) (k2 : k < big) (Vl : VRS fv φ st s.heap vl (.ref l)) (Vi : VRS fv φ st s.heap vi (.int k))
    (U : VRS fv φ st s.heap u v) (P : ∀ h' tk, RelS fv base φ lay (setO st l (.list (xs.set k.toNat v))) h' → StepS φ st s.heap φ (setO st l (.list (xs.set k.toNat v))) h' → Q () { s with heap := h', toks := tk }) : wpAny (model prog w) A (setItem vl vi u) Q E s := by
  obtain ⟨rfl, hl⟩ := Vl.refv
  obtain ⟨t, rfl⟩ := Vi.intv
  obtain ⟨hb, us, ⟨c, L⟩, W⟩ := R.objs l _ eo
  have hlen2 := W.1
  unfold big at k2
  refine ki_setAt L k0 (by lia) (by rw [List.size_toArray]; lia) ?_
  have hs' := Heap.SameBut.update s.heap (φ l) (Obj.mapSeq (·.setIfInBounds k.toNat u))
  have q := PySem.IsL.update L (·.setIfInBounds k.toNat u)
  have S := R.step_upd eo (Nat.le_of_eq hs'.1.symm) hs'.extBut
  have R4 := R.upd (o' := .list (xs.set k.toNat v)) eo rfl hb (Nat.le_of_eq hs'.1.symm) hs'.extBut ⟨hb, us.set k.toNat u, ⟨_, by simpa using q⟩, (W.set U).step S⟩
  refine P _ s.toks R4 ?_
  show Step φ st.ob.length s.heap φ (st.ob.set l (.list (xs.set k.toNat v))).length _
  rw [List.length_set]; exact S
/-- a for's end -/
theorem frEnd_ok {st3 : St} {f r : Flow} {fl : PySem.Flow} {h3 : Heap} {tk3 : Nat} {Q : PySem.Flow → Shared → Prop} (R : RelS fv base φ' lay st3 h3) (S : StepS φ st s.heap φ' st3 h3) (F : FlowR fv φ' st3.ob.length h3 fl f) (q : xFr st.ob.length f st3 = (r, st')) (P : PostF fv base φ lay st st' r s Q) :
    Q fl { s with heap := h3, toks := tk3 } := by
  induction F using FlowR.casesOn with
  | ret V => cases q; exact P φ' _ h3 tk3 R S (.ret V)
  | next => cases q; obtain ⟨R4, S4, _, _⟩ := gc_ok R S.le S (Nat.le_refl _); exact P φ' _ h3 tk3 R4 S4 .next
  | brk => cases q; obtain ⟨R4, S4, _, _⟩ := gc_ok R S.le S (Nat.le_refl _); exact P φ' _ h3 tk3 R4 S4 .brk
  | cont => cases q; obtain ⟨R4, S4, _, _⟩ := gc_ok R S.le S (Nat.le_refl _); exact P φ' _ h3 tk3 R4 S4 .cont
theorem swaps_no {x : Str} {value : PySem.Expr} {t : Option PySem.Expr} {l : Nat} (X : Cx fv Φ base A env N T lay d ns) (hx : t = some (.Name x p)) (hs : N.lookup x ≠ some .local) : swapsWith value t l env = pure false := by
  subst hx
  have : (env.kindOf x == some .local) = false := by
    unfold Env.kindOf; rw [X.env.scope]; simpa using hs
  unfold swapsWith
  split
  · dsimp only
    rw [this]; simp
  · rfl
theorem kind_free {x : Str} (X : Cx fv Φ base A env N T lay d ns) (hf : N.lookup x ≠ some .free) : env.kindOf x ≠ some .free := by unfold Env.kindOf; rw [X.env.scope]; exact hf

theorem ss_succ (He : SE prog w fv Φ n) (Ht : ∀ m, m ≤ n → ST prog w fv Φ m) (Hss : ∀ m, m ≤ n → SSs prog w fv Φ m) (Hu : SComU prog w fv Φ (n + 1)) : SS prog w fv Φ (n + 1) := by
  have hlen := len_all (Φ := Φ) n
  have hn := Nat.le_refl n
  intro N T ns e a d st r st' base A env lay φ s Q E C
  induction C using CS.casesOn with
  | bad => exact fun h => (evS_bad h).elim
  | expr hc =>
    exact fun h hns X R P => evS_expr h fun v e1 q => wpAny_Expr_any (He hc e1 hns X R fun φ1 v1 h1 tk1 R1 S1 V1 => P φ1 .next h1 tk1 R1 S1 (q ▸ .next)) (by unfold interactive; rw [X.env.kind]; rfl)
  | asg hT hf hc hs =>
    rename_i x k a value pos p
    exact fun h hns X R P => evS_asg h fun y s1 e1 e2 q => wpAny_Assign_Name (He hc e1 hns X R fun φ1 v1 h1 tk1 R1 S1 V1 =>
      store_ok (s := { s with heap := h1, toks := tk1 }) X.env.kind (X.env.at_ _ _ hT) (kind_free X hf) e2 R1 V1 fun φ2 h2 tk2 R2 S2 => P φ2 .next h2 tk2 R2 (S1.trans S2) (q ▸ .next)) (hs.elim (fun hs => notComp hs _ _ _) fun hs => swaps_no X rfl hs)
  | asgComp hT hf hc hl hown => exact Hu hT hf hc hl hown
  | asgTup hT hc =>
    exact fun h hns X R P => evS_asg h fun y s1 e1 e2 q => wpAny_Assign_stores (He hc e1 hns X R fun φ1 v1 h1 tk1 R1 S1 V1 => asg_one (s := { s with heap := h1, toks := tk1 }) X (.tup hT) e2 R1 V1 (q ▸ P.trans S1)) rfl rfl
  | asgIdx ho hi hc hs =>
    exact fun h hns X R P => evS_asgIdx h fun v s1 l s2 j s3 xs e1 e2 e3 eo k0 k1 k2 q1 q2 => by
      have hl1 := (hlen.e _ _ _ _ _ e1).trans hns
      have hl2 := (hlen.e _ _ _ _ _ e2).trans hl1
      exact wpAny_Assign_Subscript (He hc e1 hns X R fun φ1 v1 h1 tk1 R1 S1 V1 => He ho e2 hl1 X R1 fun φ2 v2 h2 tk2 R2 S2 V2 => He hi e3 hl2 X R2 fun φ3 v3 h3 tk3 R3 S3 V3 =>
        put_ok (s := { s with heap := h3, toks := tk3 }) R3 eo k0 k1 k2 (V2.step S3) V3 (V1.step (S2.trans S3)) fun h' tk' R4 S4 => P φ3 .next _ tk' (q2 ▸ R4) (q2 ▸ ((S1.trans (S2.trans S3)).trans S4)) (q1 ▸ .next)) (notComp hs _ _ _)
  | aug hT hf h3 hc =>
    exact fun h hns X R P => evS_aug h fun p q z s1 e0 e1 hop e2 v e3 e4 qf => wpAny_AugAssign_Name (load_ok X.env.kind (X.env.at_ _ _ hT) h3 e0 R fun φ0 v0 h0 tk0 R0 S0 V0 => He hc e1 hns X R0 fun φ1 v1 h1 tk1 R1 S1 V1 => by
      obtain ⟨t, rfl⟩ := V0.intv
      obtain ⟨t', rfl⟩ := V1.intv
      exact inplace_ok (s := { s with heap := h1, toks := tk1 }) hop e2 fun t2 tk2 => store_ok (s := { s with heap := h1, toks := tk2 }) X.env.kind (X.env.at_ _ _ hT) (kind_free X hf) e4 R1 ((mkI_some e3).1 ▸ .int z t2) fun φ2 h2 tk2 R2 S2 => P φ2 .next h2 tk2 R2 (S0.trans (S1.trans S2)) (qf ▸ .next))
  | ife ht hb ho =>
    exact fun h hns X R P => evS_ife h fun c s1 e1 h => wpAny_If (Ht n hn ht e1 hns X R fun φ1 h1 tk1 R1 S1 => by
      cases c with
      | true => exact Hss n hn hb h ((hlen.t _ _ _ _ _ e1).trans hns) X R1 (P.trans S1)
      | false => exact Hss n hn ho h ((hlen.t _ _ _ _ _ e1).trans hns) X R1 (P.trans S1))
  | whl ht hb => exact fun h hns X R P => wpAny_While (whl_ok Ht Hss ht hb (evS_whl h) hns X R P)
  | fr ht hi hb ho =>
    exact fun h hns X R P => evS_fr h fun x s1 i s2 f s3 e1 e2 e3 q => wpAny_For (He hi e1 hns X R fun φ1 v1 h1 tk1 R1 S1 V1 => iter_ok (s := { s with heap := h1, toks := tk1 }) e2 R1 V1 fun φ2 h2 tk2 R2 S2 hit =>
      fr_ok (s := { s with heap := h2, toks := tk2 }) Hss ht hb ho e3 ((iterI_len e2).trans ((hlen.e _ _ _ _ _ e1).trans hns)) hit X R2 fun φ3 fl h3 tk3 R3 S3 F3 => frEnd_ok (s := s) R3 (S1.trans (S2.trans S3)) F3 q P) ((CE.notSet hi (not_bad e1)).2 _)
  | ret hc => exact fun h hns X R P => evS_ret h fun v e1 q => wpAny_Return_some (He hc e1 hns X R fun φ1 v1 h1 tk1 R1 S1 V1 => P φ1 _ h1 tk1 R1 S1 (q ▸ .ret V1))
  | brk => intro h hns X R P; obtain ⟨rfl, rfl⟩ := evS_brk h; exact wpAny_Break (P φ _ s.heap s.toks R (Step.refl ..) .brk)
  | cont => intro h hns X R P; obtain ⟨rfl, rfl⟩ := evS_cont h; exact wpAny_Continue (P φ _ s.heap s.toks R (Step.refl ..) .cont)
  | pass => intro h hns X R P; obtain ⟨rfl, rfl⟩ := evS_pass h; exact wpAny_Pass (P φ _ s.heap s.toks R (Step.refl ..) .next)
  | rd => exact fun h => (evS_rd h).elim
  | tr hb ho =>
    exact fun h hns X R P => evS_try h fun f s1 e1 T => wpAny_Try_except (Hss n hn hb e1 hns X R fun φ1 fl h1 tk1 R1 S1 F1 =>
      then_ok (B := fun s => wpAny _ _ _ _ _ s) R1 S1 F1 T P fun h => Hss n hn ho h ((hlen.ss _ _ _ _ _ e1).trans hns) X R1 (P.trans S1))
end Mine.Internal
end
section
open PySem PySem.W PyProof.Rows
namespace Mine.Internal
set_option linter.unusedSectionVars false
set_option linter.unusedVariables false
set_option maxRecDepth 100000
variable {prog : Program} {w : World} {fv : Fn → Value} {Φ : Nat → Option FnI}
variable {A : Around} {E : Value → Shared → Prop} {s : Shared} {φ φ' φ2 : Nat → Addr} {h h' base base' : Heap} {lay : Nat → Loc} {st st' st1 : St} {env : Env} {N : List (Str × NameKind)} {T : List (Str × Nat)} {d ns n m : Nat} {ob ob' ls : List PO} {ids : List Nat}

/-! a bigger heap of the module's -/
theorem IsTuple.stays {a : Addr} {vs : Array Value} (t : h.IsTuple a vs) (hk : h.StaysIn h') : h'.IsTuple a vs := let ⟨o, e, r⟩ := t; ⟨o, hk _ _ e, r⟩
theorem VR.mono {v : Value} {c : PV} (V : VR fv φ 0 base v c) (hk : base.StaysIn base') : VR fv φ 0 base' v c := V.heap fun a vs _ t => IsTuple.stays t hk
theorem CodeOk.mono {k np ns : Nat} {df : List PV} {body : List IS} (C : CodeOk fv base k np ns df body) (hk : base.StaysIn base') : CodeOk fv base' k np ns df body := by
  obtain ⟨f, o, fd, stmts, names, F⟩ := C
  obtain ⟨c, oc, vs, tq, b1, b2, b3, b4⟩ := F.ecd
  refine ⟨f, o, fd, stmts, names, { F with eo := hk _ _ F.eo, ecd := ⟨c, oc, vs, tq, b1, hk _ _ b2, b3, b4⟩, ebind := fun s vals hs h1 h2 => ?_ }⟩
  obtain ⟨dv, D, B⟩ := F.ebind s vals (fun b o e => hs b o (hk b o e)) h1 h2
  exact ⟨dv, ⟨D.1, fun i v x a b => (D.2 i v x a b).mono hk⟩, B⟩
theorem GlobOk.mono (G : GlobOk fv Φ base) (hk : base.StaysIn base') : GlobOk fv Φ base' := by
  obtain ⟨mg, mb, hg, hb, hn⟩ := G.names
  refine ⟨⟨mg, mb, hg.keeps hk, hb.keeps hk, fun x c e => ?_⟩, ?_, G.prims, G.nolimit.keeps hk, fun k F e => ?_, fun k np ns df body e => (G.code k np ns df body e).mono hk, G.read.mono hk, ?_⟩
  · obtain ⟨v, hv, V⟩ := hn x c e
    exact ⟨v, hv, V.mono hk⟩
  · obtain ⟨d, ed, T⟩ := G.flags
    exact ⟨d, ed, fun prog w => PyProof.Rows.KTD.tab_keep (T prog w) hk⟩
  · obtain ⟨f, o, fd, e1, e2, e3⟩ := G.isFn k F e
    exact ⟨f, o, fd, e1, hk _ _ e2, e3⟩
  · obtain ⟨mg, mb, h1, h2, h3, h4⟩ := G.stop
    exact ⟨mg, mb, h1.keeps hk, h2.keeps hk, h3, h4⟩

/-- a value without references of its own, in another frame -/
theorem VR.remap {v : Value} {x : PV} (V : VR fv φ n h v x) (hx : okV 0 x = true) (hk : ∀ a vs, Off φ n a → h.IsTuple a vs → h'.IsTuple a vs ∧ Off φ2 m a) : VR fv φ2 m h' v x := by
  induction V with
  | none => exact .none
  | bool b => exact .bool b
  | int i t => exact .int i t
  | str s t => exact .str s t
  | tup ht ho hl hp ih =>
    obtain ⟨k1, k2⟩ := hk _ _ ho ht
    replace hx : okVs _ _ = true := hx
    exact .tup k1 k2 hl fun i v x a b => ih i v x a b (okVs_get hx b)
  | ref i hi => exact absurd (Nat.le_of_ble_eq_true hx) (Nat.not_lt_zero _)
  | fn f => exact .fn f
theorem VRs.remap {vs : List Value} {xs : List PV} (W : VRs fv φ n h vs xs) (hx : okVs 0 xs = true) (hk : ∀ a vs, Off φ n a → h.IsTuple a vs → h'.IsTuple a vs ∧ Off φ2 m a) : VRs fv φ2 m h' vs xs :=
  ⟨W.1, fun i v x a b => (W.2 i v x a b).remap (okVs_get hx b) hk⟩

theorem bareO_some {o o' : PO} (e : bareO o = some o') : ∃ xs, o = .list xs ∧ o' = .list xs ∧ okVs 0 xs = true := by
  unfold bareO at e
  split at e
  · split at e
    · rename_i hx; cases e; exact ⟨_, rfl, rfl, hx⟩
    · cases e
  · cases e
theorem callOk_get : ∀ {ob : List PO}, callOk ob = true → ∀ {i : Nat} {o : PO}, ob[i]? = some o → o.live = true ∧ o.isZip = false
  | [], _, i, o, e => by simp at e
  | x :: r, hc, i, o, e => by
    have hr : callOk r = true ∧ x.live = true ∧ x.isZip = false := by cases x <;> first | exact ⟨hc, rfl, rfl⟩ | exact Bool.noConfusion hc
    cases i with
    | zero => simp at e; subst e; exact hr.2
    | succ i => simp at e; exact callOk_get hr.1 e
theorem addNew_nodup {i : Nat} {ids : List Nat} (h : ids.Nodup) : (addNew i ids).Nodup := by
  unfold addNew
  split
  · exact h
  · rename_i hn
    refine List.nodup_append.mpr ⟨h, by simp, fun a ha b hb => ?_⟩
    simp at hb; subst hb
    intro z; subst z
    exact hn (List.any_eq_true.mpr ⟨a, ha, Nat.beq_refl a⟩)
theorem refsIn_nodup (args : List PV) : ∀ {ids : List Nat}, ids.Nodup → (refsIn args ids).Nodup := by
  induction args with
  | nil => exact fun h => h
  | cons x r ih =>
    intro ids h
    cases x with
    | ref i => exact ih (addNew_nodup h)
    | _ => exact ih h
theorem place_get {i : Nat} : ∀ {ids : List Nat} {k : Nat}, place i ids = some k → ids[k]? = some i
  | [], k, e => by cases e
  | j :: r, k, e => by
    unfold place at e
    split at e
    · rename_i hq; cases e; simp [Nat.eq_of_beq_eq_true hq]
    · cases hp : place i r with
      | none => rw [hp] at e; cases e
      | some k' => rw [hp] at e; cases e; simpa using place_get hp

/-- a def of the text's own is called -/
theorem call_frame {R : Result → Shared → Prop} {a : Addr} {o : Obj} {fd : FuncData} {body : List Stmt} {vals : List Value} {binds : List (Str × Value)}
    (hroom : A.depth < recursionLimit) (ho : s.heap.get? a = some o) (hdata : o.data = .func fd) (hlim : s.heap.NoLimit) (hcd : s.heap.CodeRec fd.code fd.qualname)
    (hbody : fd.body = .stmts body) (hbind : BindsTo s fd ⟨vals, []⟩ binds) (hclo : fd.closure = [])
    (hkind : ∀ x ∈ binds, fd.scope.names.lookup x.1 = some .local ∨ (fd.scope.names.lookup x.1 = some .cell ∧ ((cellsFrom (s.heap.objs.size + 1) fd.scope.names []).lookup x.1).isSome = true))
    (h : ∀ s₁, InCallC s (callEnvC fd s.heap.objs.size a).locals (bindL (callEnvC fd s.heap.objs.size a).kindOf binds fun _ => none) (callEnvC fd s.heap.objs.size a).cells
        (bindC (callEnvC fd s.heap.objs.size a).kindOf binds fun _ => none) s₁ →
      wpAny (model prog w) (A.deeper (callEnvC fd s.heap.objs.size a)) (execs body (callEnvC fd s.heap.objs.size a)) (fun f s' => R (.ok (.ret (match f with | .ret v => v | _ => .none))) s')
        (fun e s' => wpAny (model prog w) (A.deeper (callEnvC fd s.heap.objs.size a)) (leaving (callEnvC fd s.heap.objs.size a) e) (fun _ s'' => R (.error e) s'') (fun e' s'' => R (.error e') s'') s') s₁)
    (hco : fd.scope.isCoroutine = false) (hgen : fd.scope.isGenerator = false) (hk : fd.scope.kind = .function) :
    codeAny (model prog w) A (.call (.ref a) ⟨vals, []⟩) R s := by
  refine codeAny_call_function hroom ho hdata hco hgen hbody hcd ?_
  rw [hclo]
  refine hbind _ _ _ _ (wpAny_newFunctionEnv_cells hk hkind fun env he s' x => ?_)
  subst he
  exact ⟨hlim.keeps x.toInCall.keep, codeAny_func (h s' x)⟩
end Mine.Internal
end
section
open PySem PySem.W PyProof.Rows
namespace Mine.Internal
set_option linter.unusedSectionVars false
set_option linter.unusedVariables false
set_option maxRecDepth 100000
variable {prog : Program} {w : World} {fv : Fn → Value} {Φ : Nat → Option FnI}
variable {A : Around} {E : Value → Shared → Prop} {s : Shared} {φ φ' φ2 : Nat → Addr} {h h' base base' : Heap} {lay : Nat → Loc} {st st' st1 : St} {env : Env} {N : List (Str × NameKind)} {T : List (Str × Nat)} {d ns n m : Nat} {ob ob' ls : List PO} {ids : List Nat}

theorem bindL_other {kf : Str → Option NameKind} {x : Str} : ∀ {binds : List (Str × Value)} {m : Str → Option Value}, x ∉ binds.map (·.1) → bindL kf binds m x = m x
  | [], m, _ => rfl
  | (y, v) :: r, m, hx => by
    simp only [List.map_cons, List.mem_cons, not_or] at hx
    unfold bindL
    rw [bindL_other hx.2]
    split
    · show (if x = y then some v else m x) = m x
      rw [if_neg hx.1]
    · rfl
theorem bindC_other {kf : Str → Option NameKind} {x : Str} : ∀ {binds : List (Str × Value)} {m : Str → Option Value}, x ∉ binds.map (·.1) → bindC kf binds m x = m x
  | [], m, _ => rfl
  | (y, v) :: r, m, hx => by
    simp only [List.map_cons, List.mem_cons, not_or] at hx
    unfold bindC
    rw [bindC_other hx.2]
    split
    · rfl
    · show (if x = y then some v else m x) = m x
      rw [if_neg hx.1]
theorem bindL_get {kf : Str → Option NameKind} {x : Str} {v : Value} (hk : kf x = some .local) : ∀ {binds : List (Str × Value)} {m : Str → Option Value}, (binds.map (·.1)).Nodup → (x, v) ∈ binds → bindL kf binds m x = some v
  | [], m, _, h => by cases h
  | (y, u) :: r, m, hn, h => by
    simp only [List.map_cons, List.nodup_cons] at hn
    unfold bindL
    rcases List.mem_cons.mp h with e | h
    · cases e
      rw [bindL_other hn.1, if_pos hk]
      exact if_pos rfl
    · exact bindL_get hk hn.2 h
theorem bindC_get {kf : Str → Option NameKind} {x : Str} {v : Value} (hk : kf x ≠ some .local) : ∀ {binds : List (Str × Value)} {m : Str → Option Value}, (binds.map (·.1)).Nodup → (x, v) ∈ binds → bindC kf binds m x = some v
  | [], m, _, h => by cases h
  | (y, u) :: r, m, hn, h => by
    simp only [List.map_cons, List.nodup_cons] at hn
    unfold bindC
    rcases List.mem_cons.mp h with e | h
    · cases e
      rw [bindC_other hn.1, if_neg hk]
      exact if_pos rfl
    · exact bindC_get hk hn.2 h

theorem enter_some {args : List PV} {vs : List PV} (e : enterObs args ob = some (ids, vs, ls)) : ids.Nodup ∧ mapO (toLocV ids) args = some vs ∧ ls.length = ids.length ∧
    ∀ (j i : Nat), ids[j]? = some i → ∃ xs : List PV, ob[i]? = some (PO.list xs) ∧ ls[j]? = some (PO.list xs) ∧ okVs 0 xs = true := by
  unfold enterObs at e
  simp only [Option.bind_eq_bind, Option.bind_eq_some_iff, Option.pure_def] at e
  obtain ⟨vs', e1, os, e2, ls', e3, e⟩ := e
  cases e
  refine ⟨refsIn_nodup args .nil, e1, ?_, fun j i hj => ?_⟩
  · rw [mapO_length e3]; exact mapO_length e2
  · obtain ⟨o, eo, ho⟩ := mapO_get e2 hj
    obtain ⟨o', eo', ho'⟩ := mapO_get e3 ho
    obtain ⟨xs, rfl, rfl, hx⟩ := bareO_some eo'
    exact ⟨xs, eo, ho', hx⟩

theorem lookup_ownT : ∀ {names : List Str} {k0 : Nat} {x : Str} {k : Nat}, (ownT k0 names).lookup x = some k → ∃ j, names[j]? = some x ∧ k = k0 + j
  | [], k0, x, k, e => by cases e
  | y :: r, k0, x, k, e => by
    unfold ownT at e
    rw [List.lookup_cons] at e
    split at e
    · rename_i hq
      cases e
      exact ⟨0, by simp at hq; simp [hq], by simp⟩
    · obtain ⟨j, h1, h2⟩ := lookup_ownT e
      exact ⟨j + 1, by simpa using h1, by lia⟩

/-- where a called def's names are kept -/
noncomputable def layF (N : List (Str × NameKind)) (L : Addr) (cells : List (Str × Addr)) (names : List Str) (k : Nat) : Loc := match names[k]? with
  | some x => if N.lookup x = some .local then .ns L x else .cell ((cells.lookup x).getD 0)
  | none => .ns L ""
noncomputable abbrev phiIn (φ : Nat → Addr) (ids : List Nat) : Nat → Addr := fun j => φ (ids.getD j 0)
theorem phiIn_get {j i : Nat} (e : ids[j]? = some i) : phiIn φ ids j = φ i := by
  show φ (ids.getD j 0) = φ i
  rw [List.getD_eq_getElem?_getD, e]; rfl

/-- tuples of the caller's, in the called def's frame -/
theorem enter_tups {sl : List (Option PV)} {s₁ : Shared} (hids : ∀ (j i : Nat), ids[j]? = some i → i < ob.length) (hk : s.heap.StaysIn s₁.heap) :
    ∀ a vs, Off φ ob.length a → s.heap.IsTuple a vs → s₁.heap.IsTuple a vs ∧ Off (phiIn φ ids) ids.length a := fun a vs ho t =>
  ⟨IsTuple.stays t hk, fun j hj => by
    have e : ids[j]? = some ids[j] := by simp [hj]
    rw [phiIn_get e]
    exact ho _ (hids j _ e)⟩

/-- a called def's frame, its objects told -/
theorem enter_rel2 {base2 : Heap} {φ2 : Nat → Addr} {ls : List PO} {s : Shared} {names : List Str} {NN : List (Str × NameKind)} {cells : List (Str × Addr)} {mm cm : Str → Option Value} {L : Addr} {s₁ : Shared} {sl2 : List (Option PV)}
    (hb : base2.StaysIn s.heap) (hL : L = s.heap.objs.size) (hnd : names.Nodup) (hkinds : ∀ x ∈ names, NN.lookup x = some .local ∨ NN.lookup x = some .cell)
    (hcells : ∀ x ∈ names, NN.lookup x = some .cell → ∃ c, cells.lookup x = some c) (X : InCallC s L mm cells cm s₁) (hsl : sl2.length = names.length)
    (hval : ∀ (k : Nat) (x : Str) (p : PV), names[k]? = some x → sl2[k]? = some (some p) → ∃ v, (NN.lookup x = some .local → mm x = some v) ∧ (NN.lookup x = some .cell → cm x = some v) ∧ VR fv φ2 ls.length s₁.heap v p)
    (hloc : ∃ x ∈ names, NN.lookup x = some .local) (objs : ∀ k o, ls[k]? = some o → Repr fv base2 φ2 ls.length s₁.heap k o) (inj : ∀ i j o o', ls[i]? = some o → ls[j]? = some o' → o.live = true → o'.live = true → φ2 i = φ2 j → i = j) :
    Rel fv base2 φ2 (layF NN L cells names) sl2 ls s₁.heap := by
  have hk : s.heap.StaysIn s₁.heap := X.toInCall.keep
  have noL : ∀ {b : Addr}, s.heap.objs.size ≤ b → base2.get? b = none := fun {b} hb' => by
    cases q : base2.get? b with
    | none => rfl
    | some o => exact absurd (Heap.lt_size (hb _ _ q)) (Nat.not_lt.mpr hb')
  have layAt : ∀ (k : Nat) (x : Str), names[k]? = some x → (NN.lookup x = some .local ∧ layF NN L cells names k = .ns L x) ∨ (NN.lookup x = some .cell ∧ ∃ c, cells.lookup x = some c ∧ layF NN L cells names k = .cell c ∧ L < c) := fun k x e => by
    have hx : x ∈ names := List.mem_of_getElem? e
    unfold layF
    rw [e]
    rcases hkinds x hx with h1 | h1
    · exact .inl ⟨h1, if_pos h1⟩
    · obtain ⟨c, hc⟩ := hcells x hx h1
      exact .inr ⟨h1, c, hc, (if_neg (by rw [h1]; decide)).trans (by rw [hc]; rfl), X.above x c (mem_of_lookup hc)⟩
  have nameAt : ∀ k : Nat, k < sl2.length → ∃ x, names[k]? = some x := fun k hk' => ⟨names[k]'(hsl ▸ hk'), by simp [hsl ▸ hk']⟩
  refine ⟨fun b o e => hk b o (hb _ _ e), fun k p e => ?_, fun k hk' => ?_, fun j k hj hk' q => ?_, objs, ?_, inj⟩
  · obtain ⟨x, ex⟩ := nameAt k (List.getElem?_eq_some_iff.mp e).1
    rcases layAt k x ex with ⟨h1, h2⟩ | ⟨h1, c, hc, h2, _⟩
    · rw [h2]
      cases p with
      | none => exact ⟨_, X.toInCall.ns⟩
      | some p =>
        obtain ⟨v, v1, _, V⟩ := hval k x p ex e
        exact ⟨_, X.toInCall.ns, v, v1 h1, V⟩
    · rw [h2]
      cases p with
      | none => exact ⟨_, X.cell x c hc⟩
      | some p =>
        obtain ⟨v, _, v2, V⟩ := hval k x p ex e
        have := X.cell x c hc
        rw [v2 h1] at this
        exact ⟨v, this, V⟩
  · obtain ⟨x, ex⟩ := nameAt k hk'
    rcases layAt k x ex with ⟨h1, h2⟩ | ⟨h1, c, hc, h2, hlc⟩
    · rw [h2]; exact noL (Nat.le_of_eq hL.symm)
    · rw [h2]; exact noL (Nat.le_of_lt (hL ▸ hlc))
  · obtain ⟨x, ex⟩ := nameAt j hj
    obtain ⟨y, ey⟩ := nameAt k hk'
    have same : x = y → j = k := fun z => by
      subst z
      exact (List.getElem?_inj (hsl ▸ hj) hnd).mp (ex.trans ey.symm)
    rcases layAt j x ex with ⟨h1, h2⟩ | ⟨h1, c, hc, h2, _⟩ <;> rcases layAt k y ey with ⟨h3, h4⟩ | ⟨h3, c', hc', h4, _⟩
    · rw [h2, h4] at q; cases q; exact same rfl
    · rw [h2, h4] at q; cases q
    · rw [h2, h4] at q; cases q
    · rw [h2, h4] at q; cases q
      exact same (name_of_addr X.apart (mem_of_lookup hc) (mem_of_lookup hc'))
  · obtain ⟨x, hx, h1⟩ := hloc
    obtain ⟨k, hk', e⟩ := List.getElem_of_mem hx
    have ex : names[k]? = some x := by simp [hk', e]
    rcases layAt k x ex with ⟨_, h2⟩ | ⟨h3, _⟩
    · exact ⟨k, sl2[k]'(hsl ▸ hk'), L, x, by simp [hsl, hk'], h2⟩
    · rw [h1] at h3; cases h3

end Mine.Internal
end
section
open PySem PySem.W PyProof.Rows
namespace Mine.Internal
set_option linter.unusedSectionVars false
set_option linter.unusedVariables false
set_option maxRecDepth 100000
variable {prog : Program} {w : World} {fv : Fn → Value} {Φ : Nat → Option FnI}
variable {A : Around} {E : Value → Shared → Prop} {s : Shared} {φ φ' φ2 φ3 : Nat → Addr} {h h' h3 base base' : Heap} {lay lay2 : Nat → Loc} {st st' st1 : St} {env : Env} {N : List (Str × NameKind)} {T : List (Str × Nat)} {d ns n m : Nat} {ob ob' ob1 ob3 ls : List PO} {ids : List Nat} {sl sl3 : List (Option PV)}

theorem putBack_get : ∀ {ids : List Nat} {os ob ob' : List PO}, ids.Nodup → (∀ i ∈ ids, i < ob.length) → putBack ids os ob = some ob' → ob'.length = ob.length ∧ (∀ i, i ∉ ids → ob'[i]? = ob[i]?) ∧
    ∀ (j i : Nat), ids[j]? = some i → ∃ xs : List PV, os[j]? = some (PO.list xs) ∧ okVs 0 xs = true ∧ ob'[i]? = some (PO.list xs)
  | [], os, ob, ob', _, _, e => by
    unfold putBack at e; cases e
    exact ⟨rfl, fun _ _ => rfl, fun j i h => by simp at h⟩
  | i0 :: r, [], ob, ob', _, _, e => by unfold putBack at e; cases e
  | i0 :: r, o :: os, ob, ob', hn, hl, e => by
    unfold putBack at e
    simp only [Option.bind_eq_bind, Option.bind_eq_some_iff] at e
    obtain ⟨o', e1, e⟩ := e
    obtain ⟨xs, rfl, rfl, hx⟩ := bareO_some e1
    have hn' := List.nodup_cons.mp hn
    obtain ⟨h1, h2, h3⟩ := putBack_get hn'.2 (fun i hi => by rw [List.length_set]; exact hl i (.tail _ hi)) e
    rw [List.length_set] at h1
    refine ⟨h1, fun i hi => ?_, fun j i hj => ?_⟩
    · simp only [List.mem_cons, not_or] at hi
      rw [h2 i hi.2, List.getElem?_set_ne (Ne.symm hi.1)]
    · cases j with
      | zero =>
        simp at hj; subst hj
        refine ⟨xs, rfl, hx, ?_⟩
        rw [h2 _ hn'.1, List.getElem?_set_self (hl _ (.head _))]
      | succ j =>
        simp at hj
        obtain ⟨ys, a, b, c⟩ := h3 j i hj
        exact ⟨ys, by simpa using a, b, c⟩

theorem leave_rel {r r' : PV} {args vs : List PV} {v : Value} {h1 : Heap} (R : Rel fv base φ lay sl ob h) (hc : callOk ob = true) (He : enterObs args ob = some (ids, vs, ls))
    (R3 : Rel fv (hideAll h (ids.map φ)) φ3 lay2 sl3 ob3 h3) (S3 : Step (phiIn φ ids) ls.length h1 φ3 ob3.length h3) (hsz : h.objs.size ≤ h3.objs.size) (hl : leaveObs ids r ob3 ob = some (r', ob')) (V : VR fv φ3 ob3.length h3 v r) :
    ∃ φ', Rel fv base φ' lay sl ob' h3 ∧ Step φ ob.length h φ' ob'.length h3 ∧ VR fv φ' ob'.length h3 v r' := by
  obtain ⟨hn, _, hlen, hob⟩ := enter_some He
  have hids : ∀ (j i : Nat), ids[j]? = some i → i < ob.length := fun j i e => by
    obtain ⟨xs, eo, _⟩ := hob j i e
    exact (List.getElem?_eq_some_iff.mp eo).1
  have hidm : ∀ i ∈ ids, i < ob.length := fun i hi => by
    obtain ⟨j, hj, e⟩ := List.getElem_of_mem hi
    exact hids j i (by simp [hj, e])
  have hidl : ∀ i ∈ ids, ∃ xs : List PV, ob[i]? = some (PO.list xs) := fun i hi => by
    obtain ⟨j, hj, e⟩ := List.getElem_of_mem hi
    obtain ⟨xs, eo, _⟩ := hob j i (by simp [hj, e])
    exact ⟨xs, eo⟩
  unfold leaveObs at hl
  simp only [Option.bind_eq_bind, Option.bind_eq_some_iff] at hl
  obtain ⟨ob1, e1, hl⟩ := hl
  obtain ⟨p1, p2, p3⟩ := putBack_get hn hidm e1
  have kept : ∀ b o, b ∉ ids.map φ → h.get? b = some o → h3.get? b = some o := fun b o hb e => R3.stays b o (hideAll_get _ e hb)
  have notHid : ∀ i, i < ob.length → i ∉ ids → φ i ∉ ids.map φ := fun i hi hni hm => by
    obtain ⟨i', hi', q⟩ := List.mem_map.mp hm
    have ei : ob[i]? = some ob[i] := by simp [hi]
    obtain ⟨xs, eo⟩ := hidl i' hi'
    have := R.inj i' i _ _ eo ei rfl (callOk_get hc ei).1 q
    subst this; exact hni hi'
  have offHid : ∀ a, Off φ ob.length a → a ∉ ids.map φ := fun a ho hm => by
    obtain ⟨i', hi', q⟩ := List.mem_map.mp hm
    exact ho i' (hidm i' hi') q
  have phi3 : ∀ (j i : Nat), ids[j]? = some i → φ3 j = φ i := fun j i e => by
    rw [S3.agr j (by rw [hlen]; exact (List.getElem?_eq_some_iff.mp e).1), phiIn_get e]
  have S : Step φ ob.length h φ ob.length h3 := ⟨Nat.le_refl _, hsz, fun _ _ => rfl, fun _ a b => absurd b (Nat.not_lt.mpr a), fun a vs ho ⟨o, e, r⟩ => ⟨o, kept a o (offHid a ho) e, r⟩⟩
  have base3 : ∀ b, (hideAll h (ids.map φ)).get? b = none → base.get? b = none := fun b e => by
    cases q : base.get? b with
    | none => rfl
    | some o =>
      have hb : b ∉ ids.map φ := fun hm => by
        obtain ⟨i', hi', q'⟩ := List.mem_map.mp hm
        obtain ⟨xs, eo⟩ := hidl i' hi'
        obtain ⟨hb, _⟩ := R.objs _ _ eo
        rw [q', q] at hb; cases hb
      rw [hideAll_get _ (R.stays b o q) hb] at e; cases e
  have inIds : ∀ (j i : Nat), ids[j]? = some i → ∃ (xs : List PV) (us : List Value), ob1[i]? = some (PO.list xs) ∧ okVs 0 xs = true ∧ h3.PlainList (φ i) (List.toArray us) ∧ VRs fv φ3 ob3.length h3 us xs := fun j i e => by
    obtain ⟨xs, a, b, c⟩ := p3 j i e
    obtain ⟨_, us, L, W⟩ := R3.objs j _ a
    rw [phi3 j i e] at L
    exact ⟨xs, us, c, b, L, W⟩
  have nonTuple : ∀ i, i < ob.length → ∀ vs, ¬ h3.IsTuple (φ i) vs := fun i hi => by
    by_cases hm : i ∈ ids
    · obtain ⟨j, hj, e⟩ := List.getElem_of_mem hm
      obtain ⟨xs, us, _, _, ⟨c, L⟩, _⟩ := inIds j i (by simp [hj, e])
      exact not_tuple_of L (by simp)
    · have ei : ob[i]? = some ob[i] := by simp [hi]
      obtain ⟨x, ex, hx⟩ := (R.objs i _ ei).get (callOk_get hc ei).1
      exact not_tuple_of (kept _ _ (notHid i hi hm) ex) hx
  have offAll : ∀ a vs, h3.IsTuple a vs → Off φ ob.length a := fun a vs t i hi q => nonTuple i hi vs (q ▸ t)
  have R1 : Rel fv base φ lay sl ob1 h3 := by
    refine ⟨fun b o e => ?_, fun k p e => ?_, R.slnew, R.sldist, fun i o e => ?_, R.home, fun i j o o' e1 e2 l1 l2 q => ?_⟩
    · refine kept b o (fun hm => ?_) (R.stays b o e)
      obtain ⟨i', hi', q'⟩ := List.mem_map.mp hm
      obtain ⟨xs, eo⟩ := hidl i' hi'
      obtain ⟨hb, _⟩ := R.objs _ _ eo
      rw [q', e] at hb; cases hb
    · have hat : (lay k).at ∉ ids.map φ := fun hm => by
        obtain ⟨i', hi', q'⟩ := List.mem_map.mp hm
        obtain ⟨xs, eo⟩ := hidl i' hi'
        exact slot_ne_obj (R.slots k p e) (R.objs _ _ eo) rfl q'.symm
      have X := R.slots k p e
      rw [p1]
      cases hl : lay k with
      | ns L x =>
        rw [hl] at X hat
        have kn : ∀ {m}, h.Ns L m → h3.Ns L m := fun {m} ⟨o, es, ep, ho, r⟩ => ⟨o, es, ep, kept _ _ hat ho, r⟩
        cases p with
        | none => obtain ⟨m, hm⟩ := X; exact ⟨m, kn hm⟩
        | some p => obtain ⟨m, hm, v, ev, V⟩ := X; exact ⟨m, kn hm, v, ev, V.step S⟩
      | cell c =>
        rw [hl] at X hat
        cases p with
        | none => obtain ⟨v, o, ho, r⟩ := X; exact ⟨v, o, kept _ _ hat ho, r⟩
        | some p => obtain ⟨v, ⟨o, ho, r⟩, V⟩ := X; exact ⟨v, ⟨o, kept _ _ hat ho, r⟩, V.step S⟩
    · rw [p1]
      have hi : i < ob.length := p1 ▸ (List.getElem?_eq_some_iff.mp e).1
      by_cases hm : i ∈ ids
      · obtain ⟨j, hj, ej⟩ := List.getElem_of_mem hm
        have ej' : ids[j]? = some i := by simp [hj, ej]
        obtain ⟨xs, us, a, b, L, W⟩ := inIds j i ej'
        rw [a] at e; cases e
        obtain ⟨ys, eo⟩ := hidl i hm
        obtain ⟨hb, _⟩ := R.objs _ _ eo
        exact ⟨hb, us, L, W.remap b fun a vs _ t => ⟨t, offAll a vs t⟩⟩
      · rw [p2 i hm] at e
        have X := R.objs i o e
        have hk : ∀ x, h.get? (φ i) = some x → h3.get? (φ i) = some x := fun x ex => kept _ _ (notHid i hi hm) ex
        have hcl := callOk_get hc e
        cases o with
        | list xs => obtain ⟨b, us, ⟨c, L⟩, W⟩ := X; exact ⟨b, us, ⟨c, hk _ L⟩, W.step S⟩
        | ro xs => obtain ⟨b, us, ⟨x, L, r⟩, W⟩ := X; exact ⟨b, us, ⟨x, hk _ L, r⟩, W.step S⟩
        | range a b c => obtain ⟨b', f, t, u, v, I⟩ := X; exact ⟨b', f, t, u, v, hk _ I⟩
        | rangeIter a b c => obtain ⟨b', I⟩ := X; exact ⟨b', hk _ I⟩
        | listIter l k => obtain ⟨b', l', x, I, r⟩ := X; exact ⟨b', l', x, hk _ I, r⟩
        | tupIter xs k =>
          obtain ⟨b', t, us, ⟨x, I, r⟩, ⟨y, J, r2⟩, O, W⟩ := X
          exact ⟨b', t, us, ⟨x, hk _ I, r⟩, ⟨y, kept _ _ (offHid t O) J, r2⟩, O, W.step S⟩
        | enum a b => obtain ⟨b', l', old, I⟩ := X; exact ⟨b', l', old, hk _ I⟩
        | zip a b => exact absurd hcl.2 (fun h => Bool.noConfusion h)
        | dead => exact absurd hcl.1 (fun h => Bool.noConfusion h)
    · have live : ∀ (i : Nat) (o : PO), ob1[i]? = some o → ∃ o0, ob[i]? = some o0 ∧ o0.live = true := fun i o e => by
        have hi : i < ob.length := p1 ▸ (List.getElem?_eq_some_iff.mp e).1
        have ei : ob[i]? = some ob[i] := by simp [hi]
        exact ⟨_, ei, (callOk_get hc ei).1⟩
      obtain ⟨a, a1, a2⟩ := live i o e1
      obtain ⟨b, b1, b2⟩ := live j o' e2
      exact R.inj i j a b a1 b1 a2 b2 q
  have plain : ∀ {x : PV}, okV 0 x = true → ∀ {u : Value}, VR fv φ3 ob3.length h3 u x → VR fv φ ob1.length h3 u x := by
    intro x hx u V
    rw [p1]; exact V.remap hx fun a vs _ t => ⟨t, offAll a vs t⟩
  have S1 : Step φ ob.length h φ ob1.length h3 := by rw [p1]; exact S
  split at hl
  · rename_i j
    split at hl
    · rename_i hj
      have hj := Nat.le_of_ble_eq_true hj
      split at hl
      · rename_i xs ej
        split at hl
        · rename_i hx
          cases hl
          obtain ⟨rfl, hjl⟩ := V.refv
          obtain ⟨hb, us, ⟨c, L⟩, W⟩ := R3.objs j _ ej
          have hnt : ∀ vs, ¬ h3.IsTuple (φ3 j) vs := not_tuple_of L (by simp)
          have S2 : Step φ ob1.length h3 (Rel.at_ φ ob1.length (φ3 j)) (ob1.length + 1) h3 := by
            refine ⟨Nat.le_succ _, Nat.le_refl _, fun i hi => Rel.at_lt hi, fun i a b c' vs _ t q => ?_, fun _ _ _ t => t⟩
            have : i = ob1.length := by lia
            subst this
            rw [Rel.at_self] at q
            exact hnt vs (q ▸ t)
          have hlen1 : (ob1 ++ [PO.list xs]).length = ob1.length + 1 := by simp
          obtain ⟨R2, _⟩ := R1.adopt (a := φ3 j) (o := .list xs) (fun k x ek hl' q => by
            by_cases hm : k ∈ ids
            · obtain ⟨j', hj', e'⟩ := List.getElem_of_mem hm
              have ej' : ids[j']? = some k := by simp [hj', e']
              obtain ⟨xs', a, _⟩ := p3 j' k ej'
              have := R3.inj j' j _ _ a ej rfl rfl ((phi3 j' k ej').trans q)
              lia
            · rw [p2 k hm] at ek
              obtain ⟨y, ey, _⟩ := (R.objs k x ek).get hl'
              have hk : k < ob.length := (List.getElem?_eq_some_iff.mp ek).1
              have := hideAll_get _ ey (notHid k hk hm)
              rw [q, hb] at this; cases this) hnt ⟨by rw [Rel.at_self]; exact base3 _ hb, us, ⟨c, by rw [Rel.at_self]; exact L⟩, W.remap hx fun a vs _ t => ⟨t, fun i hi q => by
                by_cases h' : i < ob1.length
                · rw [Rel.at_lt h'] at q; exact offAll a vs t i (p1 ▸ h') q
                · have : i = ob1.length := by lia
                  subst this
                  rw [Rel.at_self] at q
                  exact hnt vs (q ▸ t)⟩⟩
          refine ⟨_, R2, by rw [hlen1]; exact S1.trans S2, ?_⟩
          have := VR.ref (fv := fv) (φ := Rel.at_ φ ob1.length (φ3 j)) (n := (ob1 ++ [PO.list xs]).length) (h := h3) ob1.length (by simp)
          rw [Rel.at_self] at this
          rw [← p1]; exact this
        · cases hl
      · cases hl
    · cases hl
  · split at hl
    · rename_i hx
      cases hl
      exact ⟨φ, R1, S1, plain hx V⟩
    · cases hl
end Mine.Internal
end
section
open PySem PySem.W PyProof.Rows
namespace Mine.Internal
set_option linter.unusedSectionVars false
set_option linter.unusedVariables false
set_option maxRecDepth 100000
variable {prog : Program} {w : World} {fv : Fn → Value} {Φ : Nat → Option FnI}
variable {A : Around} {E : Value → Shared → Prop} {s : Shared} {φ φ' φ2 φ3 : Nat → Addr} {h h' h3 base base' : Heap} {lay lay2 : Nat → Loc} {st st' st1 : St} {env : Env} {N : List (Str × NameKind)} {T : List (Str × Nat)} {d ns n m : Nat} {ob ob' ob1 ob3 ls : List PO} {ids : List Nat} {sl sl3 : List (Option PV)}

theorem VR.ok0 {v : Value} {x : PV} (V : VR fv φ 0 h v x) : okV 0 x = true := by
  induction V with
  | none => rfl
  | bool b => rfl
  | int i t => rfl
  | str s t => rfl
  | tup ht ho hl hp ih =>
    rename_i a vs xs
    show okVs 0 _ = true
    refine okVs_of fun y hy => ?_
    obtain ⟨j, hj, e⟩ := List.getElem_of_mem hy
    exact ih j (vs[j]'(hl ▸ hj)) y (by simp [hl ▸ hj]) (by simp [hj, e])
  | ref i hi => exact absurd hi (Nat.not_lt_zero _)
  | fn f => rfl

theorem toLoc_ok {v : Value} {x y : PV} {s₁ : Shared} (V : VR fv φ ob.length h v x) (e : toLocV ids x = some y) (hk : ∀ a vs, Off φ ob.length a → h.IsTuple a vs → s₁.heap.IsTuple a vs ∧ Off (phiIn φ ids) ids.length a) :
    VR fv (phiIn φ ids) ids.length s₁.heap v y := by
  have other : okV 0 x = true → x = y → VR fv (phiIn φ ids) ids.length s₁.heap v y := fun h1 h2 => by subst h2; exact V.remap h1 hk
  cases x with
  | ref i =>
    obtain ⟨rfl, hi⟩ := V.refv
    cases hp : place i ids with
    | none => simp [toLocV, hp] at e
    | some k =>
      simp [toLocV, hp] at e
      subst e
      have hg := place_get hp
      rw [← phiIn_get (φ := φ) hg]
      exact .ref k (List.getElem?_eq_some_iff.mp hg).1
  | _ =>
    simp only [toLocV] at e
    split at e
    · rename_i ho; cases e; exact other ho rfl
    · cases e

theorem locs_ok {vs : List Value} {xs ys : List PV} {s₁ : Shared} (W : VRs fv φ ob.length h vs xs) (e : mapO (toLocV ids) xs = some ys) (hk : ∀ a vs, Off φ ob.length a → h.IsTuple a vs → s₁.heap.IsTuple a vs ∧ Off (phiIn φ ids) ids.length a) :
    VRs fv (phiIn φ ids) ids.length s₁.heap vs ys := by
  refine ⟨by rw [mapO_length e]; exact W.1, fun i v y a b => ?_⟩
  have hi : i < xs.length := by rw [← W.1]; exact (List.getElem?_eq_some_iff.mp a).1
  have ex : xs[i]? = some xs[i] := by simp [hi]
  obtain ⟨z, ez, hz⟩ := mapO_get e ex
  rw [b] at hz; cases hz
  exact toLoc_ok (W.2 i v _ a ex) ez hk
end Mine.Internal
end
section
open PySem PySem.W PyProof.Rows
namespace Mine.Internal
set_option linter.unusedSectionVars false
set_option linter.unusedVariables false
set_option maxRecDepth 100000
variable {prog : Program} {w : World} {fv : Fn → Value} {Φ : Nat → Option FnI}

/-- the functions that are told by what they do -/
noncomputable def SpecOk (prog : Program) (w : World) (fv : Fn → Value) (Φ : Nat → Option FnI) : Prop := ∀ {d k args ob F r ob' base A lay sl φ s vs Q E ids ys ls ls' r0}, Φ k = some (.spec F) → callOk ob = true → enterObs args ob = some (ids, ys, ls) → F ys ls = some (r0, ls') → leaveObs ids r0 ls' ob = some (r, ob') →
  d + 1 = topD → Room (d + 1 + 1) A → GlobOk fv Φ base → Fra A base lay (List.length sl) (d + 1) → Rel fv base φ lay sl ob s.heap →
  VRs fv φ ob.length s.heap vs args → Post fv base φ lay ⟨sl, ob⟩ ⟨sl, ob'⟩ r s Q → wpAny (model prog w) A (call (fv (.user k)) vs) Q E s

theorem layF_loc {N : List (Str × NameKind)} {L : Nat} {cells : List (Str × Addr)} {names : List Str} {k : Nat} {x : Str} (ex : names[k]? = some x) (h : N.lookup x = some .local) : layF N L cells names k = .ns L x := by
  unfold layF; rw [ex]; exact if_pos h
theorem layF_cell {N : List (Str × NameKind)} {L c : Nat} {cells : List (Str × Addr)} {names : List Str} {k : Nat} {x : Str} (ex : names[k]? = some x) (h : N.lookup x = some .cell) (hc : cells.lookup x = some c) : layF N L cells names k = .cell c := by
  unfold layF; rw [ex]; exact (if_neg (by rw [h]; decide)).trans (by rw [hc]; rfl)

theorem layF_at {fd : FuncData} {f n : Nat} {names : List Str} (hk : ∀ x ∈ names, fd.scope.names.lookup x = some .local ∨ fd.scope.names.lookup x = some .cell) {k : Nat} {x : Str} (ex : names[k]? = some x) :
    At (callEnvC fd n f) (layF fd.scope.names n (callEnvC fd n f).cells names) x k := by
  rcases hk x (List.mem_of_getElem? ex) with h1 | h1
  · exact .loc h1 (layF_loc ex h1)
  · obtain ⟨c, hc'⟩ := Option.isSome_iff_exists.mp (cellsFrom_some (x := x) fd.scope.names (n + 1) [] (.inl h1))
    exact .cell c h1 hc' (layF_cell ex h1 hc')

theorem slots_get {xs : List PV} {m k : Nat} {p : PV} (ep : (xs.map some ++ List.replicate m none)[k]? = some (some p)) : xs[k]? = some p := by
  refine Classical.byContradiction fun no => ?_
  rcases Nat.lt_or_ge k xs.length with hk | hk
  · rw [List.getElem?_append_left (by rw [List.length_map]; exact hk), List.getElem?_map, List.getElem?_eq_getElem hk] at ep
    exact no ((List.getElem?_eq_getElem hk).trans (Option.some.inj ep))
  · rw [List.getElem?_append_right (by rw [List.length_map]; exact hk), List.getElem?_replicate] at ep
    split at ep <;> cases ep

theorem zip_get {names : List Str} {va : List Value} {np k : Nat} {x : Str} {v : Value} (hk : k < np) (ex : names[k]? = some x) (ev : va[k]? = some v) : (x, v) ∈ (names.take np).zip va :=
  List.mem_of_getElem? (i := k) (List.getElem?_zip_eq_some.mpr ⟨(List.getElem?_take_of_lt hk).trans ex, ev⟩)

theorem zip_keys {names : List Str} {va : List Value} {np : Nat} (h : va.length = np) : ((names.take np).zip va).map (·.1) = names.take np := by
  rw [List.map_fst_zip]; rw [List.length_take, h]; exact Nat.min_le_left _ _

theorem code_vals {fd : FuncData} {f n0 n np m k : Nat} {names : List Str} {xs : List PV} {va : List Value} {φ : Nat → Addr} {h : Heap} {x : Str} {p : PV} (hl : xs.length = np) (W : VRs fv φ n h va xs) (end_ : names.Nodup)
    (ex : names[k]? = some x) (ep : (xs.map some ++ List.replicate m none)[k]? = some (some p)) : ∃ v, (fd.scope.names.lookup x = some .local → bindL (callEnvC fd n0 f).kindOf ((names.take np).zip va) (fun _ => none) x = some v) ∧
      (fd.scope.names.lookup x = some .cell → bindC (callEnvC fd n0 f).kindOf ((names.take np).zip va) (fun _ => none) x = some v) ∧ VR fv φ n h v p := by
  have e := slots_get ep
  obtain ⟨v, ev, V⟩ := W.get e
  have hm := zip_get (hl ▸ (List.getElem?_eq_some_iff.mp e).1) ex ev
  have hnk : (((names.take np).zip va).map (·.1)).Nodup := by rw [zip_keys (W.1.trans hl)]; exact List.Nodup.sublist (List.take_sublist _ _) end_
  exact ⟨v, fun h1 => bindL_get h1 hnk hm, fun h1 => bindC_get (by show fd.scope.names.lookup x ≠ _; rw [h1]; decide) hnk hm, V⟩

/-- a def of the text's own is called: what its frame holds -/
theorem code_frame {d k np ns : Nat} {df ys : List PV} {body : List IS} {base base2 : Heap} {ls : List PO} {φ2 : Nat → Addr} {vs : List Value} {s : Shared} {A : Around} {R : Result → Shared → Prop} {fvC : Fn → Value}
    (C : CodeOk fvC base k np ns df body) (hst : base.StaysIn s.heap) (hlim : s.heap.NoLimit) (hR : Room (d + 1 + 1) A) (G : GlobOk fv Φ base2) (hb2 : base2.StaysIn s.heap) (hd : d ≤ topD) (htop : d = topD → A.frames = some [])
    (hyl : ys.length = vs.length) (hlen : (ys ++ df.drop (ys.length + df.length - np)).length = np) (hnp : np ≤ ns) (W : ∀ h1, s.heap.StaysIn h1 → VRs fv φ2 ls.length h1 vs ys)
    (D : ∀ h1 dv, s.heap.StaysIn h1 → VRs fvC (fun _ => 0) 0 base dv (df.drop (ys.length + df.length - np)) → VRs fv φ2 ls.length h1 dv (df.drop (ys.length + df.length - np)))
    (objs : ∀ h1, s.heap.StaysIn h1 → ∀ k o, ls[k]? = some o → Repr fv base2 φ2 ls.length h1 k o) (inj : ∀ i j o o', ls[i]? = some o → ls[j]? = some o' → o.live = true → o'.live = true → φ2 i = φ2 j → i = j)
    (K : ∀ {env : Env} {stmts : List Stmt} {N : List (Str × NameKind)} {T : List (Str × Nat)} {lay2 : Nat → Loc} {h1 : Heap} {tk1 : Nat}, CSs N T ns stmts body → Cx fv Φ base2 (A.deeper env) env N T lay2 d ns →
      Rel fv base2 φ2 lay2 ((ys ++ df.drop (ys.length + df.length - np)).map some ++ List.replicate (ns - np) none) ls h1 → s.heap.objs.size ≤ h1.objs.size → env.frame = some s.heap.objs.size → (∃ k x, k < ns ∧ lay2 k = .ns s.heap.objs.size x) →
      wpAny (model prog w) (A.deeper env) (execs stmts env) (fun f s' => R (.ok (.ret (match f with | .ret v => v | _ => .none))) s')
        (fun e s' => wpAny (model prog w) (A.deeper env) (leaving env e) (fun _ s'' => R (.error e) s'') (fun e' s'' => R (.error e') s'') s') { s with heap := h1, toks := tk1 }) :
    ∃ fa, fvC (.user k) = .ref fa ∧ codeAny (model prog w) A (.call (.ref fa) ⟨vs, []⟩) R s := by
  obtain ⟨f, o, fd, stmts, names, C⟩ := C
  refine ⟨f, C.ef, ?_⟩
  have ek := C.ek
  have enl := C.enl
  have ekinds := C.ekinds
  rw [List.length_append] at hlen
  have hys : vs.length ≤ np := hyl ▸ hlen ▸ Nat.le_add_right _ _
  have hdf : np ≤ vs.length + df.length := by
    rw [← hyl, ← hlen, List.length_drop]
    exact Nat.add_le_add_left (Nat.sub_le _ _) _
  rw [← List.length_append] at hlen
  obtain ⟨dv, Dv, B⟩ := C.ebind s vs hst hys hdf
  rw [← hyl] at Dv
  have hdl : (vs ++ dv).length = np := by
    rw [List.length_append, Dv.1, ← hyl, ← List.length_append]; exact hlen
  refine call_frame (Nat.lt_trans (Nat.lt_of_le_of_lt (Nat.le_add_right _ _) hR.depth) (by decide)) (hst _ _ C.eo) C.ed hlim ?_ C.eb B C.ecl (fun x hx => ?_) (fun s₁ X => ?_) C.eco C.eg ek
  · obtain ⟨c, oc, vs', tq, b1, b2, b3, b4⟩ := C.ecd
    exact ⟨c, oc, vs', tq, b1, hst _ _ b2, b3, b4⟩
  · have hm : x.1 ∈ names := List.mem_of_mem_take (i := np) (zip_keys (names := names) hdl ▸ List.mem_map_of_mem hx)
    exact (ekinds _ hm).imp id fun h1 => ⟨h1, cellsFrom_some _ _ _ (.inl h1)⟩
  · have hk := X.toInCall.keep
    obtain ⟨x, hx, h1⟩ := C.eloc
    obtain ⟨j, hj, e⟩ := List.getElem_of_mem hx
    have hlx := layF_loc (L := s.heap.objs.size) (cells := (callEnvC fd s.heap.objs.size f).cells) (List.getElem?_eq_some_iff.mpr ⟨hj, e⟩) h1
    have hT : ∀ (x : Str) (k : Nat), (ownT 0 names).lookup x = some k → names[k]? = some x := fun x k e => by
      obtain ⟨j, hj, rfl⟩ := lookup_ownT e
      rw [Nat.zero_add]; exact hj
    have R2 := enter_rel2 (NN := fd.scope.names) hb2 rfl C.end_ ekinds (fun x hx h1 => Option.isSome_iff_exists.mp (cellsFrom_some _ _ _ (.inl h1))) X (by rw [List.length_append, List.length_map, hlen, List.length_replicate, enl, Nat.add_sub_cancel' hnp])
      (fun k x p ex ep => code_vals (m := ns - np) hlen ((W _ hk).append (D _ _ hk Dv)) C.end_ ex ep) ⟨x, hx, h1⟩ (objs _ hk) inj
    have hsz : s.heap.objs.size ≤ s₁.heap.objs.size := by
      obtain ⟨oL, es, ep, hL, _⟩ := X.toInCall.ns
      exact Nat.le_of_lt (Heap.lt_size hL)
    obtain ⟨h0, tk0, rfl⟩ := X.toInCall.same
    refine K C.eCS ⟨⟨hR.hh, ?_, ?_⟩, ⟨rfl, ek, C.egl, C.ebl, fun x k e => layF_at ekinds (hT x k e)⟩, G, ⟨hd, fun q => ⟨callEnvC fd s.heap.objs.size f, j, s.heap.objs.size, x, ?_, by show fd.scope.kind ≠ _; rw [ek]; decide, rfl, hlx, enl ▸ hj⟩⟩,
      fun x k e => enl ▸ (List.getElem?_eq_some_iff.mp (hT x k e)).1⟩ R2 hsz rfl ⟨j, x, enl ▸ hj, hlx⟩
    · show A.depth + 1 + (d + 1) < 600
      exact Nat.lt_of_le_of_lt (Nat.le_of_eq (by rw [Nat.add_right_comm]; rfl)) hR.depth
    · show A.units + 3 + 8 * (d + 1) < 5000
      exact Nat.lt_of_le_of_lt (by rw [Nat.add_right_comm]; exact Nat.add_le_add_left (by decide : 3 ≤ 8) _) hR.units
    · show A.frames.map _ = _; rw [htop q]; rfl

theorem enter_hide {ids : List Nat} {ob ls : List PO} {base h : Heap} {φ : Nat → Addr} {lay : Nat → Loc} {sl : List (Option PV)} (R : Rel fv base φ lay sl ob h) (hob : ∀ (j i : Nat), ids[j]? = some i → ∃ xs : List PV, ob[i]? = some (PO.list xs) ∧ ls[j]? = some (PO.list xs) ∧ okVs 0 xs = true) :
    base.StaysIn (hideAll h (ids.map φ)) := fun b o e => hideAll_get _ (R.stays b o e) fun hm => by
  obtain ⟨i, hi, q⟩ := List.mem_map.mp hm
  obtain ⟨j, hj, ej⟩ := List.getElem_of_mem hi
  obtain ⟨xs, eo', _⟩ := hob j i (List.getElem?_eq_some_iff.mpr ⟨hj, ej⟩)
  obtain ⟨hb, _⟩ := R.objs _ _ eo'
  rw [q, e] at hb; cases hb

/-- and its objects are the caller's, hidden from it while it runs -/
theorem call_enter {d k np ns : Nat} {df : List PV} {body : List IS} {args ys : List PV} {ob ls : List PO} {ids : List Nat} {base : Heap} {A : Around} {lay : Nat → Loc} {sl : List (Option PV)} {φ : Nat → Addr} {s : Shared} {vs : List Value} {Q E : Value → Shared → Prop}
    (C : CodeOk fv base k np ns df body) (hc : callOk ob = true) (He : enterObs args ob = some (ids, ys, ls)) (hlen : (ys ++ df.drop (ys.length + df.length - np)).length = np) (hnp : np ≤ ns)
    (hR : Room (d + 1 + 1) A) (G : GlobOk fv Φ base) (hd : d + 1 ≤ topD) (R : Rel fv base φ lay sl ob s.heap) (W : VRs fv φ ob.length s.heap vs args)
    (K : ∀ {env : Env} {stmts : List Stmt} {N : List (Str × NameKind)} {T : List (Str × Nat)} {lay2 : Nat → Loc} {h1 : Heap} {tk1 : Nat}, CSs N T ns stmts body → Cx fv Φ (hideAll s.heap (ids.map φ)) (A.deeper env) env N T lay2 d ns →
      Rel fv (hideAll s.heap (ids.map φ)) (phiIn φ ids) lay2 ((ys ++ df.drop (ys.length + df.length - np)).map some ++ List.replicate (ns - np) none) ls h1 → s.heap.objs.size ≤ h1.objs.size → env.frame = some s.heap.objs.size → (∃ k x, k < ns ∧ lay2 k = .ns s.heap.objs.size x) →
      wpAny (model prog w) (A.deeper env) (execs stmts env) (fun f s' => Q (match f with | .ret v => v | _ => .none) s')
        (fun e s' => wpAny (model prog w) (A.deeper env) (leaving env e) (fun _ s'' => E e s'') (fun e' s'' => E e' s'') s') { s with heap := h1, toks := tk1 }) :
    wpAny (model prog w) A (call (fv (.user k)) vs) Q E s := by
  obtain ⟨hn, emap, hlenl, hob⟩ := enter_some He
  have hids : ∀ (j i : Nat), ids[j]? = some i → i < ob.length := fun j i e => by
    obtain ⟨xs, eo, _⟩ := hob j i e
    exact (List.getElem?_eq_some_iff.mp eo).1
  have tups := fun {h1 : Heap} (hk : s.heap.StaysIn h1) => enter_tups (φ := φ) (ids := ids) (ob := ob) (s := s) (s₁ := { s with heap := h1 }) (sl := sl) hids hk
  have hb2 : base.StaysIn (hideAll s.heap (ids.map φ)) := enter_hide R hob
  have idsAt : ∀ {j : Nat} {o : PO}, ls[j]? = some o → ∃ i xs, ids[j]? = some i ∧ ob[i]? = some (.list xs) ∧ o = .list xs ∧ okVs 0 xs = true := fun {j o} e => by
    have hj : j < ids.length := hlenl ▸ (List.getElem?_eq_some_iff.mp e).1
    have ei := List.getElem?_eq_getElem hj
    obtain ⟨xs, eo, el, hx⟩ := hob j _ ei
    rw [el] at e
    exact ⟨_, xs, ei, eo, (Option.some.inj e).symm, hx⟩
  obtain ⟨fa, ef, H⟩ := code_frame (Φ := Φ) (φ2 := phiIn φ ids) C R.stays (G.nolimit.keeps R.stays) hR (G.mono hb2) (fun b o e => of_hideAll _ e) (Nat.le_of_succ_le hd) (fun q => absurd hd (by rw [q]; exact Nat.not_succ_le_self _)) (by rw [mapO_length emap, W.1]) hlen hnp
    (fun h1 hk => hlenl ▸ locs_ok (s₁ := { s with heap := h1 }) W emap (tups hk)) (fun h1 dv hk D => ⟨D.1, fun i v x a b => hlenl ▸ ((D.2 i v x a b).up R).remap (D.2 i v x a b).ok0 (tups hk)⟩)
    (fun h1 hk j o e => by
      obtain ⟨i, xs, ei, eo, rfl, hx⟩ := idsAt e
      obtain ⟨hb, us, ⟨c, hL1⟩, W1⟩ := R.objs _ _ eo
      refine ⟨hideAll_none _ (List.mem_map.mpr ⟨i, List.mem_of_getElem? ei, (phiIn_get ei).symm⟩), us, ⟨c, ?_⟩, ?_⟩
      · rw [phiIn_get ei]; exact hk _ _ hL1
      · rw [hlenl]; exact W1.remap hx (tups hk))
    (fun i j o o' e1 e2 _ _ q => by
      obtain ⟨i', xs, ei, eo, _, _⟩ := idsAt e1
      obtain ⟨j', ys, ej, eo', _, _⟩ := idsAt e2
      rw [phiIn_get ei, phiIn_get ej] at q
      have := R.inj _ _ _ _ eo eo' rfl rfl q
      exact (List.getElem?_inj (List.getElem?_eq_some_iff.mp ei).1 hn).mp (by rw [ei, ej, this]))
    (R := fun r s' => match r with | .ok (.ret v) => Q v s' | .ok _ => False | .error e => E e s') K
  rw [ef]
  exact wpAny_call H

theorem code_ok {n d k np ns : Nat} {df : List PV} {body : List IS} {args ys : List PV} {ob ls ob' : List PO} {ids : List Nat} {fl : Flow} {s1 : St} {r0 r : PV} {base : Heap} {A : Around} {lay : Nat → Loc} {sl : List (Option PV)} {φ : Nat → Addr} {s : Shared} {vs : List Value} {Q E : Value → Shared → Prop}
    (Hss : SSs prog w fv Φ n) (eΦ : Φ k = some (.code np ns df body)) (hc : callOk ob = true) (He : enterObs args ob = some (ids, ys, ls)) (hlen : (ys ++ df.drop (ys.length + df.length - np)).length = np) (hnp : np ≤ ns)
    (hev : evSs Φ n d body ⟨(ys ++ df.drop (ys.length + df.length - np)).map some ++ List.replicate (ns - np) none, ls⟩ = some (fl, s1)) (hfl : retOf fl = some r0) (hlv : leaveObs ids r0 s1.ob ob = some (r, ob'))
    (hR : Room (d + 1 + 1) A) (G : GlobOk fv Φ base) (hF : Fra A base lay sl.length (d + 1)) (R : Rel fv base φ lay sl ob s.heap) (W : VRs fv φ ob.length s.heap vs args) (P : Post fv base φ lay ⟨sl, ob⟩ ⟨sl, ob'⟩ r s Q) :
    wpAny (model prog w) A (call (fv (.user k)) vs) Q E s := by
  refine call_enter (Φ := Φ) (G.code k np ns df body eΦ) hc He hlen hnp hR G hF.le R W fun {env stmts N T lay2 h1 tk1} eCS CX R2 hsz _ _ => Hss eCS hev (by rw [List.length_append, List.length_map, hlen, List.length_replicate, Nat.add_sub_cancel' hnp]) CX R2 fun φ3 fl' h3 tk3 R3 S3 F3 => ?_
  · have fin : ∀ v, VR fv φ3 s1.ob.length h3 v r0 → Q v { s with heap := h3, toks := tk3 } := fun v V => by
      obtain ⟨φ4, R4, S4, V4⟩ := leave_rel R hc He R3 S3 (Nat.le_trans hsz S3.sz) hlv V
      exact P φ4 v h3 tk3 R4 S4 V4
    clear P R W hev R2 R3
    cases F3 with
    | next => cases hfl; exact fin _ .none
    | ret V => cases hfl; exact fin _ V
    | brk => cases hfl
    | cont => cases hfl
theorem scall_succ {n : Nat} (Hss : SSs prog w fv Φ n) (Hsp : SpecOk prog w fv Φ) : SCall prog w fv Φ (n + 1) := by
  intro d k args ob r ob' base A lay sl φ s vs Q E h hR G hF R W P
  cases d with
  | zero => exact (evCall_zero h).elim
  | succ d =>
    cases evCall_el h with
    | spec eF hc He e1 e2 hd => exact Hsp eF hc He e1 e2 hd hR G hF R W P
    | code eF hc He h1 h2 hev hfl hlv => exact code_ok Hss eF hc He h1 h2 hev hfl hlv hR G hF R W P
end Mine.Internal
end
section
open PySem PySem.W PyProof.Rows
namespace Mine.Internal
set_option linter.unusedSectionVars false
set_option linter.unusedVariables false
set_option maxRecDepth 100000
variable {prog : Program} {w : World} {A : Around} {R : Result → Shared → Prop} {s : Shared}

noncomputable abbrev testsOf (ifs : List PySem.Expr) (env : Env) : Sem Bool := forIn ifs true fun c r => if r = true then do let ok ← PySem.isTrue c env (eval c env); pure (ForInStep.yield ok) else pure (ForInStep.yield r)

/-- one turn of a comprehension -/
theorem comp_turn {elt target iter : PySem.Expr} {ifs : List PySem.Expr} {gens : List Comprehension} {scope : Scope} {pos : Pos} {depth : Nat} {it acc : Value} {env : Env} (hg : gens[depth]? = some ⟨target, iter, ifs, 0⟩) (hn : gens[depth + 1]? = none)
    (h : wpAny (model prog w) A (pyNext it) (fun r s₁ => match r with
      | none => R (.ok .next) s₁
      | some v => wpAny (model prog w) A (letOwnedTupleGo target it v) (fun _ s₂ => wpAny (model prog w) A (assign target env v) (fun _ s₃ => wpAny (model prog w) A (testsOf ifs env) (fun ok s₄ =>
          if ok = true then wpAny (model prog w) A (eval elt env) (fun x s₅ => wpAny (model prog w) A (call (.builtin "list.append") [acc, x]) (fun _ s₆ => codeAny (model prog w) A (.compLoop (.ListComp elt gens scope pos) depth it acc env) R s₆)
            (notedBy (model prog w) A env fun e s' => R (.error e) s') s₅) (notedBy (model prog w) A env fun e s' => R (.error e) s') s₄
          else codeAny (model prog w) A (.compLoop (.ListComp elt gens scope pos) depth it acc env) R s₄)
          (notedBy (model prog w) A env fun e s' => R (.error e) s') s₃) (notedBy (model prog w) A env fun e s' => R (.error e) s') s₂) (notedBy (model prog w) A env fun e s' => R (.error e) s') s₁)
      (notedBy (model prog w) A env fun e s' => R (.error e) s') s) :
    codeAny (model prog w) A (.compLoop (.ListComp elt gens scope pos) depth it acc env) R s := by
  refine codeAny_of_tree ?_
  show wpAny _ A ((compTurn (.ListComp elt gens scope pos) depth it acc env).onRaise (fun x => do noteFrame x env; theTreesLotGoes x)) _ _ s
  refine wpAny_noted ?_
  unfold compTurn
  dsimp only
  rw [hg]
  dsimp only
  refine wpAny_bind (wpAny_standAt (wpAny_bind (wpAny_mono h (fun r s₁ h₁ => ?_) fun _ _ h' => h')))
  cases r with
  | none => exact wpAny_pure h₁
  | some v =>
    refine wpAny_bind (wpAny_mono h₁ (fun _ s₂ h₂ => wpAny_bind (wpAny_mono h₂ (fun _ s₃ h₃ => wpAny_bind (wpAny_mono h₃ (fun ok s₄ h₄ => ?_) fun _ _ h' => h')) fun _ _ h' => h')) fun _ _ h' => h')
    cases ok with
    | false => exact wpAny_pure ⟨rfl, h₄⟩
    | true =>
      rw [hn]
      exact wpAny_bind (wpAny_bind (wpAny_mono h₄ (fun x s₄ h₄ => wpAny_bind (wpAny_mono h₄ (fun _ s₅ h₅ => wpAny_pure (wpAny_pure ⟨rfl, h₅⟩)) fun _ _ h' => h')) fun _ _ h' => h'))
theorem comp_turn2 {elt target iter target' iter' : PySem.Expr} {ifs ifs' : List PySem.Expr} {gens : List Comprehension} {scope : Scope} {pos : Pos} {depth : Nat} {it acc : Value} {env : Env} (hg : gens[depth]? = some ⟨target, iter, ifs, 0⟩) (hn : gens[depth + 1]? = some ⟨target', iter', ifs', 0⟩)
    (h : wpAny (model prog w) A (pyNext it) (fun r s₁ => match r with
      | none => R (.ok .next) s₁
      | some v => wpAny (model prog w) A (letOwnedTupleGo target it v) (fun _ s₂ => wpAny (model prog w) A (assign target env v) (fun _ s₃ => wpAny (model prog w) A (testsOf ifs env) (fun ok s₄ =>
          if ok = true then wpAny (model prog w) A (eval iter' env) (fun x s₅ => foldedSetIterable iter' env x = pure x ∧ wpAny (model prog w) A (pyIter x) (fun it' s₆ => codeAny (model prog w) A (.compStart (.ListComp elt gens scope pos) (depth + 1) it' acc env)
              (fun r s₇ => match r with | .ok _ => codeAny (model prog w) A (.compLoop (.ListComp elt gens scope pos) depth it acc env) R s₇ | .error e => cameBackBy (model prog w) A env (notedBy (model prog w) A env fun e s' => R (.error e) s') e s₇) s₆)
            (notedBy (model prog w) A env fun e s' => R (.error e) s') s₅) (notedBy (model prog w) A env fun e s' => R (.error e) s') s₄
          else codeAny (model prog w) A (.compLoop (.ListComp elt gens scope pos) depth it acc env) R s₄)
          (notedBy (model prog w) A env fun e s' => R (.error e) s') s₃) (notedBy (model prog w) A env fun e s' => R (.error e) s') s₂) (notedBy (model prog w) A env fun e s' => R (.error e) s') s₁)
      (notedBy (model prog w) A env fun e s' => R (.error e) s') s) :
    codeAny (model prog w) A (.compLoop (.ListComp elt gens scope pos) depth it acc env) R s := by
  refine codeAny_of_tree ?_
  show wpAny _ A ((compTurn (.ListComp elt gens scope pos) depth it acc env).onRaise (fun x => do noteFrame x env; theTreesLotGoes x)) _ _ s
  refine wpAny_noted ?_
  unfold compTurn
  dsimp only
  rw [hg]
  dsimp only
  refine wpAny_bind (wpAny_standAt (wpAny_bind (wpAny_mono h (fun r s₁ h₁ => ?_) fun _ _ h' => h')))
  cases r with
  | none => exact wpAny_pure h₁
  | some v =>
    refine wpAny_bind (wpAny_mono h₁ (fun _ s₂ h₂ => wpAny_bind (wpAny_mono h₂ (fun _ s₃ h₃ => wpAny_bind (wpAny_mono h₃ (fun ok s₄ h₄ => ?_) fun _ _ h' => h')) fun _ _ h' => h')) fun _ _ h' => h')
    cases ok with
    | false => exact wpAny_pure ⟨rfl, h₄⟩
    | true =>
      rw [hn]
      refine wpAny_bind (wpAny_mono h₄ (fun x s₅ h₅ => wpAny_bind (wpAny_standAt (wpAny_bind (wpAny_of_eq h₅.1 (wpAny_bind (wpAny_holding (wpAny_mono h₅.2 (fun it' s₆ h₆ => ?_) fun _ _ h' => h'))))))) fun _ _ h' => h')
      refine wpAny_bind (wpAny_runOwn (codeAny_mono h₆ fun r s₇ h₇ => ?_))
      cases r with
      | ok f => exact wpAny_pure ⟨rfl, h₇⟩
      | error e => exact h₇
theorem comp_start {elt target iter : PySem.Expr} {ifs : List PySem.Expr} {gens : List Comprehension} {scope : Scope} {pos : Pos} {depth : Nat} {it acc : Value} {env : Env} (hg : gens[depth]? = some ⟨target, iter, ifs, 0⟩)
    (h0 : codeAny (model prog w) A (.compLoop (.ListComp elt gens scope pos) depth it acc env) R s)
    (h : wpAny (model prog w) A (pyIter it) (fun it' s' => codeAny (model prog w) A (.compLoop (.ListComp elt gens scope pos) depth it' acc env) R s') (notedBy (model prog w) A env fun x s' => R (.error x) s') s) :
    codeAny (model prog w) A (.compStart (.ListComp elt gens scope pos) depth it acc env) R s := by
  refine codeAny_of_tree ?_
  show wpAny _ _ ((compStart (.ListComp elt gens scope pos) depth it acc env).onRaise (fun x => do noteFrame x env; standAt theWindowsPlace)) _ _ s
  refine wpAny_notedAt ?_
  have hcl : (clausesOf (.ListComp elt gens scope pos))[depth]? = some ⟨target, iter, ifs, 0⟩ := hg
  unfold compStart
  rw [hcl]
  show wpAny _ _ (ask >>= _) _ _ s
  refine wpAny_bind (wpAny_askSetting (wpAny_ite ?_))
  split
  · first
      | exact wpAny_bind (wpAny_pure (wpAny_pure (And.intro rfl h0)))
      | exact wpAny_pure (And.intro rfl h0)
  · refine wpAny_bind (wpAny_rule ?_)
    exact wpAny_bind (wpAny_standAt (wpAny_bind (wpAny_mono h (fun it' s' h' => wpAny_pure (And.intro rfl h')) fun _ _ x => x)))
end Mine.Internal
end
section
open PySem PySem.W PyProof.Rows
namespace Mine.Internal
set_option linter.unusedSectionVars false
set_option linter.unusedVariables false
set_option maxRecDepth 100000
variable {prog : Program} {w : World} {fv : Fn → Value} {Φ : Nat → Option FnI}
variable {A : Around} {E : Value → Shared → Prop} {s : Shared} {φ φ' : Nat → Addr} {base : Heap} {lay : Nat → Loc} {st st' st1 : St} {env : Env} {N : List (Str × NameKind)} {T : List (Str × Nat)} {d ns n : Nat}

theorem tests_false {ifs : List PySem.Expr} {env : Env} {Q : Bool → Shared → Prop} (h : Q false s) : wpAny (model prog w) A (forIn ifs false fun c r => if r = true then do let ok ← PySem.isTrue c env (eval c env); pure (ForInStep.yield ok) else pure (ForInStep.yield r)) Q E s := by
  induction ifs with
  | nil => rw [List.forIn_nil]; exact wpAny_pure h
  | cons c r ih =>
    rw [List.forIn_cons]
    simp only [Bool.false_eq_true, if_false]
    exact wpAny_bind (wpAny_pure ih)

theorem tests_ok (Ht : ∀ m, m ≤ n → ST prog w fv Φ m) : ∀ {k : Nat} {ifs : List PySem.Expr} {its : List IT} {b : Bool} {st : St} {s : Shared} {φ : Nat → Addr} {Q : Bool → Shared → Prop}, k ≤ n → CBs N T ns ifs its → evTs Φ k d its st = some (b, st') → st.sl.length = ns → Cx fv Φ base A env N T lay d ns →
    RelS fv base φ lay st s.heap → PostB fv base φ lay st st' b s Q → wpAny (model prog w) A (testsOf ifs env) Q E s := by
  intro k
  induction k with
  | zero => exact fun _ _ h => nomatch h
  | succ k ih =>
    intro ifs its b st s φ Q hk C h hns X R P
    cases C with
    | nil =>
      obtain ⟨rfl, rfl⟩ := evTs_nil h
      show wpAny _ _ (forIn [] true _) _ _ _
      rw [List.forIn_nil]
      exact wpAny_pure (P φ s.heap s.toks R (Step.refl ..))
    | cons hc hr =>
      refine evTs_cons h fun c s1 e1 h => ?_
      show wpAny _ _ (forIn (_ :: _) true _) _ _ _
      rw [List.forIn_cons]
      simp only [if_true]
      refine wpAny_bind (wpAny_bind (Ht k (Nat.le_of_succ_le hk) hc e1 hns X R fun φ1 h1 tk1 R1 S1 => wpAny_pure ?_))
      cases c with
      | true => exact ih (s := { s with heap := h1, toks := tk1 }) (Nat.le_of_succ_le hk) hr h (((len_all (Φ := Φ) k).t _ _ _ _ _ e1).trans hns) X R1 (P.trans S1)
      | false =>
        obtain ⟨rfl, rfl⟩ : false = b ∧ s1 = st' := pairE h And.intro
        exact tests_false (P φ1 h1 tk1 R1 S1)
end Mine.Internal
end
section
open PySem PySem.W PyProof.Rows
namespace Mine.Internal
set_option linter.unusedSectionVars false
set_option linter.unusedVariables false
set_option maxRecDepth 100000
variable {prog : Program} {w : World} {fv : Fn → Value} {Φ : Nat → Option FnI}
variable {A : Around} {E : Value → Shared → Prop} {base : Heap} {lay : Nat → Loc} {env : Env} {N : List (Str × NameKind)} {T : List (Str × Nat)} {d ns n : Nat}

theorem iterC_iterI {v : PV} {st st' : St} {i : Nat} (e : iterC v st = some (i, st')) : iterI v st = some (i, st') := by
  unfold iterC at e
  split at e
  · exact e
  · cases e
theorem IterR.self {v : PV} {st st' : St} {i : Nat} (e : IterR st v i st') : (∃ k, v = .ref k) → iterI (.ref i) st' = some (i, st') := by
  induction e using IterR.casesOn with
  | listIter eo => exact fun _ => obS eo rfl
  | rangeIter eo => exact fun _ => obS eo rfl
  | enum eo => exact fun _ => obS eo rfl
  | zip eo => exact fun _ => obS eo rfl
  | tup => exact fun ⟨_, h⟩ => nomatch h
  | _ => exact fun _ => obS (List.getElem?_concat_length ..) rfl
theorem iterC_ref {v : PV} {st : St} {r : Nat × St} (e : iterC v st = some r) : ∃ k, v = .ref k := by
  cases v with
  | ref k => exact ⟨k, rfl⟩
  | _ => cases e
theorem iterC_self {v : PV} {st st' : St} {i : Nat} (e : iterC v st = some (i, st')) : iterI (.ref i) st' = some (i, st') := (iter_rel (iterC_iterI e)).self (iterC_ref e)
theorem CGs.nil_of {gens : List Comprehension} {depth : Nat} (C : CGs N T ns (gens.drop (depth + 1)) []) : gens[depth + 1]? = none := by
  generalize hd : gens.drop (depth + 1) = dr at C
  cases C
  have : (gens.drop (depth + 1))[0]? = none := by rw [hd]; rfl
  rw [List.getElem?_drop] at this
  simpa using this
theorem CGs.cons_of {gens : List Comprehension} {depth : Nat} {g : IGen} {gs : List IGen} (C : CGs N T ns (gens.drop (depth + 1)) (g :: gs)) : ∃ target2 iter2 ifs2 t2 it2 its2, gens[depth + 1]? = some ⟨target2, iter2, ifs2, 0⟩ ∧ g = .mk t2 it2 its2 ∧ CT N T target2 t2 ∧ CE N T ns iter2 it2 ∧ CBs N T ns ifs2 its2 ∧ CGs N T ns (gens.drop (depth + 1 + 1)) gs := by
  generalize hd : gens.drop (depth + 1) = dr at C
  cases C with
  | cons Ct2 Ci2 Cf2 Cr2 =>
    rename_i target2 iter2 ifs2 rest2 t2 it2 its2
    refine ⟨target2, iter2, ifs2, t2, it2, its2, ?_, rfl, Ct2, Ci2, Cf2, ?_⟩
    · have : (gens.drop (depth + 1))[0]? = some ⟨target2, iter2, ifs2, 0⟩ := by rw [hd]; rfl
      rw [List.getElem?_drop] at this
      simpa using this
    · have : gens.drop (depth + 1 + 1) = rest2 := by rw [← List.drop_drop, hd]; rfl
      rw [this]; exact Cr2
theorem comp_loop (He : ∀ m, m ≤ n → SE prog w fv Φ m) (Ht : ∀ m, m ≤ n → ST prog w fv Φ m) {elt : PySem.Expr} {a : IE} {gens : List Comprehension} {scope : Scope} {pos : Pos} {acc : Nat} (Ca : CE N T ns elt a) (X : Cx fv Φ base A env N T lay d ns) :
    ∀ {k : Nat} {depth : Nat} {target iter : PySem.Expr} {ifs : List PySem.Expr} {t : Tgt} {its : List IT} {gs : List IGen} {it : Nat} {st st' : St} {s : Shared} {φ : Nat → Addr} {R : Result → Shared → Prop}, k ≤ n → gens[depth]? = some ⟨target, iter, ifs, 0⟩ → CT N T target t → CBs N T ns ifs its →
      CGs N T ns (gens.drop (depth + 1)) gs → evC Φ k d a t its gs it acc st = some st' → st.sl.length = ns → it < st.ob.length → acc < st.ob.length → RelS fv base φ lay st s.heap → PostU fv base φ lay st st' s (R (.ok .next)) →
      codeAny (model prog w) A (.compLoop (.ListComp elt gens scope pos) depth (.ref (φ it)) (.ref (φ acc)) env) R s := by
  intro k
  induction k with
  | zero => exact fun _ _ _ _ _ h => nomatch h
  | succ k ih =>
    intro depth target iter ifs t its gs it st st' s φ R hk hg Ct Cf Cg h hns hit hacc R0 P
    have hk' := Nat.le_of_succ_le hk
    refine evC_el h fun r s1 e1 hr => ?_
    have hl1 := (nextI_len e1).trans hns
    have again : ∀ {φk : Nat → Addr} {hh : Heap} {tkk : Nat} {s4 : St}, RelS fv base φk lay s4 hh → StepS φ st s.heap φk s4 hh → s4.sl.length = ns → evC Φ k d a t its gs it acc s4 = some st' →
        codeAny (model prog w) A (.compLoop (.ListComp elt gens scope pos) depth (.ref (φ it)) (.ref (φ acc)) env) R { s with heap := hh, toks := tkk } := fun {φk hh tkk s4} R4 S4 hl4 h => by
      rw [← S4.agr it hit, ← S4.agr acc hacc]
      exact ih (s := { s with heap := hh, toks := tkk }) hk' hg Ct Cf Cg h hl4 (Nat.lt_of_lt_of_le hit S4.le) (Nat.lt_of_lt_of_le hacc S4.le) R4 (P.trans S4)
    have turnP : ∀ {Cc : Value → Shared → Prop}, (∀ v s2 b s3 s4, r = some v → setT t v s1 = some s2 → evTs Φ k d its s2 = some (b, s3) → OkR Φ k d a acc gs s3 b s4 → evC Φ k d a t its gs it acc s4 = some st' → ∀ u h1 tk1, RelS fv base φ lay s1 h1 → StepS φ st s.heap φ s1 h1 → VRS fv φ s1 h1 u v → Cc u { s with heap := h1, toks := tk1 }) →
        Turn fv base φ lay st s1 r s (fun s₁ => R (.ok .next) s₁) Cc := fun {Cc} hC => by
      cases r with
      | none => exact fun h1 tk1 R1 S1 => P φ h1 tk1 (hr.no ▸ R1) (hr.no ▸ S1)
      | some v => exact hr.yes fun s2 b s3 s4 e2 e3 e4 e5 => hC v s2 b s3 s4 rfl e2 e3 e4 e5
    have tests : ∀ {v : PV} {s2 s3 : St} {b : Bool} {u : Value} {h1 : Heap} {tk1 : Nat} {Q : Bool → Shared → Prop} {E' : Value → Shared → Prop}, setT t v s1 = some s2 → evTs Φ k d its s2 = some (b, s3) → RelS fv base φ lay s1 h1 → StepS φ st s.heap φ s1 h1 → VRS fv φ s1 h1 u v →
        (∀ φ3 h3 tk3, RelS fv base φ3 lay s3 h3 → StepS φ st s.heap φ3 s3 h3 → s3.sl.length = ns → Q b { s with heap := h3, toks := tk3 }) → wpAny (model prog w) A (assign target env u) (fun _ s₃ => wpAny (model prog w) A (testsOf ifs env) Q E' s₃) E' { s with heap := h1, toks := tk1 } := fun {v s2 s3 b u h1 tk1 Q E'} e2 e3 R1 S1 V1 kk =>
      assign_ok (s := { s with heap := h1, toks := tk1 }) X.room.hh X.env Ct e2 R1 V1 fun φ2 h2 tk2 R2 S2 => tests_ok (s := { s with heap := h2, toks := tk2 }) Ht hk' Cf e3 ((setT_len e2).trans hl1) X R2 fun φ3 h3 tk3 R3 S3 =>
        kk φ3 h3 tk3 R3 (S1.trans (S2.trans S3)) (((len_all (Φ := Φ) k).ts _ _ _ _ _ e3).trans ((setT_len e2).trans hl1))
    cases Cg' : gs with
    | nil =>
      have hn : gens[depth + 1]? = none := by
        rw [Cg'] at Cg
        exact (Cg.nil_of)
      subst Cg'
      refine comp_turn hg hn (next_turn X.room.hh Ct.isTup e1 R0 (turnP fun v s2 b s3 s4 _ e2 e3 e4 h u h1 tk1 R1 S1 V1 => tests e2 e3 R1 S1 V1 fun φ3 h3 tk3 R3 S13 hl3 => ?_))
      cases b with
      | false => exact again (e4.no ▸ R3) (e4.no ▸ S13) (e4.no ▸ hl3) h
      | true =>
        simp only [if_true]
        refine e4.yes.nil fun x s5 y e5 e6 => He k hk' Ca e5 hl3 X R3 fun φ4 v4 h4 tk4 R4 S4 V4 => ?_
        have S14 := S13.trans S4
        rw [← S14.agr acc hacc]
        refine meth_ok (s := { s with heap := h4, toks := tk4 }) (mt := .append) X.room X.glob.flags e6 R4 (.ref acc (Nat.lt_of_lt_of_le hacc S14.le)) (.cons V4 .nil) fun φ5 v5 h5 tk5 R5 S5 V5 => ?_
        rw [S14.agr acc hacc]
        exact again R5 (S14.trans S5) ((methop_len e6).trans (((len_all (Φ := Φ) k).e _ _ _ _ _ e5).trans hl3)) h
    | cons g gs' =>
      rw [Cg'] at Cg
      refine Classical.byContradiction fun no => ?_
      obtain ⟨target2, iter2, ifs2, t2, it2, its2, hn, rfl, Ct2, Ci2, Cf2, Cr2⟩ := Cg.cons_of
      subst Cg'
      refine no ?_
      refine comp_turn2 hg hn (next_turn X.room.hh Ct.isTup e1 R0 (turnP fun v s2 b s3 s4 _ e2 e3 e4 h u h1 tk1 R1 S1 V1 => tests e2 e3 R1 S1 V1 fun φ3 h3 tk3 R3 S13 hl3 => ?_))
      cases b with
      | false => exact again (e4.no ▸ R3) (e4.no ▸ S13) (e4.no ▸ hl3) h
      | true =>
        simp only [if_true]
        refine e4.yes.cons fun x s5 i s6 e5 e6 e4 => He k hk' Ci2 e5 hl3 X R3 fun φ4 v4 h4 tk4 R4 S4 V4 => ⟨(CE.notSet Ci2 (not_bad e5)).2 _ _, ?_⟩
        have hl6 := (iterC_len e6).trans (((len_all (Φ := Φ) k).e _ _ _ _ _ e5).trans hl3)
        have S14 := S13.trans S4
        refine iter_ok (s := { s with heap := h4, toks := tk4 }) (iterC_iterI e6) R4 V4 fun φ5 h5 tk5 R5 S5 hi => ?_
        have S15 := S14.trans S5
        have inner : ∀ {φ6 : Nat → Addr} {h6 : Heap} {tk6 : Nat}, RelS fv base φ6 lay s6 h6 → StepS φ st s.heap φ6 s6 h6 → i < s6.ob.length → codeAny (model prog w) A (.compLoop (.ListComp elt gens scope pos) (depth + 1) (.ref (φ6 i)) (.ref (φ acc)) env)
            (fun r s₇ => match r with | .ok _ => codeAny (model prog w) A (.compLoop (.ListComp elt gens scope pos) depth (.ref (φ it)) (.ref (φ acc)) env) R s₇ | .error e => cameBackBy (model prog w) A env (notedBy (model prog w) A env fun e s' => R (.error e) s') e s₇) { s with heap := h6, toks := tk6 } := fun {φ6 h6 tk6} R6 S6 hi6 => by
          rw [← S6.agr acc hacc]
          exact ih (s := { s with heap := h6, toks := tk6 }) hk' hn Ct2 Cf2 Cr2 e4 hl6 hi6 (Nat.lt_of_lt_of_le hacc S6.le) R6 fun φ7 h7 tk7 R7 S7 => by
            rw [S6.agr acc hacc]
            exact again R7 (S6.trans S7) ((len_all (Φ := Φ) k).c _ _ _ _ _ _ _ _ _ e4 |>.trans hl6) h
        refine comp_start hn (inner R5 S15 hi) (iter_ok (s := { s with heap := h5, toks := tk5 }) (iterC_self e6) R5 (.ref i hi) fun φ6 h6 tk6 R6 S6 hi6 => inner R6 (S15.trans S6) hi6)
end Mine.Internal
end
section
open PySem PySem.W PyProof.Rows
namespace Mine.Internal
set_option linter.unusedSectionVars false
set_option linter.unusedVariables false
set_option maxRecDepth 100000
variable {prog : Program} {w : World} {fv : Fn → Value} {Φ : Nat → Option FnI}
variable {A : Around} {E : Value → Shared → Prop} {base h h' : Heap} {φ : Nat → Addr} {lay : Nat → Loc} {env : Env} {N : List (Str × NameKind)} {T : List (Str × Nat)} {d ns n : Nat} {sl : List (Option PV)} {ob : List PO} {C : Addr} {own : List Str}

noncomputable def layC (lay : Nat → Loc) (ns : Nat) (C : Addr) (own : List Str) (k : Nat) : Loc := if k < ns then lay k else .ns C ((own[k - ns]?).getD "")
theorem layC_old {k : Nat} (hk : k < ns) : layC lay ns C own k = lay k := if_pos hk
theorem layC_own {j : Nat} {x : Str} (e : own[j]? = some x) : layC lay ns C own (ns + j) = .ns C x := by
  unfold layC
  rw [if_neg (by lia), Nat.add_sub_cancel_left, e]; rfl

theorem lookup_filter {P : Str × Nat → Bool} {q : Str → Bool} (hp : ∀ p, P p = q p.1) : ∀ {T : List (Str × Nat)} {x : Str} {k : Nat}, (T.filter P).lookup x = some k → T.lookup x = some k ∧ q x = true
  | [], x, k, e => by cases e
  | (y, j) :: r, x, k, e => by
    rw [List.filter_cons] at e
    split at e
    · rename_i hq
      rw [List.lookup_cons] at e ⊢
      split at e
      · rename_i hx
        have : x = y := by simpa using hx
        subst this
        exact ⟨e, (hp (x, j)).symm.trans hq⟩
      · exact lookup_filter hp e
    · rename_i hq
      obtain ⟨h1, h2⟩ := lookup_filter hp e
      refine ⟨?_, h2⟩
      rw [List.lookup_cons]
      split
      · rename_i hx
        have : x = y := by simpa using hx
        subst this
        exact absurd ((hp (x, j)).trans h2) hq
      · exact h1

theorem lookup_append_some {x : Str} {k : Nat} : ∀ {a b : List (Str × Nat)}, (a ++ b).lookup x = some k → a.lookup x = some k ∨ b.lookup x = some k
  | [], b, e => .inr e
  | (y, j) :: r, b, e => by
    rw [List.cons_append, List.lookup_cons] at e
    rw [List.lookup_cons]
    split at e
    · exact .inl e
    · exact lookup_append_some e

theorem lookup_relab_local {x : Str} : ∀ {names : List (Str × NameKind)}, names.lookup x = some .local → (relab N names).lookup x = some .local
  | [], e => by cases e
  | (y, k) :: r, e => by
    unfold relab
    rw [List.map_cons]
    rw [List.lookup_cons] at e
    show List.lookup x ((if (k == NameKind.free && N.lookup y == some .cell) = true then (y, NameKind.cell) else (y, k)) :: _) = _
    split at e
    · rename_i hx
      cases e
      simp only [show ((NameKind.local == NameKind.free) = false) from rfl, Bool.false_and, Bool.false_eq_true, if_false]
      rw [List.lookup_cons, hx]
    · rename_i hx
      split
      · rw [List.lookup_cons, hx]; exact lookup_relab_local e
      · rw [List.lookup_cons, hx]; exact lookup_relab_local e
theorem lookup_relab_free {x : Str} : ∀ {names : List (Str × NameKind)}, names.lookup x = some .free → (relab N names).lookup x = some (if N.lookup x = some .cell then .cell else .free)
  | [], e => by cases e
  | (y, k) :: r, e => by
    unfold relab
    rw [List.map_cons]
    rw [List.lookup_cons] at e
    show List.lookup x ((if (k == NameKind.free && N.lookup y == some .cell) = true then (y, NameKind.cell) else (y, k)) :: _) = _
    split at e
    · rename_i hx
      cases e
      have : x = y := by simpa using hx
      subst this
      by_cases hc : N.lookup x = some .cell
      · simp [hc, List.lookup_cons]
      · simp [hc, List.lookup_cons]
    · rename_i hx
      split
      · rw [List.lookup_cons, hx]; exact lookup_relab_free e
      · rw [List.lookup_cons, hx]; exact lookup_relab_free e

theorem relabel_names {sc : Scope} (O : EnvOk env N T lay) : (relabel sc env).names = relab N sc.names := by
  unfold relabel relab Env.kindOf
  simp only [O.kind, O.scope]
  congr 1
  funext x
  rw [show (ScopeKind.function == ScopeKind.function) = true from rfl, Bool.and_true]

/-- the cells that a comprehension sees -/
theorem closure_ok : ∀ {names : List (Str × NameKind)} (acc : List (Str × Addr)), (∀ x ∈ names, x.2 = .free → ∃ c, env.cells.lookup x.1 = some c) → (∀ x c, acc.lookup x = some c → env.cells.lookup x = some c) →
    ∃ cl : List (Str × Addr), (forIn (m := Sem) names acc (fun (x : Str × NameKind) cs => (if (x.2 == .free) = true then do let a ← cellOf env x.1; pure (ForInStep.yield ((x.1, a) :: cs)) else pure (ForInStep.yield cs)))) = pure cl ∧
      (∀ x c, cl.lookup x = some c → env.cells.lookup x = some c) ∧ (∀ x, (∃ c, acc.lookup x = some c) → ∃ c, cl.lookup x = some c) ∧ (∀ x ∈ names, x.2 = .free → ∃ c, cl.lookup x.1 = some c)
  | [], acc, _, h2 => ⟨acc, by rw [List.forIn_nil], h2, fun _ h => h, fun _ h => (nomatch h)⟩
  | (x, k) :: r, acc, h1, h2 => by
    by_cases hk : k = .free
    · subst hk
      obtain ⟨c, hc⟩ := h1 _ (.head _) rfl
      obtain ⟨cl, e, a, b, g⟩ := closure_ok (names := r) ((x, c) :: acc) (fun y hy => h1 y (.tail _ hy)) (fun y c' e => by
        rw [List.lookup_cons] at e
        split at e
        · rename_i hq
          have : y = x := by simpa using hq
          subst this; cases e; exact hc
        · exact h2 y c' e)
      have hx : ∃ c, cl.lookup x = some c := b x ⟨c, by rw [List.lookup_cons]; simp⟩
      refine ⟨cl, ?_, a, fun y ⟨c', hc'⟩ => ?_, fun y hy hf => ?_⟩
      · rw [List.forIn_cons]
        simp only [beq_self_eq_true, if_true]
        unfold cellOf
        rw [hc]
        exact e
      · by_cases hq : y = x
        · subst hq; exact hx
        · refine b y ⟨c', ?_⟩
          rw [List.lookup_cons]
          have : (y == x) = false := by simpa using hq
          rw [this]; exact hc'
      · rcases List.mem_cons.mp hy with q | q
        · subst q; exact hx
        · exact g y q hf
    · obtain ⟨cl, e, a, b, g⟩ := closure_ok (names := r) acc (fun y hy => h1 y (.tail _ hy)) h2
      refine ⟨cl, ?_, a, b, fun y hy hf => ?_⟩
      · rw [List.forIn_cons]
        have : (k == NameKind.free) = false := by cases k <;> first | rfl | exact absurd rfl hk
        simp only [this, Bool.false_eq_true, if_false]
        exact e
      · rcases List.mem_cons.mp hy with q | q
        · subst q; exact absurd hf hk
        · exact g y q hf
theorem closureFor_ok {sc : Scope} (h : ∀ x ∈ sc.names, x.2 = .free → ∃ c, env.cells.lookup x.1 = some c) :
    ∃ cl, closureFor sc env = pure cl ∧ ∀ x, sc.names.lookup x = some .free → ∃ c, env.cells.lookup x = some c ∧ cl.lookup x = some c := by
  obtain ⟨cl, e, a, b, g⟩ := closure_ok (env := env) (names := sc.names) [] h (fun x c e => (nomatch e))
  refine ⟨cl, ?_, fun x hx => ?_⟩
  · unfold closureFor
    show ((forIn (m := Sem) sc.names [] (fun (x : Str × NameKind) cs => (if (x.2 == .free) = true then do let a ← cellOf env x.1; pure (ForInStep.yield ((x.1, a) :: cs)) else pure (ForInStep.yield cs)))) >>= fun r => pure r) = pure cl
    rw [e]
    rfl
  · obtain ⟨c, hc⟩ := g (x, .free) (mem_of_lookup hx) rfl
    exact ⟨c, a x c hc, hc⟩
end Mine.Internal
end
section
open PySem PySem.W PyProof.Rows
namespace Mine.Internal
set_option linter.unusedSectionVars false
set_option linter.unusedVariables false
set_option maxRecDepth 100000
variable {prog : Program} {w : World} {fv : Fn → Value} {Φ : Nat → Option FnI}
variable {A : Around} {E : Value → Shared → Prop} {base h h' : Heap} {φ φ' : Nat → Addr} {lay : Nat → Loc} {env : Env} {N : List (Str × NameKind)} {T : List (Str × Nat)} {d ns n m : Nat} {sl : List (Option PV)} {ob : List PO} {C : Addr} {own : List Str}

/-- the block of a comprehension -/
theorem comp_cx {sc : Scope} {cl : List (Str × Addr)} (X : Cx fv Φ base A env N T lay d ns) (ok : CompOk N T sc own) (hcl : ∀ x, sc.names.lookup x = some .free → ∃ c, env.cells.lookup x = some c ∧ cl.lookup x = some c) :
    Cx fv Φ base A (compEnvC sc cl C env) (relab N sc.names) (innerT N T ns sc.names own) (layC lay ns C own) d (ns + own.length) := by
  have hT : ∀ x k, (innerT N T ns sc.names own).lookup x = some k → (∃ j, own[j]? = some x ∧ k = ns + j) ∨ (T.lookup x = some k ∧ sc.names.lookup x = some .free ∧ (N.lookup x = some .cell ∨ N.lookup x = some .free)) := fun x k e => by
    unfold innerT at e
    rcases lookup_append_some e with e | e
    · exact .inl (lookup_ownT e)
    · obtain ⟨h1, h2⟩ := lookup_filter (q := fun y => sc.names.lookup y == some .free && (N.lookup y == some .cell || N.lookup y == some .free)) (fun _ => rfl) e
      rw [Bool.and_eq_true, Bool.or_eq_true] at h2
      exact .inr ⟨h1, by simpa using h2.1, by simpa using h2.2⟩
  refine ⟨X.room, ⟨relabel_names X.env, ok.kind, X.env.glob, X.env.blt, fun x k e => ?_⟩, X.glob, ?_, fun x k e => ?_⟩
  · rcases hT x k e with ⟨j, hj, rfl⟩ | ⟨h1, h2, h3⟩
    · refine .loc ?_ (layC_own hj)
      show (relabel sc env).names.lookup x = _
      rw [relabel_names X.env]
      exact lookup_relab_local (ok.own_ x (List.mem_of_getElem? hj))
    · obtain ⟨c, hc, hc'⟩ := hcl x h2
      have hl : layC lay ns C own k = lay k := layC_old (X.bd x k h1)
      have hk : (compEnvC sc cl C env).kindOf x = some (if N.lookup x = some .cell then .cell else .free) := by
        show (relabel sc env).names.lookup x = _
        rw [relabel_names X.env]
        exact lookup_relab_free h2
      have hkN : env.kindOf x = N.lookup x := by unfold Env.kindOf; rw [X.env.scope]
      cases X.env.at_ x k h1 with
      | loc g1 g2 => rw [hkN] at g1; rcases h3 with h3 | h3 <;> rw [g1] at h3 <;> cases h3
      | cell c' g1 g2 g3 =>
        rw [hkN] at g1
        rw [g1, if_pos rfl] at hk
        rw [hc] at g2; cases g2
        exact .cell c hk hc' (hl.trans g3)
      | free c' g1 g2 g3 =>
        rw [hkN] at g1
        rw [g1, if_neg (by decide)] at hk
        rw [hc] at g2; cases g2
        exact .free c hk hc' (hl.trans g3)
  · refine ⟨X.fra.le, fun hd => ?_⟩
    obtain ⟨env0, k, L, x, a1, a2, a3, a4, a5⟩ := X.fra.top hd
    exact ⟨env0, k, L, x, a1, a2, a3, (layC_old a5).trans a4, Nat.lt_add_right _ a5⟩
  · rcases hT x k e with ⟨j, hj, rfl⟩ | ⟨h1, _, _⟩
    · exact Nat.add_lt_add_left (List.getElem?_eq_some_iff.mp hj).1 _
    · exact Nat.lt_add_right _ (X.bd x k h1)

/-- names of a comprehension's, none of them bound -/
theorem Rel.grow (R : Rel fv base φ lay sl ob h) {mm : Str → Option Value} (hC : h.Ns C mm) (hb : base.get? C = none) (hne : ∀ k, k < sl.length → (lay k).at ≠ C) (hnd : own.Nodup) :
    Rel fv base φ (layC lay sl.length C own) (sl ++ List.replicate own.length none) ob h := by
  have hl : (sl ++ List.replicate own.length (none : Option PV)).length = sl.length + own.length := by simp
  have own_ : ∀ k, ¬ k < sl.length → k < sl.length + own.length → ∃ j x, k = sl.length + j ∧ own[j]? = some x ∧ layC lay sl.length C own k = .ns C x := fun k h1 h2 => by
    have hle := Nat.le_of_not_lt h1
    have hj : k - sl.length < own.length := Nat.sub_lt_left_of_lt_add hle h2
    have e : own[k - sl.length]? = some own[k - sl.length] := by simp [hj]
    refine ⟨k - sl.length, _, (Nat.add_sub_cancel' hle).symm, e, ?_⟩
    have := layC_own (lay := lay) (ns := sl.length) (C := C) e
    rwa [Nat.add_sub_cancel' hle] at this
  refine ⟨R.stays, fun k p e => ?_, fun k hk => ?_, fun j k hj hk q => ?_, R.objs, ?_, R.inj⟩
  · have hk := (List.getElem?_eq_some_iff.mp e).1
    rw [hl] at hk
    by_cases q : k < sl.length
    · rw [layC_old q]
      rw [List.getElem?_append_left q] at e
      exact R.slots k p e
    · obtain ⟨j, x, rfl, hj, hx⟩ := own_ k q hk
      rw [hx]
      rw [List.getElem?_append_right (Nat.not_lt.mp q), List.getElem?_replicate] at e
      split at e
      · cases e; exact ⟨mm, hC⟩
      · cases e
  · rw [hl] at hk
    by_cases q : k < sl.length
    · rw [layC_old q]; exact R.slnew k q
    · obtain ⟨j, x, rfl, hj, hx⟩ := own_ k q hk
      rw [hx]; exact hb
  · rw [hl] at hj hk
    by_cases qj : j < sl.length <;> by_cases qk : k < sl.length
    · rw [layC_old qj, layC_old qk] at q; exact R.sldist j k qj qk q
    · obtain ⟨i, x, rfl, hi, hx⟩ := own_ k qk hk
      rw [layC_old qj, hx] at q
      exact absurd (by rw [q]; rfl) (hne j qj)
    · obtain ⟨i, x, rfl, hi, hx⟩ := own_ j qj hj
      rw [layC_old qk, hx] at q
      exact absurd (by rw [← q]; rfl) (hne k qk)
    · obtain ⟨i, x, rfl, hi, hx⟩ := own_ j qj hj
      obtain ⟨i', x', rfl, hi', hx'⟩ := own_ k qk hk
      rw [hx, hx'] at q
      cases q
      have := (List.getElem?_inj (List.getElem?_eq_some_iff.mp hi).1 hnd).mp (hi.trans hi'.symm)
      rw [this]
  · obtain ⟨k, p, L, x, e, l⟩ := R.home
    have hk := (List.getElem?_eq_some_iff.mp e).1
    exact ⟨k, p, L, x, by rw [List.getElem?_append_left hk]; exact e, by rw [layC_old hk]; exact l⟩

/-- the comprehension's names let go -/
theorem Rel.dropC (R : Rel fv base φ (layC lay sl.length C own) (sl ++ List.replicate m none) ob h) (hm : 0 < m) (hs : Heap.SameBut C h h') (hne : ∀ k, k < sl.length → (lay k).at ≠ C) (hhome : ∃ k p L x, sl[k]? = some p ∧ lay k = .ns L x) :
    Rel fv base φ lay sl ob h' ∧ Step φ ob.length h φ ob.length h' := by
  have eC : (sl ++ List.replicate m (none : Option PV))[sl.length]? = some none := by rw [List.getElem?_append_right (Nat.le_refl _), Nat.sub_self, List.getElem?_replicate, if_pos hm]
  have SC := R.slots _ _ eC
  have hlC : layC lay sl.length C own sl.length = .ns C ((own[sl.length - sl.length]?).getD "") := by unfold layC; rw [if_neg (Nat.lt_irrefl _)]
  have hnt := R.slot_not_tuple eC
  rw [hlC] at SC hnt
  have hnt : ∀ vs, ¬ h.IsTuple C vs := hnt
  have hb : base.get? C = none := by
    have := R.slnew sl.length (by simp [hm])
    rwa [hlC] at this
  have S : Step φ ob.length h φ ob.length h' := R.step_slot (Nat.le_of_eq hs.1.symm) hs.extBut hnt
  refine ⟨⟨fun b o e => hs.extBut b o (fun z => by rw [z, hb] at e; cases e) (R.stays b o e), fun k p e => ?_, fun k hk => ?_, fun j k hj hk q => ?_,
    R.objs_ext (Nat.le_of_eq hs.1.symm) hs.extBut (fun j x ej hl z => slot_ne_obj SC (R.objs j x ej) hl z.symm) hnt, hhome, R.inj⟩, S⟩
  · have hk := (List.getElem?_eq_some_iff.mp e).1
    have := R.slots k p (by rw [List.getElem?_append_left hk]; exact e)
    rw [layC_old hk] at this
    exact this.ext hs.extBut (hne k hk) S
  · have := R.slnew k (by rw [List.length_append]; exact Nat.lt_add_right _ hk)
    rwa [layC_old hk] at this
  · refine R.sldist j k (by rw [List.length_append]; exact Nat.lt_add_right _ hj) (by rw [List.length_append]; exact Nat.lt_add_right _ hk) ?_
    rw [layC_old hj, layC_old hk]; exact q

/-- at the end of a comprehension: its list alone -/
theorem Rel.endC {sl0 : List (Option PV)} {ob0 : List PO} {acc : Nat} {xs : List PV} {h0 : Heap} {φ0 : Nat → Addr} (R : Rel fv base φ (layC lay sl0.length C own) sl ob h) (S : Step φ0 ob0.length h0 φ ob.length h) (hl : sl.length = sl0.length + m) (ha : ob[acc]? = some (.list xs)) (hle : ob0.length ≤ acc)
    (hx : okVs 0 xs = true) (h1 : okSs ob0.length (sl.take sl0.length) = true) (h2 : okOs ob0.length (ob.take ob0.length) = true) (hhome : ∃ k p L x, sl0[k]? = some p ∧ lay k = .ns L x) :
    ∃ φ', Rel fv base φ' (layC lay (sl.take sl0.length).length C own) (sl.take sl0.length ++ List.replicate m none) (ob.take ob0.length ++ [.list xs]) h ∧ Step φ0 ob0.length h0 φ' (ob.take ob0.length ++ [PO.list xs]).length h ∧
      VR fv φ' (ob.take ob0.length ++ [PO.list xs]).length h (.ref (φ acc)) (.ref ob0.length) := by
  have hal := (List.getElem?_eq_some_iff.mp ha).1
  have hsl : sl0.length ≤ sl.length := hl ▸ Nat.le_add_right _ _
  have hlt : (sl.take sl0.length).length = sl0.length := by rw [List.length_take, Nat.min_eq_left hsl]
  have hob : ob0.length < ob.length := Nat.lt_of_le_of_lt hle hal
  have hlo : (ob.take ob0.length).length = ob0.length := by rw [List.length_take, Nat.min_eq_left (Nat.le_of_lt hob)]
  have hgl : (sl.take sl0.length ++ List.replicate m (none : Option PV)).length = sl0.length + m := by rw [List.length_append, hlt, List.length_replicate]
  have getk : ∀ (k : Nat) (p : Option PV), (sl.take sl0.length ++ List.replicate m (none : Option PV))[k]? = some p → (k < sl0.length ∧ sl[k]? = some p) ∨ (p = none ∧ k < sl0.length + m) := fun k p e => by
    have hk := (List.getElem?_eq_some_iff.mp e).1
    rw [hgl] at hk
    by_cases q : k < sl0.length
    · rw [List.getElem?_append_left (by rw [hlt]; exact q), List.getElem?_take, if_pos q] at e
      exact .inl ⟨q, e⟩
    · rw [List.getElem?_append_right (by rw [hlt]; exact Nat.le_of_not_lt q), List.getElem?_replicate] at e
      split at e
      · cases e; exact .inr ⟨rfl, hk⟩
      · cases e
  -- the own names forgotten
  have R1 : Rel fv base φ (layC lay sl0.length C own) (sl.take sl0.length ++ List.replicate m none) ob h := by
    refine ⟨R.stays, fun k p e => ?_, fun k hk => R.slnew k (by rw [hl]; rw [hgl] at hk; exact hk), fun j k hj hk => R.sldist j k (by rw [hl]; rw [hgl] at hj; exact hj) (by rw [hl]; rw [hgl] at hk; exact hk), R.objs, ?_, R.inj⟩
    · rcases getk k p e with ⟨_, e'⟩ | ⟨rfl, hk⟩
      · exact R.slots k p e'
      · obtain ⟨q, eq⟩ : ∃ q, sl[k]? = some q := ⟨sl[k], by simp [hl, hk]⟩
        have X := R.slots k q eq
        cases hlk : layC lay sl0.length C own k with
        | ns L x =>
          rw [hlk] at X
          cases q with
          | none => exact X
          | some q => obtain ⟨mm, hmm, _⟩ := X; exact ⟨mm, hmm⟩
        | cell c =>
          rw [hlk] at X
          cases q with
          | none => exact X
          | some q => obtain ⟨v, hv, _⟩ := X; exact ⟨_, hv⟩
    · obtain ⟨k, p, L, x, e, l⟩ := hhome
      have hk := (List.getElem?_eq_some_iff.mp e).1
      obtain ⟨q, eq⟩ : ∃ q, sl[k]? = some q := ⟨_, List.getElem?_eq_getElem (Nat.lt_of_lt_of_le hk hsl)⟩
      exact ⟨k, q, L, x, by rw [List.getElem?_append_left (by rw [hlt]; exact hk), List.getElem?_take, if_pos hk]; exact eq, by rw [layC_old hk]; exact l⟩
  have okr : ∀ (j : Nat), okSs ob0.length (List.replicate j (none : Option PV)) = true := fun j => by
    induction j with
    | zero => rfl
    | succ j ih => exact ih
  have oka : ∀ {a b : List (Option PV)}, okSs ob0.length a = true → okSs ob0.length b = true → okSs ob0.length (a ++ b) = true := fun {a b} ha hb => by
    induction a with
    | nil => exact hb
    | cons x r ih => exact Bool.and_eq_true_iff.mpr ⟨(Bool.and_eq_true_iff.mp ha).1, ih (Bool.and_eq_true_iff.mp ha).2⟩
  have R2 := R1.cut (m := ob0.length) (sl' := sl.take sl0.length ++ List.replicate m none) (Nat.le_of_lt hob) (oka h1 (okr m)) h2 (fun k p e => e) R1.home
  obtain ⟨hb, us, ⟨c, L⟩, W⟩ := R.objs acc _ ha
  have hnt : ∀ vs, ¬ h.IsTuple (φ acc) vs := not_tuple_of L (by simp)
  have S2 : Step φ0 ob0.length h0 φ ob0.length h := S.cut (Nat.le_refl _) S.le
  have S3 : Step φ (ob.take ob0.length).length h (Rel.at_ φ (ob.take ob0.length).length (φ acc)) ((ob.take ob0.length).length + 1) h := by
    refine ⟨Nat.le_succ _, Nat.le_refl _, fun i hi => Rel.at_lt hi, fun i a b c' vs _ t q => ?_, fun _ _ _ t => t⟩
    obtain rfl := Nat.le_antisymm (Nat.le_of_lt_succ b) a
    rw [Rel.at_self] at q
    exact hnt vs (q ▸ t)
  obtain ⟨R3, _⟩ := R2.adopt (a := φ acc) (o := .list xs) (fun k x ek hl' q => by
    have hk : k < ob0.length := Nat.lt_of_lt_of_eq (List.getElem?_eq_some_iff.mp ek).1 hlo
    have ek' : ob[k]? = some x := by rw [List.getElem?_take, if_pos hk] at ek; exact ek
    exact absurd (R.inj k acc x _ ek' ha hl' rfl q ▸ hk) (Nat.not_lt_of_le hle)) hnt ⟨by rw [Rel.at_self]; exact hb, us, ⟨c, by rw [Rel.at_self]; exact L⟩, W.remap hx fun a vs ho t => ⟨t, fun i hi q => by
      by_cases h' : i < (ob.take ob0.length).length
      · rw [Rel.at_lt h'] at q; exact ho i (Nat.lt_trans (Nat.lt_of_lt_of_eq h' hlo) hob) q
      · obtain rfl := Nat.le_antisymm (Nat.le_of_lt_succ hi) (Nat.le_of_not_lt h')
        rw [Rel.at_self] at q
        exact hnt vs (q ▸ t)⟩⟩
  have hlen1 : (ob.take ob0.length ++ [PO.list xs]).length = ob0.length + 1 := by rw [List.length_append, hlo]; rfl
  refine ⟨_, by rw [hlt]; exact R3, ?_, ?_⟩
  · rw [hlen1]
    rw [hlo] at S3 ⊢
    exact S2.trans S3
  · have := VR.ref (fv := fv) (φ := Rel.at_ φ (ob.take ob0.length).length (φ acc)) (n := (ob.take ob0.length ++ [PO.list xs]).length) (h := h) ob0.length (by rw [hlen1]; exact Nat.lt_succ_self _)
    rw [hlo] at this ⊢
    rwa [Rel.at_self] at this
end Mine.Internal
end
section
open PySem PySem.W PyProof.Rows
namespace Mine.Internal
set_option linter.unusedSectionVars false
set_option linter.unusedVariables false
set_option maxRecDepth 100000
variable {prog : Program} {w : World} {fv : Fn → Value} {Φ : Nat → Option FnI}
variable {A : Around} {E : Value → Shared → Prop} {base : Heap} {φ : Nat → Addr} {lay : Nat → Loc} {env : Env} {N : List (Str × NameKind)} {T : List (Str × Nat)} {d ns n m : Nat}

theorem iterI_more {i : Nat} {st : St} (e : iterI (.ref i) st = some (i, st)) (hi : i < st.ob.length) {sl : List (Option PV)} {ob : List PO} : iterI (.ref i) (⟨sl, st.ob ++ ob⟩ : St) = some (i, ⟨sl, st.ob ++ ob⟩) :=
  bindE (o := st.ob[i]?) e fun o eo h => obS (o := (st.ob ++ ob)[i]?) (x := o) ((List.getElem?_append_left hi).trans eo) (by
    cases o <;> first
      | rfl
      | (exact absurd (congrArg (·.1) (Option.some.inj h)) (Nat.ne_of_gt hi))
      | cases h)

/-- a comprehension's reading, taken apart -/
noncomputable def CE.InvC (N : List (Str × NameKind)) (T : List (Str × Nat)) (ns : Nat) (elt : PySem.Expr) (gens : List Comprehension) (sc : Scope) : IE → Prop
  | .comp a gs m => ∃ target iter ifs rest own t it its gs', gens = ⟨target, iter, ifs, 0⟩ :: rest ∧ gs = .mk t it its :: gs' ∧ m = own.length ∧ CompOk N T sc own ∧ CT (relab N sc.names) (innerT N T ns sc.names own) target t ∧ CE N T ns iter it ∧
      CBs (relab N sc.names) (innerT N T ns sc.names own) (ns + own.length) ifs its ∧ CGs (relab N sc.names) (innerT N T ns sc.names own) (ns + own.length) rest gs' ∧ CE (relab N sc.names) (innerT N T ns sc.names own) (ns + own.length) elt a
  | .bad => True
  | _ => False
noncomputable def CE.Inv (N : List (Str × NameKind)) (T : List (Str × Nat)) (ns : Nat) (e : PySem.Expr) (a : IE) : Prop := match e with
  | .ListComp elt gens sc _ => CE.InvC N T ns elt gens sc a
  | _ => True
theorem CE.inv {e : PySem.Expr} {a : IE} (C : CE N T ns e a) : CE.Inv N T ns e a := by
  induction C using CE.casesOn with
  | comp ok Ct Ci Cf Cr Ce => exact ⟨_, _, _, _, _, _, _, _, _, rfl, rfl, rfl, ok, Ct, Ci, Cf, Cr, Ce⟩
  | @bad N T ns e => cases e <;> exact trivial
  | _ => exact trivial
theorem CE.comp_of {P : Prop} {elt : PySem.Expr} {gens : List Comprehension} {sc : Scope} {pos : Pos} {a : IE} {gs : List IGen} (C : CE N T ns (.ListComp elt gens sc pos) (.comp a gs m))
    (k : ∀ {target iter ifs rest own t it its gs'}, gens = ⟨target, iter, ifs, 0⟩ :: rest → gs = .mk t it its :: gs' → m = own.length → CompOk N T sc own → CT (relab N sc.names) (innerT N T ns sc.names own) target t → CE N T ns iter it →
      CBs (relab N sc.names) (innerT N T ns sc.names own) (ns + own.length) ifs its → CGs (relab N sc.names) (innerT N T ns sc.names own) (ns + own.length) rest gs' → CE (relab N sc.names) (innerT N T ns sc.names own) (ns + own.length) elt a → P) : P := by
  obtain ⟨_, _, _, _, _, _, _, _, _, h1, h2, h3, ok, Ct, Ci, Cf, Cr, Ce⟩ := C.inv
  exact k h1 h2 h3 ok Ct Ci Cf Cr Ce
theorem CE.listComp {elt : PySem.Expr} {gens : List Comprehension} {sc : Scope} {pos : Pos} {a : IE} (C : CE N T ns (.ListComp elt gens sc pos) a) : a = .bad ∨ ∃ a' gs m, a = .comp a' gs m := by
  have h := C.inv
  cases a with
  | bad => exact .inl rfl
  | comp a gs m => exact .inr ⟨_, _, _, rfl⟩
  | _ => exact h.elim
theorem comp_core (He : ∀ m, m ≤ n → SE prog w fv Φ m) (Ht : ∀ m, m ≤ n → ST prog w fv Φ m) {elt : PySem.Expr} {gens : List Comprehension} {sc : Scope} {pos pos' : Pos} {a : IE} {gs : List IGen} {st st' : St} {r : PV} {s : Shared} {Q : Value → Shared → Prop} {use : Option (Value → Sem Unit)}
    (C : CE N T ns (.ListComp elt gens sc pos) (.comp a gs m)) (h : evE Φ (n + 1) d (.comp a gs m) st = some (r, st')) (hns : st.sl.length = ns) (X : Cx fv Φ base A env N T lay d ns) (R : RelS fv base φ lay st s.heap)
    (P : ∀ φ' C own v h' tk, Rel fv base φ' (layC lay st'.sl.length C own) (st'.sl ++ List.replicate own.length none) st'.ob h' → StepS φ st s.heap φ' st' h' → VRS fv φ' st' h' v r → 0 < own.length → st'.sl.length = ns → (∀ k, k < ns → (lay k).at ≠ C) →
      (∃ k p L x, st'.sl[k]? = some p ∧ lay k = .ns L x) → (∃ mm, h'.Ns C mm) → compPost (model prog w) A E use Q v C (.ok .next) { s with heap := h', toks := tk }) :
    wpAny (model prog w) A (comprehension (.ListComp elt gens sc pos) sc env pos' (newList []) (firstAsync gens) (firstIter gens env) use) Q E s := by
  refine C.comp_of fun {target iter ifs rest own t it its gs'} q1 q2 q3 ok Ct Ci Cf Cr Ce => ?_
  subst q1 q2 q3
  clear C
  refine evE_comp h fun t' it' ifs' rest' x s1 i s2 s4 xs qg e1 e2 e4 ea c1 c2 c3 r1 r2 => ?_
  cases qg
  subst r1 r2
  clear h
  obtain ⟨cl, hclos, hcl⟩ := closureFor_ok (env := env) (sc := sc) fun y hy hf => by
    obtain ⟨hk, k, hT⟩ := ok.free y hy hf
    have hkN : env.kindOf y.1 = N.lookup y.1 := by unfold Env.kindOf; rw [X.env.scope]
    cases X.env.at_ _ _ hT with
    | loc g1 g2 => rw [hkN] at g1; rcases hk with h3 | h3 <;> rw [g1] at h3 <;> cases h3
    | cell c g1 g2 g3 => exact ⟨c, g2⟩
    | free c g1 g2 g3 => exact ⟨c, g2⟩
  have hl1 := ((len_all (Φ := Φ) n).e _ _ _ _ _ e1).trans hns
  have hl2 := (iterC_len e2).trans hl1
  show wpAny _ _ (comprehension _ sc env pos' (newList []) false (eval iter env) use) _ _ _
  refine wpAny_comprehension_free rfl ((CE.notSet Ci (not_bad e1)).2 env) hclos ok.kind ok.local_ (He n (Nat.le_refl _) Ci e1 hns X R fun φ1 v1 h1 tk1 R1 S1 V1 => ?_)
  refine iter_ok (s := { s with heap := h1, toks := tk1 }) (iterC_iterI e2) R1 V1 fun φ2 h2 tk2 R2 S2 hi => ?_
  have S12 := S1.trans S2
  refine wpAny_newObj_type (wpAny_newFunctionEnv ok.noCell (by intro y hy; simp at hy) (fun h4 hns4 hsb4 => ?_) ok.kind)
  dsimp only at hns4 hsb4 ⊢
  generalize hH3 : h2.push { cls := .type "list", dict := none, data := .seq ([] : List Value).toArray } = h3 at hns4 hsb4 ⊢
  have hsz3 : h3.objs.size = h2.objs.size + 1 := by rw [← hH3, Heap.size_push]
  obtain ⟨R3, S3, _⟩ := R2.pushNew (o := .list []) (h' := h3) (Nat.le_of_lt (hsz3 ▸ Nat.lt_succ_self _)) (fun b o e => by rw [← hH3]; exact Heap.get?_push_of_some _ e) (get_size_none _) fun S hb => ⟨by rw [Rel.at_self]; exact hb, [], ⟨0, by rw [Rel.at_self]; exact hH3 ▸ Heap.get?_push_size _ rfl⟩, .nil⟩
  have keep4 : ∀ b o, h3.get? b = some o → h4.get? b = some o := fun b o e => hsb4.extBut b o (Nat.ne_of_lt (Heap.lt_size e)) (Heap.get?_push_of_some _ e)
  have hsz4 : h3.objs.size ≤ h4.objs.size := by rw [hsb4.1, Heap.size_push]; exact Nat.le_succ _
  have R4 := R3.ext hsz4 keep4
  have S4 := R3.step_of_ext hsz4 keep4
  have hne : ∀ k, k < s2.sl.length → (lay k).at ≠ h3.objs.size := fun k hk q => by
    obtain ⟨o, eo, _⟩ := (R3.slots k s2.sl[k] (by simp [hk])).there
    rw [q, get_size_none] at eo; cases eo
  have hbC : base.get? h3.objs.size = none := R3.fresh (get_size_none _)
  have R5 := R4.grow hns4 hbC hne ok.nodup
  have X5 : Cx fv Φ base A (compEnvC sc cl h3.objs.size env) (relab N sc.names) (innerT N T ns sc.names own) (layC lay s2.sl.length h3.objs.size own) d (ns + own.length) := by rw [hl2]; exact comp_cx X ok hcl
  have hl5 : (s2.sl ++ List.replicate own.length (none : Option PV)).length = ns + own.length := by rw [List.length_append, List.length_replicate, hl2]
  have hlen3 : s2.ob.length < (s2.ob ++ [PO.list []]).length := by simp
  have hlen3' : i < (s2.ob ++ [PO.list []]).length := by simp; exact Nat.lt_succ_of_lt hi
  have hacc : (Rel.at_ φ2 s2.ob.length h2.objs.size) s2.ob.length = h2.objs.size := Rel.at_self ..
  have hit : (Rel.at_ φ2 s2.ob.length h2.objs.size) i = φ2 i := Rel.at_lt hi
  have S15 := S12.trans (S3.trans S4)
  have loop : ∀ {φ6 : Nat → Addr} {s6 : St} {h6 : Heap} {tk6 : Nat}, s6 = ⟨s2.sl ++ List.replicate own.length none, s2.ob ++ [.list []]⟩ → RelS fv base φ6 (layC lay s2.sl.length h3.objs.size own) s6 h6 → StepS (Rel.at_ φ2 s2.ob.length h2.objs.size) s6 h4 φ6 s6 h6 →
      codeAny (model prog w) A (.compLoop (.ListComp elt (⟨target, iter, ifs, 0⟩ :: rest) sc pos) 0 (.ref (φ6 i)) (.ref (φ6 s2.ob.length)) (compEnvC sc cl h3.objs.size env)) (compPost (model prog w) A E use Q (.ref h2.objs.size) h3.objs.size) { s with heap := h6, toks := tk6 } := fun {φ6 s6 h6 tk6} hs6 R6 S6 => by
    subst hs6
    refine comp_loop (s := { s with heap := h6, toks := tk6 }) He Ht Ce X5 (Nat.le_refl _) rfl Ct Cf Cr e4 hl5 hlen3' hlen3 R6 fun φ7 h7 tk7 R7 S7 => ?_
    have hl7 : s4.sl.length = ns + own.length := ((len_all (Φ := Φ) n).c _ _ _ _ _ _ _ _ _ e4).trans hl5
    have S67 : Step φ st.ob.length s.heap φ7 s4.ob.length h7 := S15.trans (S6.trans S7)
    have hle : st.ob.length ≤ s2.ob.length := S12.le
    have hl02 : s2.sl.length = st.sl.length := hl2.trans hns.symm
    rw [hl02] at R7
    obtain ⟨φ8, R8, S8, V8⟩ := R7.endC (m := own.length) (sl0 := st.sl) (ob0 := st.ob) S67 (hl7.trans (congrArg (· + own.length) hns.symm)) ea hle c1 c2 c3 R.home
    have hlt4 : st.sl.length < s4.sl.length := by rw [hl7, hns]; exact Nat.lt_add_of_pos_right (List.length_pos_iff.mpr ok.ne)
    have hC7 : ∃ mm, h7.Ns h3.objs.size mm := by
      have eC : (s4.sl)[st.sl.length]? = some (s4.sl[st.sl.length]'hlt4) := List.getElem?_eq_getElem hlt4
      have := R7.slots _ _ eC
      rw [show layC lay st.sl.length h3.objs.size own st.sl.length = .ns h3.objs.size ((own[st.sl.length - st.sl.length]?).getD "") by unfold layC; rw [if_neg (Nat.lt_irrefl _)]] at this
      revert this
      cases s4.sl[st.sl.length]'hlt4 with
      | none => exact fun x => x
      | some p => exact fun ⟨mm, hmm, _⟩ => ⟨mm, hmm⟩
    have key : φ7 s2.ob.length = h2.objs.size := by
      rw [S7.agr _ hlen3, S6.agr _ hlen3, hacc]
    rw [key] at V8
    have hlt : (s4.sl.take st.sl.length).length = ns := by rw [List.length_take, Nat.min_eq_left (Nat.le_of_lt hlt4), hns]
    refine P φ8 h3.objs.size own _ h7 tk7 R8 S8 V8 (List.length_pos_iff.mpr ok.ne) hlt (fun k hk => hne k (Nat.lt_of_lt_of_eq hk hl2.symm)) ?_ hC7
    obtain ⟨k, p, L, y, e, l⟩ := R.home
    have hk := (List.getElem?_eq_some_iff.mp e).1
    exact ⟨k, s4.sl[k]'(Nat.lt_trans hk hlt4), L, y, by rw [List.getElem?_take, if_pos hk]; exact List.getElem?_eq_getElem (Nat.lt_trans hk hlt4), l⟩
  refine comp_start rfl ?_ ?_
  · have := loop (tk6 := tk2 + ([] : List (Str × Value)).length) rfl R5 (Step.refl ..)
    rw [hacc, hit] at this
    exact this
  · rw [← hit]
    have e5 : iterI (.ref i) (⟨s2.sl ++ List.replicate own.length none, s2.ob ++ [.list []]⟩ : St) = some (i, ⟨s2.sl ++ List.replicate own.length none, s2.ob ++ [.list []]⟩) := by
      exact iterI_more (iterC_self e2) hi
    refine iter_ok (s := { s with heap := h4, toks := tk2 + ([] : List (Str × Value)).length }) e5 R5 (.ref i hlen3') fun φ6 h6 tk6 R6 S6 _ => ?_
    have := loop (tk6 := tk6) rfl R6 S6
    rw [show φ6 s2.ob.length = h2.objs.size from (S6.agr _ hlen3).trans hacc] at this
    exact this

theorem scomp_ok (He : ∀ m, m ≤ n → SE prog w fv Φ m) (Ht : ∀ m, m ≤ n → ST prog w fv Φ m) : SComp prog w fv Φ (n + 1) := by
  intro N T ns elt gens sc pos a gs m d st r st' base A env lay φ s Q E C h hns X R P
  rw [eval_ListComp]
  refine comp_core He Ht C h hns X R fun φ' C own v h' tk R' S' V' h0 hl hne hh hC => ?_
  obtain ⟨mm, hmm⟩ := hC
  refine ⟨mm, hmm, fun h'' hs => ?_⟩
  obtain ⟨R2, S2⟩ := R'.dropC h0 hs (fun k hk => hne k (hl ▸ hk)) hh
  exact P φ' v h'' tk R2 (S'.trans S2) (V'.step S2)

theorem scomu_ok (He : ∀ m, m ≤ n → SE prog w fv Φ m) (Ht : ∀ m, m ≤ n → ST prog w fv Φ m) : SComU prog w fv Φ (n + 1 + 1) := by
  intro N T ns x k p p' pos elt gs sc a d st r st' base A env lay φ s Q E hT hN C hline hown h hns X R P
  refine evS_asg h fun y s1 e1 e2 q => ?_
  subst q
  clear h
  have hk : env.kindOf x = some .local := by unfold Env.kindOf; rw [X.env.scope]; exact hN
  have hsw : swapsWith (.ListComp elt gs sc p') (some (.Name x p)) pos.line env = pure true := by
    unfold swapsWith
    show (pure (env.blockKind == .function && env.kindOf x == some .local && p.line == p'.line && !(sc.names.any fun (n, k) => n == x && (k == .local || k == .cell))) : Sem Bool) = pure true
    have hb : env.blockKind = .function := by unfold Env.blockKind; rw [X.env.kind]; rfl
    have hown' : (sc.names.any fun (n, k) => n == x && (k == .local || k == .cell)) = false := hown
    rw [hb, hk, hline, hown']
    rfl
  rw [exec_Assign_Name_used _ _ _ _ hsw]
  rcases C.listComp with rfl | ⟨a', gs', m, rfl⟩
  · exact (evE_bad e1).elim
  refine wpAny_bind (wpAny_standAt (wpAny_bind ?_))
  show wpAny _ A (do let _ ← comprehension (.ListComp elt gs sc p') sc env _ (newList []) (firstAsync gs) (firstIter gs env) (some (assign (.Name x p) env))) _ _ s
  refine wpAny_bind (wpAny_mono (Q := fun _ s' => Q .next s') (comp_core He Ht (use := some (assign (.Name x p) env)) C e1 hns X R fun φ' C own v h' tk R' S' V' h0 hl hne hh hC => ?_) (fun _ s' hq => wpAny_pure (wpAny_pure hq)) fun _ _ e => e)
  obtain ⟨hks, rfl⟩ := setS_some e2
  have O : EnvOk env N T (layC lay s1.sl.length C own) := ⟨X.env.scope, X.env.kind, X.env.glob, X.env.blt, fun z j hz => by
    have hj := X.bd z j hz
    have e : layC lay s1.sl.length C own j = lay j := layC_old (by rw [hl]; exact hj)
    cases X.env.at_ z j hz with
    | loc g1 g2 => exact .loc g1 (e.trans g2)
    | cell c g1 g2 g3 => exact .cell c g1 g2 (e.trans g3)
    | free c g1 g2 g3 => exact .free c g1 g2 (e.trans g3)⟩
  have e3 : setT (.v k) y (⟨s1.sl ++ List.replicate own.length none, s1.ob⟩ : St) = some ⟨s1.sl.set k (some y) ++ List.replicate own.length none, s1.ob⟩ := by
    show setS _ k y = _
    unfold setS
    have : Nat.blt k (s1.sl ++ List.replicate own.length (none : Option PV)).length = true := Nat.ble_eq_true_of_le (by rw [List.length_append]; exact Nat.lt_of_lt_of_le hks (Nat.le_add_right _ _))
    rw [this, List.set_append_left _ _ hks]
  refine assign_ok (s := { s with heap := h', toks := tk }) (st := ⟨s1.sl ++ List.replicate own.length none, s1.ob⟩) X.room.hh O (.name hT (by rw [hN]; decide)) e3 R' V' fun φ2 h2 tk2 R2 S2 => ?_
  have hls : (s1.sl.set k (some y)).length = s1.sl.length := List.length_set
  have R2' : Rel fv base φ2 (layC lay (s1.sl.set k (some y)).length C own) (s1.sl.set k (some y) ++ List.replicate own.length none) s1.ob h2 := by rw [hls]; exact R2
  have hC2 : ∃ mm, h2.Ns C mm := by
    have eC : (s1.sl.set k (some y) ++ List.replicate own.length (none : Option PV))[s1.sl.length]? = some none := by rw [List.getElem?_append_right (by rw [hls]; exact Nat.le_refl _), hls, Nat.sub_self, List.getElem?_replicate, if_pos h0]
    have := R2.slots _ _ eC
    rwa [show layC lay s1.sl.length C own s1.sl.length = .ns C ((own[s1.sl.length - s1.sl.length]?).getD "") by unfold layC; rw [if_neg (Nat.lt_irrefl _)]] at this
  obtain ⟨mm, hmm⟩ := hC2
  refine ⟨mm, hmm, fun h'' hs => ?_⟩
  obtain ⟨R3, S3⟩ := R2'.dropC h0 hs (fun j hj => hne j (by rw [hls, hl] at hj; exact hj)) (Rel.home_set hh)
  exact P φ2 .next h'' tk2 R3 (S'.trans (S2.trans S3)) .next
end Mine.Internal
end
section
open PySem PySem.W PyProof.Rows
namespace Mine.Internal
set_option linter.unusedSectionVars false
set_option linter.unusedVariables false
set_option maxRecDepth 100000
variable {prog : Program} {w : World} {fv : Fn → Value} {Φ : Nat → Option FnI}

structure All (prog : Program) (w : World) (fv : Fn → Value) (Φ : Nat → Option FnI) (n : Nat) : Prop where
  e : SE prog w fv Φ n
  es : SEs prog w fv Φ n
  t : ST prog w fv Φ n
  c : SCall prog w fv Φ n
  s : SS prog w fv Φ n
  ss : SSs prog w fv Φ n

theorem all_zero : All prog w fv Φ 0 where
  e := fun _ h => nomatch h
  es := fun _ h => nomatch h
  t := fun _ h => nomatch h
  c := fun h => nomatch h
  s := fun _ h => nomatch h
  ss := fun _ h => nomatch h
theorem scomu_one : SComU prog w fv Φ 1 := fun _ _ _ _ _ h => nomatch h

theorem all_ok (Hsp : SpecOk prog w fv Φ) : ∀ n, ∀ m, m ≤ n → All prog w fv Φ m
  | 0, m, hm => by obtain rfl : m = 0 := by lia
                   exact all_zero
  | n + 1, m, hm => by
    have H := all_ok Hsp n
    by_cases q : m ≤ n
    · exact H m q
    · obtain rfl : m = n + 1 := by lia
      have L := len_all (Φ := Φ) n
      have Hn := H n (Nat.le_refl n)
      refine ⟨se_succ Hn.e Hn.es Hn.t Hn.c (scomp_ok (fun m hm => (H m hm).e) fun m hm => (H m hm).t), ses_succ Hn.e Hn.es L, st_succ (fun m hm => (H m hm).e) Hn.t L, scall_succ Hn.ss Hsp, ss_succ Hn.e (fun m hm => (H m hm).t) (fun m hm => (H m hm).ss) ?_, sss_succ Hn.s Hn.ss⟩
      cases n with
      | zero => exact scomu_one
      | succ k => exact scomu_ok (fun m hm => (H m (Nat.le_succ_of_le hm)).e) fun m hm => (H m (Nat.le_succ_of_le hm)).t
theorem no_spec (h : ∀ k F, Φ k ≠ some (.spec F)) : SpecOk prog w fv Φ := fun e => absurd e (h _ _)
end Mine.Internal
end
section
open PySem PySem.W PyProof.Rows
namespace Mine.Internal
set_option linter.unusedSectionVars false
set_option linter.unusedVariables false
set_option maxRecDepth 100000
variable {prog : Program} {w : World} {fv : Fn → Value} {Φ : Nat → Option FnI}
variable {A : Around} {E : Value → Shared → Prop} {s : Shared} {φ φ' φ2 φ3 : Nat → Addr} {h h' base base' base2 : Heap} {lay lay2 : Nat → Loc} {st st' st1 : St} {env : Env} {N : List (Str × NameKind)} {T : List (Str × Nat)} {d ns n m : Nat} {ob ob' ls : List PO} {sl : List (Option PV)}

/-- frames' tables change in what is no concern of ours -/
theorem Rel.slotty {Ls : List Addr} (R : Rel fv base φ lay sl ob h) (hk : ∀ b o, h.get? b = some o → b ∉ Ls → h'.get? b = some o) (hu : h.UpToSlots h') (hz : h.objs.size ≤ h'.objs.size)
    (hd : ∀ L ∈ Ls, ∀ o, h.get? L = some o → ∃ es ep, o.data = .dict es ep) (hb : ∀ L ∈ Ls, base.get? L = none) : Rel fv base φ lay sl ob h' ∧ Step φ ob.length h φ ob.length h' := by
  have seqOff : ∀ {b : Addr} {o : Obj}, h.get? b = some o → (∀ es ep, o.data ≠ .dict es ep) → h'.get? b = some o := fun {b o} e hn => hk b o e fun hm => by
    obtain ⟨es, ep, q⟩ := hd b hm o e
    exact hn es ep q
  have tup : ∀ a vs, h.IsTuple a vs → h'.IsTuple a vs := fun a vs ⟨o, e, c, k, q⟩ => ⟨o, seqOff e (fun es ep z => by rw [q] at z; cases z), c, k, q⟩
  have S : Step φ ob.length h φ ob.length h' := ⟨Nat.le_refl _, hz, fun _ _ => rfl, fun _ a b => absurd b (Nat.not_lt.mpr a), fun a vs _ t => tup a vs t⟩
  refine ⟨⟨fun b o e => hk b o (R.stays b o e) (fun hm => by rw [hb b hm] at e; cases e), fun k p e => ?_, R.slnew, R.sldist, fun k o e => ?_, R.home, R.inj⟩, S⟩
  · have X := R.slots k p e
    cases hl : lay k with
    | ns L x =>
      rw [hl] at X
      cases p with
      | none => obtain ⟨mm, hm⟩ := X; exact ⟨mm, hu.ns hm⟩
      | some p => obtain ⟨mm, hm, v, ev, V⟩ := X; exact ⟨mm, hu.ns hm, v, ev, V.step S⟩
    | cell c =>
      rw [hl] at X
      cases p with
      | none => obtain ⟨v, o, ho, r⟩ := X; exact ⟨v, o, seqOff ho (fun es ep z => by rw [r] at z; cases z), r⟩
      | some p => obtain ⟨v, ⟨o, ho, r⟩, V⟩ := X; exact ⟨v, ⟨o, seqOff ho (fun es ep z => by rw [r] at z; cases z), r⟩, V.step S⟩
  · have X := R.objs k o e
    have key : ∀ {x : Obj}, o.live = true → h.get? (φ k) = some x → h'.get? (φ k) = some x := fun {x} hl ex => by
      obtain ⟨y, ey, dy⟩ := X.data hl
      rw [ex] at ey; cases ey
      refine seqOff ex fun es ep z => ?_
      rcases dy with ⟨vs, c, q⟩ | ⟨vs, q⟩ <;> rw [z] at q <;> cases q
    cases o with
    | list xs => obtain ⟨b, us, ⟨c, L⟩, W⟩ := X; exact ⟨b, us, ⟨c, key rfl L⟩, W.step S⟩
    | ro xs => obtain ⟨b, us, ⟨x, L, r⟩, W⟩ := X; exact ⟨b, us, ⟨x, key rfl L, r⟩, W.step S⟩
    | range a b c => obtain ⟨b', f, t, u, v, I⟩ := X; exact ⟨b', f, t, u, v, key rfl I⟩
    | rangeIter a b c => obtain ⟨b', I⟩ := X; exact ⟨b', key rfl I⟩
    | listIter l k => obtain ⟨b', l', x, I, r⟩ := X; exact ⟨b', l', x, key rfl I, r⟩
    | tupIter xs k =>
      obtain ⟨b', t, us, ⟨x, I, r⟩, J, O, W⟩ := X
      exact ⟨b', t, us, ⟨x, key rfl I, r⟩, tup _ _ J, O, W.step S⟩
    | enum a b => obtain ⟨b', l', old, I⟩ := X; exact ⟨b', l', old, key rfl I⟩
    | zip a b =>
      obtain ⟨h0, h1, h2, h3, h4, h5, TI, x, y, e, eI, O, eO⟩ := X
      exact ⟨h0, h1, h2, h3, h4, h5, TI, x, y, key rfl e, seqOff eI (fun es ep z => by cases z), O, seqOff eO (fun es ep z => by cases z)⟩
    | dead => exact ⟨X.1, Nat.lt_of_lt_of_le X.2 hz⟩

/-- _parse_varint is called with a tape -/
theorem pv_frame {body : List IS} {it l i : Nat} {xs : List PV} {Q : Value → Shared → Prop} (C10 : CodeOk fv base 10 1 3 [] body)
    (hR : Room (d + 1 + 1) A) (G : GlobOk fv Φ base) (hle : d < topD) (R : Rel fv base φ lay sl ob s.heap) (eo : ob[it]? = some (.listIter l i)) (el : ob[l]? = some (.list xs)) (hx : okVs 0 xs = true)
    (K : ∀ {env : Env} {stmts : List Stmt} {N : List (Str × NameKind)} {T : List (Str × Nat)} {lay2 : Nat → Loc} {h1 : Heap} {tk1 : Nat}, CSs N T 3 stmts body → Cx fv Φ (hideAll s.heap [φ it]) (A.deeper env) env N T lay2 d 3 →
      Rel fv (hideAll s.heap [φ it]) (fun k => if k = 0 then φ it else φ l) lay2 [some (.ref 0), none, none] [.listIter 1 i, .ro xs] h1 → s.heap.objs.size ≤ h1.objs.size → env.frame = some s.heap.objs.size → (∃ k x, k < 3 ∧ lay2 k = .ns s.heap.objs.size x) →
      wpAny (model prog w) (A.deeper env) (execs stmts env) (fun f s' => Q (match f with | .ret v => v | _ => .none) s')
        (fun e s' => wpAny (model prog w) (A.deeper env) (leaving env e) (fun _ s'' => E e s'') (fun e' s'' => E e' s'') s') { s with heap := h1, toks := tk1 }) : wpAny (model prog w) A (call (fv (.user 10)) [.ref (φ it)]) Q E s := by
  have hne : l ≠ it := fun z => by subst z; rw [eo] at el; cases el
  have hφ : φ l ≠ φ it := fun z => hne (R.inj l it _ _ el eo rfl rfl z)
  obtain ⟨hbi, hll, I⟩ := R.objs it _ eo
  obtain ⟨hbl, us, ⟨c0, Lc⟩, W⟩ := R.objs l _ el
  have hbb : base.StaysIn (hideAll s.heap [φ it]) := fun b o e => hideAll_get _ (R.stays b o e) fun hm => by
    rw [List.mem_singleton.mp hm, hbi] at e; cases e
  obtain ⟨fa, ef, H⟩ := code_frame (Φ := Φ) (ys := [.ref 0]) (ls := [.listIter 1 i, .ro xs]) (φ2 := fun k => if k = 0 then φ it else φ l) (vs := [.ref (φ it)]) C10 R.stays (G.nolimit.keeps R.stays) hR (G.mono hbb) (fun b o e => of_hideAll _ e) (Nat.le_of_lt hle) (fun q => absurd hle (by rw [q]; exact Nat.lt_irrefl _)) rfl rfl (by decide)
    (fun h1 _ => .cons (.ref 0 (by show 0 < 2; decide)) .nil) (fun h1 dv _ D => by obtain rfl := D.isNil; exact .nil)
    (fun h1 hk k o e => by
      match k, e with
      | 0, e =>
        obtain rfl := Option.some.inj e
        obtain ⟨x, ex, r⟩ := I
        exact ⟨hideAll_none _ (.head _), Nat.lt_succ_self 1, x, hk _ _ ex, r⟩
      | 1, e =>
        obtain rfl := Option.some.inj e
        refine ⟨⟨_, hideAll_get _ Lc fun z => hφ (List.mem_singleton.mp z)⟩, us, ⟨_, hk _ _ Lc, rfl, _, rfl⟩, ?_⟩
        exact W.remap hx fun a vs ho t => ⟨IsTuple.stays t hk, fun k hk => by
          show (if k = 0 then φ it else φ l) ≠ a
          by_cases q : k = 0
          · rw [if_pos q]; exact ho it (R.lt eo)
          · rw [if_neg q]; exact ho l (R.lt el)⟩
      | k + 2, e => cases e)
    (fun a b oa ob' ea eb _ _ q => by
      have ha : a < 2 := (List.getElem?_eq_some_iff.mp ea).1
      have hb' : b < 2 := (List.getElem?_eq_some_iff.mp eb).1
      have q : (if a = 0 then φ it else φ l) = (if b = 0 then φ it else φ l) := q
      by_cases qa : a = 0 <;> by_cases qb : b = 0
      · exact qa.trans qb.symm
      · rw [if_pos qa, if_neg qb] at q; exact absurd q.symm hφ
      · rw [if_neg qa, if_pos qb] at q; exact absurd q hφ
      · lia)
    (R := fun r s' => match r with | .ok (.ret v) => Q v s' | .ok _ => False | .error e => E e s') K
  rw [ef]
  exact wpAny_call H

/-- one turn of _parse_varint that ends -/
theorem pv_ok {body : List IS} {it l i j : Nat} {xs xs' : List PV} {v : Int} {sl' : List (Option PV)} {Q : Value → Shared → Prop} (Hss : SSs prog w fv Φ n) (eΦ : Φ 10 = some (.code 1 3 [] body)) (hev : evSs Φ n d body ⟨[some (.ref 0), none, none], [.listIter 1 i, .ro xs]⟩ = some (.ret (.int v), ⟨sl', [.listIter 1 j, .ro xs']⟩))
    (hR : Room (d + 1 + 1) A) (G : GlobOk fv Φ base) (hle : d < topD) (R : Rel fv base φ lay sl ob s.heap) (eo : ob[it]? = some (.listIter l i)) (el : ob[l]? = some (.list xs)) (hx : okVs 0 xs = true)
    (P : ∀ t h' tk, Rel fv base φ lay sl (ob.set it (.listIter l j)) h' → Step φ ob.length s.heap φ ob.length h' → Q (.int v t) { s with heap := h', toks := tk }) : wpAny (model prog w) A (call (fv (.user 10)) [.ref (φ it)]) Q E s := by
  obtain ⟨hbi, hll, I⟩ := R.objs it _ eo
  refine pv_frame (Φ := Φ) (G.code 10 1 3 [] body eΦ) hR G hle R eo el hx fun {env stmts N T lay2 h1 tk1} eCS CX R2 hsz1 _ _ => ?_
  · refine Hss eCS hev rfl CX R2 fun φ3 fl' h3 tk3 R3 S3 F3 => ?_
    have hsz : s.heap.objs.size ≤ h3.objs.size := Nat.le_trans hsz1 S3.sz
    cases F3 with
    | ret V =>
      obtain ⟨t, rfl⟩ := V.intv
      obtain ⟨_, _, I3⟩ := R3.objs 0 _ rfl
      have e0 : φ3 0 = φ it := S3.agr 0 (by show 0 < 2; lia)
      have e1 : φ3 1 = φ l := S3.agr 1 (by show 1 < 2; omega)
      rw [e0, e1] at I3
      have hk3 : Heap.ExtBut (φ it) s.heap h3 := fun b o hb e => R3.stays b o (hideAll_get _ e (by simpa using hb))
      obtain ⟨R4, S4⟩ : Rel fv base φ lay sl (ob.set it (.listIter l j)) h3 ∧ Step φ ob.length s.heap φ ob.length h3 := ⟨R.upd eo rfl hbi hsz hk3 ⟨hbi, hll, I3⟩, R.step_upd eo hsz hk3⟩
      exact P t h3 tk3 R4 S4

theorem frames_in {Ls : List Addr} {Lp : Addr} : ∀ {l0 : List Env}, (∀ env ∈ l0, env.scope.kind ≠ .module ∧ ∃ L o, env.frame = some L ∧ L ∈ Ls ∧ h.get? L = some o ∧ ∃ es ep, o.data = .dict es ep) → h.FunFrames (hideAll h (Lp :: Ls)) l0
  | [], _ => trivial
  | env :: r, H => by
    obtain ⟨hk, L, o, e1, e2, e3, es, ep, e4⟩ := H env (.head _)
    exact ⟨hk, ⟨L, o, e1, hideAll_none _ (.tail _ e2), e3, fun vs z => by rw [e4] at z; cases z⟩, frames_in fun e he => H e (.tail _ he)⟩

/-- what a statement is that the compiler has made an assignment of -/
noncomputable def CS.InvA (N : List (Str × NameKind)) (T : List (Str × Nat)) (ns : Nat) (stmt : Stmt) : IS → Prop
  | .asg (.v k) a => ∃ x p value pos, stmt = .Assign [.Name x p] value pos ∧ T.lookup x = some k ∧ N.lookup x ≠ some .free ∧ CE N T ns value a
  | _ => True
theorem CS.invA {stmt : Stmt} {a : IS} (C : CS N T ns stmt a) : CS.InvA N T ns stmt a := by
  induction C using CS.casesOn with
  | asg hT hf h _ => exact ⟨_, _, _, _, rfl, hT, hf, h⟩
  | asgComp hT hf h _ _ => exact ⟨_, _, _, _, rfl, hT, by rw [hf]; decide, h⟩
  | _ => exact trivial
noncomputable def CE.InvF (N : List (Str × NameKind)) (T : List (Str × Nat)) (ns : Nat) (e : PySem.Expr) : IE → Prop
  | .call f as => ∃ x p es pos, e = .Call (.Name x p) es [] pos ∧ CE N T ns (.Name x p) f ∧ CEs N T ns es as
  | _ => True
theorem CE.invF {e : PySem.Expr} {a : IE} (C : CE N T ns e a) : CE.InvF N T ns e a := by
  induction C using CE.casesOn with
  | call hf h => exact ⟨_, _, _, _, rfl, hf, h⟩
  | _ => exact trivial
noncomputable def CSs.InvC (N : List (Str × NameKind)) (T : List (Str × Nat)) (ns : Nat) (ss : List Stmt) : List IS → Prop
  | [] => ss = []
  | a :: as => ∃ s r, ss = s :: r ∧ CS N T ns s a ∧ CSs N T ns r as
theorem CSs.invC {ss : List Stmt} {as : List IS} (C : CSs N T ns ss as) : CSs.InvC N T ns ss as := by
  induction C using CSs.casesOn with
  | nil => rfl
  | cons h r => exact ⟨_, _, rfl, h, r⟩
theorem CSs.asgCall {ss : List Stmt} {k : Nat} {f : IE} {as : List IE} {rest : List IS} (C : CSs N T ns ss (.asg (.v k) (.call f as) :: rest)) : ∃ x p x' p' es pos pos' ss', ss = .Assign [.Name x p] (.Call (.Name x' p') es [] pos) pos' :: ss' ∧
    T.lookup x = some k ∧ N.lookup x ≠ some .free ∧ CE N T ns (.Name x' p') f ∧ CEs N T ns es as := by
  obtain ⟨s, r, e, C, _⟩ := C.invC
  obtain ⟨x, p, v, pos', e2, hT, hf, C⟩ := C.invA
  obtain ⟨x', p', es, pos, e3, hfn, hes⟩ := C.invF
  exact ⟨x, p, x', p', es, pos, pos', r, by rw [e, e2, e3], hT, hf, hfn, hes⟩

/-- the tape has ended: the stop flies out of _parse_varint's frame -/
theorem pv_stop2 {it l i : Nat} {xs : List PV} {Q E : Value → Shared → Prop} {Ls : List Addr} {l0 : List Env} {h1 h4 : Heap} {tk4 : Nat} {φ4 : Nat → Addr} (R : Rel fv base φ lay sl ob s.heap) (eo : ob[it]? = some (.listIter l i)) (hi : xs[i]? = none)
    (hfr : A.frames = some l0) (hl0 : ∀ env ∈ l0, env.scope.kind ≠ .module ∧ ∃ L o, env.frame = some L ∧ L ∈ Ls ∧ s.heap.get? L = some o ∧ ∃ es ep, o.data = .dict es ep)
    (CX : Cx fv Φ (hideAll s.heap [φ it]) (A.deeper env) env N T lay2 d 3) (R4 : Rel fv (hideAll s.heap [φ it]) φ4 lay2 [some (.ref 0), none, none] [.listIter 1 i, .ro xs] h4) (S : StepS (fun k => if k = 0 then φ it else φ l) ⟨[some (.ref 0), none, none], [.listIter 1 i, .ro xs]⟩ h1 φ4 ⟨[some (.ref 0), none, none], [.listIter 1 i, .ro xs]⟩ h4)
    (hsz1 : s.heap.objs.size ≤ h1.objs.size) (hfL : env.frame = some s.heap.objs.size) (hk : ∃ k x, k < 3 ∧ lay2 k = .ns s.heap.objs.size x)
    (hE : ∀ h1 h' e t Lp, Heap.ExtBut (φ it) s.heap h1 → s.heap.objs.size ≤ h1.objs.size → s.heap.objs.size ≤ Lp → (∀ o, h1.get? Lp = some o → ∃ es ep, o.data = .dict es ep) → Heap.FlyingW (hideAll h1 (Lp :: Ls)) l0 e (.type "StopIteration") (.ref t) h' → h1.UpToSlots h' → h1.objs.size ≤ h'.objs.size → ∀ tk, E (.ref e) { s with heap := h', toks := tk }) :
    wpAny (model prog w) (A.deeper env) (call (.builtin "next") [.ref (φ4 0)]) Q (fun e s' => wpAny (model prog w) (A.deeper env) (leaving env e) (fun _ s'' => E e s'') (fun e' s'' => E e' s'') s') { s with heap := h4, toks := tk4 } := by
  have hoff : ∀ L o, s.heap.get? L = some o → (∃ es ep, o.data = .dict es ep) → L ≠ φ it := fun L o e ⟨es, ep, q⟩ z => by
    obtain ⟨_, _, x, ex, _, d⟩ := R.objs it _ eo
    rw [z, ex] at e; cases e; rw [d] at q; cases q
  obtain ⟨_, _, I4⟩ := R4.objs 0 _ rfl
  obtain ⟨us, L4, W4⟩ := items_list (i := 1) (xs := xs) R4 (show items (⟨[some (.ref 0), none, none], [PO.listIter 1 i, .ro xs]⟩ : St) 1 = some xs from rfl)
  have e0 : φ4 0 = φ it := S.agr 0 (by show 0 < 2; decide)
  rw [e0] at I4 ⊢
  obtain ⟨oL, es, ep, eL, dL, hLi⟩ : ∃ oL es ep, h4.get? s.heap.objs.size = some oL ∧ oL.data = .dict es ep ∧ s.heap.objs.size ≠ φ it := by
    obtain ⟨k, x, hk3, hlk⟩ := hk
    have X4 := R4.slots k _ (List.getElem?_eq_getElem (l := ([some (.ref 0), none, none] : List (Option PV))) hk3)
    rw [hlk] at X4
    have hns : ∃ mm, h4.Ns s.heap.objs.size mm := by
      revert X4
      cases ([some (.ref 0), none, none] : List (Option PV))[k]'hk3 with
      | none => exact fun x => x
      | some p => exact fun ⟨mm, hm, _⟩ => ⟨mm, hm⟩
    obtain ⟨mm, o, es', ep, ho, hd, _⟩ := hns
    refine ⟨o, es', ep, ho, hd, fun z => ?_⟩
    obtain ⟨x', ex', _, dx⟩ := I4
    rw [z, ex'] at ho; cases ho; rw [hd] at dx; cases dx
  refine next_list_stop (s := { s with heap := h4, toks := tk4 }) CX.room.hh I4 L4 ?_ fun h5 h6 e hs5 hz6 M => ?_
  · have := W4.1
    simp only [List.getElem?_toArray, List.getElem?_eq_none_iff] at hi ⊢; lia
  have ext4 : ∀ b o, b ≠ φ it → s.heap.get? b = some o → h5.get? b = some o := fun b o hb e => hs5.extBut b o hb (R4.stays b o (hideAll_get _ e fun z => hb (List.mem_singleton.mp z)))
  have eL5 := hs5.extBut _ oL hLi eL
  refine wpAny_with_size (wpAny_leaves_madeW (base := hideAll h5 (s.heap.objs.size :: Ls)) (h := h5) (outer := l0) (by show A.frames.map _ = _; rw [hfr]; rfl) hfL (fun b o e => of_hideAll _ e)
    ⟨by rw [CX.env.kind]; decide, ⟨_, oL, hfL, hideAll_none _ (.head _), eL5, fun vs z => by rw [dL] at z; cases z⟩, frames_in fun env' he => ?_⟩ M fun h' t x1 x2 x3 x4 hz7 => ?_)
  · obtain ⟨q1, L', o', q2, q3, q4, q5⟩ := hl0 env' he
    exact ⟨q1, L', o', q2, q3, ext4 L' o' (hoff L' o' q4 q5) q4, q5⟩
  · exact hE h5 h' e t _ ext4 (by rw [hs5.1]; exact Nat.le_trans hsz1 S.sz) (Nat.le_refl _) (fun o e => by rw [eL5] at e; cases e; exact ⟨es, ep, dL⟩) x1 ((Heap.UpToSlots.of_keeps M.keeps).trans x4) (Nat.le_trans hz6 hz7) tk4

/-- the turn of _parse_varint at which the tape has ended -/
theorem pv_stop {rest : List IS} {it l i : Nat} {xs : List PV} {Q : Value → Shared → Prop} {Ls : List Addr} {l0 : List Env} (Hse : SE prog w fv Φ 1) (Hes : SEs prog w fv Φ 2) (C10 : CodeOk fv base 10 1 3 [] (.asg (.v 1) (.call (.const (.fn (.prim .next))) [.var 0]) :: rest))
    (hR : Room (d + 1 + 1) A) (G : GlobOk fv Φ base) (hle : d < topD) (R : Rel fv base φ lay sl ob s.heap) (eo : ob[it]? = some (.listIter l i)) (el : ob[l]? = some (.list xs)) (hx : okVs 0 xs = true) (hi : xs[i]? = none)
    (hfr : A.frames = some l0) (hl0 : ∀ env ∈ l0, env.scope.kind ≠ .module ∧ ∃ L o, env.frame = some L ∧ L ∈ Ls ∧ s.heap.get? L = some o ∧ ∃ es ep, o.data = .dict es ep)
    (hE : ∀ h1 h' e t Lp, Heap.ExtBut (φ it) s.heap h1 → s.heap.objs.size ≤ h1.objs.size → s.heap.objs.size ≤ Lp → (∀ o, h1.get? Lp = some o → ∃ es ep, o.data = .dict es ep) → Heap.FlyingW (hideAll h1 (Lp :: Ls)) l0 e (.type "StopIteration") (.ref t) h' → h1.UpToSlots h' → h1.objs.size ≤ h'.objs.size → ∀ tk, E (.ref e) { s with heap := h', toks := tk }) :
    wpAny (model prog w) A (call (fv (.user 10)) [.ref (φ it)]) Q E s := by
  have hoff : ∀ L o, s.heap.get? L = some o → (∃ es ep, o.data = .dict es ep) → L ≠ φ it := fun L o e ⟨es, ep, q⟩ z => by
    obtain ⟨_, _, x, ex, _, d⟩ := R.objs it _ eo
    rw [z, ex] at e; cases e; rw [d] at q; cases q
  refine pv_frame (Φ := Φ) C10 hR G hle R eo el hx fun {env stmts N T lay2 h1 tk1} eCS CX R2 hsz1 hfL hk => ?_
  obtain ⟨x, p, x', p', es, pos, pos', ss, rfl, hT, hf, hfn, hes⟩ := eCS.asgCall
  clear eCS C10
  refine wpAny_execs_cons (wpAny_Assign_Name (wpAny_Call_NameR (Hse hfn (st := ⟨[some (.ref 0), none, none], [.listIter 1 i, .ro xs]⟩) rfl rfl CX R2 fun φ2 v2 h2 tk2 R3 S3 V3 => ?_)) ?_)
  · obtain rfl := V3.fnv
    rw [CX.glob.prims .next]
    refine Calls.callWith_builtin (hes.plain env _).1 (args_ok (s := { s with heap := h2, toks := tk2 }) Hes hes (st' := ⟨[some (.ref 0), none, none], [.listIter 1 i, .ro xs]⟩) (xs := [.ref 0]) rfl rfl CX R3 fun φ4 vs h4 tk4 R4 S4 V4 => ?_)
    obtain ⟨v, rfl, V⟩ := V4.one
    obtain ⟨rfl, _⟩ := V.refv
    have S14 := S3.trans S4
    exact pv_stop2 (s := s) R eo hi hfr hl0 CX R4 S14 hsz1 hfL hk hE
  · exact notComp rfl _ _ _
end Mine.Internal
end
section
open PySem PySem.W PyProof.Rows
namespace Mine.Internal
set_option linter.unusedSectionVars false
set_option linter.unusedVariables false
set_option maxRecDepth 100000
variable {prog : Program} {w : World} {fv : Fn → Value} {Φ : Nat → Option FnI}
variable {A : Around} {E : Value → Shared → Prop} {s : Shared} {φ φ' φ2 φ3 : Nat → Addr} {h h' base base' base2 B : Heap} {lay lay2 : Nat → Loc} {st st' st1 : St} {env : Env} {N : List (Str × NameKind)} {T : List (Str × Nat)} {d ns n m kt kn : Nat} {ob ob' ls : List PO} {sl : List (Option PV)}

theorem stop_isExc : isSubtype (.type "StopIteration") (.type "BaseException") = pure true := by rw [isSubtype_type]; kernel_rfl
theorem stop_notTuple : isSubtype (.type ((Manifest.find? "StopIteration").elim "type" fun x => x.metatype)) (.type "tuple") = pure false := by
  have : (Manifest.find? "StopIteration").elim "type" (fun x => x.metatype) = "type" := by kernel_rfl
  rw [this, isSubtype_type]; kernel_rfl
theorem load_ok2 {x : Str} {k : Nat} {r : PV} {Q : Value → Shared → Prop} (hk : env.scope.kind = .function) (T : At env lay x k) (hcd : (x == ("__classdict__" : Str)) = false) (e : st.sl[k]? = some (some r)) (R : RelS fv base φ lay st s.heap)
    (P : ∀ v, VRS fv φ st s.heap v r → Q v s) : wpAny (model prog w) A (loadName env x) Q E s := by
  have X := R.slots k _ e
  cases T with
  | loc h1 h2 =>
    rw [h2] at X
    obtain ⟨m, hm, v, ev, V⟩ := X
    exact wpAny_loadName_local hk h1 hm ev (P _ V)
  | cell c h1 h2 h3 =>
    rw [h3] at X
    obtain ⟨v, hc, V⟩ := X
    exact wpAny_loadName_cell hk h1 h2 hc (P _ V)
  | free c h1 h2 h3 =>
    rw [h3] at X
    obtain ⟨v, hc, V⟩ := X
    exact wpAny_loadName_free hk h1 h2 hc (P _ V) hcd

theorem rd_path (Hse : SE prog w fv Φ 1) (Hes : SEs prog w fv Φ 2) {stmt : Stmt} {it nu : Nat} {ys : List PV} {Q : PySem.Flow → Shared → Prop} {F10 : FnI} (e10 : Φ 10 = some F10) (C : CS N T ns stmt (.rd kt kn)) (hns : st.sl.length = ns) (X : Cx fv Φ base A env N T lay d ns) (R : RelS fv base φ lay st s.heap)
    (e1 : st.sl[kt]? = some (some (.ref it))) (e2 : st.sl[kn]? = some (some (.ref nu))) (e3 : st.ob[nu]? = some (.list ys))
    (h : ∀ (EE : Value → Shared → Prop), (∀ e s₁, (∀ nm p7 p8 p9 pos', T.lookup nm = some kn → (nm == ("__debug__" : Str)) = false → (nm == ("__classdict__" : Str)) = false → N.lookup ("StopIteration" : Str) = some .globalImplicit →
        wpAny (model prog w) A (noteFrame e env) (fun _ s₂ => wpAny (model prog w) A (setFlight e none) (fun _ s₃ => wpAny (model prog w) A (handleBy e env [.ExceptHandler (some (.Name ("StopIteration" : Str) p7)) none [.Return (some (.Name nm p8)) p9] pos']) Q E s₃) E s₂) E s₁) → EE e s₁) →
      ∀ φ' h' tk, RelS fv base φ' lay st h' → StepS φ st s.heap φ' st h' → wpAny (model prog w) A (call (fv (.user 10)) [.ref (φ' it)]) (fun v s₁ => wpAny (model prog w) A (call (.builtin (methV .append)) [.ref (φ' nu), v]) (fun _ s₂ => Q .next s₂) EE s₁) EE { s with heap := h', toks := tk }) :
    wpAny (model prog w) A (exec stmt env) Q E s := by
  cases C with
  | rd h1 h2 h3 h4 hd1 hd2 hd3 hc1 hc2 hline hx =>
    rename_i np nm ap tm pos p1 p2 p3 p4 p5 p6 p7 p8 p9 pos'
    refine wpAny_Try_except (wpAny_execs_cons ?_)
    have hh := h (fun e s₁ => wpAny (model prog w) A (noteFrame e env) (fun _ s₂ => wpAny (model prog w) A (setFlight e none) (fun _ s₃ => wpAny (model prog w) A (handleBy e env [.ExceptHandler (some (.Name ("StopIteration" : Str) p7)) none [.Return (some (.Name nm p8)) p9] pos']) Q E s₃) E s₂) E s₁)
      (fun e s₁ k => k nm p7 p8 p9 pos' h1 hd1 hc1 hx)
    have ev1 : evE Φ 1 d (.var kn) st = some (.ref nu, st) := (obS e2 rfl : xVar kn st = _)
    have ev2 : evEs Φ 2 d [.var kt] st = some ([.ref it], st) := obS (o := evE Φ 1 d (.var kt) st) (x := (.ref it, st)) (obS e1 rfl : xVar kt st = _) rfl
    have ev3 : evE Φ 1 d (.const (.fn (.user 10))) st = some (.fn (.user 10), st) := rfl
    have ces : CEs N T ns [.Name tm p4] [.var kt] := .cons (.name h2 hd2 hc2) (fun _ _ => by intro z; cases z) .nil
    obtain ⟨f1, f2, f3⟩ := meth_facts .append
    obtain ⟨f, o, fd, ef, eo, ed⟩ := X.glob.isFn 10 F10 e10
    refine wpAny_Expr_any (wpAny_Call_method rfl (by rfl) hline f1 f2 f3 (Hse (.name h1 hd1 hc1) ev1 hns X R fun φ1 v1 hp1 tk1 R1 S1 V1 => ?_)) (by unfold interactive; rw [X.env.kind]; rfl)
    obtain ⟨t1, t2⟩ := recv_ok prog w (s := { s with heap := hp1, toks := tk1 }) (m := .append) X.glob.flags (by show (match st.ob[nu]? with | some (.list _) => true | _ => false) = true; rw [e3]) R1 V1
    refine ⟨t1, t2, ?_⟩
    refine Calls.callWith_builtin rfl (Calls.evalArgs_plain (spliced_more (wpAny_Call_NameR (Hse (s := { s with heap := hp1, toks := tk1 }) (.glob h3 h4 hd3) ev3 hns X R1 fun φ2 v2 hp2 tk2 R2 S2 V2 => ?_)) rfl))
    have := V2.fnv
    subst this
    refine callWith_of (P := fun h => h.get? f = some o) (by rw [(ces.plain env _).1]; rfl) (fun h' hf => ?_) (args_ok (s := { s with heap := hp2, toks := tk2 }) Hes ces ev2 hns X R2 fun φ3 vs hp3 tk3 R3 S3 V3 => ⟨R3.stays _ _ eo, ?_⟩)
    · rw [ef]
      obtain ⟨c, dct, dt, slo⟩ := o
      dsimp only at ed
      subst ed
      exact ⟨.frame, .inl rfl, (Looks.ld (part := none) hf).andThen .now⟩
    · obtain ⟨v, rfl, V⟩ := V3.one
      obtain ⟨rfl, _⟩ := V.refv
      obtain ⟨rfl, hnu⟩ := V1.refv
      have S13 := S1.trans (S2.trans S3)
      have key := hh φ3 hp3 tk3 R3 S13
      rw [(S2.trans S3).agr nu hnu] at key
      refine wpAny_mono key (fun v s₁ h₁ => spliced_none ?_) fun _ _ x => x
      refine wpAny_mono h₁ (fun _ s₂ h₂ => ?_) fun _ _ x => x
      exact wpAny_execs_nil (wpAny_execs_nil h₂)

theorem rd_catch {nm : Str} {p7 p8 p9 pos' : Pos} {outer : List Env} {L e : Addr} {a0 : Value} {Q : PySem.Flow → Shared → Prop} (hT : T.lookup nm = some kn) (hd : (nm == ("__debug__" : Str)) = false) (hc : (nm == ("__classdict__" : Str)) = false) (hx : N.lookup ("StopIteration" : Str) = some .globalImplicit)
    (X : Cx fv Φ base A env N T lay d ns) (hfr : A.frames = some (env :: outer)) (hf : env.frame = some L) (hB : base.StaysIn B) (hfl : Heap.FlyingW B (env :: outer) e (.type "StopIteration") a0 s.heap)
    (hk : ∀ h6, B.StaysIn h6 → s.heap.UpToSlots h6 → s.heap.objs.size ≤ h6.objs.size → ∃ φ6 st6 nu, RelS fv base φ6 lay st6 h6 ∧ st6.sl[kn]? = some (some (.ref nu)) ∧ Q (.ret (.ref (φ6 nu))) { s with heap := h6 }) :
    wpAny (model prog w) A (noteFrame (.ref e) env) (fun _ s₂ => wpAny (model prog w) A (setFlight (.ref e) none) (fun _ s₃ => wpAny (model prog w) A (handleBy (.ref e) env [.ExceptHandler (some (.Name ("StopIteration" : Str) p7)) none [.Return (some (.Name nm p8)) p9] pos']) Q E s₃) E s₂) E s := by
  refine wpAny_with_size (wpAny_looks_onW hfr hf hfl fun h4 hheld hsm4 hz4 => ?_)
  refine wpAny_with_size (wpAny_landsW hheld fun h5 hfl5 hsm5 hz5 => ?_)
  have kB5 : B.StaysIn h5 := hfl5.1
  have k5 : base.StaysIn h5 := fun b o q => kB5 b o (hB b o q)
  obtain ⟨mg, mb, hg, hb, hmiss, hst⟩ := X.glob.stop
  obtain ⟨oe, hoe, hcls⟩ := hfl5.there
  refine wpAny_handleBy_builtin (X := "StopIteration") (T := "StopIteration") (b := true) stop_isExc stop_notTuple (by rw [isSubtype_type]; kernel_rfl) ?_
  refine Calls.Name_function_global X.env.kind (by unfold Env.kindOf; rw [X.env.scope]; exact hx) (Calls.loadGlobal_builtin (by rw [X.env.glob]; exact hg.keeps k5) hmiss (by rw [X.env.blt]; exact hb.keeps k5) hst ⟨rfl, ⟨oe, hoe, hcls⟩, ?_⟩) (by decide)
  rw [if_pos rfl]
  refine wpAny_with_size (lands_againW hfl5 fun h6 hfl6 hsm6 hz6 => ?_)
  obtain ⟨φ6, st6, nu, R6, e6, q6⟩ := hk h6 hfl6.1 ((hsm4.trans hsm5).trans hsm6) (Nat.le_trans hz4 (Nat.le_trans hz5 hz6))
  refine wpAny_execs_cons (wpAny_Return_some (wpAny_Name (load_ok2 (s := { s with heap := h6 }) X.env.kind (X.env.at_ _ _ hT) hc e6 R6 fun v7 V7 => ?_) hd))
  obtain ⟨rfl, _⟩ := V7.refv
  exact q6
end Mine.Internal
end
section
open PySem PySem.W PyProof.Rows
namespace Mine.Internal
set_option linter.unusedSectionVars false
set_option linter.unusedVariables false
set_option maxRecDepth 100000
variable {prog : Program} {w : World} {fv : Fn → Value} {Φ Φ' : Nat → Option FnI}
variable {A : Around} {E : Value → Shared → Prop} {s : Shared} {φ φ' φ2 φ3 : Nat → Addr} {h h' base base' base0 base2 B : Heap} {lay lay2 : Nat → Loc} {st st' st1 : St} {env : Env} {N : List (Str × NameKind)} {T : List (Str × Nat)} {d ns n m kt kn : Nat} {ob ob' ls : List PO} {sl : List (Option PV)}

noncomputable def decodeGo : List Int → Option (List Int)
  | [] => some []
  | [_] => none
  | a :: b :: r => if 64 ≤ a ∧ a < 128 ∧ 0 ≤ b ∧ b < 64 then (decodeGo r).map (((a - 64) * 64 + b) :: ·) else none
noncomputable def zeroN : Nat → Option Unit
  | 0 => some ()
  | _ + 1 => none
noncomputable def oneO : List PO → Option PO
  | [o] => some o
  | _ => none
noncomputable def readF (ys : List PV) (ls : List PO) : Option (PV × List PO) := do
  let y ← arg1 ys
  let i ← asR y
  let _ ← zeroN i
  let o ← oneO ls
  let xs ← asList (some o)
  let ns ← intsOf xs
  let ds ← decodeGo ns
  if ns.length ≤ 200 then some (.ref 1, [.list xs, .list (ds.map .int)]) else none
theorem decode_at : ∀ {ns ds : List Int}, decodeGo ns = some ds → ns.length = 2 * ds.length ∧ ∀ j, j < ds.length → ∃ a b, ns[2 * j]? = some a ∧ ns[2 * j + 1]? = some b ∧ 64 ≤ a ∧ a < 128 ∧ 0 ≤ b ∧ b < 64 ∧ ds[j]? = some ((a - 64) * 64 + b)
  | [], ds, e => by cases e; exact ⟨rfl, fun j hj => absurd hj (Nat.not_lt_zero _)⟩
  | [_], ds, e => by cases e
  | a :: b :: r, ds, e => by
    unfold decodeGo at e
    split at e
    · rename_i hab
      cases er : decodeGo r with
      | none => rw [er] at e; cases e
      | some ds' =>
        rw [er] at e; cases e
        obtain ⟨h1, h2⟩ := decode_at er
        refine ⟨by simp [h1]; lia, fun j hj => ?_⟩
        cases j with
        | zero => exact ⟨a, b, rfl, rfl, hab.1, hab.2.1, hab.2.2.1, hab.2.2.2, rfl⟩
        | succ j =>
          obtain ⟨a', b', e1, e2, r⟩ := h2 j (by simpa using hj)
          refine ⟨a', b', ?_, ?_, r.1, r.2.1, r.2.2.1, r.2.2.2.1, by simpa using r.2.2.2.2⟩
          · rw [show 2 * (j + 1) = 2 * j + 1 + 1 by lia]; simpa using e1
          · rw [show 2 * (j + 1) + 1 = 2 * j + 1 + 1 + 1 by lia]; simpa using e2
    · cases e
theorem intsOf_eq : ∀ {xs : List PV} {ns : List Int}, intsOf xs = some ns → xs = ns.map .int
  | [], ns, e => by cases e; rfl
  | x :: r, ns, e => by
    cases x with
    | int i =>
      unfold intsOf at e
      cases er : intsOf r with
      | none => rw [er] at e; cases e
      | some z => rw [er] at e; cases e; rw [List.map_cons, intsOf_eq er]
    | _ => cases e
theorem intsOf_map : ∀ {ns : List Int}, intsOf (ns.map .int) = some ns
  | [] => rfl
  | x :: r => by rw [List.map_cons]; unfold intsOf; rw [intsOf_map]; rfl
theorem ints_ok0 {k : Nat} : ∀ {ns : List Int}, okVs k (ns.map .int) = true
  | [] => rfl
  | _ :: r => ints_ok0 (ns := r)

theorem GlobOk.less (G : GlobOk fv Φ base) (hsub : ∀ k F, Φ' k = some F → Φ k = some F) : GlobOk fv Φ' base :=
  ⟨G.names, G.flags, G.prims, G.nolimit, fun k F e => G.isFn k F (hsub k F e), fun k np ns df body e => G.code k np ns df body (hsub _ _ e), G.read, G.stop⟩

structure Slotty (Ls : List Addr) (h h' : Heap) : Prop where
  keep : ∀ b o, h.get? b = some o → b ∉ Ls → h'.get? b = some o
  up : h.UpToSlots h'
  sz : h.objs.size ≤ h'.objs.size
  dict : ∀ L ∈ Ls, ∀ o, h.get? L = some o → ∃ es ep, o.data = .dict es ep

noncomputable def rdO (ns ds : List Int) (j j' : Nat) : List PO := [.list (ns.map .int), .listIter 0 (2 * j), .list ((ds.take j).map .int), .range 0 ((ns.length : Int) + 1) 1, .rangeIter (j' : Int) ((ns.length : Int) + 1 - (j' : Int)) 1]

/-- with less of the module's heap told -/
theorem Rel.lessBase (R : Rel fv base φ lay sl ob h) (hb : base0.StaysIn base) (hro : ∀ (k : Nat) (xs : List PV), ob[k]? ≠ some (PO.ro xs)) : Rel fv base0 φ lay sl ob h := by
  have nn : ∀ {b : Addr}, base.get? b = none → base0.get? b = none := fun {b} e => by
    cases q : base0.get? b with
    | none => rfl
    | some o => rw [hb b o q] at e; cases e
  refine ⟨fun b o e => R.stays b o (hb b o e), R.slots, fun k hk => nn (R.slnew k hk), R.sldist, fun k o e => ?_, R.home, R.inj⟩
  have X := R.objs k o e
  cases o with
  | list xs => exact ⟨nn X.1, X.2⟩
  | ro xs => exact absurd e (hro k xs)
  | range a b c => exact ⟨nn X.1, X.2⟩
  | rangeIter a b c => exact ⟨nn X.1, X.2⟩
  | listIter l i => exact ⟨nn X.1, X.2⟩
  | tupIter xs i => exact ⟨nn X.1, X.2⟩
  | enum it i => exact ⟨nn X.1, X.2⟩
  | zip a b => obtain ⟨h0, h1, h2, h3, h4, h5, r⟩ := X; exact ⟨nn h0, h1, h2, h3, h4, nn h5, r⟩
  | dead => exact ⟨nn X.1, X.2⟩
theorem Cx.lessBase (X : Cx fv Φ base A env N T lay d ns) (G : GlobOk fv Φ base0) : Cx fv Φ base0 A env N T lay d ns := ⟨X.room, X.env, G, ⟨X.fra.le, X.fra.top⟩, X.bd⟩
end Mine.Internal
end
section
open PySem PySem.W PyProof.Rows
namespace Mine.Internal
set_option linter.unusedSectionVars false
set_option linter.unusedVariables false
set_option maxRecDepth 100000
variable {prog : Program} {w : World} {fv : Fn → Value} {Φ : Nat → Option FnI}
variable {A : Around} {E : Value → Shared → Prop} {s : Shared} {φ φ' φ2 φ3 : Nat → Addr} {h h' base base' base0 base2 B : Heap} {lay lay2 : Nat → Loc} {st st' st1 : St} {env : Env} {N : List (Str × NameKind)} {T : List (Str × Nat)} {d n m kt kn : Nat} {ob ob' ls : List PO} {sl : List (Option PV)}

/-- what is asked of the text of _parse_varint -/
structure PvOk (Φ : Nat → Option FnI) (body : List IS) (rest : List IS) : Prop where
  e10 : Φ 10 = some (.code 1 3 [] body)
  first : body = .asg (.v 1) (.call (.const (.fn (.prim .next))) [.var 0]) :: rest
  run : ∀ d (xs : List PV) i a b, xs[i]? = some (.int a) → xs[i + 1]? = some (.int b) → 64 ≤ a → a < 128 → 0 ≤ b → b < 64 → ∃ n sl', evSs Φ n d body ⟨[some (.ref 0), none, none], [.listIter 1 i, .ro xs]⟩ = some (.ret (.int ((a - 64) * 64 + b)), ⟨sl', [.listIter 1 (i + 2), .ro xs]⟩)

/-- a frame of the law's own around -/
structure Two (A : Around) (env : Env) (base base0 : Heap) (lay : Nat → Loc) (Lr Ll : Addr) (envl : Env) : Prop where
  frames : A.frames = some [env, envl]
  fr : env.frame = some Lr
  lr : ∃ k x, k < 4 ∧ lay k = .ns Lr x
  kind : envl.scope.kind ≠ .module
  fl : envl.frame = some Ll
  ll : ∃ o, base.get? Ll = some o ∧ ∃ es ep, o.data = .dict es ep
  off : base0.get? Ll = none
  offr : base0.get? Lr = none
  le : base0.StaysIn base

theorem rd_norm {ns ds : List Int} {body rest : List IS} {stmt : Stmt} {j j' : Nat} {x3 : Option PV} {Q : PySem.Flow → Shared → Prop} (Hall : ∀ n, All prog w fv Φ n) (PV10 : PvOk Φ body rest) (C : CS N T 4 stmt (.rd 1 2)) (X : Cx fv Φ base A env N T lay 7 4)
    (hds : decodeGo ns = some ds) (hj : j < ds.length) (hlen : ns.length ≤ 200) (R : RelS fv base φ lay ⟨[some (.ref 0), some (.ref 1), some (.ref 2), x3], rdO ns ds j j'⟩ s.heap)
    (P : PostF fv base φ lay ⟨[some (.ref 0), some (.ref 1), some (.ref 2), x3], rdO ns ds j j'⟩ ⟨[some (.ref 0), some (.ref 1), some (.ref 2), x3], rdO ns ds (j + 1) j'⟩ .next s Q) : wpAny (model prog w) A (exec stmt env) Q E s := by
  obtain ⟨hl, hat⟩ := decode_at hds
  obtain ⟨a, b, ea, eb, a1, a2, b1, b2, ed⟩ := hat j hj
  obtain ⟨n, sl', hev⟩ := PV10.run 6 (ns.map .int) (2 * j) a b (by rw [List.getElem?_map, ea]; rfl) (by rw [List.getElem?_map, eb]; rfl) a1 a2 b1 b2
  refine rd_path (Hall 1).e (Hall 2).es PV10.e10 C rfl X R rfl rfl rfl fun EE hEE φ1 h1 tk1 R1 S1 => ?_
  refine pv_ok (s := { s with heap := h1, toks := tk1 }) (lay := lay) (it := 1) (l := 0) (Hall n).ss PV10.e10 hev X.room X.glob (by decide) R1 rfl rfl ints_ok0 fun t h2 tk2 R2 S2 => ?_
  have S12 := S1.trans S2
  have e : methop .append (.ref 2) [.int ((a - 64) * 64 + b)] (⟨[some (.ref 0), some (.ref 1), some (.ref 2), x3], (rdO ns ds j j').set 1 (.listIter 0 (2 * j + 2))⟩ : St) = some (.none, ⟨[some (.ref 0), some (.ref 1), some (.ref 2), x3], rdO ns ds (j + 1) j'⟩) := by
    have hroom : ((ds.take j).map PV.int).length ≤ room := by
      rw [List.length_map, List.length_take]; unfold room; lia
    have ht : (ds.take (j + 1)).map PV.int = (ds.take j).map PV.int ++ [.int ((a - 64) * 64 + b)] := by
      rw [List.take_add_one, ed]; simp
    show (if ((ds.take j).map PV.int).length ≤ room then some (PV.none, setO _ 2 (.list ((ds.take j).map PV.int ++ [.int ((a - 64) * 64 + b)]))) else none) = _
    rw [if_pos hroom, ← ht]
    rfl
  have l2 : (2 : Nat) < (rdO ns ds j j').length := by show 2 < 5; lia
  rw [← S2.agr 2 l2]
  refine meth_ok (s := { s with heap := h2, toks := tk2 }) (mt := .append) X.room X.glob.flags e R2 (.ref 2 (by show 2 < 5; lia)) (VRs.cons (.int _ t) .nil) fun φ3 v3 h3 tk3 R3 S3 V3 => ?_
  exact P φ3 .next h3 tk3 R3 (S12.trans S3) .next

theorem rd_stop {ns ds : List Int} {body rest : List IS} {stmt : Stmt} {j' : Nat} {x3 : Option PV} {Q : PySem.Flow → Shared → Prop} {Lr Ll : Addr} {envl : Env} (Hall : ∀ n, All prog w fv Φ n) (PV10 : PvOk Φ body rest) (C : CS N T 4 stmt (.rd 1 2)) (X : Cx fv Φ base A env N T lay 7 4)
    (G0 : GlobOk fv Φ base0) (W2 : Two A env base base0 lay Lr Ll envl) (hds : decodeGo ns = some ds) (hlen : ns.length ≤ 200) (R : RelS fv base φ lay ⟨[some (.ref 0), some (.ref 1), some (.ref 2), x3], rdO ns ds ds.length j'⟩ s.heap)
    (P : ∀ φ1 h1 h6 tk Lp, RelS fv base φ1 lay ⟨[some (.ref 0), some (.ref 1), some (.ref 2), x3], (rdO ns ds ds.length j').set 1 .dead⟩ h1 → Step φ 5 s.heap φ1 5 h1 → s.heap.objs.size ≤ Lp → Slotty [Lp, Lr, Ll] h1 h6 → Q (.ret (.ref (φ1 2))) { s with heap := h6, toks := tk }) : wpAny (model prog w) A (exec stmt env) Q E s := by
  obtain ⟨hl, _⟩ := decode_at hds
  refine rd_path (Hall 1).e (Hall 2).es PV10.e10 C rfl X R rfl rfl rfl fun EE hEE φ1 h1 tk1 R1 S1 => ?_
  have C10 : CodeOk fv base 10 1 3 [] (.asg (.v 1) (.call (.const (.fn (.prim .next))) [.var 0]) :: rest) := by
    have := X.glob.code 10 1 3 [] body PV10.e10
    rwa [PV10.first] at this
  obtain ⟨ol, hol, dl⟩ := W2.ll
  have hLr : ∃ mm, h1.Ns Lr mm := by
    obtain ⟨k, x, hk, hlk⟩ := W2.lr
    have es : ([some (.ref 0), some (.ref 1), some (.ref 2), x3] : List (Option PV))[k]? = some (([some (.ref 0), some (.ref 1), some (.ref 2), x3] : List (Option PV))[k]'hk) := List.getElem?_eq_getElem hk
    have X4 := R1.slots k _ es
    rw [hlk] at X4
    revert X4
    cases ([some (.ref 0), some (.ref 1), some (.ref 2), x3] : List (Option PV))[k]'hk with
    | none => exact fun x => x
    | some p => exact fun ⟨mm, hm, _⟩ => ⟨mm, hm⟩
  obtain ⟨mm, oR, esR, epR, hoR, hdR, _⟩ := id hLr
  have hl0 : ∀ env' ∈ [env, envl], env'.scope.kind ≠ .module ∧ ∃ L o, env'.frame = some L ∧ L ∈ [Lr, Ll] ∧ h1.get? L = some o ∧ ∃ es ep, o.data = .dict es ep := fun env' he => by
    rcases List.mem_cons.mp he with rfl | he
    · exact ⟨by rw [X.env.kind]; decide, Lr, oR, W2.fr, .head _, hoR, esR, epR, hdR⟩
    · rcases List.mem_cons.mp he with rfl | he
      · exact ⟨W2.kind, Ll, ol, W2.fl, .tail _ (.head _), R1.stays _ _ hol, dl⟩
      · cases he
  have hxi : (ns.map PV.int)[2 * ds.length]? = none := by rw [List.getElem?_eq_none_iff, List.length_map, hl]; exact Nat.le_refl _
  refine pv_stop (s := { s with heap := h1, toks := tk1 }) (d := 6) (it := 1) (l := 0) (Ls := [Lr, Ll]) (Hall 1).e (Hall 2).es C10 X.room X.glob (by decide) R1 rfl rfl ints_ok0 hxi W2.frames hl0 fun h2 h3 e t Lp hx2 hz2 hLp hdp hfl hup hz3 tk => ?_
  refine hEE _ _ fun nm p7 p8 p9 pos' hT hd hc hx => ?_
  obtain ⟨hbi, _, I1⟩ := R1.objs 1 _ rfl
  have R2 : RelS fv base φ1 lay ⟨[some (.ref 0), some (.ref 1), some (.ref 2), x3], (rdO ns ds ds.length j').set 1 .dead⟩ h2 := by
    have e1 : (rdO ns ds ds.length j')[1]? = some (.listIter 0 (2 * ds.length)) := rfl
    exact R1.upd (o' := .dead) e1 rfl hbi hz2 hx2 ⟨hbi, Nat.lt_of_lt_of_le (R1.ltAll 1 (by show 1 < 5; lia)) hz2⟩
  have S2 : Step φ1 5 h1 φ1 5 h2 := R1.step_upd (k := 1) (ob := rdO ns ds ds.length j') rfl hz2 hx2
  have R0 : Rel fv base0 φ1 lay [some (.ref 0), some (.ref 1), some (.ref 2), x3] ((rdO ns ds ds.length j').set 1 .dead) h2 := R2.lessBase W2.le fun k xs e => by
    match k, e with
    | 0, e => cases e
    | 1, e => cases e
    | 2, e => cases e
    | 3, e => cases e
    | 4, e => cases e
    | k + 5, e => simp [rdO] at e
  have hb0p : base0.get? Lp = none := by
    cases q : base0.get? Lp with
    | none => rfl
    | some o => exact absurd (Heap.lt_size (R1.stays _ _ (W2.le _ _ q))) (Nat.not_lt.mpr hLp)
  have off0 : ∀ L ∈ [Lp, Lr, Ll], base0.get? L = none := fun L hL => by
    rcases List.mem_cons.mp hL with rfl | hL
    · exact hb0p
    · rcases List.mem_cons.mp hL with rfl | hL
      · exact W2.offr
      · rcases List.mem_cons.mp hL with rfl | hL
        · exact W2.off
        · cases hL
  have hB : base0.StaysIn (hideAll h2 [Lp, Lr, Ll]) := fun b o q => hideAll_get _ (R0.stays b o q) fun hm => by rw [off0 b hm] at q; cases q
  have offNotIt : ∀ {L : Addr} {o : Obj}, h1.get? L = some o → (∃ es ep, o.data = .dict es ep) → L ≠ φ1 1 := fun {L o} e ⟨es, ep, q⟩ z => by
    obtain ⟨x, ex, _, dx⟩ := I1
    rw [z, ex] at e; cases e; rw [dx] at q; cases q
  have hdict : ∀ L ∈ [Lp, Lr, Ll], ∀ o, h2.get? L = some o → ∃ es ep, o.data = .dict es ep := fun L hL o eo => by
    rcases List.mem_cons.mp hL with rfl | hL
    · exact hdp o eo
    · rcases List.mem_cons.mp hL with rfl | hL
      · have := hx2 _ _ (offNotIt hoR ⟨_, _, hdR⟩) hoR
        rw [this] at eo; cases eo; exact ⟨_, _, hdR⟩
      · rcases List.mem_cons.mp hL with rfl | hL
        · have := hx2 _ _ (offNotIt (R1.stays _ _ hol) dl) (R1.stays _ _ hol)
          rw [this] at eo; cases eo; exact dl
        · cases hL
  refine rd_catch (s := { s with heap := h3, toks := tk }) (B := hideAll h2 [Lp, Lr, Ll]) hT hd hc hx (X.lessBase G0) W2.frames W2.fr hB hfl fun h6 k6 u6 z6 => ?_
  have SL : Slotty [Lp, Lr, Ll] h2 h6 := ⟨fun b o e hn => k6 _ _ (hideAll_get _ e hn), hup.trans u6, Nat.le_trans hz3 z6, hdict⟩
  obtain ⟨R6, S6⟩ := R0.slotty SL.keep SL.up SL.sz SL.dict off0
  exact ⟨φ1, ⟨[some (.ref 0), some (.ref 1), some (.ref 2), x3], (rdO ns ds ds.length j').set 1 .dead⟩, 2, R6, rfl, P φ1 h2 h6 tk Lp R2 (Step.trans S1 S2) (Nat.le_trans S1.sz hLp) SL⟩
end Mine.Internal
end
section
open PySem PySem.W PyProof.Rows
namespace Mine.Internal
set_option linter.unusedSectionVars false
set_option linter.unusedVariables false
set_option maxRecDepth 100000
variable {prog : Program} {w : World} {fv : Fn → Value} {Φ : Nat → Option FnI}
variable {A : Around} {E : Value → Shared → Prop} {s : Shared} {φ φ' φ2 φ3 : Nat → Addr} {h h' base base' base0 base2 B : Heap} {lay lay2 : Nat → Loc} {st st' st1 : St} {env : Env} {N : List (Str × NameKind)} {T : List (Str × Nat)} {d n m kt kn : Nat} {ob ob' ls : List PO} {sl : List (Option PV)}

theorem rangeLen_up {m : Nat} : rangeLen 0 ((m : Int) + 1) 1 = (m : Int) + 1 := by
  unfold rangeLen
  rw [if_pos (by decide), if_pos (by lia)]
  simp

theorem rb_ev1 {ns : List Int} : evS Φ 10 7 (.asg (.v 1) (.call (.const (.fn (.prim .iter))) [.var 0])) (⟨[some (.ref 0), none, none, none], [.list (ns.map .int)]⟩ : St) = some (.next, ⟨[some (.ref 0), some (.ref 1), none, none], [.list (ns.map .int), .listIter 0 0]⟩) := by
    rfl
theorem rb_ev2 {ns : List Int} : evS Φ 10 7 (.asg (.v 2) (.list [])) (⟨[some (.ref 0), some (.ref 1), none, none], [.list (ns.map .int), .listIter 0 0]⟩ : St) = some (.next, ⟨[some (.ref 0), some (.ref 1), some (.ref 2), none], [.list (ns.map .int), .listIter 0 0, .list []]⟩) := by
    rfl
theorem rb_len {sl : List (Option PV)} {r : List PO} {ns : List Int} (hr : (ns.map PV.int).length ≤ room) : primop .len [.ref 0] ⟨sl, .list (ns.map .int) :: r⟩ = some (.int (ns.length : Int), ⟨sl, .list (ns.map .int) :: r⟩) := by
  show (if (ns.map PV.int).length ≤ room then some (PV.int ((ns.map PV.int).length : Int), (⟨sl, .list (ns.map .int) :: r⟩ : St)) else none) = _
  rw [if_pos hr, List.length_map]
theorem rb_range {sl : List (Option PV)} {ob : List PO} {a : Int} (hr : rangeFits 0 a 1 = true) : primop .range [.int a] ⟨sl, ob⟩ = some (.ref ob.length, ⟨sl, ob ++ [.range 0 a 1]⟩) := by
  show (if rangeFits 0 a 1 = true then some (push ⟨sl, ob⟩ (.range 0 a 1)) else none) = _
  rw [if_pos hr]; rfl
theorem rb_add {st : St} {a b : Int} (hr : fits (a + b) = true) : binop .add (.int a) (.int b) st = some (.int (a + b), st) := by
  show (do let v ← mkI (a + b); return (v, st)) = _
  unfold mkI; rw [hr]; rfl

theorem e_var {n d k : Nat} {st : St} {v : PV} (h : st.sl[k]? = some (some v)) : evE Φ (n + 1) d (.var k) st = some (v, st) := (obS h rfl : xVar k st = _)
theorem e_const {n d : Nat} {st : St} {v : PV} : evE Φ (n + 1) d (.const v) st = some (v, st) := rfl
theorem e_one {n d : Nat} {e : IE} {st st' : St} {v : PV} (h : evE Φ (n + 1) d e st = some (v, st')) : evEs Φ (n + 1 + 1) d [e] st = some ([v], st') := obS h rfl
theorem e_prim {n d : Nat} {p : Prim} {es : List IE} {st st1 st' : St} {xs : List PV} {v : PV} (h1 : evEs Φ (n + 1) d es st = some (xs, st1)) (h2 : primop p xs st1 = some (v, st')) : evE Φ (n + 1 + 1) d (.call (.const (.fn (.prim p))) es) st = some (v, st') := by
  exact obS (o := evE Φ (n + 1) d _ st) (x := (.fn (.prim p), st)) rfl (obS h1 h2)
theorem e_bin {n d : Nat} {op : Op} {a b : IE} {st st1 st2 st' : St} {x y v : PV} (h1 : evE Φ n d a st = some (x, st1)) (h2 : evE Φ n d b st1 = some (y, st2)) (h3 : binop op x y st2 = some (v, st')) : evE Φ (n + 1) d (.bin op a b) st = some (v, st') := by
  exact obS h1 (obS h2 h3)
theorem rb_ev3 {ns : List Int} (hlen : ns.length ≤ 200) : evE Φ 10 7 (.call (.const (.fn (.prim .range))) [.bin .add (.call (.const (.fn (.prim .len))) [.var 0]) (.const (.int 1))]) (⟨[some (.ref 0), some (.ref 1), some (.ref 2), none], [.list (ns.map .int), .listIter 0 0, .list []]⟩ : St) =
      some (.ref 3, ⟨[some (.ref 0), some (.ref 1), some (.ref 2), none], [.list (ns.map .int), .listIter 0 0, .list [], .range 0 ((ns.length : Int) + 1) 1]⟩) :=
    have hf : fits ((ns.length : Int) + 1) = true := by unfold fits big; simp; lia
    have hr : rangeFits 0 ((ns.length : Int) + 1) 1 = true := by
      unfold rangeFits; rw [hf]; decide
    have hroom' : (ns.map PV.int).length ≤ room := by rw [List.length_map]; unfold room; lia
    e_prim (n := 8) (e_one (e_bin (e_prim (e_one (e_var rfl)) (rb_len hroom')) e_const (rb_add hf))) (rb_range hr)
theorem rb_ev4 {ns ds : List Int} : iterI (.ref 3) (⟨[some (.ref 0), some (.ref 1), some (.ref 2), none], [.list (ns.map .int), .listIter 0 0, .list [], .range 0 ((ns.length : Int) + 1) 1]⟩ : St) = some (4, ⟨[some (.ref 0), some (.ref 1), some (.ref 2), none], rdO ns ds 0 0⟩) := by
    exact obS (o := some (PO.range 0 ((ns.length : Int) + 1) 1)) rfl (by show some (4, _) = _; rw [rangeLen_up]; rfl)
theorem rb_ev5 {ns ds : List Int} {x3 : Option PV} {j : Nat} (hleft : (0 : Int) < (ns.length : Int) + 1 - (j : Int)) : nextI (.v 3) 4 (⟨[some (.ref 0), some (.ref 1), some (.ref 2), x3], rdO ns ds j j⟩ : St) = some (some (.int (j : Int)), ⟨[some (.ref 0), some (.ref 1), some (.ref 2), x3], rdO ns ds j (j + 1)⟩) := by
    show some (if (0 : Int) < (ns.length : Int) + 1 - (j : Int) then (some (PV.int (j : Int)), setO _ 4 (.rangeIter ((j : Int) + 1) ((ns.length : Int) + 1 - (j : Int) - 1) 1)) else _) = _
    rw [if_pos hleft]
    have : (ns.length : Int) + 1 - (j : Int) - 1 = (ns.length : Int) + 1 - ((j + 1 : Nat) : Int) := by lia
    rw [this]
    rfl
theorem rb_ev6 {ns ds : List Int} {x3 : Option PV} {j : Nat} : setT (.v 3) (.int (j : Int)) (⟨[some (.ref 0), some (.ref 1), some (.ref 2), x3], rdO ns ds j (j + 1)⟩ : St) = some ⟨[some (.ref 0), some (.ref 1), some (.ref 2), some (.int (j : Int))], rdO ns ds j (j + 1)⟩ := by
    rfl
theorem FlowR.isNext {f : PySem.Flow} (F : FlowR fv φ n h f .next) : f = .next := by cases F; rfl
noncomputable def CS.InvFr (N : List (Str × NameKind)) (T : List (Str × Nat)) (ns : Nat) (stmt : Stmt) : IS → Prop
  | .fr t it x _ => ∃ target iter b o pos, stmt = .For target iter b o pos ∧ CT N T target t ∧ CE N T ns iter it ∧ CSs N T ns b x
  | _ => True
theorem CS.invFr {ns : Nat} {stmt : Stmt} {a : IS} (C : CS N T ns stmt a) : CS.InvFr N T ns stmt a := by
  induction C using CS.casesOn with
  | fr ht hi hb ho => exact ⟨_, _, _, _, _, rfl, ht, hi, hb⟩
  | _ => exact trivial
/-- the statements of _law_read -/
theorem CSs.read {stmts : List Stmt} {P : Prop} (C : CSs N T 4 stmts readIR) (k : ∀ {s1 s2 : Stmt} {target iter : PySem.Expr} {b : Stmt} {o : List Stmt} {pos : Pos} {rest : List Stmt}, stmts = s1 :: s2 :: .For target iter [b] o pos :: rest →
    CS N T 4 s1 (.asg (.v 1) (.call (.const (.fn (.prim .iter))) [.var 0])) → CS N T 4 s2 (.asg (.v 2) (.list [])) → CT N T target (.v 3) → CE N T 4 iter (.call (.const (.fn (.prim .range))) [.bin .add (.call (.const (.fn (.prim .len))) [.var 0]) (.const (.int 1))]) → CS N T 4 b (.rd 1 2) → P) : P := by
  refine Classical.byContradiction fun no => ?_
  obtain ⟨s1, r1, e1, c1, C⟩ := C.invC
  obtain ⟨s2, r2, e2, c2, C⟩ := C.invC
  obtain ⟨s3, r3, e3, c3, C⟩ := C.invC
  obtain ⟨target, iter, b, o, pos, e4, ht, hi, hb⟩ := c3.invFr
  obtain ⟨sb, rb, e5, hrd, hbn⟩ := hb.invC
  exact no (k (by rw [e1, e2, e3, e4, e5, show rb = [] from hbn.invC]) c1 c2 ht hi hrd)
theorem read_body {ns ds : List Int} {body rest : List IS} {stmts : List Stmt} {Q : PySem.Flow → Shared → Prop} {Lr Ll : Addr} {envl : Env} (Hall : ∀ n, All prog w fv Φ n) (PV10 : PvOk Φ body rest) (C : CSs N T 4 stmts readIR) (X : Cx fv Φ base A env N T lay 7 4)
    (G0 : GlobOk fv Φ base0) (W2 : Two A env base base0 lay Lr Ll envl) (hds : decodeGo ns = some ds) (hlen : ns.length ≤ 200) (R : RelS fv base φ lay ⟨[some (.ref 0), none, none, none], [.list (ns.map .int)]⟩ s.heap)
    (P : ∀ φ1 h1 h6 tk Lp x3 j', RelS fv base φ1 lay ⟨[some (.ref 0), some (.ref 1), some (.ref 2), x3], (rdO ns ds ds.length j').set 1 .dead⟩ h1 → Step φ 1 s.heap φ1 5 h1 → s.heap.objs.size ≤ Lp → Slotty [Lp, Lr, Ll] h1 h6 → Q (.ret (.ref (φ1 2))) { s with heap := h6, toks := tk }) :
    wpAny (model prog w) A (execs stmts env) Q E s := by
  refine C.read fun {s1 s2 target iter b o pos rest'} e c1 c2 ht hi hrd => ?_
  subst e
  clear C
  obtain ⟨hl, _⟩ := decode_at hds
  have hroom : (ns.map PV.int).length ≤ room := by rw [List.length_map]; unfold room; lia
  refine wpAny_execs_cons ((Hall 10).s c1 (rb_ev1 (Φ := Φ) ) rfl X R fun φ1 f1 h1 tk1 R1 S1 F1 => ?_)
  obtain rfl := F1.isNext
  refine wpAny_execs_cons ((Hall 10).s (s := { s with heap := h1, toks := tk1 }) c2 (rb_ev2 (Φ := Φ) ) rfl X R1 fun φ2 f2 h2 tk2 R2 S2 F2 => ?_)
  obtain rfl := F2.isNext
  refine wpAny_execs_cons (wpAny_For ((Hall 10).e (s := { s with heap := h2, toks := tk2 }) hi (rb_ev3 (Φ := Φ) (hlen := hlen)) rfl X R2 fun φ3 v3 h3 tk3 R3 S3 V3 => iter_ok (s := { s with heap := h3, toks := tk3 }) (rb_ev4 (ds := ds)) R3 V3 fun φ4 h4 tk4 R4 S4 hit => ?_) ((CE.notSet hi (by intro z; cases z)).2 _))
  have S14 : Step φ 1 s.heap φ4 5 h4 := S1.trans (S2.trans (S3.trans S4))
  refine codeAny_forLoop_any (fun m s' => ∃ j x3 φj hj tkj, m = ds.length - j ∧ j ≤ ds.length ∧ s' = { s with heap := hj, toks := tkj } ∧ RelS fv base φj lay ⟨[some (.ref 0), some (.ref 1), some (.ref 2), x3], rdO ns ds j j⟩ hj ∧ Step φ4 5 h4 φj 5 hj) ?_ ds.length ⟨0, none, φ4, h4, tk4, rfl, Nat.zero_le _, rfl, R4, Step.refl ..⟩
  rintro m s' ⟨j, x3, φj, hj, tkj, rfl, hjl, rfl, Rj, Sj⟩
  rw [← Sj.agr 4 (by lia)]
  have hleft : (0 : Int) < (ns.length : Int) + 1 - (j : Int) := by lia
  refine next_turn (s := { s with heap := hj, toks := tkj }) (t := .v 3) (C := fun v s₁' => wpAny (model prog w) A (assign _ env v) (fun _ s₂ => wpAny (model prog w) A (execs [_] env) (fun f s₃ => match f with
            | .next | .cont => ∃ m', m' < ds.length - j ∧ (∃ j x3 φj hj tkj, m' = ds.length - j ∧ j ≤ ds.length ∧ s₃ = { s with heap := hj, toks := tkj } ∧ RelS fv base φj lay ⟨[some (.ref 0), some (.ref 1), some (.ref 2), x3], rdO ns ds j j⟩ hj ∧ Step φ4 5 h4 φj 5 hj)
            | .brk => _
            | .ret v => _) _ s₂) _ s₁') X.room.hh ht.isTup (rb_ev5 (hleft := hleft)) Rj ?_
  intro u h5 tk5 R5 S5 V5
  refine assign_ok (s := { s with heap := h5, toks := tk5 }) X.room.hh X.env ht (rb_ev6 ) R5 V5 fun φ6 h6 tk6 R6 S6 => ?_
  have S46 : Step φ4 5 h4 φ6 5 h6 := Sj.trans (Step.trans S5 S6)
  by_cases hjd : j < ds.length
  · refine wpAny_execs_cons (rd_norm (s := { s with heap := h6, toks := tk6 }) Hall PV10 hrd X hds hjd hlen R6 fun φ7 f7 h7 tk7 R7 S7 F7 => ?_)
    obtain rfl := F7.isNext
    exact wpAny_execs_nil ⟨ds.length - (j + 1), by lia, j + 1, _, φ7, h7, tk7, rfl, hjd, rfl, R7, S46.trans S7⟩
  · obtain rfl : j = ds.length := by lia
    refine wpAny_execs_cons (rd_stop (s := { s with heap := h6, toks := tk6 }) Hall PV10 hrd X G0 W2 hds hlen R6 fun φ7 h7 h8 tk8 Lp R7 S7 hLp SL => ?_)
    exact P φ7 h7 h8 tk8 Lp _ _ R7 (S14.trans (S46.trans S7)) (Nat.le_trans S14.sz (Nat.le_trans S46.sz hLp)) SL
end Mine.Internal
end
section
open PySem PySem.W PyProof.Rows
namespace Mine.Internal
set_option linter.unusedSectionVars false
set_option linter.unusedVariables false
set_option maxRecDepth 100000
variable {prog : Program} {w : World} {fv : Fn → Value} {Φ Φ' : Nat → Option FnI}

theorem zeroN_el {i : Nat} {u : Unit} (h : zeroN i = some u) : i = 0 := by cases i <;> cases h; rfl
theorem oneO_el {ls : List PO} {o : PO} (h : oneO ls = some o) : ls = [o] := by
  cases ls with
  | nil => cases h
  | cons x r => cases r <;> cases h; rfl
theorem readF_some {ys : List PV} {ls ls' : List PO} {r : PV} (e : readF ys ls = some (r, ls')) : ∃ ns ds, ys = [.ref 0] ∧ ls = [.list (ns.map .int)] ∧ decodeGo ns = some ds ∧ ns.length ≤ 200 ∧ r = .ref 1 ∧ ls' = [.list (ns.map .int), .list (ds.map .int)] := by
  exact bindE (o := arg1 ys) e fun y e1 e => bindE (o := asR y) e fun i e2 e => bindE (o := zeroN i) e fun _ e3 e => bindE (o := oneO ls) e fun o e4 e =>
    bindE (o := asList (some o)) e fun xs e5 e => bindE (o := intsOf xs) e fun ns e6 e => bindE (o := decodeGo ns) e fun ds e7 e => iteE e fun hl e => pairE e fun q1 q2 =>
      ⟨ns, ds, by rw [arg1_el e1, asR_el e2, zeroN_el e3], by rw [oneO_el e4, Option.some.inj (asList_el e5), intsOf_eq e6], e7, hl, q1.symm, by rw [← q2, intsOf_eq e6]⟩

/-- the law's frame around _law_read's -/
theorem two_of {ids : List Nat} {env : Env} {lay2 : Nat → Loc} {s : Shared} {base : Heap} {A : Around} {lay : Nat → Loc} {sl : List (Option PV)} {ob : List PO} {φ : Nat → Addr} (R : Rel fv base φ lay sl ob s.heap) (hob : ∀ (j i : Nat), ids[j]? = some i → ∃ xs : List PV, ob[i]? = some (PO.list xs))
    (hF : Fra A base lay sl.length topD) (hb2 : base.StaysIn (hideAll s.heap (ids.map φ))) (hfL : env.frame = some s.heap.objs.size) (hk : ∃ k x, k < 4 ∧ lay2 k = .ns s.heap.objs.size x) :
    ∃ envl Ll, Two (A.deeper env) env (hideAll s.heap (ids.map φ)) base lay2 s.heap.objs.size Ll envl := by
  obtain ⟨envl, kl, Ll, xl, f1, f2, f3, f4, f5⟩ := hF.top rfl
  have hslL : sl[kl]? = some sl[kl] := List.getElem?_eq_getElem f5
  have hslot := R.slots kl _ hslL
  have hnewL := R.slnew kl f5
  rw [f4] at hslot hnewL
  have hnsL : ∃ mm, s.heap.Ns Ll mm := by
    revert hslot
    cases sl[kl] with
    | none => exact fun x => x
    | some p => exact fun ⟨mm, hm, _⟩ => ⟨mm, hm⟩
  obtain ⟨mm, oL, esL, epL, hoL, hdL, _⟩ := hnsL
  have hLids : Ll ∉ ids.map φ := fun hm => by
    obtain ⟨i, hi, q⟩ := List.mem_map.mp hm
    obtain ⟨j, hj, ej⟩ := List.getElem_of_mem hi
    obtain ⟨xs, eo'⟩ := hob j i (List.getElem?_eq_some_iff.mpr ⟨hj, ej⟩)
    have := slot_ne_obj (R.slots kl _ hslL) (R.objs _ _ eo') rfl
    rw [f4] at this; exact this q.symm
  have hb0 : base.get? s.heap.objs.size = none := by
    cases q : base.get? s.heap.objs.size with
    | none => rfl
    | some o => exact absurd (Heap.lt_size (R.stays _ _ q)) (Nat.lt_irrefl _)
  exact ⟨envl, Ll, by show A.frames.map _ = _; rw [f1]; rfl, hfL, hk, f2, f3, ⟨oL, hideAll_get _ hoL hLids, esL, epL, hdL⟩, hnewL, hb0, hb2⟩

theorem read_spec {body rest : List IS} (Hall : ∀ n, All prog w fv Φ' n) (hsub : ∀ k F, Φ' k = some F → Φ k = some F) (PV10 : PvOk Φ' body rest) (hΦ : ∀ k F, Φ k = some (.spec F) → k = 15 ∧ F = readF) : SpecOk prog w fv Φ := by
  intro d k args ob F r ob' base A lay sl φ s vs Q E ids ys ls ls' r0 eΦ hc He eF hlv hd hR G hF R W P
  obtain ⟨rfl, rfl⟩ := hΦ _ _ eΦ
  obtain ⟨ns, ds, rfl, rfl, hds, hlen, rfl, rfl⟩ := readF_some eF
  obtain rfl : d = 7 := Nat.succ.inj hd
  have G' := G.less hsub
  refine call_enter (Φ := Φ') G.read hc He rfl (by decide) hR G' hF.le R W fun {env stmts N T lay2 h1 tk1} eCS CX R2 hsz hfL hk => ?_
  obtain ⟨hn, emap, hlenl, hob⟩ := enter_some He
  have hb2 : base.StaysIn (hideAll s.heap (ids.map φ)) := enter_hide R hob
  obtain ⟨envl, Ll, W2⟩ := two_of R (fun j i e => (hob j i e).imp fun _ x => x.1) hF hb2 hfL hk
  refine read_body Hall PV10 eCS CX G' W2 hds hlen R2 fun φ3 h3 h6 tk Lp x3 j' R3 S3 hLp SL => ?_
  have hlv' : leaveObs ids (.ref 2) ((rdO ns ds ds.length j').set 1 .dead) ob = some (r, ob') := by
    obtain ⟨i0, rfl⟩ : ∃ i, ids = [i] := List.length_eq_one_iff.mp hlenl.symm
    rw [← hlv]
    have : ds.take ds.length = ds := List.take_length
    unfold rdO leaveObs
    rw [this]
    rfl
  obtain ⟨φ4, R4, S4, V4⟩ := leave_rel R hc He R3 S3 (Nat.le_trans hsz S3.sz) hlv' (.ref 2 (by show 2 < 5; decide))
  have off0 : ∀ L ∈ [Lp, s.heap.objs.size, Ll], base.get? L = none := fun L hL => by
    rcases List.mem_cons.mp hL with e | hL
    · rw [e]
      cases q : base.get? Lp with
      | none => rfl
      | some o => exact absurd (Heap.lt_size (R.stays _ _ q)) (Nat.not_lt.mpr (Nat.le_trans hsz hLp))
    · rcases List.mem_cons.mp hL with e | hL
      · rw [e]; exact W2.offr
      · rw [List.mem_singleton.mp hL]; exact W2.off
  obtain ⟨R5, S5⟩ := R4.slotty SL.keep SL.up SL.sz SL.dict off0
  exact P φ4 _ h6 tk R5 (S4.trans S5) (V4.step S5)
end Mine.Internal
end
section
open PySem PySem.W PyProof.Rows PySem.Calls
namespace Mine.Internal
set_option linter.unusedVariables false
set_option maxRecDepth 100000
set_option maxHeartbeats 8000000
noncomputable abbrev LW0 : List Str := [Str.ofString "nsmallest", Str.ofString "COMPILER_FLAG_NAMES", Str.ofString "_filemode_table"]
noncomputable def paramsOf (x : Str) : Arguments := match pw.theDef x with
  | some (a, _, _) => a
  | none => ⟨[], [], none, [], [], none, []⟩
noncomputable def scopeAll (x : Str) : Scope := match pw.theDef x with
  | some (_, _, s) => s
  | none => default
mutual
noncomputable def toW : PV → WData
  | .int i => .int i
  | .str s => .str s
  | .tup xs => .tuple (toWs xs)
  | _ => .none
noncomputable def toWs : List PV → List WData
  | [] => []
  | x :: r => toW x :: toWs r
end
noncomputable abbrev pg : Program := PySem.Challenge.rw_un0027_01.row.toRowW.1
/-- what the top leaves behind, as the library's tests take it: all but the first lines of the modules and the def with a default -/
noncomputable def vw : Program := view pg [1, 2, 3, 4, 5, 6, 7, 8, 11, 12, 13, 15, 16, 17, 18, 19, 20, 21, 22, 23, 24, 25, 26, 27, 28, 29, 30, 31, 32, 33, 34, 35, 36, 38, 39, 40, 41, 42, 43]
noncomputable abbrev lvT : List (Str × WData) := [(Str.ofString "_filemode_table", toW tabV)]

/-- what is asked of the def with a default -/
noncomputable def seqAt (h : Heap) (v : Value) : Option (Addr × List Value) := match v with
  | .ref T => (match h.get? T with
      | some ⟨_, _, .seq vs _, _⟩ => some (T, vs.toList)
      | _ => none)
  | _ => none
noncomputable def strAt (v : Option Value) : Option Str := match v with
  | some (.str q _) => some q
  | _ => none
noncomputable def codeAt (h : Heap) (v : Value) : Option Str := match v with
  | .ref T => (match h.get? T with
      | some ⟨_, _, .fields vs, _⟩ => strAt vs[1]?
      | _ => none)
  | _ => none
noncomputable def nsObs (h : Heap) : Option (Arguments × FuncBody × Scope × List (Str × Addr) × Addr × Addr × Str × Option (List Value) × Option Str) := match h.get? 76 with
  | some ⟨_, _, .func fd, _⟩ => some (fd.params, fd.body, fd.scope, fd.closure, fd.globals, fd.builtins, fd.qualname, (seqAt h fd.defaults).map (·.2), codeAt h fd.code)
  | _ => none
noncomputable def NsP (h : Heap) : Prop := ∃ o fd T oT n, h.get? 76 = some o ∧ o.data = .func fd ∧ fd.params = paramsOf "nsmallest" ∧ fd.body = .stmts (bodyOf "nsmallest") ∧ fd.scope = scopeAll "nsmallest" ∧ fd.closure = [] ∧
  fd.globals = mainGlobals ∧ fd.builtins = builtinsNs ∧ fd.defaults = .ref T ∧ h.get? T = some oT ∧ oT.data = .seq #[.none] n ∧ h.CodeRec fd.code fd.qualname
noncomputable def nsGood : Option (Arguments × FuncBody × Scope × List (Str × Addr) × Addr × Addr × Str × Option (List Value) × Option Str) :=
  some (paramsOf "nsmallest", .stmts (bodyOf "nsmallest"), scopeAll "nsmallest", [], mainGlobals, builtinsNs, "nsmallest", some [.none], some "nsmallest")
theorem seqAt_ok {h : Heap} {v : Value} {l : List Value} {T : Addr} (e : seqAt h v = some (T, l)) : v = .ref T ∧ ∃ o n, h.get? T = some o ∧ o.data = .seq l.toArray n := by
  unfold seqAt at e
  split at e
  · split at e
    · rename_i ho
      cases e
      exact ⟨rfl, _, _, ho, rfl⟩
    · cases e
  · cases e
theorem codeAt_ok {h : Heap} {v : Value} {q : Str} (e : codeAt h v = some q) : h.CodeRec v q := by
  unfold codeAt at e
  split at e
  · split at e
    · rename_i vs _ ho
      unfold strAt at e
      split at e
      · rename_i hv
        cases e
        exact ⟨_, _, vs, _, rfl, ho, rfl, hv⟩
      · cases e
    · cases e
  · cases e
theorem NsP.of {h : Heap} (e : nsObs h = nsGood) : NsP h := by
  unfold nsObs nsGood at e
  split at e
  · rename_i fd sl ho
    simp only [Option.some.injEq, Prod.mk.injEq] at e
    obtain ⟨e1, e2, e3, e4, e5, e6, e7, e8, e9⟩ := e
    obtain ⟨⟨T, l⟩, h1, h2⟩ := Option.map_eq_some_iff.mp e8
    obtain ⟨h3, oT, n, h4, h5⟩ := seqAt_ok h1
    have h2 : l = _ := h2
    subst h2
    exact ⟨_, fd, T, oT, n, ho, rfl, e1, e2, e3, e4, e5, e6, h3, h4, h5, by rw [e7]; exact codeAt_ok e9⟩
  · cases e
theorem NsP.keeps {h h' : Heap} (x : NsP h) (k : ∀ b o, h.get? b = some o → h'.get? b = some o) : NsP h' := by
  obtain ⟨o, fd, T, oT, n, a1, a2, a3, a4, a5, a6, a7, a8, a9, a10, a11, a12⟩ := x
  exact ⟨o, fd, T, oT, n, k _ _ a1, a2, a3, a4, a5, a6, a7, a8, a9, k _ _ a10, a11, a12.keeps k⟩

noncomputable def xT (s : Shared) : Bool := (xlAt vw lvT s && recOk PySem.Challenge.rw_un0027_01.row.records s) && s.heap.nsMap mainGlobals "nsmallest" == some (.ref 76)
noncomputable abbrev XP0 (mg : Str → Option Value) (h : Heap) : Prop := XL vw lvT mg h ∧ mg "nsmallest" = some (.ref 76)

theorem left1f (w : World) (os : OsState) : (topFrom treeTable pg (w.withFollow "special-get-raises" false) 2336 ⟨boot_heap (w.withFollow "special-get-raises" false).params, #[], boot_drawn, boot_toks, os⟩).map (fun s => (openSeen vw LW0 (importedModules pg.main.body) xT true s, nsObs s.heap)) = some (openGood vw LW0, nsGood) := by kernel_rfl
theorem left1t (w : World) (os : OsState) : (topFrom treeTable pg (w.withFollow "special-get-raises" true) 2336 ⟨boot_heap (w.withFollow "special-get-raises" true).params, #[], boot_drawn, boot_toks, os⟩).map (fun s => (openSeen vw LW0 (importedModules pg.main.body) xT true s, nsObs s.heap)) = some (openGood vw LW0, nsGood) := by kernel_rfl
theorem left_open : opening pg = plainProg pg.main.scope.names := by kernel_rfl
theorem left_fence (s : Shared) : fenceModules? pg s = some s := by kernel_rfl
theorem left0 : LeftO pg vw LW0 xT (fun s => nsObs s.heap) (fun _ => nsGood) 2336 := fun w => by
  obtain ⟨⟨h, gs, d, k, os⟩, e, e'⟩ := Option.map_eq_some_iff.mp (boot_open (p := pg) (N := 2336) left_open (by decide) left_fence w)
  obtain ⟨rfl, rfl, rfl, rfl⟩ : h = boot_heap w.params ∧ gs = #[] ∧ d = boot_drawn ∧ k = boot_toks := by simpa using e'
  have r : ∀ b, (topFrom treeTable pg (w.withFollow "special-get-raises" b) 2336 ⟨boot_heap (w.withFollow "special-get-raises" b).params, #[], boot_drawn, boot_toks, os⟩).map (fun s => (openSeen vw LW0 (importedModules pg.main.body) xT true s, nsObs s.heap)) = some (openGood vw LW0, nsGood) := fun b => by cases b; exact left1f w os; exact left1t w os
  have r := r (w.params.followText "special-get-raises")
  rw [World.withFollow_self] at r
  unfold openEnds
  rw [e]
  exact r

theorem head_said : PySem.Challenge.rw_un0027_01.wellSaid = true := by kernel_rfl
end Mine.Internal
end
section
open PySem PySem.W PyProof.Rows PySem.Calls
namespace Mine.Internal
set_option linter.unusedSectionVars false
set_option linter.unusedVariables false
set_option maxRecDepth 100000
set_option maxHeartbeats 4000000

noncomputable def chkB (x : Str) (np ns : Nat) (names : List Str) : Bool :=
  (match (scopeAll x).kind with | .function => true | _ => false) && !(scopeAll x).isCoroutine && !(scopeAll x).isGenerator && Nat.beq names.length ns && nodupB names && Nat.ble np ns && names.any (fun y => kindIs (scopeAll x).names y .local) &&
    names.all (fun y => kindIs (scopeAll x).names y .local || kindIs (scopeAll x).names y .cell) && nodupB ((scopeAll x).names.map (·.1))
noncomputable def FnIs (x : Str) (mg : Str → Option Value) (h : Heap) : Prop := ∃ a o pm code doc, mg x = some (.ref a) ∧ h.get? a = some o ∧ o.data = .func (docDef x (paramsOf x) (bodyOf x) (scopeAll x) pm code doc) ∧ h.CodeRec code x

theorem vals1 {P : List Value → Prop} (k : ∀ a, P [a]) (vals : List Value) (h : vals.length = 1) : P vals := by
  obtain ⟨a, rfl⟩ := List.length_eq_one_iff.mp h
  exact k a
theorem vals2 {P : List Value → Prop} (k : ∀ a b, P [a, b]) (vals : List Value) (h : vals.length = 2) : P vals := by
  cases vals with
  | nil => cases h
  | cons a r => exact vals1 (P := fun r => P (a :: r)) (k a) r (Nat.succ.inj h)
theorem vals3 {P : List Value → Prop} (k : ∀ a b c, P [a, b, c]) (vals : List Value) (h : vals.length = 3) : P vals := by
  cases vals with
  | nil => cases h
  | cons a r => exact vals2 (P := fun r => P (a :: r)) (k a) r (Nat.succ.inj h)

theorem codeOk_of {fv : Fn → Value} {mg : Str → Option Value} {h : Heap} {x : Str} {k np ns : Nat} {names : List Str} {ir : List IS} (H : FnIs x mg h) (hfv : fv (.user k) = (mg x).getD .none) (hs : (scopeAll x).names = scopeOf x) (c : chkB x np ns names = true) (hcs : CSs (scopeOf x) (ownT 0 names) ns (bodyOf x) ir)
    (hbind : ∀ pm code doc (vals : List Value), vals.length = np → bindArgs (docDef x (paramsOf x) (bodyOf x) (scopeAll x) pm code doc) ⟨vals, []⟩ = pure ((names.take np).zip vals)) : CodeOk fv h k np ns [] ir := by
  obtain ⟨a, o, pm, code, doc, h1, h2, h3, h4⟩ := H
  unfold chkB at c
  simp only [Bool.and_eq_true, Bool.not_eq_true', List.any_eq_true, List.all_eq_true, Bool.or_eq_true] at c
  obtain ⟨⟨⟨⟨⟨⟨⟨⟨c1, c2⟩, c3⟩, c4⟩, c5⟩, c6⟩, ⟨y, c7, c7'⟩⟩, c8⟩, c9⟩ := c
  refine ⟨a, o, _, bodyOf x, names, by rw [hfv, h1]; rfl, h2, h3, rfl, rfl, h4, ?_, c2, c3, rfl, rfl, Nat.eq_of_beq_eq_true c4, nodupB_ok c5, Nat.le_of_ble_eq_true c6, ⟨y, c7, kindIs_ok c7'⟩, fun z hz => (c8 z hz).imp kindIs_ok kindIs_ok, nodupB_ok c9, ?_, fun s vals hst hl1 hl2 => ?_⟩
  · revert c1; show _ → (scopeAll x).kind = _
    cases (scopeAll x).kind <;> first | exact fun _ => rfl | exact fun h => nomatch h
  · show CSs (scopeAll x).names _ _ _ _
    rw [hs]; exact hcs
  · have hl : vals.length = np := by simp at hl2; lia
    refine ⟨[], by rw [List.drop_nil]; exact .nil, ?_⟩
    rw [List.append_nil]
    exact BindsTo.of_eq (hbind pm code doc vals hl)

theorem fnIs_of {mg mb : Str → Option Value} {mean : ExcName → Option Value} {h : Heap} {x : Str} {i : Nat} (T : Top vw (looseW vw LW0) mean mg mb h) (e : ((recsOf vw)[i]?.map fun d => (d.name, d.params, d.body, d.scope)) = some (x, paramsOf x, bodyOf x, scopeAll x)) : FnIs x mg h := by
  obtain ⟨d, hd, e⟩ := Option.map_eq_some_iff.mp e
  obtain ⟨a, o, pm, code, doc, h1, h2, h3, h4⟩ := T.fn d (List.mem_of_getElem? hd)
  have e1 : d.name = x := congrArg (·.1) e
  have e2 : d.params = paramsOf x := congrArg (·.2.1) e
  have e3 : d.body = bodyOf x := congrArg (·.2.2.1) e
  have e4 : d.scope = scopeAll x := congrArg (·.2.2.2) e
  rw [e1] at h1 h4
  rw [e1, e2, e3, e4] at h3
  exact ⟨a, o, pm, code, doc, h1, h2, h3, h4⟩

variable {mg mb : Str → Option Value} {mean : ExcName → Option Value} {h : Heap} {fv : Fn → Value}
theorem irHeappush_fn (T : Top vw (looseW vw LW0) mean mg mb h) : FnIs "heappush" mg h := fnIs_of (i := 0) T (by kernel_rfl)
theorem irHeappop_fn (T : Top vw (looseW vw LW0) mean mg mb h) : FnIs "heappop" mg h := fnIs_of (i := 1) T (by kernel_rfl)
theorem irHeapreplaceMax_fn (T : Top vw (looseW vw LW0) mean mg mb h) : FnIs "_heapreplace_max" mg h := fnIs_of (i := 2) T (by kernel_rfl)
theorem irHeapifyMax_fn (T : Top vw (looseW vw LW0) mean mg mb h) : FnIs "_heapify_max" mg h := fnIs_of (i := 3) T (by kernel_rfl)
theorem irSiftdown_fn (T : Top vw (looseW vw LW0) mean mg mb h) : FnIs "_siftdown" mg h := fnIs_of (i := 4) T (by kernel_rfl)
theorem irSiftup_fn (T : Top vw (looseW vw LW0) mean mg mb h) : FnIs "_siftup" mg h := fnIs_of (i := 5) T (by kernel_rfl)
theorem irSiftdownMax_fn (T : Top vw (looseW vw LW0) mean mg mb h) : FnIs "_siftdown_max" mg h := fnIs_of (i := 6) T (by kernel_rfl)
theorem irSiftupMax_fn (T : Top vw (looseW vw LW0) mean mg mb h) : FnIs "_siftup_max" mg h := fnIs_of (i := 7) T (by kernel_rfl)
theorem irPrettyFlags_fn (T : Top vw (looseW vw LW0) mean mg mb h) : FnIs "pretty_flags" mg h := fnIs_of (i := 8) T (by kernel_rfl)
theorem irParseVarint_fn (T : Top vw (looseW vw LW0) mean mg mb h) : FnIs "_parse_varint" mg h := fnIs_of (i := 9) T (by kernel_rfl)
theorem irSIfmt_fn (T : Top vw (looseW vw LW0) mean mg mb h) : FnIs "S_IFMT" mg h := fnIs_of (i := 10) T (by kernel_rfl)
theorem irFilemode_fn (T : Top vw (looseW vw LW0) mean mg mb h) : FnIs "filemode" mg h := fnIs_of (i := 11) T (by kernel_rfl)
theorem irLawWays_fn (T : Top vw (looseW vw LW0) mean mg mb h) : FnIs "_law_ways" mg h := fnIs_of (i := 12) T (by kernel_rfl)
theorem irLawThrees_fn (T : Top vw (looseW vw LW0) mean mg mb h) : FnIs "_law_threes" mg h := fnIs_of (i := 13) T (by kernel_rfl)
theorem irLawRead_fn (T : Top vw (looseW vw LW0) mean mg mb h) : FnIs "_law_read" mg h := fnIs_of (i := 14) T (by kernel_rfl)
theorem irLawStruck_fn (T : Top vw (looseW vw LW0) mean mg mb h) : FnIs "_law_struck" mg h := fnIs_of (i := 15) T (by kernel_rfl)
theorem irLawFewest_fn (T : Top vw (looseW vw LW0) mean mg mb h) : FnIs "_law_fewest" mg h := fnIs_of (i := 16) T (by kernel_rfl)
theorem irLaw_fn (T : Top vw (looseW vw LW0) mean mg mb h) : FnIs "law" mg h := fnIs_of (i := 17) T (by kernel_rfl)
theorem irHeappush_code (T : Top vw (looseW vw LW0) mean mg mb h) (hfv : fv (.user 0) = (mg "heappush").getD .none) : CodeOk fv h 0 2 2 [] irHeappush := codeOk_of (names := irHeappushN) (irHeappush_fn T) hfv (by kernel_rfl) (by decide +kernel) irHeappush_cs (fun pm code doc => vals2 fun v0 v1 => by kernel_rfl)
theorem irHeappop_code (T : Top vw (looseW vw LW0) mean mg mb h) (hfv : fv (.user 1) = (mg "heappop").getD .none) : CodeOk fv h 1 1 3 [] irHeappop := codeOk_of (names := irHeappopN) (irHeappop_fn T) hfv (by kernel_rfl) (by decide +kernel) irHeappop_cs (fun pm code doc => vals1 fun v0 => by kernel_rfl)
theorem irHeapreplaceMax_code (T : Top vw (looseW vw LW0) mean mg mb h) (hfv : fv (.user 2) = (mg "_heapreplace_max").getD .none) : CodeOk fv h 2 2 3 [] irHeapreplaceMax := codeOk_of (names := irHeapreplaceMaxN) (irHeapreplaceMax_fn T) hfv (by kernel_rfl) (by decide +kernel) irHeapreplaceMax_cs (fun pm code doc => vals2 fun v0 v1 => by kernel_rfl)
theorem irHeapifyMax_code (T : Top vw (looseW vw LW0) mean mg mb h) (hfv : fv (.user 3) = (mg "_heapify_max").getD .none) : CodeOk fv h 3 1 3 [] irHeapifyMax := codeOk_of (names := irHeapifyMaxN) (irHeapifyMax_fn T) hfv (by kernel_rfl) (by decide +kernel) irHeapifyMax_cs (fun pm code doc => vals1 fun v0 => by kernel_rfl)
theorem irSiftdown_code (T : Top vw (looseW vw LW0) mean mg mb h) (hfv : fv (.user 4) = (mg "_siftdown").getD .none) : CodeOk fv h 4 3 6 [] irSiftdown := codeOk_of (names := irSiftdownN) (irSiftdown_fn T) hfv (by kernel_rfl) (by decide +kernel) irSiftdown_cs (fun pm code doc => vals3 fun v0 v1 v2 => by kernel_rfl)
theorem irSiftup_code (T : Top vw (looseW vw LW0) mean mg mb h) (hfv : fv (.user 5) = (mg "_siftup").getD .none) : CodeOk fv h 5 2 7 [] irSiftup := codeOk_of (names := irSiftupN) (irSiftup_fn T) hfv (by kernel_rfl) (by decide +kernel) irSiftup_cs (fun pm code doc => vals2 fun v0 v1 => by kernel_rfl)
theorem irSiftdownMax_code (T : Top vw (looseW vw LW0) mean mg mb h) (hfv : fv (.user 6) = (mg "_siftdown_max").getD .none) : CodeOk fv h 6 3 6 [] irSiftdownMax := codeOk_of (names := irSiftdownMaxN) (irSiftdownMax_fn T) hfv (by kernel_rfl) (by decide +kernel) irSiftdownMax_cs (fun pm code doc => vals3 fun v0 v1 v2 => by kernel_rfl)
theorem irSiftupMax_code (T : Top vw (looseW vw LW0) mean mg mb h) (hfv : fv (.user 7) = (mg "_siftup_max").getD .none) : CodeOk fv h 7 2 7 [] irSiftupMax := codeOk_of (names := irSiftupMaxN) (irSiftupMax_fn T) hfv (by kernel_rfl) (by decide +kernel) irSiftupMax_cs (fun pm code doc => vals2 fun v0 v1 => by kernel_rfl)
theorem irPrettyFlags_code (T : Top vw (looseW vw LW0) mean mg mb h) (hfv : fv (.user 9) = (mg "pretty_flags").getD .none) : CodeOk fv h 9 1 4 [] irPrettyFlags := codeOk_of (names := irPrettyFlagsN) (irPrettyFlags_fn T) hfv (by kernel_rfl) (by decide +kernel) irPrettyFlags_cs (fun pm code doc => vals1 fun v0 => by kernel_rfl)
theorem irParseVarint_code (T : Top vw (looseW vw LW0) mean mg mb h) (hfv : fv (.user 10) = (mg "_parse_varint").getD .none) : CodeOk fv h 10 1 3 [] irParseVarint := codeOk_of (names := irParseVarintN) (irParseVarint_fn T) hfv (by kernel_rfl) (by decide +kernel) irParseVarint_cs (fun pm code doc => vals1 fun v0 => by kernel_rfl)
theorem irSIfmt_code (T : Top vw (looseW vw LW0) mean mg mb h) (hfv : fv (.user 11) = (mg "S_IFMT").getD .none) : CodeOk fv h 11 1 1 [] irSIfmt := codeOk_of (names := irSIfmtN) (irSIfmt_fn T) hfv (by kernel_rfl) (by decide +kernel) irSIfmt_cs (fun pm code doc => vals1 fun v0 => by kernel_rfl)
theorem irFilemode_code (T : Top vw (looseW vw LW0) mean mg mb h) (hfv : fv (.user 12) = (mg "filemode").getD .none) : CodeOk fv h 12 1 6 [] irFilemode := codeOk_of (names := irFilemodeN) (irFilemode_fn T) hfv (by kernel_rfl) (by decide +kernel) irFilemode_cs (fun pm code doc => vals1 fun v0 => by kernel_rfl)
theorem irLawWays_code (T : Top vw (looseW vw LW0) mean mg mb h) (hfv : fv (.user 13) = (mg "_law_ways").getD .none) : CodeOk fv h 13 2 4 [] irLawWays := codeOk_of (names := irLawWaysN) (irLawWays_fn T) hfv (by kernel_rfl) (by decide +kernel) irLawWays_cs (fun pm code doc => vals2 fun v0 v1 => by kernel_rfl)
theorem irLawThrees_code (T : Top vw (looseW vw LW0) mean mg mb h) (hfv : fv (.user 14) = (mg "_law_threes").getD .none) : CodeOk fv h 14 1 6 [] irLawThrees := codeOk_of (names := irLawThreesN) (irLawThrees_fn T) hfv (by kernel_rfl) (by decide +kernel) irLawThrees_cs (fun pm code doc => vals1 fun v0 => by kernel_rfl)
theorem irLawRead_code (T : Top vw (looseW vw LW0) mean mg mb h) (hfv : fv (.user 15) = (mg "_law_read").getD .none) : CodeOk fv h 15 1 4 [] irLawRead := codeOk_of (names := irLawReadN) (irLawRead_fn T) hfv (by kernel_rfl) (by decide +kernel) irLawRead_cs (fun pm code doc => vals1 fun v0 => by kernel_rfl)
theorem irLawStruck_code (T : Top vw (looseW vw LW0) mean mg mb h) (hfv : fv (.user 16) = (mg "_law_struck").getD .none) : CodeOk fv h 16 1 5 [] irLawStruck := codeOk_of (names := irLawStruckN) (irLawStruck_fn T) hfv (by kernel_rfl) (by decide +kernel) irLawStruck_cs (fun pm code doc => vals1 fun v0 => by kernel_rfl)
theorem irLawFewest_code (T : Top vw (looseW vw LW0) mean mg mb h) (hfv : fv (.user 17) = (mg "_law_fewest").getD .none) : CodeOk fv h 17 1 4 [] irLawFewest := codeOk_of (names := irLawFewestN) (irLawFewest_fn T) hfv (by kernel_rfl) (by decide +kernel) irLawFewest_cs (fun pm code doc => vals1 fun v0 => by kernel_rfl)
theorem irLaw_code (T : Top vw (looseW vw LW0) mean mg mb h) (hfv : fv (.user 18) = (mg "law").getD .none) : CodeOk fv h 18 1 15 [] irLaw := codeOk_of (names := irLawN) (irLaw_fn T) hfv (by kernel_rfl) (by decide +kernel) irLaw_cs (fun pm code doc => vals1 fun v0 => by kernel_rfl)
end Mine.Internal
end
section
open PySem PySem.W PyProof.Rows PySem.Calls
namespace Mine.Internal
set_option linter.unusedSectionVars false
set_option linter.unusedVariables false
set_option maxRecDepth 100000
set_option maxHeartbeats 4000000
variable {mg mb : Str → Option Value} {mean : ExcName → Option Value} {h : Heap} {fv : Fn → Value}

noncomputable def argAt (i : Nat) : Arg := ((paramsOf "nsmallest").args[i]?).getD ⟨"", none, default⟩
noncomputable def dfltAt : PySem.Expr := ((paramsOf "nsmallest").defaults[0]?).getD (.Constant .none 0 default)
theorem ns_params : paramsOf "nsmallest" = ⟨[], [⟨"n", (argAt 0).annotation, (argAt 0).pos⟩, ⟨"iterable", (argAt 1).annotation, (argAt 1).pos⟩, ⟨"key", (argAt 2).annotation, (argAt 2).pos⟩], none, [], [], none, [dfltAt]⟩ := by kernel_rfl

theorem ns_code (X : NsP h) (h1 : mg "nsmallest" = some (.ref 76)) (hfv : fv (.user 8) = (mg "nsmallest").getD .none) : CodeOk fv h 8 3 14 [.none] irNsmallest := by
  obtain ⟨o, fd, T, oT, n, ho, hd', p1, p2, p3, p4, p5, p6, eT, hT, hTd, q2⟩ := X
  have c : chkB "nsmallest" 3 14 irNsmallestN = true := by decide +kernel
  have hs : (scopeAll "nsmallest").names = scopeOf "nsmallest" := by kernel_rfl
  unfold chkB at c
  simp only [Bool.and_eq_true, Bool.not_eq_true', List.any_eq_true, List.all_eq_true, Bool.or_eq_true] at c
  obtain ⟨⟨⟨⟨⟨⟨⟨⟨c1, c2⟩, c3⟩, c4⟩, c5⟩, c6⟩, ⟨y, c7, c7'⟩⟩, c8⟩, c9⟩ := c
  refine ⟨76, o, fd, bodyOf "nsmallest", irNsmallestN, by rw [hfv, h1]; rfl, ho, hd', p2, p4, q2, ?_, by rw [p3]; exact c2, by rw [p3]; exact c3, p5, p6, Nat.eq_of_beq_eq_true c4, nodupB_ok c5, Nat.le_of_ble_eq_true c6, ⟨y, c7, by rw [p3]; exact kindIs_ok c7'⟩, fun z hz => by rw [p3]; exact (c8 z hz).imp kindIs_ok kindIs_ok, by rw [p3]; exact nodupB_ok c9, ?_, fun s vals hst hl1 hl2 => ?_⟩
  · rw [p3]; revert c1; show _ → (scopeAll "nsmallest").kind = _
    cases (scopeAll "nsmallest").kind <;> first | exact fun _ => rfl | exact fun h => nomatch h
  · rw [p3]
    show CSs (scopeAll "nsmallest").names _ _ _ _
    rw [hs]; exact irNsmallest_cs
  · rw [ns_params] at p1
    have key : ∀ vals : List Value, vals.length = 2 ∨ vals.length = 3 → ∃ (k : Option (Array Value) → Sem (List (Str × Value))) (dv : List Value), bindArgs fd ⟨vals, []⟩ = seqItems? fd.defaults >>= k ∧ k (some #[.none]) = pure (([("n" : Str), ("iterable" : Str), ("key" : Str)]).zip (vals ++ dv)) ∧ VRs fv (fun _ => 0) 0 h dv ([PV.none].drop (vals.length + 1 - 3)) := fun vals hl => by
      rcases hl with hl | hl
      · obtain ⟨v0, v1, rfl⟩ := vals2 (P := fun vals => ∃ a b, vals = [a, b]) (fun a b => ⟨a, b, rfl⟩) vals hl
        unfold bindArgs
        rw [p1]
        exact ⟨_, [.none], rfl, rfl, .cons .none .nil⟩
      · obtain ⟨v0, v1, v2, rfl⟩ := vals3 (P := fun vals => ∃ a b c, vals = [a, b, c]) (fun a b c => ⟨a, b, c, rfl⟩) vals hl
        unfold bindArgs
        rw [p1]
        exact ⟨_, [], rfl, rfl, .nil⟩
    obtain ⟨k, dv, k1, k2, D⟩ := key vals ((Nat.lt_or_eq_of_le hl1).imp (fun q => Nat.le_antisymm (Nat.le_of_lt_succ q) (Nat.le_of_succ_le_succ hl2)) id)
    exact ⟨dv, D, BindsTo.of_defaults eT (hst _ _ hT) hTd k1 k2⟩
end Mine.Internal
end
section
open PySem PySem.W PyProof.Rows PySem.Calls
namespace Mine.Internal
set_option linter.unusedSectionVars false
set_option linter.unusedVariables false
set_option maxRecDepth 100000
set_option maxHeartbeats 4000000
variable {mg mb : Str → Option Value} {mean : ExcName → Option Value} {h : Heap}

noncomputable def nameF (k : Nat) : Str := match userFns.find? (fun p => Nat.beq p.2 k) with
  | some p => p.1
  | none => ""
noncomputable def fvOf (mg : Str → Option Value) : Fn → Value
  | .user k => (mg (nameF k)).getD .none
  | .prim p => primV p
  | .flags => (mg "COMPILER_FLAG_NAMES").getD .none

/-- functions, the reading one told by what it does -/
noncomputable def phi (k : Nat) : Option FnI := if k = 15 then some (.spec readF) else tabF k

mutual
noncomputable def okP : PV → Bool
  | .int _ => true
  | .str _ => true
  | .tup xs => okPs xs
  | _ => false
noncomputable def okPs : List PV → Bool
  | [] => true
  | x :: r => okP x && okPs r
end
mutual
theorem readsW_VR {fv : Fn → Value} {cl : Str → Option Addr} : ∀ (x : PV) {v : Value} {as : List Addr}, okP x = true → ReadsW [] cl h v (toW x) as → VR fv (fun _ => 0) 0 h v x
  | .int i, v, as, _, H => by replace H : ReadsW [] cl h v (.int i) as := H; cases H; exact .int _ _
  | .str s, v, as, _, H => by replace H : ReadsW [] cl h v (.str s) as := H; cases H; exact .str _ _
  | .tup xs, v, as, ho, H => by
    replace H : ReadsW [] cl h v (.tuple (toWs xs)) as := H
    replace ho : okPs xs = true := ho
    cases H with
    | tuple h1 h2 h3 h4 =>
      have W := readsAllW_VRs (fv := fv) xs ho h4
      exact .tup ⟨_, h1, h2, _, by rw [h3]⟩ (fun i hi => absurd hi (Nat.not_lt_zero _)) W.1 W.2
  | .none, _, _, ho, _ => by exact Bool.noConfusion ho
  | .bool b, _, _, ho, _ => by exact Bool.noConfusion ho
  | .ref i, _, _, ho, _ => by exact Bool.noConfusion ho
  | .fn f, _, _, ho, _ => by exact Bool.noConfusion ho
theorem readsAllW_VRs {fv : Fn → Value} {cl : Str → Option Addr} : ∀ (xs : List PV) {vs : List Value} {as : List Addr}, okPs xs = true → ReadsAllW [] cl h vs (toWs xs) as → VRs fv (fun _ => 0) 0 h vs xs
  | [], vs, as, _, H => by replace H : ReadsAllW [] cl h vs [] as := H; cases H; exact .nil
  | x :: r, vs, as, ho, H => by
    replace H : ReadsAllW [] cl h vs (toW x :: toWs r) as := H
    replace ho : okP x = true ∧ okPs r = true := Bool.and_eq_true_iff.mp ho
    cases H with
    | cons h1 h2 => exact .cons (readsW_VR (fv := fv) x ho.1 h1) (readsAllW_VRs (fv := fv) r ho.2 h2)
end

structure Facts (w : World) (mean : ExcName → Option Value) (mg mb : Str → Option Value) (h : Heap) : Prop where
  T : Top vw (looseW vw LW0) mean mg mb h
  B : Tables vw w mg h
  V : LooseAre [(Str.ofString "_filemode_table", toW tabV)] mg h
  X : NsP h
  n76 : mg "nsmallest" = some (.ref 76)

variable {w : World}

theorem hfv (mg : Str → Option Value) {k : Nat} {x : Str} (e : nameF k = x) : fvOf mg (.user k) = (mg x).getD .none := by subst e; rfl

noncomputable def AllM {α : Type} (P : α → Prop) : List α → Prop
  | [] => True
  | a :: r => P a ∧ AllM P r
theorem all_mem {α : Type} {P : α → Prop} : ∀ {l : List α}, AllM P l → ∀ a ∈ l, P a
  | _ :: _, h, _, .head _ => h.1
  | _ :: _, h, a, .tail _ m => all_mem h.2 a m
theorem user_at (F : Facts w mean mg mb h) : ∀ p ∈ userFns, ∃ a, mg p.1 = some (.ref a) := by
  intro p hp
  refine all_mem (P := fun p : Str × Nat => ∃ a, mg p.1 = some (.ref a)) (l := userFns) ?_ p hp
  have pl : ∀ {x : Str}, FnIs x mg h → ∃ a, mg x = some (.ref a) := fun ⟨a, _, _, _, _, e, _⟩ => ⟨a, e⟩
  exact ⟨pl (irHeappush_fn F.T), pl (irHeappop_fn F.T), pl (irHeapreplaceMax_fn F.T), pl (irHeapifyMax_fn F.T), pl (irSiftdown_fn F.T), pl (irSiftup_fn F.T), pl (irSiftdownMax_fn F.T), pl (irSiftupMax_fn F.T), ⟨76, F.n76⟩, pl (irPrettyFlags_fn F.T), pl (irParseVarint_fn F.T), pl (irSIfmt_fn F.T), pl (irFilemode_fn F.T), pl (irLawWays_fn F.T), pl (irLawThrees_fn F.T), pl (irLawRead_fn F.T), pl (irLawStruck_fn F.T), pl (irLawFewest_fn F.T), trivial⟩

theorem prim_free : ∀ p ∈ primFns, p.1 ∉ startupNames ∧ p.1 ∉ looseW vw LW0 ∧ p.1 ∉ (recsOf vw).map (·.name) ∧ p.1 ∉ (litsOf vw).map (·.1) ∧ p.1 ∉ (clssOf vw (looseW vw LW0)).map (·.name) ∧ p.1 ≠ "__name__" := by decide +kernel
theorem prim_boot : ∀ p ∈ primFns, bootBuiltins p.1 = some (primV p.2) := all_mem (l := primFns) ⟨by kernel_rfl, by kernel_rfl, by kernel_rfl, by kernel_rfl, by kernel_rfl, by kernel_rfl, by kernel_rfl, by kernel_rfl, by kernel_rfl, by kernel_rfl, by kernel_rfl, trivial⟩
theorem prim_at (F : Facts w mean mg mb h) : ∀ p ∈ primFns, mg p.1 = none ∧ mb p.1 = some (primV p.2) := fun p hp =>
  have ⟨h1, h2, h3, h4, h5, hn⟩ := prim_free p hp
  ⟨F.T.free _ h1 h2 h3 h4 h5, (F.T.builtins _ hn).trans (prim_boot p hp)⟩

theorem mem_of_lookupPV {x : Str} {c : PV} : ∀ {l : List (Str × PV)}, l.lookup x = some c → (x, c) ∈ l
  | [], e => by cases e
  | (y, v) :: r, e => by
    rw [List.lookup_cons] at e
    split at e
    · rename_i hq
      cases e
      have : x = y := by simpa using hq
      subst this; exact .head _
    · exact .tail _ (mem_of_lookupPV e)

theorem names_ok (F : Facts w mean mg mb h) : ∀ x c, gtab.lookup x = some c → ∃ v, (mg x = some v ∨ (mg x = none ∧ mb x = some v)) ∧ VR (fvOf mg) (fun _ => 0) 0 h v c := by
  intro x c e
  have hm := mem_of_lookupPV e
  unfold gtab at hm
  rcases List.mem_append.mp hm with hm | hm
  · obtain ⟨p, hp, q⟩ := List.mem_map.mp hm
    cases q
    obtain ⟨a, ea⟩ := user_at F p hp
    have hn : nameF p.2 = p.1 := by
      have : ∀ p ∈ userFns, nameF p.2 = p.1 := by decide +kernel
      exact this p hp
    refine ⟨.ref a, .inl ea, ?_⟩
    have : fvOf mg (.user p.2) = .ref a := by rw [hfv mg hn, ea]; rfl
    rw [← this]; exact .fn _
  · rcases List.mem_append.mp hm with hm | hm
    · obtain ⟨p, hp, q⟩ := List.mem_map.mp hm
      cases q
      obtain ⟨e1, e2⟩ := prim_at F p hp
      exact ⟨_, .inr ⟨e1, e2⟩, .fn (.prim p.2)⟩
    · simp only [constFns, List.mem_cons, List.not_mem_nil, or_false] at hm
      rcases hm with q | q | q <;> cases q
      · obtain ⟨v, e1, e2⟩ := F.T.const "S_IFREG" (.int 32768) (by kernel_rfl)
        have := e2 h
        cases this
        exact ⟨_, .inl e1, .int _ _⟩
      · obtain ⟨v, e1, e2⟩ := F.V.val _ (.head _)
        exact ⟨v, .inl e1, readsW_VR tabV (by decide +kernel) e2⟩
      · obtain ⟨a, e1, e2⟩ := F.B.tabI "COMPILER_FLAG_NAMES" flagD (by kernel_rfl)
        refine ⟨.ref a, .inl e1, ?_⟩
        have : fvOf mg .flags = .ref a := by show (mg "COMPILER_FLAG_NAMES").getD .none = _; rw [e1]; rfl
        rw [← this]; exact .fn .flags

theorem pairs_any {p p' : Program} {w' : World} {es : List DictEntry} {kvs : List (Int × Value)} (H : Pairs (intKind p w) es kvs) : Pairs (intKind p' w') es kvs := by
  induction H with
  | nil => exact .nil
  | cons h1 h2 _ ih => exact .cons h1 h2 ih
theorem intTab_any {p p' : Program} {w' : World} {d : Addr} {D : List (PyData × PyData)} (T : IntTab p w h d D) : IntTab p' w' h d D := by
  obtain ⟨lo, kvs, ⟨o, es, ep, a1, a2, a3, a4, a5, a6⟩, hf⟩ := T
  exact ⟨lo, kvs, ⟨o, es, ep, a1, a2, a3, a4, pairs_any a5, a6⟩, hf⟩

noncomputable def FnOk (mg : Str → Option Value) (h : Heap) (k : Nat) : FnI → Prop
  | .code np ns df body => CodeOk (fvOf mg) h k np ns df body
  | .spec _ => False
theorem tab_all (F : Facts w mean mg mb h) (k : Nat) (G : FnI) (e : tabF k = some G) : FnOk mg h k G :=
  Nat.zero_add k ▸ nth_all tabL 0 k (P := FnOk mg h) ⟨irHeappush_code F.T (hfv mg (by decide +kernel)), irHeappop_code F.T (hfv mg (by decide +kernel)), irHeapreplaceMax_code F.T (hfv mg (by decide +kernel)), irHeapifyMax_code F.T (hfv mg (by decide +kernel)), irSiftdown_code F.T (hfv mg (by decide +kernel)), irSiftup_code F.T (hfv mg (by decide +kernel)), irSiftdownMax_code F.T (hfv mg (by decide +kernel)), irSiftupMax_code F.T (hfv mg (by decide +kernel)), ns_code F.X F.n76 (hfv mg (by decide +kernel)), irPrettyFlags_code F.T (hfv mg (by decide +kernel)), irParseVarint_code F.T (hfv mg (by decide +kernel)), irSIfmt_code F.T (hfv mg (by decide +kernel)), irFilemode_code F.T (hfv mg (by decide +kernel)), irLawWays_code F.T (hfv mg (by decide +kernel)), irLawThrees_code F.T (hfv mg (by decide +kernel)), irLawStruck_code F.T (hfv mg (by decide +kernel)), irLawFewest_code F.T (hfv mg (by decide +kernel)), trivial⟩ G e
theorem code_all (F : Facts w mean mg mb h) : ∀ k np ns df body, phi k = some (.code np ns df body) → CodeOk (fvOf mg) h k np ns df body := by
  intro k np ns df body e
  unfold phi at e
  split at e
  · cases e
  · exact tab_all F k _ e
theorem read_ir : irLawRead = readIR := rfl
theorem read_all (F : Facts w mean mg mb h) : CodeOk (fvOf mg) h 15 1 4 [] readIR := irLawRead_code F.T (hfv mg (by decide +kernel))

theorem glob_all (F : Facts w mean mg mb h) : GlobOk (fvOf mg) phi h := by
  refine ⟨⟨mg, mb, F.T.g, F.T.b, names_ok F⟩, ?_, fun _ => rfl, F.T.nolimit, fun k G e => ?_, code_all F, read_all F, ⟨mg, mb, F.T.g, F.T.b, ?_, ?_⟩⟩
  · obtain ⟨a, e1, e2⟩ := F.B.tabI "COMPILER_FLAG_NAMES" flagD (by kernel_rfl)
    exact ⟨a, by show (mg "COMPILER_FLAG_NAMES").getD .none = _; rw [e1]; rfl, fun p' w' => intTab_any e2⟩
  · cases G with
    | code np ns df body =>
      obtain ⟨f, o, fd, _, _, C⟩ := code_all F k np ns df body e
      exact ⟨f, o, fd, C.ef, C.eo, C.ed⟩
    | spec G =>
      have hk : k = 15 := by
        unfold phi at e
        split at e
        · assumption
        · exact (tab_all F k _ e).elim
      subst hk
      obtain ⟨f, o, fd, _, _, C⟩ := read_all F
      exact ⟨f, o, fd, C.ef, C.eo, C.ed⟩
  · exact F.T.free _ (by decide +kernel) (by decide +kernel) (by decide +kernel) (by decide +kernel) (by decide +kernel)
  · exact (F.T.builtins _ (by decide +kernel)).trans (by kernel_rfl)
end Mine.Internal
end
section
open PySem PySem.W PyProof.Rows PySem.Calls
namespace Mine.Internal
set_option linter.unusedSectionVars false
set_option linter.unusedVariables false
set_option maxRecDepth 100000
set_option maxHeartbeats 4000000

theorem and63 : ∀ a : Nat, a < 64 → (a + 64) &&& 63 = a := by decide +kernel
theorem and64 : ∀ a : Nat, a < 64 → (a + 64) &&& 64 = 64 := by decide +kernel
theorem low63 : ∀ b : Nat, b < 64 → b &&& 63 = b := by decide +kernel
theorem low64 : ∀ b : Nat, b < 64 → b &&& 64 = 0 := by decide +kernel
theorem orAll : ∀ c : Nat, c < 64 → ∀ b : Nat, b < 64 → (c * 64) ||| b = c * 64 + b := by decide +kernel

variable {Φ : Nat → Option FnI} {st st1 st2 st' : St} {n d : Nat}
theorem fits_small {r : Int} (h0 : -1000000000 < r) (h1 : r < 1000000000) : fits r = true := by
  unfold fits big
  simp only [Bool.and_eq_true, decide_eq_true_eq]
  lia
theorem fits_nat {k : Nat} (h : k < 1000000) : fits (k : Int) = true := fits_small (Int.lt_of_lt_of_le (by decide) (Int.natCast_nonneg k)) (Int.lt_trans (Int.ofNat_lt.mpr h) (by decide))
theorem b_band {a b : Int} {r : Int} (ha : 0 ≤ a) (hb : 0 ≤ b) (hr : ((a.toNat &&& b.toNat : Nat) : Int) = r) (hf : fits r = true) : binop .band (.int a) (.int b) st = some (.int r, st) := by
  have : intOp .band a b = some r := by
    show (if 0 ≤ a ∧ 0 ≤ b then some (((a.toNat &&& b.toNat : Nat)) : Int) else none) = _
    rw [if_pos ⟨ha, hb⟩, hr]
  exact obS (o := asI (.int b)) (x := b) rfl (obS this (obS (o := mkI r) (x := .int r) (by unfold mkI; rw [hf]) rfl))
theorem b_bandN {x y r : Nat} (hr : x &&& y = r) (hb : r < 1000000) : binop .band (.int (x : Int)) (.int (y : Int)) st = some (.int (r : Int), st) :=
  b_band (Int.natCast_nonneg x) (Int.natCast_nonneg y) (by rw [Int.toNat_natCast, Int.toNat_natCast, hr]) (fits_nat hb)
theorem s_asg {k : Nat} {e : IE} {v : PV} (h : evE Φ n d e st = some (v, st1)) (h2 : setS st1 k v = some st') : evS Φ (n + 1) d (.asg (.v k) e) st = some (.next, st') := by
  exact obS h (obS (o := setT (.v k) v st1) h2 rfl)
theorem s_aug {k : Nat} {op : Op} {e : IE} {a b r : Int} (hx : st.sl[k]? = some (some (.int a))) (h : evE Φ n d e st = some (.int b, st1)) (ho : augOk op = true) (hr : intOp op a b = some r) (hf : fits r = true) (h2 : setS st1 k (.int r) = some st') : evS Φ (n + 1) d (.aug k op e) st = some (.next, st') := by
  refine obS hx (obS rfl (obS h ?_))
  show xAug1 (augOk op) _ _ _ _ _ = _
  rw [ho]
  refine obS hr (obS (x := .int r) ?_ (obS h2 rfl))
  unfold mkI; rw [hf]
theorem s_ret {e : IE} {v : PV} (h : evE Φ n d e st = some (v, st1)) : evS Φ (n + 1) d (.ret e) st = some (.ret v, st1) := obS h rfl
theorem ss_cons {s : IS} {r : List IS} {x : Flow × St} (h : evS Φ n d s st = some (.next, st1)) (h2 : evSs Φ n d r st1 = some x) : evSs Φ (n + 1) d (s :: r) st = some x := obS h h2
theorem ss_ret {s : IS} {r : List IS} {v : PV} (h : evS Φ n d s st = some (.ret v, st1)) : evSs Φ (n + 1) d (s :: r) st = some (.ret v, st1) := obS h rfl
theorem ss_nil : evSs Φ (n + 1) d [] st = some (.next, st) := rfl

theorem prim_next {l i k : Nat} {xs : List PV} {x : PV} (h1 : st.ob[i]? = some (.listIter l k)) (h2 : items st l = some xs) (h3 : xs[k]? = some x) : primop .next [.ref i] st = some (x, setO st i (.listIter l (k + 1))) := by
  exact obS (o := arg1 [.ref i]) rfl (obS (o := asR (.ref i)) rfl (obS (o := asListIter st.ob[i]?) (x := (l, k)) (by rw [h1]; rfl) (obS h2 (obS h3 rfl))))

theorem truth_int {i : Int} : truthV (.int i) st = some (!decide (i = 0)) := rfl
theorem w_more {t : IT} {b : List IS} {st2 : St} {x : Flow × St} (h1 : evT Φ n d t st = some (true, st1)) (h2 : evSs Φ n d b st1 = some (.next, st2)) (h3 : evW Φ n d t b (gc st.ob.length st2) = some x) : evW Φ (n + 1) d t b st = some x := by
  exact obS h1 (obS h2 h3)
theorem w_end {t : IT} {b : List IS} (h1 : evT Φ n d t st = some (false, st1)) : evW Φ (n + 1) d t b st = some (.next, gc st.ob.length st1) := by
  exact obS h1 rfl
theorem t_e {e : IE} {v : PV} {b : Bool} (h : evE Φ n d e st = some (v, st1)) (hb : truthV v st1 = some b) : evT Φ (n + 1) d (.e e) st = some (b, st1) := by
  exact obS h (obS hb rfl)
theorem s_whl {t : IT} {b : List IS} {x : Flow × St} (h : evW Φ n d t b st = some x) : evS Φ (n + 1) d (.whl t b) st = some x := h

theorem pv_run (d : Nat) (xs : List PV) (i m p : Nat) (ha : xs[i]? = some (.int ((m + 64 : Nat) : Int))) (hb : xs[i + 1]? = some (.int (p : Int))) (hm : m < 64) (hp : p < 64) :
    evSs Φ 30 d irParseVarint ⟨[some (.ref 0), none, none], [.listIter 1 i, .ro xs]⟩ = some (.ret (.int ((m * 64 + p : Nat) : Int)), ⟨[some (.ref 0), some (.int (p : Int)), some (.int ((m * 64 + p : Nat) : Int))], [.listIter 1 (i + 2), .ro xs]⟩) := by
  have hmb : m < 1000000 := Nat.lt_trans hm (by decide)
  have h64 : m * 64 < 1000000 := Nat.lt_trans (Nat.mul_lt_mul_of_pos_right hm (by decide)) (by decide)
  have hmp : m * 64 + p < 1000000 := Nat.lt_trans (Nat.add_lt_add (Nat.mul_lt_mul_of_pos_right hm (by decide)) hp) (by decide)
  have sh : intOp .shl (m : Int) 6 = some ((m * 64 : Nat) : Int) := by
    show (if fits (m : Int) ∧ 0 ≤ (m : Int) ∧ (0 : Int) ≤ 6 ∧ (6 : Int) < 64 then some ((m : Int) * ((64 : Nat) : Int)) else none) = _
    rw [if_pos ⟨fits_nat hmb, Int.natCast_nonneg m, by decide, by decide⟩, Int.natCast_mul]
  have bo : intOp .bor ((m * 64 : Nat) : Int) (p : Int) = some ((m * 64 + p : Nat) : Int) := by
    show (if 0 ≤ ((m * 64 : Nat) : Int) ∧ 0 ≤ (p : Int) then some ((m * 64 ||| p : Nat) : Int) else none) = _
    rw [if_pos ⟨Int.natCast_nonneg _, Int.natCast_nonneg p⟩, orAll m hm p hp]
  have hg : gc 2 (⟨[some (.ref 0), some (.int (p : Int)), some (.int ((m * 64 + p : Nat) : Int))], [.listIter 1 (i + 2), .ro xs]⟩ : St) = ⟨[some (.ref 0), some (.int (p : Int)), some (.int ((m * 64 + p : Nat) : Int))], [.listIter 1 (i + 2), .ro xs]⟩ := by
    unfold gc
    split <;> rfl
  refine ss_cons (s_asg (e_prim (e_one (e_var rfl)) (prim_next (l := 1) rfl rfl ha)) rfl) (ss_cons (s_asg (e_bin (e_var rfl) e_const (b_bandN (y := 63) (and63 m hm) hmb)) rfl) (ss_cons (s_whl (w_more
    (t_e (e_bin (e_var rfl) e_const (b_bandN (y := 64) (and64 m hm) (by decide))) rfl)
    (ss_cons (s_aug rfl e_const rfl sh (fits_nat h64) rfl) (ss_cons (s_asg (e_prim (e_one (e_var rfl)) (prim_next (l := 1) rfl rfl hb)) rfl)
      (ss_cons (s_aug rfl (e_bin (e_var rfl) e_const (b_bandN (y := 63) (low63 p hp) (Nat.lt_trans hp (by decide)))) rfl bo (fits_nat hmp) rfl) ss_nil))) ?_)) (ss_ret (s_ret (e_var rfl)))))
  exact (congrArg (evW Φ 25 d _ _) hg).trans ((w_end (n := 24) (t_e (e_bin (e_var rfl) e_const (b_bandN (y := 64) (low64 p hp) (by decide))) rfl)).trans (congrArg (fun z => some (Flow.next, z)) hg))

theorem pv_ok10 : PvOk tabF irParseVarint irParseVarint.tail where
  e10 := rfl
  first := rfl
  run := fun d xs i a b h1 h2 h3 h4 h5 h6 => by
    obtain ⟨m, hm⟩ := Int.le.dest_sub h3
    obtain ⟨p, rfl⟩ := Int.eq_ofNat_of_zero_le h5
    obtain rfl : a = ((m + 64 : Nat) : Int) := (Int.sub_add_cancel a 64).symm.trans (congrArg (· + 64) hm)
    rw [hm]
    exact ⟨30, _, pv_run d xs i m p h1 h2 (Nat.lt_of_add_lt_add_right (Int.ofNat_lt.mp h4 : m + 64 < 64 + 64)) (Int.ofNat_lt.mp h6)⟩

noncomputable def codeB : FnI → Bool
  | .code .. => true
  | .spec _ => false
theorem tabF_no : ∀ k F, tabF k ≠ some (.spec F) := fun k F e => by
  have := nth_all tabL 0 k (P := fun _ F => codeB F = true) ⟨rfl, rfl, rfl, rfl, rfl, rfl, rfl, rfl, rfl, rfl, rfl, rfl, rfl, rfl, rfl, rfl, rfl, trivial⟩ _ e
  exact nomatch this
theorem tabF_sub : ∀ k F, tabF k = some F → phi k = some F := fun k F e => by
  unfold phi
  split
  · rename_i hk; subst hk; cases e
  · exact e
theorem phi_spec : ∀ k F, phi k = some (.spec F) → k = 15 ∧ F = readF := fun k F e => by
  unfold phi at e
  split at e
  · rename_i hk; cases e; exact ⟨hk, rfl⟩
  · exact absurd e (tabF_no k F)
theorem all_phi {prog : Program} {w : World} {fv : Fn → Value} (n : Nat) : All prog w fv phi n :=
  all_ok (read_spec (fun n => all_ok (no_spec tabF_no) n n (Nat.le_refl n)) tabF_sub pv_ok10 phi_spec) n n (Nat.le_refl n)
end Mine.Internal
end
section
open PySem
namespace Mine.Internal
set_option linter.unusedSectionVars false
set_option linter.unusedVariables false
set_option maxRecDepth 100000
/-! more fuel does no harm -/
noncomputable def Le {α : Type} (a b : Option α) : Prop := ∀ r, a = some r → b = some r
theorem Le.rf {α : Type} {a : Option α} : Le a a := fun _ h => h
theorem Le.no {α : Type} {b : Option α} : Le none b := fun _ h => nomatch h
theorem Le.bind {α β : Type} {a b : Option α} {f g : α → Option β} (h : Le a b) (k : ∀ x, Le (f x) (g x)) : Le (a >>= f) (b >>= g) := fun r e => by
  cases a with
  | none => cases e
  | some x => rw [h x rfl]; exact k x r e
variable {Φ : Nat → Option FnI} {V W : Ev}
structure LeV (V W : Ev) : Prop where
  e : ∀ d e st, Le (V.e d e st) (W.e d e st)
  es : ∀ d e st, Le (V.es d e st) (W.es d e st)
  t : ∀ d e st, Le (V.t d e st) (W.t d e st)
  ts : ∀ d e st, Le (V.ts d e st) (W.ts d e st)
  c : ∀ d el t ifs gs it acc st, Le (V.c d el t ifs gs it acc st) (W.c d el t ifs gs it acc st)
  call : ∀ d k args ob, Le (V.call d k args ob) (W.call d k args ob)
  ss : ∀ d e st, Le (V.ss d e st) (W.ss d e st)
  s : ∀ d e st, Le (V.s d e st) (W.s d e st)
  w : ∀ d t b st, Le (V.w d t b st) (W.w d t b st)
  f : ∀ d t b o it st, Le (V.f d t b o it st) (W.f d t b o it st)
theorem Le.ite {α : Type} {c : Prop} [Decidable c] {a b x : Option α} (h : Le a b) : Le (if c then a else x) (if c then b else x) := by
  by_cases hc : c
  · rw [if_pos hc, if_pos hc]; exact h
  · rw [if_neg hc, if_neg hc]; exact .rf
section
variable (H : LeV V W) {d : Nat} {st : St}
include H
theorem leCall {x : PV} {vs : List PV} : Le (xCall V d x vs st) (xCall W d x vs st) := by
  cases x with
  | fn f => cases f with
    | user k => exact .bind (H.call _ _ _ _) fun _ => .rf
    | _ => exact .rf
  | _ => exact .rf
theorem leSlice {x : PV} {lo hi : Option IE} : Le (xSlice V d x lo hi st) (xSlice W d x lo hi st) := by
  cases lo with
  | none => cases hi with
    | none => exact .rf
    | some h => exact .bind (H.e _ _ _) fun _ => .rf
  | some l => cases hi with
    | none => exact .bind (H.e _ _ _) fun _ => .rf
    | some h => exact .bind (H.e _ _ _) fun p => .bind (H.e _ _ _) fun _ => .rf
theorem leMeth {b : Bool} {m : Meth} {o : PV} {es : List IE} : Le (xMeth V d b m o es st) (xMeth W d b m o es st) := by
  cases b with
  | true => exact .bind (H.es _ _ _) fun _ => .rf
  | false => exact .rf
theorem leComp {a : IE} {m : Nat} {gs : List IGen} : Le (xComp V d a m gs st) (xComp W d a m gs st) := by
  cases gs with
  | nil => exact .rf
  | cons g r => cases g with
    | mk t it ifs => exact .bind (H.e _ _ _) fun p => .bind .rf fun q => .bind (H.c _ _ _ _ _ _ _ _) fun _ => .rf
theorem leBif {c : Bool} {α : Type} {a b x y : Option α} (h1 : Le a b) (h2 : Le x y) : Le (match c with | true => a | false => x) (match c with | true => b | false => y) := by cases c <;> assumption
theorem leE {e : IE} : Le (stE V d e st) (stE W d e st) := by
  cases e with
  | const => exact .rf
  | var => exact .rf
  | bin => exact .bind (H.e _ _ _) fun p => .bind (H.e _ _ _) fun _ => .rf
  | neg => exact .bind (H.e _ _ _) fun _ => .rf
  | cmp => exact .bind (H.e _ _ _) fun p => .bind (H.e _ _ _) fun _ => .rf
  | list => exact .bind (H.es _ _ _) fun _ => .rf
  | tup => exact .bind (H.es _ _ _) fun _ => .rf
  | idx => exact .bind (H.e _ _ _) fun p => .bind (H.e _ _ _) fun _ => .rf
  | slice => exact .bind (H.e _ _ _) fun p => leSlice H
  | call => exact .bind (H.e _ _ _) fun p => .bind (H.es _ _ _) fun _ => leCall H
  | meth => exact .bind (H.e _ _ _) fun p => leMeth H
  | comp => exact leComp H
  | ife => exact .bind (H.t _ _ _) fun p => leBif H (H.e _ _ _) (H.e _ _ _)
  | bad => exact .rf
theorem leEs {e : List IE} : Le (stEs V d e st) (stEs W d e st) := by
  cases e with
  | nil => exact .rf
  | cons => exact .bind (H.e _ _ _) fun p => .bind (H.es _ _ _) fun _ => .rf
theorem leT {e : IT} : Le (stT V d e st) (stT W d e st) := by
  cases e with
  | e => exact .bind (H.e _ _ _) fun _ => .rf
  | not => exact .bind (H.t _ _ _) fun _ => .rf
  | and => exact .bind (H.t _ _ _) fun p => leBif H (H.t _ _ _) .rf
  | or => exact .bind (H.t _ _ _) fun p => leBif H .rf (H.t _ _ _)
theorem leTs {e : List IT} : Le (stTs V d e st) (stTs W d e st) := by
  cases e with
  | nil => exact .rf
  | cons => exact .bind (H.t _ _ _) fun p => leBif H (H.ts _ _ _) .rf
theorem leTurn {a : IE} {acc : Nat} {gs : List IGen} : Le (xTurn V d a acc gs st) (xTurn W d a acc gs st) := by
  cases gs with
  | nil => exact .bind (H.e _ _ _) fun _ => .rf
  | cons g gs => cases g with
    | mk t it ifs => exact .bind (H.e _ _ _) fun p => .bind .rf fun _ => H.c _ _ _ _ _ _ _ _
theorem leOk {b : Bool} {a : IE} {acc : Nat} {gs : List IGen} : Le (xOk V d b a acc gs st) (xOk W d b a acc gs st) := by
  cases b with
  | true => exact leTurn H
  | false => exact .rf
theorem leC {a : IE} {t : Tgt} {ifs : List IT} {gs : List IGen} {it acc : Nat} : Le (stC V d a t ifs gs it acc st) (stC W d a t ifs gs it acc st) :=
  .bind .rf fun p => by
    obtain ⟨r, s1⟩ := p
    cases r with
    | none => exact .rf
    | some v => exact .bind .rf fun s2 => .bind (H.ts _ _ _) fun q => .bind (leOk H) fun _ => H.c _ _ _ _ _ _ _ _
theorem leFn {args : List PV} {ob : List PO} {F : Option FnI} : Le (xFnI V d args ob F) (xFnI W d args ob F) := by
  cases F with
  | none => exact .rf
  | some f => cases f with
    | spec => exact .rf
    | code => exact .bind .rf fun p => .ite (.bind (H.ss _ _ _) fun _ => .rf)
theorem leCl {k : Nat} {args : List PV} {ob : List PO} : Le (stCall V d Φ k args ob) (stCall W d Φ k args ob) := by
  cases d with
  | zero => exact .rf
  | succ d =>
    show Le (match callOk ob with | false => none | true => xFnI V d args ob (Φ k)) (match callOk ob with | false => none | true => xFnI W d args ob (Φ k))
    cases callOk ob with
    | false => exact .rf
    | true => exact leFn H
theorem leThen {f : Flow} {o : List IS} : Le (xThen V d f o st) (xThen W d f o st) := by
  cases f with
  | next => exact H.ss _ _ _
  | _ => exact .rf
theorem leSs {e : List IS} : Le (stSs V d e st) (stSs W d e st) := by
  cases e with
  | nil => exact .rf
  | cons => exact .bind (H.s _ _ _) fun p => leThen H
theorem leS {e : IS} : Le (stS V d e st) (stS W d e st) := by
  cases e with
  | expr => exact .bind (H.e _ _ _) fun _ => .rf
  | asg => exact .bind (H.e _ _ _) fun _ => .rf
  | asgIdx => exact .bind (H.e _ _ _) fun p => .bind (H.e _ _ _) fun q => .bind (H.e _ _ _) fun _ => .rf
  | aug => exact .bind .rf fun p => .bind .rf fun q => .bind (H.e _ _ _) fun _ => .rf
  | ife => exact .bind (H.t _ _ _) fun p => leBif H (H.ss _ _ _) (H.ss _ _ _)
  | whl => exact H.w _ _ _ _
  | fr => exact .bind (H.e _ _ _) fun p => .bind .rf fun q => .bind (H.f _ _ _ _ _ _) fun _ => .rf
  | ret => exact .bind (H.e _ _ _) fun _ => .rf
  | brk => exact .rf
  | cont => exact .rf
  | pass => exact .rf
  | «try» => exact .bind (H.ss _ _ _) fun p => leThen H
  | rd => exact .rf
  | bad => exact .rf
theorem leWt {t : IT} {b : List IS} {m : Nat} {f : Flow} : Le (xWt V d t b m f st) (xWt W d t b m f st) := by
  cases f with
  | next => exact H.w _ _ _ _
  | cont => exact H.w _ _ _ _
  | _ => exact .rf
theorem leW {t : IT} {b : List IS} : Le (stW V d t b st) (stW W d t b st) := .bind (H.t _ _ _) fun p => by
  obtain ⟨c, s1⟩ := p
  cases c with
  | false => exact .rf
  | true => exact .bind (H.ss _ _ _) fun q => leWt H
theorem leFt {t : Tgt} {b o : List IS} {it m : Nat} {f : Flow} : Le (xFt V d t b o it m f st) (xFt W d t b o it m f st) := by
  cases f with
  | next => exact H.f _ _ _ _ _ _
  | cont => exact H.f _ _ _ _ _ _
  | _ => exact .rf
theorem leF {t : Tgt} {b o : List IS} {it : Nat} : Le (stF V d t b o it st) (stF W d t b o it st) := .bind .rf fun p => by
  obtain ⟨r, s1⟩ := p
  cases r with
  | none => exact H.ss _ _ _
  | some v => exact .bind .rf fun s2 => .bind (H.ss _ _ _) fun q => leFt H
end
theorem mono : ∀ n, LeV (ev Φ n) (ev Φ (n + 1))
  | 0 => ⟨fun _ _ _ => .no, fun _ _ _ => .no, fun _ _ _ => .no, fun _ _ _ => .no, fun _ _ _ _ _ _ _ _ => .no, fun _ _ _ _ => .no, fun _ _ _ => .no, fun _ _ _ => .no, fun _ _ _ _ => .no, fun _ _ _ _ _ _ => .no⟩
  | n + 1 => let H := mono n; ⟨fun _ _ _ => leE H, fun _ _ _ => leEs H, fun _ _ _ => leT H, fun _ _ _ => leTs H, fun _ _ _ _ _ _ _ _ => leC H, fun _ _ _ _ => leCl H, fun _ _ _ => leSs H, fun _ _ _ => leS H, fun _ _ _ _ => leW H, fun _ _ _ _ _ _ => leF H⟩
theorem Le.up {α : Type} {f : Nat → Option α} (h : ∀ n, Le (f n) (f (n + 1))) {a b : Nat} (hab : a ≤ b) {r : α} (e : f a = some r) : f b = some r := by
  induction b with
  | zero => obtain rfl : a = 0 := by lia
            exact e
  | succ b ih =>
    by_cases q : a ≤ b
    · exact h b r (ih q)
    · obtain rfl : a = b + 1 := by lia
      exact e
end Mine.Internal
end
section
open PySem
namespace Mine.Internal
set_option linter.unusedSectionVars false
set_option linter.unusedVariables false
set_option maxRecDepth 100000
/-! runs, their fuel out of sight -/
variable {Φ : Nat → Option FnI}
noncomputable def RE (Φ : Nat → Option FnI) (d : Nat) (e : IE) (st : St) (r : PV) (st' : St) : Prop := ∃ n, evE Φ n d e st = some (r, st')
noncomputable def REs (Φ : Nat → Option FnI) (d : Nat) (e : List IE) (st : St) (r : List PV) (st' : St) : Prop := ∃ n, evEs Φ n d e st = some (r, st')
noncomputable def RT (Φ : Nat → Option FnI) (d : Nat) (e : IT) (st : St) (r : Bool) (st' : St) : Prop := ∃ n, evT Φ n d e st = some (r, st')
noncomputable def RTs (Φ : Nat → Option FnI) (d : Nat) (e : List IT) (st : St) (r : Bool) (st' : St) : Prop := ∃ n, evTs Φ n d e st = some (r, st')
noncomputable def RC (Φ : Nat → Option FnI) (d : Nat) (el : IE) (t : Tgt) (ifs : List IT) (gs : List IGen) (it acc : Nat) (st st' : St) : Prop := ∃ n, evC Φ n d el t ifs gs it acc st = some st'
noncomputable def RCall (Φ : Nat → Option FnI) (d k : Nat) (args : List PV) (ob : List PO) (r : PV) (ob' : List PO) : Prop := ∃ n, evCall Φ n d k args ob = some (r, ob')
noncomputable def RSs (Φ : Nat → Option FnI) (d : Nat) (e : List IS) (st : St) (r : Flow) (st' : St) : Prop := ∃ n, evSs Φ n d e st = some (r, st')
noncomputable def RS (Φ : Nat → Option FnI) (d : Nat) (e : IS) (st : St) (r : Flow) (st' : St) : Prop := ∃ n, evS Φ n d e st = some (r, st')
noncomputable def RW (Φ : Nat → Option FnI) (d : Nat) (t : IT) (b : List IS) (st : St) (r : Flow) (st' : St) : Prop := ∃ n, evW Φ n d t b st = some (r, st')
noncomputable def RF (Φ : Nat → Option FnI) (d : Nat) (t : Tgt) (b o : List IS) (it : Nat) (st : St) (r : Flow) (st' : St) : Prop := ∃ n, evF Φ n d t b o it st = some (r, st')

variable {d : Nat} {st st1 st2 st3 st' : St} {e a b i : IE} {es : List IE} {v x y r : PV} {xs : List PV}

theorem RE.up {n m : Nat} (h : evE Φ n d e st = some (r, st')) (k : n ≤ m) : evE Φ m d e st = some (r, st') := Le.up (f := fun n => evE Φ n d e st) (fun n => (mono n).e d e st) k h
theorem REs.up {n m : Nat} (h : evEs Φ n d es st = some (xs, st')) (k : n ≤ m) : evEs Φ m d es st = some (xs, st') := Le.up (f := fun n => evEs Φ n d es st) (fun n => (mono n).es d es st) k h
theorem RT.up {t : IT} {r : Bool} {n m : Nat} (h : evT Φ n d t st = some (r, st')) (k : n ≤ m) : evT Φ m d t st = some (r, st') := Le.up (f := fun n => evT Φ n d t st) (fun n => (mono n).t d t st) k h
theorem RTs.up {t : List IT} {r : Bool} {n m : Nat} (h : evTs Φ n d t st = some (r, st')) (k : n ≤ m) : evTs Φ m d t st = some (r, st') := Le.up (f := fun n => evTs Φ n d t st) (fun n => (mono n).ts d t st) k h
theorem RC.up {t : Tgt} {ifs : List IT} {gs : List IGen} {it acc n m : Nat} (h : evC Φ n d e t ifs gs it acc st = some st') (k : n ≤ m) : evC Φ m d e t ifs gs it acc st = some st' := Le.up (f := fun n => evC Φ n d e t ifs gs it acc st) (fun n => (mono n).c d e t ifs gs it acc st) k h
theorem RCall.up {j : Nat} {ob ob' : List PO} {n m : Nat} (h : evCall Φ n d j xs ob = some (r, ob')) (k : n ≤ m) : evCall Φ m d j xs ob = some (r, ob') := Le.up (f := fun n => evCall Φ n d j xs ob) (fun n => (mono n).call d j xs ob) k h
theorem RSs.up {s : List IS} {r : Flow} {n m : Nat} (h : evSs Φ n d s st = some (r, st')) (k : n ≤ m) : evSs Φ m d s st = some (r, st') := Le.up (f := fun n => evSs Φ n d s st) (fun n => (mono n).ss d s st) k h
theorem RS.up {s : IS} {r : Flow} {n m : Nat} (h : evS Φ n d s st = some (r, st')) (k : n ≤ m) : evS Φ m d s st = some (r, st') := Le.up (f := fun n => evS Φ n d s st) (fun n => (mono n).s d s st) k h
theorem RW.up {t : IT} {b : List IS} {r : Flow} {n m : Nat} (h : evW Φ n d t b st = some (r, st')) (k : n ≤ m) : evW Φ m d t b st = some (r, st') := Le.up (f := fun n => evW Φ n d t b st) (fun n => (mono n).w d t b st) k h
theorem RF.up {t : Tgt} {b o : List IS} {it : Nat} {r : Flow} {n m : Nat} (h : evF Φ n d t b o it st = some (r, st')) (k : n ≤ m) : evF Φ m d t b o it st = some (r, st') := Le.up (f := fun n => evF Φ n d t b o it st) (fun n => (mono n).f d t b o it st) k h

theorem RE.const : RE Φ d (.const v) st v st := ⟨1, rfl⟩
theorem RE.var {k : Nat} (h : st.sl[k]? = some (some v)) : RE Φ d (.var k) st v st := ⟨1, (obS h rfl : xVar k st = _)⟩
theorem RE.bin {op : Op} (h1 : RE Φ d a st x st1) (h2 : RE Φ d b st1 y st2) (h3 : binop op x y st2 = some (r, st')) : RE Φ d (.bin op a b) st r st' := by
  obtain ⟨n1, h1⟩ := h1; obtain ⟨n2, h2⟩ := h2
  exact ⟨max n1 n2 + 1, obS (RE.up h1 (Nat.le_max_left n1 n2)) (obS (RE.up h2 (Nat.le_max_right n1 n2)) h3)⟩
theorem RE.neg {k : Int} (h1 : RE Φ d a st (.int k) st1) (h2 : mkI (-k) = some r) : RE Φ d (.neg a) st r st1 := by
  obtain ⟨n1, h1⟩ := h1
  exact ⟨n1 + 1, obS h1 (by show (mkI (-k)).map _ = _; rw [h2]; rfl)⟩
theorem RE.cmp {op : COp} {c : Bool} (h1 : RE Φ d a st x st1) (h2 : RE Φ d b st1 y st2) (h3 : cmpop op x y st2 = some c) : RE Φ d (.cmp op a b) st (.bool c) st2 := by
  obtain ⟨n1, h1⟩ := h1; obtain ⟨n2, h2⟩ := h2
  exact ⟨max n1 n2 + 1, obS (RE.up h1 (Nat.le_max_left n1 n2)) (obS (RE.up h2 (Nat.le_max_right n1 n2)) (obS h3 rfl))⟩
theorem RE.list (h1 : REs Φ d es st xs st1) (h2 : xs.length ≤ room) : RE Φ d (.list es) st (.ref st1.ob.length) ⟨st1.sl, st1.ob ++ [.list xs]⟩ := by
  obtain ⟨n1, h1⟩ := h1
  exact ⟨n1 + 1, obS h1 (iS h2 rfl)⟩
theorem RE.idx (h1 : RE Φ d a st x st1) (h2 : RE Φ d b st1 y st2) (h3 : idxop x y st2 = some (r, st')) : RE Φ d (.idx a b) st r st' := by
  obtain ⟨n1, h1⟩ := h1; obtain ⟨n2, h2⟩ := h2
  exact ⟨max n1 n2 + 1, obS (RE.up h1 (Nat.le_max_left n1 n2)) (obS (RE.up h2 (Nat.le_max_right n1 n2)) h3)⟩
theorem RE.sliceHi (h1 : RE Φ d a st x st1) (h2 : RE Φ d b st1 y st2) (h3 : sliceop x none (some y) st2 = some (r, st')) : RE Φ d (.slice a none (some b)) st r st' := by
  obtain ⟨n1, h1⟩ := h1; obtain ⟨n2, h2⟩ := h2
  exact ⟨max n1 n2 + 1, obS (RE.up h1 (Nat.le_max_left n1 n2)) (obS (RE.up h2 (Nat.le_max_right n1 n2)) h3)⟩
theorem RE.sliceLo (h1 : RE Φ d a st x st1) (h2 : RE Φ d b st1 y st2) (h3 : sliceop x (some y) none st2 = some (r, st')) : RE Φ d (.slice a (some b) none) st r st' := by
  obtain ⟨n1, h1⟩ := h1; obtain ⟨n2, h2⟩ := h2
  exact ⟨max n1 n2 + 1, obS (RE.up h1 (Nat.le_max_left n1 n2)) (obS (RE.up h2 (Nat.le_max_right n1 n2)) h3)⟩
theorem RE.prim {p : Prim} (h1 : REs Φ d es st xs st1) (h2 : primop p xs st1 = some (r, st')) : RE Φ d (.call (.const (.fn (.prim p))) es) st r st' := by
  obtain ⟨n1, h1⟩ := h1
  exact ⟨n1 + 1 + 1, obS (o := evE Φ (n1 + 1) d _ st) (x := (.fn (.prim p), st)) rfl (obS (REs.up h1 (Nat.le_succ n1)) h2)⟩
theorem RE.user {k : Nat} {ob : List PO} (h1 : REs Φ d es st xs st1) (h2 : RCall Φ d k xs st1.ob r ob) : RE Φ d (.call (.const (.fn (.user k))) es) st r ⟨st1.sl, ob⟩ := by
  obtain ⟨n1, h1⟩ := h1; obtain ⟨n2, h2⟩ := h2
  exact ⟨max n1 n2 + 1 + 1, obS (o := evE Φ (max n1 n2 + 1) d _ st) (x := (.fn (.user k), st)) rfl (obS (REs.up h1 (Nat.le_succ_of_le (Nat.le_max_left n1 n2))) (obS (RCall.up h2 (Nat.le_succ_of_le (Nat.le_max_right n1 n2))) rfl))⟩
theorem RE.meth {m : Meth} (h1 : RE Φ d a st x st1) (h2 : recvOk m x st1 = true) (h3 : REs Φ d es st1 xs st2) (h4 : methop m x xs st2 = some (r, st')) : RE Φ d (.meth m a es) st r st' := by
  obtain ⟨n1, h1⟩ := h1; obtain ⟨n2, h3⟩ := h3
  exact ⟨max n1 n2 + 1, obS (RE.up h1 (Nat.le_max_left n1 n2)) (by
    show xMeth _ _ (recvOk m x st1) _ _ _ _ = _
    rw [h2]; exact obS (REs.up h3 (Nat.le_max_right n1 n2)) h4)⟩
theorem RE.comp {elt : IE} {t : Tgt} {it : IE} {ifs : List IT} {gs : List IGen} {m j : Nat} {st4 : St} (h1 : RE Φ d it st x st1) (h2 : iterC x st1 = some (j, st2)) (h3 : RC Φ d elt t ifs gs j st2.ob.length ⟨st2.sl ++ List.replicate m none, st2.ob ++ [.list []]⟩ st4)
    (h4 : st4.ob[st2.ob.length]? = some (.list xs)) (h5 : okVs 0 xs = true) (h6 : okSs st.ob.length (st4.sl.take st.sl.length) = true) (h7 : okOs st.ob.length (st4.ob.take st.ob.length) = true) :
    RE Φ d (.comp elt (.mk t it ifs :: gs) m) st (.ref st.ob.length) ⟨st4.sl.take st.sl.length, st4.ob.take st.ob.length ++ [.list xs]⟩ := by
  obtain ⟨n1, h1⟩ := h1; obtain ⟨n2, h3⟩ := h3
  refine ⟨max n1 n2 + 1, obS (RE.up h1 (Nat.le_max_left n1 n2)) (obS h2 (obS (RC.up h3 (Nat.le_max_right n1 n2)) ?_))⟩
  show xOut st st4 st4.ob[st2.ob.length]? = _
  rw [h4]
  unfold xOut
  dsimp only
  rw [h5, h6, h7]; rfl
theorem RE.ifeT {t : IT} (h1 : RT Φ d t st true st1) (h2 : RE Φ d a st1 r st') : RE Φ d (.ife t a b) st r st' := by
  obtain ⟨n1, h1⟩ := h1; obtain ⟨n2, h2⟩ := h2
  exact ⟨max n1 n2 + 1, obS (RT.up h1 (Nat.le_max_left n1 n2)) (RE.up h2 (Nat.le_max_right n1 n2))⟩
theorem RE.ifeF {t : IT} (h1 : RT Φ d t st false st1) (h2 : RE Φ d b st1 r st') : RE Φ d (.ife t a b) st r st' := by
  obtain ⟨n1, h1⟩ := h1; obtain ⟨n2, h2⟩ := h2
  exact ⟨max n1 n2 + 1, obS (RT.up h1 (Nat.le_max_left n1 n2)) (RE.up h2 (Nat.le_max_right n1 n2))⟩
theorem REs.nil : REs Φ d [] st [] st := ⟨1, rfl⟩
theorem REs.cons (h1 : RE Φ d e st v st1) (h2 : REs Φ d es st1 xs st') : REs Φ d (e :: es) st (v :: xs) st' := by
  obtain ⟨n1, h1⟩ := h1; obtain ⟨n2, h2⟩ := h2
  exact ⟨max n1 n2 + 1, obS (RE.up h1 (Nat.le_max_left n1 n2)) (obS (REs.up h2 (Nat.le_max_right n1 n2)) rfl)⟩
theorem REs.one (h1 : RE Φ d e st v st') : REs Φ d [e] st [v] st' := .cons h1 .nil
theorem RT.ex {c : Bool} (h : RE Φ d e st v st') (hb : truthV v st' = some c) : RT Φ d (.e e) st c st' := by
  obtain ⟨n, h⟩ := h
  exact ⟨n + 1, obS h (obS hb rfl)⟩
theorem RT.not {t : IT} {c : Bool} (h : RT Φ d t st c st') : RT Φ d (.not t) st (!c) st' := by
  obtain ⟨n, h⟩ := h
  exact ⟨n + 1, obS h rfl⟩
theorem RT.andT {t u : IT} {c : Bool} (h1 : RT Φ d t st true st1) (h2 : RT Φ d u st1 c st') : RT Φ d (.and t u) st c st' := by
  obtain ⟨n1, h1⟩ := h1; obtain ⟨n2, h2⟩ := h2
  exact ⟨max n1 n2 + 1, obS (RT.up h1 (Nat.le_max_left n1 n2)) (RT.up h2 (Nat.le_max_right n1 n2))⟩
theorem RT.andF {t u : IT} (h1 : RT Φ d t st false st') : RT Φ d (.and t u) st false st' := by
  obtain ⟨n1, h1⟩ := h1
  exact ⟨n1 + 1, obS h1 rfl⟩
theorem RT.orF {t u : IT} {c : Bool} (h1 : RT Φ d t st false st1) (h2 : RT Φ d u st1 c st') : RT Φ d (.or t u) st c st' := by
  obtain ⟨n1, h1⟩ := h1; obtain ⟨n2, h2⟩ := h2
  exact ⟨max n1 n2 + 1, obS (RT.up h1 (Nat.le_max_left n1 n2)) (RT.up h2 (Nat.le_max_right n1 n2))⟩
theorem RTs.nil : RTs Φ d [] st true st := ⟨1, rfl⟩
theorem RTs.one {t : IT} {c : Bool} (h : RT Φ d t st c st') : RTs Φ d [t] st c st' := by
  obtain ⟨n, h⟩ := h
  exact ⟨n + 2, obS (RT.up h (Nat.le_succ n)) (by cases c <;> rfl)⟩
section
variable {t : Tgt} {ifs : List IT} {gs : List IGen} {it acc : Nat}
theorem RC.done (h : nextI t it st = some (none, st')) : RC Φ d e t ifs gs it acc st st' := ⟨1, obS h rfl⟩
theorem RC.skip {st4 : St} (h : nextI t it st = some (some v, st1)) (h2 : setT t v st1 = some st2) (h3 : RTs Φ d ifs st2 false st3) (h5 : RC Φ d e t ifs gs it acc st3 st4) : RC Φ d e t ifs gs it acc st st4 := by
  obtain ⟨n1, h3⟩ := h3; obtain ⟨n2, h5⟩ := h5
  exact ⟨max n1 n2 + 1, obS h (obS h2 (obS (RTs.up h3 (Nat.le_max_left n1 n2)) (RC.up h5 (Nat.le_max_right n1 n2))))⟩
theorem RC.take {st4 st5 st6 : St} {u : PV} (h : nextI t it st = some (some v, st1)) (h2 : setT t v st1 = some st2) (h3 : RTs Φ d ifs st2 true st3) (h4 : RE Φ d e st3 x st4) (h5 : methop .append (.ref acc) [x] st4 = some (u, st5)) (h6 : RC Φ d e t ifs [] it acc st5 st6) :
    RC Φ d e t ifs [] it acc st st6 := by
  obtain ⟨n1, h3⟩ := h3; obtain ⟨n2, h4⟩ := h4; obtain ⟨n3, h6⟩ := h6
  exact ⟨max n1 (max n2 n3) + 1, obS h (obS h2 (obS (RTs.up h3 (m3a ..)) (obS (x := st5) (obS (RE.up h4 (m3b ..)) (obS h5 rfl) : xTurn (ev Φ _) d e acc [] st3 = _) (RC.up h6 (m3c ..)))))⟩
end
theorem RSs.nil : RSs Φ d [] st .next st := ⟨1, rfl⟩
theorem RSs.cons {s : IS} {ss : List IS} {f : Flow} (h1 : RS Φ d s st .next st1) (h2 : RSs Φ d ss st1 f st') : RSs Φ d (s :: ss) st f st' := by
  obtain ⟨n1, h1⟩ := h1; obtain ⟨n2, h2⟩ := h2
  exact ⟨max n1 n2 + 1, obS (RS.up h1 (Nat.le_max_left n1 n2)) (RSs.up h2 (Nat.le_max_right n1 n2))⟩
theorem RSs.ret {s : IS} {ss : List IS} (h1 : RS Φ d s st (.ret v) st') : RSs Φ d (s :: ss) st (.ret v) st' := by
  obtain ⟨n1, h1⟩ := h1
  exact ⟨n1 + 1, obS h1 rfl⟩
theorem RSs.cont {s : IS} {ss : List IS} (h1 : RS Φ d s st .cont st') : RSs Φ d (s :: ss) st .cont st' := by
  obtain ⟨n1, h1⟩ := h1
  exact ⟨n1 + 1, obS h1 rfl⟩
theorem RSs.brk {s : IS} {ss : List IS} (h1 : RS Φ d s st .brk st') : RSs Φ d (s :: ss) st .brk st' := by
  obtain ⟨n1, h1⟩ := h1
  exact ⟨n1 + 1, obS h1 rfl⟩
theorem RS.expr (h : RE Φ d e st v st') : RS Φ d (.expr e) st .next st' := by
  obtain ⟨n, h⟩ := h
  exact ⟨n + 1, obS h rfl⟩
theorem RS.asg {t : Tgt} (h : RE Φ d e st v st1) (h2 : setT t v st1 = some st') : RS Φ d (.asg t e) st .next st' := by
  obtain ⟨n, h⟩ := h
  exact ⟨n + 1, obS h (obS h2 rfl)⟩
theorem xPut_ok {l k : Nat} (h4 : st3.ob[l]? = some (.list xs)) (h5 : k < xs.length) (h6 : (k : Int) < big) : xPut v (.ref l) (.int k) st3 = some (.next, setO st3 l (.list (xs.set k v))) := by
  unfold xPut
  dsimp only
  rw [h4]
  exact iS ⟨Int.natCast_nonneg k, h5, h6⟩ rfl
theorem RS.asgIdx {l k : Nat} (h : RE Φ d e st v st1) (h2 : RE Φ d a st1 (.ref l) st2) (h3 : RE Φ d b st2 (.int k) st3) (h4 : st3.ob[l]? = some (.list xs)) (h5 : k < xs.length) (h6 : (k : Int) < big) : RS Φ d (.asgIdx a b e) st .next (setO st3 l (.list (xs.set k v))) := by
  obtain ⟨n1, h⟩ := h; obtain ⟨n2, h2⟩ := h2; obtain ⟨n3, h3⟩ := h3
  exact ⟨max n1 (max n2 n3) + 1, obS (RE.up h (m3a ..)) (obS (RE.up h2 (m3b ..)) (obS (RE.up h3 (m3c ..)) (xPut_ok h4 h5 h6)))⟩
theorem RS.ifeT {t : IT} {p q : List IS} {f : Flow} (h1 : RT Φ d t st true st1) (h2 : RSs Φ d p st1 f st') : RS Φ d (.ife t p q) st f st' := by
  obtain ⟨n1, h1⟩ := h1; obtain ⟨n2, h2⟩ := h2
  exact ⟨max n1 n2 + 1, obS (RT.up h1 (Nat.le_max_left n1 n2)) (RSs.up h2 (Nat.le_max_right n1 n2))⟩
theorem RS.ifeF {t : IT} {p q : List IS} {f : Flow} (h1 : RT Φ d t st false st1) (h2 : RSs Φ d q st1 f st') : RS Φ d (.ife t p q) st f st' := by
  obtain ⟨n1, h1⟩ := h1; obtain ⟨n2, h2⟩ := h2
  exact ⟨max n1 n2 + 1, obS (RT.up h1 (Nat.le_max_left n1 n2)) (RSs.up h2 (Nat.le_max_right n1 n2))⟩
theorem RS.whl {t : IT} {p : List IS} {f : Flow} (h : RW Φ d t p st f st') : RS Φ d (.whl t p) st f st' := by
  obtain ⟨n, h⟩ := h
  exact ⟨n + 1, h⟩
theorem RS.ret (h : RE Φ d e st v st') : RS Φ d (.ret e) st (.ret v) st' := by
  obtain ⟨n, h⟩ := h
  exact ⟨n + 1, obS h rfl⟩
theorem RS.cont : RS Φ d .cont st .cont st := ⟨1, rfl⟩
theorem RS.brk : RS Φ d .brk st .brk st := ⟨1, rfl⟩
theorem RS.fr {t : Tgt} {p q : List IS} {j : Nat} (h1 : RE Φ d e st x st1) (h2 : iterI x st1 = some (j, st2)) (h3 : RF Φ d t p q j st2 .next st3) : RS Φ d (.fr t e p q) st .next (gc st.ob.length st3) := by
  obtain ⟨n1, h1⟩ := h1; obtain ⟨n2, h3⟩ := h3
  exact ⟨max n1 n2 + 1, obS (RE.up h1 (Nat.le_max_left n1 n2)) (obS h2 (obS (RF.up h3 (Nat.le_max_right n1 n2)) rfl))⟩
theorem RF.done {t : Tgt} {p q : List IS} {j : Nat} {f : Flow} (h : nextI t j st = some (none, st1)) (h2 : RSs Φ d q st1 f st') : RF Φ d t p q j st f st' := by
  obtain ⟨n, h2⟩ := h2
  exact ⟨n + 1, obS h h2⟩
theorem RF.more {t : Tgt} {p q : List IS} {j : Nat} {f : Flow} (h : nextI t j st = some (some v, st1)) (h2 : setT t v st1 = some st2) (h3 : RSs Φ d p st2 .next st3) (h4 : RF Φ d t p q j (gc st.ob.length st3) f st') : RF Φ d t p q j st f st' := by
  obtain ⟨n1, h3⟩ := h3; obtain ⟨n2, h4⟩ := h4
  exact ⟨max n1 n2 + 1, obS h (obS h2 (obS (RSs.up h3 (Nat.le_max_left n1 n2)) (RF.up h4 (Nat.le_max_right n1 n2))))⟩
theorem RW.done {t : IT} {p : List IS} (h : RT Φ d t st false st1) : RW Φ d t p st .next (gc st.ob.length st1) := by
  obtain ⟨n, h⟩ := h
  exact ⟨n + 1, obS h rfl⟩
theorem RW.more {t : IT} {p : List IS} {f : Flow} (h : RT Φ d t st true st1) (h3 : RSs Φ d p st1 .next st2) (h4 : RW Φ d t p (gc st.ob.length st2) f st') : RW Φ d t p st f st' := by
  obtain ⟨n0, h⟩ := h; obtain ⟨n1, h3⟩ := h3; obtain ⟨n2, h4⟩ := h4
  exact ⟨max n0 (max n1 n2) + 1, obS (RT.up h (m3a ..)) (obS (RSs.up h3 (m3b ..)) (RW.up h4 (m3c ..)))⟩
theorem RW.again {t : IT} {p : List IS} {f : Flow} (h : RT Φ d t st true st1) (h3 : RSs Φ d p st1 .cont st2) (h4 : RW Φ d t p (gc st.ob.length st2) f st') : RW Φ d t p st f st' := by
  obtain ⟨n0, h⟩ := h; obtain ⟨n1, h3⟩ := h3; obtain ⟨n2, h4⟩ := h4
  exact ⟨max n0 (max n1 n2) + 1, obS (RT.up h (m3a ..)) (obS (RSs.up h3 (m3b ..)) (RW.up h4 (m3c ..)))⟩
theorem RW.brk {t : IT} {p : List IS} (h : RT Φ d t st true st1) (h3 : RSs Φ d p st1 .brk st2) : RW Φ d t p st .next (gc st.ob.length st2) := by
  obtain ⟨n0, h⟩ := h; obtain ⟨n1, h3⟩ := h3
  exact ⟨max n0 n1 + 1, obS (RT.up h (Nat.le_max_left n0 n1)) (obS (RSs.up h3 (Nat.le_max_right n0 n1)) rfl)⟩
/-- a def of the text's own -/
theorem RCall.fn {k : Nat} {args : List PV} {ob ob' : List PO} {F : FnI} {n : Nat} (hk : Φ k = some F) (hc : callOk ob = true) (h : xFnI (ev Φ n) d args ob (some F) = some (r, ob')) : RCall Φ (d + 1) k args ob r ob' := by
  refine ⟨n + 1, ?_⟩
  show (match callOk ob with | false => none | true => xFnI (ev Φ n) d args ob (Φ k)) = _
  rw [hc, hk]; exact h
theorem RCall.code {k np ns : Nat} {df args vs : List PV} {body : List IS} {ob ob' : List PO} {ids : List Nat} {ls : List PO} {v : PV} {f : Flow} (hk : Φ k = some (.code np ns df body)) (hc : callOk ob = true) (he : enterObs args ob = some (ids, vs, ls)) (hl : (vs ++ df.drop (vs.length + df.length - np)).length = np) (hn : np ≤ ns)
    (hb : RSs Φ d body ⟨(vs ++ df.drop (vs.length + df.length - np)).map some ++ List.replicate (ns - np) none, ls⟩ f st1) (hf : retOf f = some v) (hr : leaveObs ids v st1.ob ob = some (r, ob')) : RCall Φ (d + 1) k args ob r ob' := by
  obtain ⟨n, hb⟩ := hb
  exact .fn (n := n) hk hc (obS he (iS ⟨hl, hn⟩ (obS hb (obS hf hr))))
theorem RCall.spec {k : Nat} {args vs : List PV} {F : List PV → List PO → Option (PV × List PO)} {ob ob' : List PO} {ids : List Nat} {ls ls' : List PO} {v : PV} (hk : Φ k = some (.spec F)) (hc : callOk ob = true) (hd : d + 1 = topD) (he : enterObs args ob = some (ids, vs, ls))
    (hb : F vs ls = some (v, ls')) (hr : leaveObs ids v ls' ob = some (r, ob')) : RCall Φ (d + 1) k args ob r ob' := by
  refine .fn (n := 0) hk hc ?_
  show xSpec F args ob (Nat.beq (d + 1) topD) = _
  have : Nat.beq (d + 1) topD = true := by rw [hd]; rfl
  rw [this]
  exact obS he (obS hb hr)
end Mine.Internal
end
section
open PySem
namespace Mine.Internal
set_option linter.unusedSectionVars false
set_option linter.unusedVariables false
/-! heaps in plain Lean -/
noncomputable abbrev at0 (H : List Int) (i : Nat) : Int := H.getD i 0
theorem at0_set {H : List Int} {p i : Nat} {x : Int} (hp : p < H.length) : at0 (H.set p x) i = if p = i then x else at0 H i := by
  unfold at0
  rw [List.getD_eq_getElem?_getD, List.getD_eq_getElem?_getD, List.getElem?_set]
  split
  · rename_i e; subst e; simp [hp]
  · rfl
theorem at0_get {H : List Int} {i : Nat} (h : i < H.length) : H[i]? = some (at0 H i) := by
  unfold at0
  rw [List.getD_eq_getElem?_getD]
  simp [h]
theorem mem_at0 {H : List Int} {y : Int} : y ∈ H ↔ ∃ i, i < H.length ∧ at0 H i = y := by
  constructor
  · intro h
    obtain ⟨i, hi, e⟩ := List.getElem_of_mem h
    refine ⟨i, hi, ?_⟩
    have := at0_get hi
    rw [List.getElem?_eq_getElem hi, e] at this
    exact (Option.some.inj this).symm
  · rintro ⟨i, hi, rfl⟩
    exact List.mem_of_getElem? (at0_get hi)
theorem mem_set {H : List Int} {p : Nat} {x y : Int} (hp : p < H.length) : y ∈ H.set p x ↔ y = x ∨ ∃ i, i < H.length ∧ i ≠ p ∧ at0 H i = y := by
  rw [mem_at0, List.length_set]
  constructor
  · rintro ⟨i, hi, e⟩
    rw [at0_set hp] at e
    by_cases q : p = i
    · rw [if_pos q] at e; exact .inl e.symm
    · rw [if_neg q] at e; exact .inr ⟨i, hi, Ne.symm q, e⟩
  · rintro (rfl | ⟨i, hi, hn, e⟩)
    · exact ⟨p, hp, by rw [at0_set hp, if_pos rfl]⟩
    · exact ⟨i, hi, by rw [at0_set hp, if_neg (Ne.symm hn)]; exact e⟩
/-- a hole moves -/
theorem mem_move {H : List Int} {p q : Nat} {x y : Int} (hp : p < H.length) (hq : q < H.length) (hn : p ≠ q) : y ∈ (H.set p (at0 H q)).set q x ↔ y ∈ H.set p x := by
  rw [mem_set (by rw [List.length_set]; exact hq), mem_set hp, List.length_set]
  constructor
  · rintro (rfl | ⟨i, hi, hn', e⟩)
    · exact .inl rfl
    · rw [at0_set hp] at e
      by_cases k : p = i
      · rw [if_pos k] at e; exact .inr ⟨q, hq, Ne.symm hn, e⟩
      · rw [if_neg k] at e; exact .inr ⟨i, hi, Ne.symm k, e⟩
  · rintro (rfl | ⟨i, hi, hn', e⟩)
    · exact .inl rfl
    · by_cases k : i = q
      · subst k; exact .inr ⟨p, hp, hn, by rw [at0_set hp, if_pos rfl]; exact e⟩
      · exact .inr ⟨i, hi, k, by rw [at0_set hp, if_neg (Ne.symm hn')]; exact e⟩

theorem par_lt {i : Nat} (h : 0 < i) : (i - 1) / 2 < i := Nat.lt_of_le_of_lt (Nat.div_le_self _ _) (Nat.sub_lt h Nat.one_pos)
theorem par_lte {i p : Nat} (h0 : 0 < i) (h : (i - 1) / 2 = p) : p < i := h ▸ par_lt h0
theorem par_ltn {i n : Nat} (h : i < n) : (i - 1) / 2 < n := Nat.lt_of_le_of_lt (Nat.le_trans (Nat.div_le_self _ _) (Nat.sub_le _ _)) h
theorem par_ch {i p : Nat} (h0 : 0 < i) (h : (i - 1) / 2 = p) : i = 2 * p + 1 ∨ i = 2 * p + 2 := by lia
theorem ch_par {c p : Nat} (h : c = 2 * p + 1 ∨ c = 2 * p + 2) : (c - 1) / 2 = p := by lia
theorem ch_lt {c p : Nat} (h : c = 2 * p + 1 ∨ c = 2 * p + 2) : p < c := by lia
theorem ch_ge {i p : Nat} (h0 : 0 < i) (h : (i - 1) / 2 = p) : 2 * p + 1 ≤ i := by rcases par_ch h0 h with rfl | rfl <;> first | exact Nat.le_refl _ | exact Nat.le_succ _
noncomputable def IsHp (H : List Int) : Prop := ∀ i, 0 < i → i < H.length → at0 H ((i - 1) / 2) ≤ at0 H i
noncomputable def sd (x : Int) : Nat → Nat → List Int → List Int
  | 0, pos, H => H.set pos x
  | f + 1, pos, H => if pos = 0 then H.set pos x else if x < at0 H ((pos - 1) / 2) then sd x f ((pos - 1) / 2) (H.set pos (at0 H ((pos - 1) / 2))) else H.set pos x
structure Sd (x : Int) (pos : Nat) (H : List Int) : Prop where
  lt : pos < H.length
  b : ∀ i, 0 < i → i < H.length → i ≠ pos → (i - 1) / 2 ≠ pos → at0 H ((i - 1) / 2) ≤ at0 H i
  c : ∀ i, 0 < i → i < H.length → (i - 1) / 2 = pos → x ≤ at0 H i
  d : 0 < pos → ∀ i, 0 < i → i < H.length → (i - 1) / 2 = pos → at0 H ((pos - 1) / 2) ≤ at0 H i
theorem sd_end {x : Int} {pos : Nat} {H : List Int} (S : Sd x pos H) (h : pos = 0 ∨ at0 H ((pos - 1) / 2) ≤ x) : IsHp (H.set pos x) := fun i h0 hi => by
  rw [List.length_set] at hi
  rw [at0_set S.lt, at0_set S.lt]
  by_cases q : pos = i
  · subst q
    rw [if_pos rfl, if_neg (Nat.ne_of_gt (par_lt h0))]
    rcases h with h | h
    · exact absurd h (Nat.ne_of_gt h0)
    · exact h
  · rw [if_neg q]
    by_cases r : pos = (i - 1) / 2
    · rw [if_pos r]; exact S.c i h0 hi r.symm
    · rw [if_neg r]; exact S.b i h0 hi (Ne.symm q) (Ne.symm r)
theorem sd_ok {x : Int} : ∀ {f pos : Nat} {H : List Int}, pos ≤ f → Sd x pos H → IsHp (sd x f pos H) ∧ (sd x f pos H).length = H.length ∧ ∀ y, y ∈ sd x f pos H ↔ y ∈ H.set pos x
  | 0, pos, H, hf, S => ⟨sd_end S (.inl (Nat.le_zero.mp hf)), List.length_set, fun y => Iff.rfl⟩
  | f + 1, pos, H, hf, S => by
    unfold sd
    split
    · exact ⟨sd_end S (.inl (by assumption)), List.length_set, fun y => Iff.rfl⟩
    · rename_i hp
      split
      · rename_i hx
        have hpl : (pos - 1) / 2 < H.length := par_ltn S.lt
        have hp0 : 0 < pos := Nat.pos_of_ne_zero hp
        have hne : pos ≠ (pos - 1) / 2 := Nat.ne_of_gt (par_lt hp0)
        have S' : Sd x ((pos - 1) / 2) (H.set pos (at0 H ((pos - 1) / 2))) := by
          refine ⟨by rw [List.length_set]; exact hpl, fun i h0 hi h1 h2 => ?_, fun i h0 hi h1 => ?_, fun h0' i h0 hi h1 => ?_⟩ <;> rw [List.length_set] at hi <;> rw [at0_set S.lt]
          · rw [at0_set S.lt]
            by_cases q : pos = i
            · subst q; exact absurd rfl h2
            · rw [if_neg q]
              by_cases r : pos = (i - 1) / 2
              · rw [if_pos r]; exact S.d hp0 i h0 hi r.symm
              · rw [if_neg r]; exact S.b i h0 hi (Ne.symm q) (Ne.symm r)
          · by_cases q : pos = i
            · rw [if_pos q]; exact Int.le_of_lt hx
            · rw [if_neg q]
              have := S.b i h0 hi (Ne.symm q) (fun e => hne (e.symm.trans h1))
              rw [h1] at this; exact Int.le_trans (Int.le_of_lt hx) this
          · have hq : ((pos - 1) / 2 - 1) / 2 < pos := Nat.lt_trans (par_lt h0') (par_lt hp0)
            rw [at0_set S.lt, if_neg (Nat.ne_of_gt hq)]
            have hb := S.b ((pos - 1) / 2) h0' hpl (Ne.symm hne) (Nat.ne_of_lt hq)
            by_cases q : pos = i
            · rw [if_pos q]; exact hb
            · rw [if_neg q]
              have := S.b i h0 hi (Ne.symm q) (fun e => hne (e.symm.trans h1))
              rw [h1] at this; exact Int.le_trans hb this
        obtain ⟨r1, r2, r3⟩ := sd_ok (f := f) (Nat.le_of_lt_succ (Nat.lt_of_lt_of_le (par_lt hp0) hf)) S'
        exact ⟨r1, r2.trans List.length_set, fun y => (r3 y).trans (mem_move S.lt hpl hne)⟩
      · rename_i hx
        exact ⟨sd_end S (.inr (Int.not_lt.mp hx)), List.length_set, fun y => Iff.rfl⟩

noncomputable def ch (H : List Int) (pos : Nat) : Nat := if 2 * pos + 2 < H.length ∧ ¬ at0 H (2 * pos + 1) < at0 H (2 * pos + 2) then 2 * pos + 2 else 2 * pos + 1
noncomputable def su : Nat → Nat → List Int → Nat × List Int
  | 0, pos, H => (pos, H)
  | f + 1, pos, H => if 2 * pos + 1 < H.length then su f (ch H pos) (H.set pos (at0 H (ch H pos))) else (pos, H)
structure Su (pos : Nat) (H : List Int) : Prop where
  lt : pos < H.length
  b : ∀ i, 0 < i → i < H.length → i ≠ pos → (i - 1) / 2 ≠ pos → at0 H ((i - 1) / 2) ≤ at0 H i
  d : 0 < pos → ∀ i, 0 < i → i < H.length → (i - 1) / 2 = pos → at0 H ((pos - 1) / 2) ≤ at0 H i
theorem ch_facts {H : List Int} {pos : Nat} (h : 2 * pos + 1 < H.length) : (ch H pos = 2 * pos + 1 ∨ ch H pos = 2 * pos + 2) ∧ ch H pos < H.length ∧ ∀ i, 0 < i → i < H.length → (i - 1) / 2 = pos → at0 H (ch H pos) ≤ at0 H i := by
  unfold ch
  split
  · rename_i hc
    refine ⟨.inr rfl, hc.1, fun i h0 hi h1 => ?_⟩
    rcases par_ch h0 h1 with rfl | rfl
    · exact Int.not_lt.mp hc.2
    · exact Int.le_refl _
  · rename_i hc
    refine ⟨.inl rfl, h, fun i h0 hi h1 => ?_⟩
    rcases par_ch h0 h1 with rfl | rfl
    · exact Int.le_refl _
    · exact Int.le_of_lt (Decidable.byContradiction fun q => hc ⟨hi, q⟩)
theorem su_ok {x : Int} : ∀ {f pos : Nat} {H : List Int}, H.length ≤ pos + f → Su pos H → Sd x (su f pos H).1 (su f pos H).2 ∧ (su f pos H).2.length = H.length ∧ ∀ y, y ∈ (su f pos H).2.set (su f pos H).1 x ↔ y ∈ H.set pos x
  | 0, pos, H, hf, S => absurd S.lt (Nat.not_lt_of_le hf)
  | f + 1, pos, H, hf, S => by
    unfold su
    split
    · rename_i hc
      obtain ⟨c1, c2, c3⟩ := ch_facts hc
      have hlt := ch_lt c1
      have hne : pos ≠ ch H pos := Nat.ne_of_lt hlt
      have S' : Su (ch H pos) (H.set pos (at0 H (ch H pos))) := by
        refine ⟨by rw [List.length_set]; exact c2, fun i h0 hi h1 h2 => ?_, fun h0' i h0 hi h1 => ?_⟩ <;> rw [List.length_set] at hi <;> rw [at0_set S.lt, at0_set S.lt]
        · by_cases q : pos = i
          · subst q
            rw [if_pos rfl, if_neg (Nat.ne_of_gt (par_lt h0))]
            exact S.d h0 _ (Nat.zero_lt_of_lt hlt) c2 (ch_par c1)
          · rw [if_neg q]
            by_cases r : pos = (i - 1) / 2
            · rw [if_pos r]; exact c3 i h0 hi r.symm
            · rw [if_neg r]; exact S.b i h0 hi (Ne.symm q) (Ne.symm r)
        · have hi2 := Nat.lt_trans hlt (par_lte h0 h1)
          rw [if_pos (ch_par c1).symm, if_neg (Nat.ne_of_lt hi2)]
          have := S.b i h0 hi (Nat.ne_of_gt hi2) (fun e => hne (e.symm.trans h1))
          rw [h1] at this; exact this
      obtain ⟨r1, r2, r3⟩ := su_ok (x := x) (f := f) (by rw [List.length_set]; exact Nat.le_trans hf (Nat.le_trans (Nat.le_of_eq (Nat.succ_add_eq_add_succ pos f).symm) (Nat.add_le_add_right hlt f))) S'
      exact ⟨r1, r2.trans List.length_set, fun y => (r3 y).trans (mem_move S.lt c2 hne)⟩
    · rename_i hc
      exact ⟨⟨S.lt, S.b, fun i h0 hi h1 => (hc (Nat.lt_of_le_of_lt (ch_ge h0 h1) hi)).elim, fun _ i h0 hi h1 => (hc (Nat.lt_of_le_of_lt (ch_ge h0 h1) hi)).elim⟩, rfl, fun y => Iff.rfl⟩

noncomputable def hpush (H : List Int) (x : Int) : List Int := sd x H.length H.length (H ++ [x])
theorem at0_app {H : List Int} {x : Int} {i : Nat} (h : i < H.length) : at0 (H ++ [x]) i = at0 H i := by
  unfold at0
  rw [List.getD_eq_getElem?_getD, List.getD_eq_getElem?_getD, List.getElem?_append_left h]
theorem hpush_ok {H : List Int} {x : Int} (h : IsHp H) : IsHp (hpush H x) ∧ (hpush H x).length = H.length + 1 ∧ ∀ y, y ∈ hpush H x ↔ y = x ∨ y ∈ H := by
  have S : Sd x H.length (H ++ [x]) := by
    refine ⟨by simp, fun i h0 hi h1 h2 => ?_, fun i h0 hi h1 => ?_, fun _ i h0 hi h1 => ?_⟩ <;> rw [List.length_append] at hi <;> simp at hi
    · have hi' := Nat.lt_of_le_of_ne (Nat.le_of_lt_succ hi) h1
      rw [at0_app (par_ltn hi'), at0_app hi']; exact h i h0 hi'
    · exact absurd hi (Nat.not_lt_of_le (par_lte h0 h1))
    · exact absurd hi (Nat.not_lt_of_le (par_lte h0 h1))
  obtain ⟨r1, r2, r3⟩ := sd_ok (f := H.length) (Nat.le_refl _) S
  refine ⟨r1, by unfold hpush; rw [r2]; simp, fun y => (r3 y).trans ?_⟩
  have : (H ++ [x]).set H.length x = H ++ [x] := by simp
  rw [this]; simp; exact or_comm
/-- the least comes off; K: the list without its last, x: the last -/
noncomputable def hpop (K : List Int) (x : Int) : List Int :=
  let r := su K.length 0 (K.set 0 x)
  sd x r.1 r.1 (r.2.set r.1 x)
theorem sd_set {x : Int} {f pos : Nat} {H : List Int} : sd x f pos (H.set pos x) = sd x f pos H := by
  cases f with
  | zero => unfold sd; simp
  | succ f =>
    unfold sd
    by_cases hp : pos = 0
    · rw [if_pos hp, if_pos hp]; simp
    · rw [if_neg hp, if_neg hp]
      have : at0 (H.set pos x) ((pos - 1) / 2) = at0 H ((pos - 1) / 2) := by
        unfold at0
        rw [List.getD_eq_getElem?_getD, List.getD_eq_getElem?_getD, List.getElem?_set_ne (Nat.ne_of_gt (par_lt (Nat.pos_of_ne_zero hp)))]
      rw [this]
      split
      · simp
      · simp
theorem hpop_ok {K : List Int} {x : Int} (h : IsHp (K ++ [x])) (hk : K ≠ []) : IsHp (hpop K x) ∧ (hpop K x).length = K.length ∧ (∀ y, y ∈ hpop K x → y ∈ K ++ [x]) ∧ (∀ y, y ∈ K ++ [x] → y ≠ at0 K 0 → y ∈ hpop K x) ∧ ∀ y ∈ K ++ [x], at0 K 0 ≤ y := by
  have hl : 0 < K.length := List.length_pos_iff.mpr hk
  have S : Su 0 (K.set 0 x) := by
    refine ⟨by rw [List.length_set]; exact hl, fun i h0 hi h1 h2 => ?_, fun h0 => absurd h0 (Nat.lt_irrefl 0)⟩
    rw [List.length_set] at hi
    rw [at0_set hl, at0_set hl, if_neg (Ne.symm h1), if_neg (Ne.symm h2)]
    have := h i h0 (by rw [List.length_append]; exact Nat.lt_succ_of_lt hi)
    rwa [at0_app hi, at0_app (par_ltn hi)] at this
  obtain ⟨a1, a2, a3⟩ := su_ok (x := x) (f := K.length) (by rw [List.length_set]; exact Nat.le_add_left _ _) S
  have e : hpop K x = sd x (su K.length 0 (K.set 0 x)).1 (su K.length 0 (K.set 0 x)).1 (su K.length 0 (K.set 0 x)).2 := sd_set
  obtain ⟨b1, b2, b3⟩ := sd_ok (Nat.le_refl _) a1
  have hm : ∀ y, y ∈ hpop K x ↔ y ∈ K.set 0 x := fun y => by
    rw [e]
    refine (b3 y).trans ((a3 y).trans ?_)
    simp
  have root : ∀ i, i < (K ++ [x]).length → at0 (K ++ [x]) 0 ≤ at0 (K ++ [x]) i := by
    intro i
    induction i using Nat.strongRecOn with
    | _ i ih =>
      intro hi
      by_cases q : i = 0
      · subst q; exact Int.le_refl _
      · have q := Nat.pos_of_ne_zero q
        exact Int.le_trans (ih ((i - 1) / 2) (par_lt q) (par_ltn hi)) (h i q hi)
  refine ⟨by rw [e]; exact b1, by rw [e, b2, a2, List.length_set], fun y hy => ?_, fun y hy hn => ?_, fun y hy => ?_⟩
  · rcases (mem_set hl).mp ((hm y).mp hy) with rfl | ⟨i, hi, _, rfl⟩
    · simp
    · exact List.mem_append_left _ (mem_at0.mpr ⟨i, hi, rfl⟩)
  · refine (hm y).mpr ((mem_set hl).mpr ?_)
    rcases List.mem_append.mp hy with hy | hy
    · obtain ⟨i, hi, rfl⟩ := mem_at0.mp hy
      exact .inr ⟨i, hi, fun z => hn (by rw [z]), rfl⟩
    · simp at hy; exact .inl hy
  · obtain ⟨i, hi, rfl⟩ := mem_at0.mp hy
    have := root i hi
    rwa [at0_app hl] at this
end Mine.Internal
end
section
open PySem
namespace Mine.Internal
set_option linter.unusedSectionVars false
set_option linter.unusedVariables false
set_option maxRecDepth 100000
variable {d : Nat} {st st' : St}

theorem gc_same {n : Nat} (h : st.ob.length ≤ n) : gc n st = st := by
  unfold gc
  split
  · rw [List.take_of_length_le h]
  · rfl
section
variable {Φ : Nat → Option FnI} {st1 st2 st3 : St} {t : IT} {p q : List IS} {f : Flow} {v : PV} {e : IE}
theorem RW.done0 (h : RT Φ d t st false st1) (hg : gc st.ob.length st1 = st') : RW Φ d t p st .next st' := hg ▸ RW.done h
theorem RW.more0 (h : RT Φ d t st true st1) (h3 : RSs Φ d p st1 .next st2) (hg : gc st.ob.length st2 = st3) (h4 : RW Φ d t p st3 f st') : RW Φ d t p st f st' := RW.more h h3 (hg ▸ h4)
theorem RW.again0 (h : RT Φ d t st true st1) (h3 : RSs Φ d p st1 .cont st2) (hg : gc st.ob.length st2 = st3) (h4 : RW Φ d t p st3 f st') : RW Φ d t p st f st' := RW.again h h3 (hg ▸ h4)
theorem RW.brk0 (h : RT Φ d t st true st1) (h3 : RSs Φ d p st1 .brk st2) (hg : gc st.ob.length st2 = st') : RW Φ d t p st .next st' := hg ▸ RW.brk h h3
theorem RF.more0 {t : Tgt} {j : Nat} (h : nextI t j st = some (some v, st1)) (h2 : setT t v st1 = some st2) (h3 : RSs Φ d p st2 .next st3) {st4 : St} (hg : gc st.ob.length st3 = st4) (h4 : RF Φ d t p q j st4 f st') : RF Φ d t p q j st f st' := RF.more h h2 h3 (hg ▸ h4)
theorem RS.fr0 {t : Tgt} {j : Nat} {x : PV} (h1 : RE Φ d e st x st1) (h2 : iterI x st1 = some (j, st2)) (h3 : RF Φ d t p q j st2 .next st3) (hg : gc st.ob.length st3 = st') : RS Φ d (.fr t e p q) st .next st' := hg ▸ RS.fr h1 h2 h3
end
theorem big_nat {k : Nat} (h : k < 1000000) : (k : Int) < big := by unfold big; lia
theorem o_bin {op : Op} {a b r : Int} (h : intOp op a b = some r) (hf : fits r = true) : binop op (.int a) (.int b) st = some (.int r, st) :=
  obS (o := asI (.int b)) (x := b) rfl (obS h (obS (o := mkI r) (x := .int r) (by unfold mkI; rw [hf]) rfl))
theorem o_add {a b : Int} (hf : fits (a + b) = true) : binop .add (.int a) (.int b) st = some (.int (a + b), st) := o_bin rfl hf
theorem o_sub {a b : Int} (hf : fits (a - b) = true) : binop .sub (.int a) (.int b) st = some (.int (a - b), st) := o_bin rfl hf
theorem o_mul {a b : Int} (h : fits a = true) (hf : fits (a * b) = true) : binop .mul (.int a) (.int b) st = some (.int (a * b), st) := o_bin (iS h rfl) hf
theorem o_shr {a : Int} {k : Nat} {r : Int} (h : 0 ≤ a) (hk : k < 64) (hr : Int.fdiv a ((2 ^ k : Nat) : Int) = r) (hf : fits r = true) : binop .shr (.int a) (.int (k : Int)) st = some (.int r, st) :=
  o_bin (iS ⟨h, Int.natCast_nonneg k, by lia⟩ (congrArg some hr)) hf
theorem o_shl {a : Int} {k : Nat} {r : Int} (hfa : fits a = true) (h : 0 ≤ a) (hk : k < 64) (hr : a * ((2 ^ k : Nat) : Int) = r) (hf : fits r = true) : binop .shl (.int a) (.int (k : Int)) st = some (.int r, st) :=
  o_bin (iS ⟨hfa, h, Int.natCast_nonneg k, by lia⟩ (congrArg some hr)) hf
theorem o_subN {p : Nat} (h0 : 0 < p) (h : p - 1 < 1000000) : binop .sub (.int (p : Int)) (.int 1) st = some (.int ((p - 1 : Nat) : Int), st) := by
  have e : (p : Int) - 1 = ((p - 1 : Nat) : Int) := by lia
  rw [← e]
  exact o_sub (by rw [e]; exact fits_nat h)
theorem o_shrN {p : Nat} (h : p < 1000000) : binop .shr (.int (p : Int)) (.int 1) st = some (.int ((p / 2 : Nat) : Int), st) :=
  o_shr (k := 1) (Int.natCast_nonneg p) (by decide) (by rw [Int.fdiv_eq_ediv_of_nonneg _ (by decide)]; rfl) (fits_nat (Nat.lt_of_le_of_lt (Nat.div_le_self _ _) h))
theorem o_addN {p : Nat} (h : p + 1 < 1000000) : binop .add (.int (p : Int)) (.int 1) st = some (.int ((p + 1 : Nat) : Int), st) := o_add (fits_nat h)
theorem i_any {l i : Nat} {xs : List PV} {x : PV} (h : st.ob[l]? = some (.list xs)) (hx : xs[i]? = some x) (hb : i < 1000000) : idxop (.ref l) (.int (i : Int)) st = some (x, st) :=
  obS (o := asI (.int (i : Int))) (x := (i : Int)) rfl (iS ⟨Int.natCast_nonneg i, big_nat hb⟩ (obS (o := items st l) (by unfold items; rw [h]) (obS (o := xs[(i : Int).toNat]?) hx rfl)))
theorem i_list {l i : Nat} {H : List Int} (h : st.ob[l]? = some (.list (H.map .int))) (hi : i < H.length) (hb : i < 1000000) : idxop (.ref l) (.int (i : Int)) st = some (.int (at0 H i), st) :=
  i_any h (by rw [List.getElem?_map, at0_get hi]; rfl) hb

noncomputable def sdT : IT := .e (.cmp .gt (.var 2) (.var 1))
noncomputable def sdB : List IS := [.asg (.v 4) (.bin .shr (.bin .sub (.var 2) (.const (.int 1))) (.const (.int 1))), .asg (.v 5) (.idx (.var 0) (.var 4)), .ife (.e (.cmp .lt (.var 3) (.var 5))) [.asgIdx (.var 0) (.var 2) (.var 5), .asg (.v 2) (.var 4), .cont] [], .brk]
theorem sd_loop {x : Int} : ∀ (f pos : Nat) (H : List Int) (s4 s5 : Option PV), pos ≤ f → pos < H.length → H.length < 1000000 → ∃ (pos' : Nat) (H' : List Int) (s4' s5' : Option PV),
    RW phi d sdT sdB ⟨[some (.ref 0), some (.int 0), some (.int (pos : Int)), some (.int x), s4, s5], [.list (H.map .int)]⟩ .next ⟨[some (.ref 0), some (.int 0), some (.int (pos' : Int)), some (.int x), s4', s5'], [.list (H'.map .int)]⟩ ∧
      pos' < H'.length ∧ H'.length = H.length ∧ H'.set pos' x = sd x f pos H := by
  intro f
  induction f with
  | zero =>
    intro pos H s4 s5 hf hp hl
    obtain rfl : pos = 0 := Nat.le_zero.mp hf
    refine ⟨0, H, s4, s5, ?_, hp, rfl, rfl⟩
    exact RW.done0 (RT.ex (RE.cmp (RE.var rfl) (RE.var rfl) rfl) rfl) (gc_same (Nat.le_refl _))
  | succ f ih =>
    intro pos H s4 s5 hf hp hl
    by_cases h0 : pos = 0
    · subst h0
      refine ⟨0, H, s4, s5, ?_, hp, rfl, by unfold sd; rw [if_pos rfl]⟩
      exact RW.done0 (RT.ex (RE.cmp (RE.var rfl) (RE.var rfl) rfl) rfl) (gc_same (Nat.le_refl _))
    · have hpl : (pos - 1) / 2 < H.length := par_ltn hp
      have hp0 : 0 < pos := Nat.pos_of_ne_zero h0
      have ht : RT phi d sdT ⟨[some (.ref 0), some (.int 0), some (.int (pos : Int)), some (.int x), s4, s5], [.list (H.map .int)]⟩ true ⟨[some (.ref 0), some (.int 0), some (.int (pos : Int)), some (.int x), s4, s5], [.list (H.map .int)]⟩ := by
        refine RT.ex (RE.cmp (RE.var rfl) (RE.var rfl) (c := true) ?_) rfl
        show some (decide ((0 : Int) < (pos : Int))) = _
        rw [decide_eq_true (Int.natCast_pos.mpr hp0)]
      have hs1 : RS phi d (.asg (.v 4) (.bin .shr (.bin .sub (.var 2) (.const (.int 1))) (.const (.int 1)))) ⟨[some (.ref 0), some (.int 0), some (.int (pos : Int)), some (.int x), s4, s5], [.list (H.map .int)]⟩ .next ⟨[some (.ref 0), some (.int 0), some (.int (pos : Int)), some (.int x), some (.int (((pos - 1) / 2 : Nat) : Int)), s5], [.list (H.map .int)]⟩ := by
        have hb := Nat.lt_of_le_of_lt (Nat.sub_le pos 1) (Nat.lt_trans hp hl)
        exact RS.asg (RE.bin (RE.bin (RE.var rfl) RE.const (o_subN hp0 hb)) RE.const (o_shrN hb)) rfl
      have hs2 : RS phi d (.asg (.v 5) (.idx (.var 0) (.var 4))) ⟨[some (.ref 0), some (.int 0), some (.int (pos : Int)), some (.int x), some (.int (((pos - 1) / 2 : Nat) : Int)), s5], [.list (H.map .int)]⟩ .next ⟨[some (.ref 0), some (.int 0), some (.int (pos : Int)), some (.int x), some (.int (((pos - 1) / 2 : Nat) : Int)), some (.int (at0 H ((pos - 1) / 2)))], [.list (H.map .int)]⟩ :=
        RS.asg (RE.idx (RE.var rfl) (RE.var rfl) (i_list rfl hpl (Nat.lt_trans hpl hl))) rfl
      by_cases hx : x < at0 H ((pos - 1) / 2)
      · obtain ⟨pos', H', s4', s5', r1, r2, r3, r4⟩ := ih ((pos - 1) / 2) (H.set pos (at0 H ((pos - 1) / 2))) (some (.int (((pos - 1) / 2 : Nat) : Int))) (some (.int (at0 H ((pos - 1) / 2)))) (Nat.le_of_lt_succ (Nat.lt_of_lt_of_le (par_lt hp0) hf)) (by rw [List.length_set]; exact hpl) (by rw [List.length_set]; exact hl)
        refine ⟨pos', H', s4', s5', RW.again0 ht (RSs.cons hs1 (RSs.cons hs2 (RSs.cont (RS.ifeT (RT.ex (RE.cmp (RE.var rfl) (RE.var rfl) (c := true) (by show some (decide _) = _; rw [decide_eq_true hx])) rfl) (RSs.cons (RS.asgIdx (k := pos) (RE.var rfl) (RE.var rfl) (RE.var rfl) rfl (by rw [List.length_map]; exact hp) (big_nat (Nat.lt_trans hp hl))) (RSs.cons (RS.asg (RE.var rfl) rfl) (RSs.cont RS.cont))))))) (gc_same (Nat.le_refl _)) ?_, r2, r3.trans List.length_set, ?_⟩
        · have e : (H.map PV.int).set pos (.int (at0 H ((pos - 1) / 2))) = (H.set pos (at0 H ((pos - 1) / 2))).map PV.int := by rw [List.map_set]
          show RW phi d sdT sdB ⟨_, [.list ((H.map PV.int).set pos (.int (at0 H ((pos - 1) / 2))))]⟩ _ _
          rw [e]; exact r1
        · rw [r4, sd, if_neg h0, if_pos hx]
      · refine ⟨pos, H, _, _, RW.brk0 ht (RSs.cons hs1 (RSs.cons hs2 (RSs.cons (RS.ifeF (RT.ex (RE.cmp (RE.var rfl) (RE.var rfl) (c := false) (by show some (decide _) = _; rw [decide_eq_false hx])) rfl) RSs.nil) (RSs.brk RS.brk)))) (gc_same (Nat.le_refl _)), hp, rfl, ?_⟩
        rw [sd, if_neg h0, if_neg hx]

/-- a call with one list of ints, and ints -/
theorem enter_one {a : Nat} {ob : List PO} {L : List Int} {xs : List Int} (h : ob[a]? = some (.list (L.map .int))) : enterObs (.ref a :: xs.map .int) ob = some ([a], .ref 0 :: xs.map .int, [.list (L.map .int)]) := by
  have r1 : ∀ (xs : List Int) (ids : List Nat), refsIn (xs.map .int) ids = ids := fun xs ids => by
    induction xs with
    | nil => rfl
    | cons x r ih => exact ih
  have r2 : ∀ xs : List Int, mapO (toLocV [a]) (xs.map .int) = some (xs.map .int) := fun xs => by
    induction xs with
    | nil => rfl
    | cons x r ih =>
      rw [List.map_cons, mapO]
      have : toLocV [a] (.int x) = some (.int x) := rfl
      rw [this, ih]; rfl
  have hid : refsIn (.ref a :: xs.map .int) [] = [a] := by
    show refsIn (xs.map .int) (addNew a []) = _
    rw [r1]; rfl
  unfold enterObs
  have e0 : toLocV [a] (.ref a) = some (.ref 0) := by simp [toLocV, place]
  have e1 : mapO (toLocV [a]) (.ref a :: xs.map .int) = some (.ref 0 :: xs.map .int) := by
    rw [mapO, e0, r2]; rfl
  have e2 : getAll ob [a] = some [.list (L.map .int)] := by
    unfold getAll
    rw [mapO, h]; rfl
  have e3 : mapO bareO [.list (L.map .int)] = some [.list (L.map .int)] := by
    rw [mapO]
    have : bareO (.list (L.map .int)) = some (.list (L.map .int)) := by
      unfold bareO; simp only [ints_ok0]
    rw [this]; rfl
  dsimp only
  rw [hid, e1, e2]
  simp only [Option.bind_eq_bind, Option.bind_some, e3]
  rfl
theorem leave_one {a : Nat} {ob : List PO} {L : List Int} {v : PV} {ls : List PO} (hv : ∀ j, v ≠ .ref j) (ho : okV 0 v = true) : leaveObs [a] v (.list (L.map .int) :: ls) ob = some (v, ob.set a (.list (L.map .int))) := by
  have hb : bareO (.list (L.map .int)) = some (.list (L.map .int)) := by
    unfold bareO; simp only [ints_ok0]
  unfold leaveObs
  have : putBack [a] (.list (L.map .int) :: ls) ob = some (ob.set a (.list (L.map .int))) := by
    rw [putBack, hb]
    rfl
  rw [this]
  simp only [Option.bind_eq_bind, Option.bind_some]
  cases v with
  | ref j => exact absurd rfl (hv j)
  | _ => simp only [ho]; rfl

theorem siftdown_run {a pos : Nat} {H : List Int} {ob : List PO} (hc : callOk ob = true) (h : ob[a]? = some (.list (H.map .int))) (hp : pos < H.length) (hl : H.length < 1000000) :
    RCall phi (d + 1) 4 [.ref a, .int 0, .int (pos : Int)] ob .none (ob.set a (.list ((sd (at0 H pos) pos pos H).map .int))) := by
  obtain ⟨pos', H', s4', s5', r1, r2, r3, r4⟩ := sd_loop (d := d) (x := at0 H pos) pos pos H none none (Nat.le_refl _) hp hl
  refine RCall.code (np := 3) (ns := 6) (df := []) (body := irSiftdown) (f := .next) rfl hc (enter_one (xs := [0, (pos : Int)]) h) rfl (by decide) (st1 := ⟨[some (.ref 0), some (.int 0), some (.int (pos' : Int)), some (.int (at0 H pos)), s4', s5'], [.list ((H'.map PV.int).set pos' (.int (at0 H pos)))]⟩) ?_ rfl ?_
  · refine RSs.cons (RS.asg (RE.idx (RE.var rfl) (RE.var rfl) (i_list rfl hp (Nat.lt_trans hp hl))) rfl) (RSs.cons (RS.whl r1) (RSs.cons (RS.asgIdx (k := pos') (RE.var rfl) (RE.var rfl) (RE.var rfl) rfl (by rw [List.length_map]; exact r2) (big_nat (Nat.lt_trans (Nat.lt_of_lt_of_eq r2 r3) hl))) RSs.nil))
  · rw [← List.map_set, r4]
    exact leave_one (fun j z => by cases z) rfl

noncomputable def suT : IT := .e (.cmp .lt (.var 5) (.var 2))
noncomputable def suB : List IS := [.asg (.v 6) (.bin .add (.var 5) (.const (.int 1))), .ife (.and (.e (.cmp .lt (.var 6) (.var 2))) (.not (.e (.cmp .lt (.idx (.var 0) (.var 5)) (.idx (.var 0) (.var 6)))))) [.asg (.v 5) (.var 6)] [], .asgIdx (.var 0) (.var 1) (.idx (.var 0) (.var 5)), .asg (.v 1) (.var 5), .asg (.v 5) (.bin .add (.bin .mul (.const (.int 2)) (.var 1)) (.const (.int 1)))]
noncomputable abbrev suS (pos n : Nat) (x : Int) (c s6 : Option PV) (H : List Int) : St := ⟨[some (.ref 0), some (.int (pos : Int)), some (.int (n : Int)), some (.int 0), some (.int x), c, s6], [.list (H.map .int)]⟩
theorem su_loop {x : Int} : ∀ (f pos : Nat) (H : List Int) (s6 : Option PV), H.length ≤ pos + f → pos < H.length → H.length < 100000 → ∃ (c' s6' : Option PV),
    RW phi d suT suB (suS pos H.length x (some (.int ((2 * pos + 1 : Nat) : Int))) s6 H) .next (suS (su f pos H).1 H.length x c' s6' (su f pos H).2) := by
  intro f
  induction f with
  | zero => exact fun pos H s6 h1 h2 => absurd h2 (Nat.not_lt_of_le h1)
  | succ f ih =>
    intro pos H s6 hf hp hl
    by_cases hc : 2 * pos + 1 < H.length
    · obtain ⟨c1, c2, _⟩ := ch_facts hc
      have hlm : H.length < 1000000 := Nat.lt_trans hl (by decide)
      have ht : RT phi d suT (suS pos H.length x (some (.int ((2 * pos + 1 : Nat) : Int))) s6 H) true (suS pos H.length x (some (.int ((2 * pos + 1 : Nat) : Int))) s6 H) := by
        refine RT.ex (RE.cmp (RE.var rfl) (RE.var rfl) (c := true) ?_) rfl
        show some (decide (((2 * pos + 1 : Nat) : Int) < (H.length : Int))) = _
        rw [decide_eq_true (Int.ofNat_lt.mpr hc)]
      have b1 : RS phi d (.asg (.v 6) (.bin .add (.var 5) (.const (.int 1)))) (suS pos H.length x (some (.int ((2 * pos + 1 : Nat) : Int))) s6 H) .next (suS pos H.length x (some (.int ((2 * pos + 1 : Nat) : Int))) (some (.int ((2 * pos + 2 : Nat) : Int))) H) := by
        have ha : binop .add (.int ((2 * pos + 1 : Nat) : Int)) (.int 1) (suS pos H.length x (some (.int ((2 * pos + 1 : Nat) : Int))) s6 H) = some (.int ((2 * pos + 2 : Nat) : Int), suS pos H.length x (some (.int ((2 * pos + 1 : Nat) : Int))) s6 H) := by
          exact o_addN (Nat.lt_of_le_of_lt hc hlm)
        exact RS.asg (RE.bin (RE.var rfl) RE.const ha) rfl
      have b2 : RS phi d (.ife (.and (.e (.cmp .lt (.var 6) (.var 2))) (.not (.e (.cmp .lt (.idx (.var 0) (.var 5)) (.idx (.var 0) (.var 6)))))) [.asg (.v 5) (.var 6)] []) (suS pos H.length x (some (.int ((2 * pos + 1 : Nat) : Int))) (some (.int ((2 * pos + 2 : Nat) : Int))) H) .next
          (suS pos H.length x (some (.int ((ch H pos : Nat) : Int))) (some (.int ((2 * pos + 2 : Nat) : Int))) H) := by
        by_cases hr : 2 * pos + 2 < H.length
        · have t1 : RT phi d (.e (.cmp .lt (.var 6) (.var 2))) (suS pos H.length x (some (.int ((2 * pos + 1 : Nat) : Int))) (some (.int ((2 * pos + 2 : Nat) : Int))) H) true (suS pos H.length x (some (.int ((2 * pos + 1 : Nat) : Int))) (some (.int ((2 * pos + 2 : Nat) : Int))) H) := by
            refine RT.ex (RE.cmp (RE.var rfl) (RE.var rfl) (c := true) ?_) rfl
            show some (decide (((2 * pos + 2 : Nat) : Int) < (H.length : Int))) = _
            rw [decide_eq_true (Int.ofNat_lt.mpr hr)]
          have t2 : RT phi d (.not (.e (.cmp .lt (.idx (.var 0) (.var 5)) (.idx (.var 0) (.var 6))))) (suS pos H.length x (some (.int ((2 * pos + 1 : Nat) : Int))) (some (.int ((2 * pos + 2 : Nat) : Int))) H) (!decide (at0 H (2 * pos + 1) < at0 H (2 * pos + 2))) (suS pos H.length x (some (.int ((2 * pos + 1 : Nat) : Int))) (some (.int ((2 * pos + 2 : Nat) : Int))) H) :=
            RT.not (RT.ex (RE.cmp (RE.idx (RE.var rfl) (RE.var rfl) (i_list rfl hc (Nat.lt_trans hc hlm))) (RE.idx (RE.var rfl) (RE.var rfl) (i_list rfl hr (Nat.lt_trans hr hlm))) rfl) rfl)
          have t3 := RT.andT t1 t2
          by_cases hq : at0 H (2 * pos + 1) < at0 H (2 * pos + 2)
          · rw [decide_eq_true hq] at t3
            have : ch H pos = 2 * pos + 1 := by unfold ch; rw [if_neg (fun z => z.2 hq)]
            rw [this]
            exact RS.ifeF t3 RSs.nil
          · rw [decide_eq_false hq] at t3
            have : ch H pos = 2 * pos + 2 := by unfold ch; rw [if_pos ⟨hr, hq⟩]
            rw [this]
            exact RS.ifeT t3 (RSs.cons (RS.asg (RE.var rfl) rfl) RSs.nil)
        · have t1 : RT phi d (.e (.cmp .lt (.var 6) (.var 2))) (suS pos H.length x (some (.int ((2 * pos + 1 : Nat) : Int))) (some (.int ((2 * pos + 2 : Nat) : Int))) H) false (suS pos H.length x (some (.int ((2 * pos + 1 : Nat) : Int))) (some (.int ((2 * pos + 2 : Nat) : Int))) H) := by
            refine RT.ex (RE.cmp (RE.var rfl) (RE.var rfl) (c := false) ?_) rfl
            show some (decide (((2 * pos + 2 : Nat) : Int) < (H.length : Int))) = _
            rw [decide_eq_false (fun z => hr (Int.ofNat_lt.mp z))]
          have : ch H pos = 2 * pos + 1 := by unfold ch; rw [if_neg (fun z => hr z.1)]
          rw [this]
          exact RS.ifeF (RT.andF t1) RSs.nil
      have b3 : RS phi d (.asgIdx (.var 0) (.var 1) (.idx (.var 0) (.var 5))) (suS pos H.length x (some (.int ((ch H pos : Nat) : Int))) (some (.int ((2 * pos + 2 : Nat) : Int))) H) .next (suS pos H.length x (some (.int ((ch H pos : Nat) : Int))) (some (.int ((2 * pos + 2 : Nat) : Int))) (H.set pos (at0 H (ch H pos)))) := by
        have := RS.asgIdx (Φ := phi) (d := d) (a := .var 0) (b := .var 1) (e := .idx (.var 0) (.var 5)) (st := suS pos H.length x (some (.int ((ch H pos : Nat) : Int))) (some (.int ((2 * pos + 2 : Nat) : Int))) H) (l := 0) (k := pos) (RE.idx (RE.var rfl) (RE.var rfl) (i_list rfl c2 (Nat.lt_trans c2 hlm))) (RE.var rfl) (RE.var rfl) rfl (by rw [List.length_map]; exact hp) (big_nat (Nat.lt_trans hp hlm))
        rw [← List.map_set] at this
        exact this
      have b4 : RS phi d (.asg (.v 1) (.var 5)) (suS pos H.length x (some (.int ((ch H pos : Nat) : Int))) (some (.int ((2 * pos + 2 : Nat) : Int))) (H.set pos (at0 H (ch H pos)))) .next (suS (ch H pos) H.length x (some (.int ((ch H pos : Nat) : Int))) (some (.int ((2 * pos + 2 : Nat) : Int))) (H.set pos (at0 H (ch H pos)))) := RS.asg (RE.var rfl) rfl
      have b5 : RS phi d (.asg (.v 5) (.bin .add (.bin .mul (.const (.int 2)) (.var 1)) (.const (.int 1)))) (suS (ch H pos) H.length x (some (.int ((ch H pos : Nat) : Int))) (some (.int ((2 * pos + 2 : Nat) : Int))) (H.set pos (at0 H (ch H pos)))) .next
          (suS (ch H pos) H.length x (some (.int ((2 * ch H pos + 1 : Nat) : Int))) (some (.int ((2 * pos + 2 : Nat) : Int))) (H.set pos (at0 H (ch H pos)))) := by
        have h2c : 2 * ch H pos + 1 < 1000000 := by lia
        have ha : binop .add (.int (2 * ((ch H pos : Nat) : Int))) (.int 1) (suS (ch H pos) H.length x (some (.int ((ch H pos : Nat) : Int))) (some (.int ((2 * pos + 2 : Nat) : Int))) (H.set pos (at0 H (ch H pos)))) = some (.int ((2 * ch H pos + 1 : Nat) : Int), suS (ch H pos) H.length x (some (.int ((ch H pos : Nat) : Int))) (some (.int ((2 * pos + 2 : Nat) : Int))) (H.set pos (at0 H (ch H pos)))) := by
          exact o_addN (p := 2 * ch H pos) h2c
        exact RS.asg (RE.bin (RE.bin RE.const (RE.var rfl) (o_mul (by decide) (fits_nat (k := 2 * ch H pos) (Nat.lt_of_succ_lt h2c)))) RE.const ha) rfl
      obtain ⟨c', s6', r⟩ := ih (ch H pos) (H.set pos (at0 H (ch H pos))) (some (.int ((2 * pos + 2 : Nat) : Int))) (by rw [List.length_set]; exact Nat.le_trans hf (Nat.le_trans (Nat.le_of_eq (Nat.succ_add_eq_add_succ pos f).symm) (Nat.add_le_add_right (ch_lt c1) f))) (by rw [List.length_set]; exact c2) (by rw [List.length_set]; exact hl)
      rw [List.length_set] at r
      refine ⟨c', s6', ?_⟩
      rw [su, if_pos hc]
      exact RW.more0 ht (RSs.cons b1 (RSs.cons b2 (RSs.cons b3 (RSs.cons b4 (RSs.cons b5 RSs.nil))))) (gc_same (Nat.le_refl _)) r
    · refine ⟨some (.int ((2 * pos + 1 : Nat) : Int)), s6, ?_⟩
      rw [su, if_neg hc]
      refine RW.done0 (RT.ex (RE.cmp (RE.var rfl) (RE.var rfl) (c := false) ?_) rfl) (gc_same (Nat.le_refl _))
      show some (decide (((2 * pos + 1 : Nat) : Int) < (H.length : Int))) = _
      rw [decide_eq_false (fun z => hc (Int.ofNat_lt.mp z))]

theorem p_len {l : Nat} {xs : List PV} (h : items st l = some xs) (hr : xs.length ≤ room) : primop .len [.ref l] st = some (.int (xs.length : Int), st) :=
  obS (o := arg1 [.ref l]) rfl (obS (o := asR (.ref l)) rfl (obS h (iS hr rfl)))
theorem m_append {l : Nat} {xs : List PV} {v : PV} (h : st.ob[l]? = some (.list xs)) (hz : xs.length ≤ room) : methop .append (.ref l) [v] st = some (.none, setO st l (.list (xs ++ [v]))) :=
  obS (o := asR (.ref l)) rfl (obS (o := arg1 [v]) rfl (obS (o := asList st.ob[l]?) (x := xs) (by rw [h]; rfl) (iS hz rfl)))
theorem m_pop {l : Nat} {xs : List PV} {x : PV} (h : st.ob[l]? = some (.list (xs ++ [x]))) (hz : (xs ++ [x]).length ≤ room) : methop .pop (.ref l) [] st = some (x, setO st l (.list xs)) :=
  obS (o := asR (.ref l)) rfl (obS (o := arg0 []) rfl (obS (o := asList st.ob[l]?) (x := xs ++ [x]) (by rw [h]; rfl) (obS (o := unsnoc (xs ++ [x])) (x := (x, xs)) (by unfold unsnoc; rw [List.reverse_append]; exact congrArg (fun l => some (x, l)) (List.reverse_reverse xs)) (iS hz rfl))))
theorem m_extend {l k : Nat} {xs ys : List PV} (h : st.ob[l]? = some (.list xs)) (hk : st.ob[k]? = some (.list ys)) (hz : xs.length + ys.length ≤ room) (hlk : l ≠ k) : methop .extend (.ref l) [.ref k] st = some (.none, setO st l (.list (xs ++ ys))) :=
  obS (o := asR (.ref l)) rfl (obS (o := arg1 [.ref k]) rfl (obS (o := asR (.ref k)) rfl (obS (o := asList st.ob[l]?) (x := xs) (by rw [h]; rfl) (obS (o := asList st.ob[k]?) (x := ys) (by rw [hk]; rfl) (iS ⟨hz, hlk⟩ rfl)))))
theorem m_join {l : Nat} {xs : List PV} {ss : List Str} {s : Str} (h : items st l = some xs) (hs : strsOf xs = some ss) (h1 : ss.length ≤ 64) (h2 : ss.all (fun x => decide (x.cps.size ≤ room)) = true) (h3 : s.cps.size ≤ room) : methop .join (.str s) [.ref l] st = some (.str (Txt.join s ss), st) :=
  obS (o := asS (.str s)) rfl (obS (o := arg1 [.ref l]) rfl (obS (o := asR (.ref l)) rfl (obS h (obS hs (iS ⟨h1, h2, h3⟩ rfl)))))
theorem m_split {s t : Str} (h1 : s.cps.size ≤ room) (h2 : t.cps.size ≠ 0) : methop .split (.str s) [.str t] st = some (push st (.list ((Txt.split s t).map .str))) :=
  obS (o := asS (.str s)) rfl (obS (o := arg1 [.str t]) rfl (obS (o := asS (.str t)) rfl (iS ⟨h1, h2⟩ rfl)))
theorem p_sum0 {l : Nat} {xs : List PV} {ns : List Int} (h : items st l = some xs) (hs : intsOf xs = some ns) (h1 : ns.length ≤ room) (h2 : ns.all (fun x => decide (-4294967296 < x) && decide (x < 4294967296)) = true) : primop .sum [.ref l] st = some (.int ns.sum, st) :=
  obS (o := arg1 [.ref l]) rfl (obS (o := asR (.ref l)) rfl (obS h (obS hs (iS ⟨h1, h2⟩ rfl))))
theorem p_range3 {a b c : Int} (h : rangeFits a b c = true) : primop .range [.int a, .int b, .int c] st = some (push st (.range a b c)) := (iS h rfl : mkRange a b c st = _)
theorem p_range2 {a b : Int} (h : rangeFits a b 1 = true) : primop .range [.int a, .int b] st = some (push st (.range a b 1)) := (iS h rfl : mkRange a b 1 st = _)
theorem p_sorted {l : Nat} {xs : List PV} {ss : List Str} (h : items st l = some xs) (hs : strsOf xs = some ss) (h1 : ss.length < 64) : primop .sorted [.ref l] st = some (push st (.list ((sortStrs ss).map .str))) :=
  obS (o := arg1 [.ref l]) rfl (obS (o := asR (.ref l)) rfl (obS h (obS hs (iS h1 rfl))))
theorem c_notin {x : PV} {j : Nat} {ys : List PV} {b : Bool} (h : items st j = some ys) (hb : memV x ys = some b) : cmpop .notin x (.ref j) st = some (!b) := obS (o := asR (.ref j)) rfl (obS h (obS hb rfl))
theorem c_isin {x : PV} {j : Nat} {ys : List PV} {b : Bool} (h : items st j = some ys) (hb : memV x ys = some b) : cmpop .isin x (.ref j) st = some b := obS (o := asR (.ref j)) rfl (obS h hb)
theorem c_ne {i j : Nat} {xs ys : List PV} {b : Bool} (hi : items st i = some xs) (hj : items st j = some ys) (h1 : xs.length ≤ room) (h2 : ys.length ≤ room) (hb : neVs xs ys = some b) : cmpop .ne (.ref i) (.ref j) st = some b := obS (o := asR (.ref j)) rfl (obS hi (obS hj (iS ⟨h1, h2⟩ hb)))
theorem b_cat {i j : Nat} {xs ys : List PV} (hi : items st i = some xs) (hj : items st j = some ys) (hz : xs.length + ys.length ≤ room) : binop .add (.ref i) (.ref j) st = some (push st (.list (xs ++ ys))) := obS (o := asR (.ref j)) rfl (obS hi (obS hj (iS hz rfl)))
theorem n_list {t : Tgt} {it l i : Nat} {xs : List PV} {x : PV} (eo : st.ob[it]? = some (.listIter l i)) (ei : items st l = some xs) (ex : xs[i]? = some x) : nextI t it st = some (some x, setO st it (.listIter l (i + 1))) := obS eo (obS ei (by rw [ex]; rfl))
theorem n_listE {t : Tgt} {it l i : Nat} {xs : List PV} (eo : st.ob[it]? = some (.listIter l i)) (ei : items st l = some xs) (ex : xs[i]? = none) : nextI t it st = some (none, setO st it .dead) := obS eo (obS ei (by rw [ex]; rfl))
theorem n_range {t : Tgt} {it : Nat} {x left step : Int} (eo : st.ob[it]? = some (.rangeIter x left step)) (hl : 0 < left) : nextI t it st = some (some (.int x), setO st it (.rangeIter (x + step) (left - 1) step)) := obS eo (congrArg some (if_pos hl))
theorem n_rangeE {t : Tgt} {it : Nat} {x left step : Int} (eo : st.ob[it]? = some (.rangeIter x left step)) (hl : ¬ 0 < left) : nextI t it st = some (none, setO st it .dead) := obS eo (congrArg some (if_neg hl))
theorem n_enum {ks : List Nat} {it it' l i : Nat} {xs : List PV} {x : PV} (eo : st.ob[it]? = some (.enum it' i)) (eo1 : st.ob[it']? = some (.listIter l i)) (ei : items st l = some xs) (ex : xs[i]? = some x) : nextI (.tup ks) it st = some (some (.tup [.int i, x]), setO (setO st it' (.listIter l (i + 1))) it (.enum it' (i + 1))) := by
  refine obS eo ?_
  have hok : enumP i st st.ob[it']? = true := by
    rw [eo1]
    show (Nat.beq i i && lenOk i (items st l)) = true
    rw [ei, Nat.beq_refl]
    exact Nat.ble_eq_true_of_le (Nat.le_of_lt (List.getElem?_eq_some_iff.mp ex).1)
  show enumNext it it' i st (true && enumP i st st.ob[it']?) = _
  rw [hok]
  exact obS (x := (some x, setO st it' (.listIter l (i + 1)))) (obS (o := st.ob[it']?) eo1 (obS ei (by rw [ex]; rfl))) rfl
theorem n_enumE {ks : List Nat} {it it' l : Nat} {xs : List PV} (eo : st.ob[it]? = some (.enum it' xs.length)) (eo1 : st.ob[it']? = some (.listIter l xs.length)) (ei : items st l = some xs) : nextI (.tup ks) it st = some (none, setO (setO st it' .dead) it .dead) := by
  refine obS eo ?_
  have hok : enumP xs.length st st.ob[it']? = true := by
    rw [eo1]
    show (Nat.beq xs.length xs.length && lenOk xs.length (items st l)) = true
    rw [ei, Nat.beq_refl]
    exact Nat.ble_eq_true_of_le (Nat.le_refl _)
  show enumNext it it' xs.length st (true && enumP xs.length st st.ob[it']?) = _
  rw [hok]
  exact obS (x := (none, setO st it' .dead)) (obS (o := st.ob[it']?) eo1 (obS ei (by rw [List.getElem?_eq_none (Nat.le_refl _)]; rfl))) rfl
theorem it_list {l : Nat} {xs : List PV} (h : st.ob[l]? = some (.list xs)) : iterI (.ref l) st = some (st.ob.length, ⟨st.sl, st.ob ++ [.listIter l 0]⟩) := obS (o := st.ob[l]?) h rfl
theorem it_range {l : Nat} {a b c : Int} (h : st.ob[l]? = some (.range a b c)) : iterI (.ref l) st = some (st.ob.length, ⟨st.sl, st.ob ++ [.rangeIter a (rangeLen a b c) c]⟩) := obS (o := st.ob[l]?) h rfl
theorem it_enum {l a b : Nat} (h : st.ob[l]? = some (.enum a b)) : iterI (.ref l) st = some (l, st) := obS (o := st.ob[l]?) h rfl
theorem items_list_ {l : Nat} {xs : List PV} (h : st.ob[l]? = some (.list xs)) : items st l = some xs := by unfold items; rw [h]

theorem siftup_run {a : Nat} {H : List Int} {ob : List PO} (hc : callOk ob = true) (h : ob[a]? = some (.list (H.map .int))) (hp : 0 < H.length) (hl : H.length < 4000) :
    RCall phi (d + 1 + 1) 5 [.ref a, .int 0] ob .none (ob.set a (.list ((sd (at0 H 0) (su H.length 0 H).1 (su H.length 0 H).1 ((su H.length 0 H).2.set (su H.length 0 H).1 (at0 H 0))).map .int))) := by
  obtain ⟨c', s6', r⟩ := su_loop (d := d + 1) (x := at0 H 0) H.length 0 H none (Nat.le_of_eq (Nat.zero_add _).symm) hp (Nat.lt_trans hl (by decide))
  have hlen : (su H.length 0 H).2.length = H.length ∧ (su H.length 0 H).1 < (su H.length 0 H).2.length := by
    have : ∀ (f pos : Nat) (H : List Int), pos < H.length → (su f pos H).2.length = H.length ∧ (su f pos H).1 < (su f pos H).2.length := by
      intro f
      induction f with
      | zero => intro pos H h; exact ⟨rfl, h⟩
      | succ f ih =>
        intro pos H h
        rw [su]
        split
        · rename_i hc
          have := ih (ch H pos) (H.set pos (at0 H (ch H pos))) (by rw [List.length_set]; exact (ch_facts hc).2.1)
          rw [List.length_set] at this
          exact this
        · exact ⟨rfl, h⟩
    exact this _ _ _ hp
  have hlm : (H.map PV.int).length = H.length := List.length_map ..
  generalize hr : su H.length 0 H = res at r hlen
  obtain ⟨pos', H'⟩ := res
  dsimp only at r hlen ⊢
  have hset : at0 (H'.set pos' (at0 H 0)) pos' = at0 H 0 := by rw [at0_set hlen.2, if_pos rfl]
  have run := siftdown_run (d := d) (a := 0) (pos := pos') (H := H'.set pos' (at0 H 0)) (ob := [.list ((H'.set pos' (at0 H 0)).map PV.int)]) rfl rfl (by rw [List.length_set]; exact hlen.2) (by rw [List.length_set]; exact Nat.lt_of_le_of_lt (Nat.le_of_eq hlen.1) (Nat.lt_trans hl (by decide)))
  rw [hset] at run
  have b0 : RS phi (d + 1) (.asg (.v 2) (.call (.const (.fn (.prim .len))) [.var 0])) ⟨[some (.ref 0), some (.int 0), none, none, none, none, none], [.list (H.map .int)]⟩ .next ⟨[some (.ref 0), some (.int 0), some (.int (H.length : Int)), none, none, none, none], [.list (H.map .int)]⟩ := by
    have hlr : primop .len [.ref 0] (⟨[some (.ref 0), some (.int 0), none, none, none, none, none], [.list (H.map .int)]⟩ : St) = some (.int (H.length : Int), ⟨[some (.ref 0), some (.int 0), none, none, none, none, none], [.list (H.map .int)]⟩) := by
      rw [p_len (l := 0) (items_list_ rfl) (by rw [hlm]; exact Nat.le_of_lt (Nat.lt_trans hl (by decide))), hlm]
    exact RS.asg (RE.prim (REs.one (RE.var rfl)) hlr) rfl
  have b3 : RS phi (d + 1) (.asg (.v 5) (.bin .add (.bin .mul (.const (.int 2)) (.var 1)) (.const (.int 1)))) ⟨[some (.ref 0), some (.int 0), some (.int (H.length : Int)), some (.int 0), some (.int (at0 H 0)), none, none], [.list (H.map .int)]⟩ .next (suS 0 H.length (at0 H 0) (some (.int ((2 * 0 + 1 : Nat) : Int))) none H) :=
    RS.asg (RE.bin (RE.bin RE.const (RE.var rfl) (o_mul (by decide) (by decide))) RE.const (o_add (by decide))) rfl
  have b5 : RS phi (d + 1) (.asgIdx (.var 0) (.var 1) (.var 4)) (suS pos' H.length (at0 H 0) c' s6' H') .next (suS pos' H.length (at0 H 0) c' s6' (H'.set pos' (at0 H 0))) := by
    have := RS.asgIdx (Φ := phi) (d := d + 1) (a := .var 0) (b := .var 1) (e := .var 4) (st := suS pos' H.length (at0 H 0) c' s6' H') (l := 0) (k := pos') (RE.var rfl) (RE.var rfl) (RE.var rfl) rfl (by rw [List.length_map]; exact hlen.2) (big_nat (Nat.lt_trans (Nat.lt_of_lt_of_eq hlen.2 hlen.1) (Nat.lt_trans hl (by decide))))
    rw [← List.map_set] at this
    exact this
  refine RCall.code (np := 2) (ns := 7) (df := []) (body := irSiftup) (f := .next) rfl hc (enter_one (xs := [0]) h) rfl (by decide)
    (st1 := ⟨[some (.ref 0), some (.int (pos' : Int)), some (.int (H.length : Int)), some (.int 0), some (.int (at0 H 0)), c', s6'], [.list ((sd (at0 H 0) pos' pos' (H'.set pos' (at0 H 0))).map PV.int)]⟩) ?_ rfl ?_
  · refine RSs.cons b0 (RSs.cons (RS.asg (RE.var rfl) rfl) (RSs.cons (RS.asg (RE.idx (RE.var rfl) (RE.var rfl) (i_list (i := 0) rfl hp (by decide))) rfl) (RSs.cons b3 (RSs.cons (RS.whl r) (RSs.cons b5 (RSs.cons (RS.expr (RE.user (.cons (RE.var rfl) (.cons (RE.var rfl) (.one (RE.var rfl)))) run)) RSs.nil))))))
  · exact leave_one (fun j z => by cases z) rfl

theorem push_run {a : Nat} {H : List Int} {x : Int} {ob : List PO} (hc : callOk ob = true) (h : ob[a]? = some (.list (H.map .int))) (hl : H.length < 4000) :
    RCall phi (d + 1 + 1) 0 [.ref a, .int x] ob .none (ob.set a (.list ((hpush H x).map .int))) := by
  have hm : (H.map PV.int) ++ [.int x] = (H ++ [x]).map PV.int := by simp
  have ap : methop .append (.ref 0) [.int x] (⟨[some (.ref 0), some (.int x)], [.list (H.map .int)]⟩ : St) = some (.none, ⟨[some (.ref 0), some (.int x)], [.list ((H ++ [x]).map .int)]⟩) := by
    rw [m_append (l := 0) (xs := H.map PV.int) rfl (by rw [List.length_map]; exact Nat.le_of_lt (Nat.lt_trans hl (by decide))), hm]; rfl
  have hx : at0 (H ++ [x]) H.length = x := by unfold at0; rw [List.getD_eq_getElem?_getD]; simp
  have run := siftdown_run (d := d) (a := 0) (pos := H.length) (H := H ++ [x]) (ob := [.list ((H ++ [x]).map PV.int)]) rfl rfl (by simp) (by rw [List.length_append]; exact Nat.lt_trans (Nat.succ_lt_succ hl) (by decide))
  rw [hx] at run
  have hlr : primop .len [.ref 0] (⟨[some (.ref 0), some (.int x)], [.list ((H ++ [x]).map .int)]⟩ : St) = some (.int ((H.length + 1 : Nat) : Int), ⟨[some (.ref 0), some (.int x)], [.list ((H ++ [x]).map .int)]⟩) := by
    have hlm : ((H ++ [x]).map PV.int).length = H.length + 1 := by simp
    rw [p_len (l := 0) (items_list_ rfl) (by rw [hlm]; exact Nat.le_trans (Nat.succ_le_of_lt hl) (by decide)), hlm]
  have hsub : binop .sub (.int ((H.length + 1 : Nat) : Int)) (.int 1) (⟨[some (.ref 0), some (.int x)], [.list ((H ++ [x]).map .int)]⟩ : St) = some (.int (H.length : Int), ⟨[some (.ref 0), some (.int x)], [.list ((H ++ [x]).map .int)]⟩) := by
    exact o_subN (p := H.length + 1) (Nat.succ_pos _) (Nat.lt_trans hl (by decide))
  refine RCall.code (np := 2) (ns := 2) (df := []) (body := irHeappush) (f := .next) rfl hc (enter_one (xs := [x]) h) rfl (by decide) (st1 := ⟨[some (.ref 0), some (.int x)], [.list ((hpush H x).map PV.int)]⟩) ?_ rfl ?_
  · exact RSs.cons (RS.expr (RE.meth (RE.var rfl) rfl (.one (RE.var rfl)) ap)) (RSs.cons (RS.expr (RE.user (.cons (RE.var rfl) (.cons RE.const (.one (RE.bin (RE.prim (.one (RE.var rfl)) hlr) RE.const hsub)))) run)) RSs.nil)
  · exact leave_one (fun j z => by cases z) rfl
end Mine.Internal
end
section
open PySem
namespace Mine.Internal
set_option linter.unusedSectionVars false
set_option linter.unusedVariables false
set_option maxRecDepth 100000
variable {d : Nat} {st st' : St}

theorem tr_list {l : Nat} {xs : List PV} (h : st.ob[l]? = some (.list xs)) (hr : xs.length ≤ room) : truthV (.ref l) st = some (!xs.isEmpty) := by
  show (do let xs ← items st l; if xs.length ≤ room then return !xs.isEmpty else none) = _
  rw [items_list_ h]
  simp only [Option.bind_eq_bind, Option.bind_some]
  rw [if_pos hr]
  rfl

/-- what heappop leaves -/
noncomputable def hrest (L : List Int) : List Int := if L.dropLast = [] then [] else hpop L.dropLast (L.getLastD 0)
theorem pop_run {a : Nat} {L : List Int} {ob : List PO} (hc : callOk ob = true) (h : ob[a]? = some (.list (L.map .int))) (hn : L ≠ []) (hl : L.length < 4000) :
    RCall phi (d + 1 + 1 + 1) 1 [.ref a] ob (.int (at0 L 0)) (ob.set a (.list ((hrest L).map .int))) := by
  obtain ⟨K, x, rfl⟩ : ∃ K x, L = K ++ [x] := ⟨L.dropLast, L.getLast hn, (List.dropLast_concat_getLast hn).symm⟩
  have hd : (K ++ [x]).dropLast = K := by simp
  have hla : (K ++ [x]).getLastD 0 = x := by simp
  have hlK : K.length < 4000 := Nat.lt_of_succ_lt (by rw [List.length_append] at hl; exact hl)
  have hlm : (K.map PV.int).length = K.length := List.length_map ..
  have ap : methop .pop (.ref 0) [] (⟨[some (.ref 0), none, none], [.list ((K ++ [x]).map .int)]⟩ : St) = some (.int x, ⟨[some (.ref 0), none, none], [.list (K.map .int)]⟩) := by
    have hm : (K ++ [x]).map PV.int = K.map PV.int ++ [.int x] := by simp
    rw [hm]
    exact m_pop (l := 0) (xs := K.map PV.int) rfl (by rw [List.length_append, hlm]; exact Nat.le_trans (Nat.succ_le_of_lt hlK) (by decide))
  have b1 : RS phi (d + 1 + 1) (.asg (.v 1) (.meth .pop (.var 0) [])) ⟨[some (.ref 0), none, none], [.list ((K ++ [x]).map .int)]⟩ .next ⟨[some (.ref 0), some (.int x), none], [.list (K.map .int)]⟩ := RS.asg (RE.meth (RE.var rfl) rfl .nil ap) rfl
  by_cases hk : K = []
  · subst hk
    refine RCall.code (np := 1) (ns := 3) (df := []) (body := irHeappop) (f := .ret (.int x)) rfl hc (enter_one (xs := []) h) rfl (by decide) (st1 := ⟨[some (.ref 0), some (.int x), none], [.list (([] : List Int).map PV.int)]⟩) ?_ rfl ?_
    · exact RSs.cons b1 (RSs.cons (RS.ifeF (RT.ex (RE.var rfl) (by rw [tr_list (l := 0) (xs := []) rfl (Nat.zero_le _)]; rfl)) RSs.nil) (RSs.ret (RS.ret (RE.var rfl))))
    · exact leave_one (fun j z => by cases z) rfl
  · have hp : 0 < K.length := List.length_pos_iff.mpr hk
    have t1 : RT phi (d + 1 + 1) (.e (.var 0)) ⟨[some (.ref 0), some (.int x), none], [.list (K.map .int)]⟩ true ⟨[some (.ref 0), some (.int x), none], [.list (K.map .int)]⟩ := by
      have := tr_list (st := ⟨[some (.ref 0), some (.int x), none], [.list (K.map .int)]⟩) (l := 0) rfl (by rw [hlm]; exact Nat.le_of_lt (Nat.lt_trans hlK (by decide)))
      have hne : (K.map PV.int).isEmpty = false := by cases K with
        | nil => exact absurd rfl hk
        | cons a b => rfl
      rw [hne] at this
      exact RT.ex (RE.var rfl) this
    have b2 : RS phi (d + 1 + 1) (.asg (.v 2) (.idx (.var 0) (.const (.int 0)))) ⟨[some (.ref 0), some (.int x), none], [.list (K.map .int)]⟩ .next ⟨[some (.ref 0), some (.int x), some (.int (at0 K 0))], [.list (K.map .int)]⟩ := RS.asg (RE.idx (RE.var rfl) RE.const (i_list (i := 0) rfl hp (by decide))) rfl
    have b3 : RS phi (d + 1 + 1) (.asgIdx (.var 0) (.const (.int 0)) (.var 1)) ⟨[some (.ref 0), some (.int x), some (.int (at0 K 0))], [.list (K.map .int)]⟩ .next ⟨[some (.ref 0), some (.int x), some (.int (at0 K 0))], [.list ((K.set 0 x).map .int)]⟩ := by
      have := RS.asgIdx (Φ := phi) (d := d + 1 + 1) (a := .var 0) (b := .const (.int 0)) (e := .var 1) (st := ⟨[some (.ref 0), some (.int x), some (.int (at0 K 0))], [.list (K.map .int)]⟩) (l := 0) (k := 0) (RE.var rfl) (RE.var rfl) RE.const rfl (by rw [hlm]; exact hp) (by decide)
      rw [← List.map_set] at this
      exact this
    have h0 : at0 (K.set 0 x) 0 = x := by rw [at0_set hp, if_pos rfl]
    have run := siftup_run (d := d) (a := 0) (H := K.set 0 x) (ob := [.list ((K.set 0 x).map PV.int)]) rfl rfl (by rw [List.length_set]; exact hp) (by rw [List.length_set]; exact hlK)
    rw [h0, List.length_set] at run
    have e1 : hrest (K ++ [x]) = hpop K x := by unfold hrest; rw [hd, if_neg hk, hla]
    rw [e1, at0_app hp]
    refine RCall.code (np := 1) (ns := 3) (df := []) (body := irHeappop) (f := .ret (.int (at0 K 0))) rfl hc (enter_one (xs := []) h) rfl (by decide) (st1 := ⟨[some (.ref 0), some (.int x), some (.int (at0 K 0))], [.list ((hpop K x).map PV.int)]⟩) ?_ rfl ?_
    · exact RSs.cons b1 (RSs.ret (RS.ifeT t1 (RSs.cons b2 (RSs.cons b3 (RSs.cons (RS.expr (RE.user (.cons (RE.var rfl) (.one RE.const)) run)) (RSs.ret (RS.ret (RE.var rfl))))))))
    · exact leave_one (fun j z => by cases z) rfl
theorem hrest_ok {L : List Int} (h : IsHp L) (hn : L ≠ []) : IsHp (hrest L) ∧ (hrest L).length + 1 = L.length ∧ (∀ y, y ∈ hrest L → y ∈ L) ∧ (∀ y, y ∈ L → y ≠ at0 L 0 → y ∈ hrest L) ∧ at0 L 0 ∈ L ∧ ∀ y ∈ L, at0 L 0 ≤ y := by
  obtain ⟨K, x, rfl⟩ : ∃ K x, L = K ++ [x] := ⟨L.dropLast, L.getLast hn, (List.dropLast_concat_getLast hn).symm⟩
  have hd : (K ++ [x]).dropLast = K := by simp
  have hla : (K ++ [x]).getLastD 0 = x := by simp
  have hm : at0 (K ++ [x]) 0 ∈ K ++ [x] := mem_at0.mpr ⟨0, by simp, rfl⟩
  unfold hrest
  rw [hd, hla]
  by_cases hk : K = []
  · subst hk
    rw [if_pos rfl]
    have e : at0 ([] ++ [x]) 0 = x := rfl
    refine ⟨fun i h0 hi => by simp at hi, by simp, fun y hy => by simp at hy, fun y hy hne => ?_, hm, fun y hy => ?_⟩
    · simp at hy; rw [e] at hne; exact absurd hy hne
    · simp at hy; rw [e, hy]; exact Int.le_refl _
  · rw [if_neg hk]
    obtain ⟨a1, a2, a3, a4, a5⟩ := hpop_ok h hk
    have hp : 0 < K.length := List.length_pos_iff.mpr hk
    rw [at0_app hp] at hm ⊢
    exact ⟨a1, by rw [a2]; simp, a3, a4, hm, a5⟩

/-! the twenty sets -/
noncomputable def S20 : List Int := [7, 11, 13, 14, 19, 21, 22, 25, 26, 28, 35, 37, 38, 41, 42, 44, 49, 50, 52, 56]
noncomputable def bitOn (m : Int) (k : Nat) : Bool := decide ((((Int.fdiv m ((2 ^ k : Nat) : Int)).toNat &&& (3 : Int).toNat : Nat) : Int) = 1)
noncomputable def succs (m : Int) : List Int := (List.range 5).filterMap fun k => if bitOn m k then some (m + ((2 ^ k : Nat) : Int)) else none
theorem S20_len : S20.length = 20 := by decide
theorem S20_up : ∀ j, j < 20 → ∀ i, i < j → at0 S20 i < at0 S20 j := by decide +kernel
theorem S20_pred : ∀ j, j < 20 → 0 < j → ∃ i, i < j ∧ at0 S20 j ∈ succs (at0 S20 i) := by decide +kernel
theorem S20_succ : ∀ i, i < 20 → ∀ y ∈ succs (at0 S20 i), y ∈ S20 ∧ at0 S20 i < y := by decide +kernel
theorem succs_len (m : Int) : (succs m).length ≤ 5 := by
  unfold succs
  exact Nat.le_trans (List.length_filterMap_le ..) (by simp)
theorem S20_small : ∀ y ∈ S20, 0 < y ∧ y < 64 := by decide +kernel
noncomputable def pushAll (H : List Int) (xs : List Int) : List Int := xs.foldl hpush H
theorem pushAll_ok : ∀ {xs H : List Int}, IsHp H → IsHp (pushAll H xs) ∧ (pushAll H xs).length = H.length + xs.length ∧ ∀ y, y ∈ pushAll H xs ↔ y ∈ xs ∨ y ∈ H
  | [], H, h => ⟨h, rfl, fun y => by simp [pushAll]⟩
  | x :: r, H, h => by
    obtain ⟨a1, a2, a3⟩ := hpush_ok (x := x) h
    obtain ⟨b1, b2, b3⟩ := pushAll_ok (xs := r) a1
    refine ⟨b1, ?_, fun y => ?_⟩
    · show (pushAll (hpush H x) r).length = _
      rw [b2, a2, List.length_cons]; exact Nat.succ_add_eq_add_succ _ _
    · show y ∈ pushAll (hpush H x) r ↔ _
      rw [b3, a3, List.mem_cons]
      constructor
      · rintro (h | h | h)
        · exact .inl (.inr h)
        · exact .inl (.inl h)
        · exact .inr h
      · rintro ((h | h) | h)
        · exact .inr (.inl h)
        · exact .inl h
        · exact .inr (.inr h)

/-- what holds of the heap when j sets have come off -/
structure Inv (j : Nat) (H : List Int) : Prop where
  hj : j ≤ 20
  hp : IsHp H
  mem : ∀ y ∈ H, y ∈ S20 ∧ (0 < j → at0 S20 (j - 1) ≤ y)
  first : j = 0 → (7 : Int) ∈ H
  on : ∀ i, i < j → ∀ y ∈ succs (at0 S20 i), at0 S20 (j - 1) < y → y ∈ H
theorem inv_next {j : Nat} {H : List Int} (I : Inv j H) (hj : j < 20) : at0 S20 j ∈ H := by
  by_cases h0 : j = 0
  · subst h0; exact I.first rfl
  · obtain ⟨i, hi, hm⟩ := S20_pred j hj (Nat.pos_of_ne_zero h0)
    exact I.on i hi _ hm (S20_up j hj (j - 1) (Nat.sub_lt (Nat.pos_of_ne_zero h0) Nat.one_pos))
theorem inv_empty {j : Nat} (I : Inv j []) : j = 20 := by
  by_cases hj : j < 20
  · have := inv_next I hj; cases this
  · exact Nat.le_antisymm I.hj (Nat.not_lt.mp hj)
theorem at0_S20 {y : Int} (h : y ∈ S20) : ∃ i, i < 20 ∧ at0 S20 i = y := by
  obtain ⟨i, hi, e⟩ := mem_at0.mp h
  exact ⟨i, by rwa [S20_len] at hi, e⟩
theorem S20_lt {i j : Nat} (hi : i < 20) (hj : j < 20) (h : at0 S20 i ≤ at0 S20 j) : i ≤ j := by
  refine Decidable.byContradiction fun q => ?_
  exact absurd (S20_up i hi j (Nat.not_le.mp q)) (Int.not_lt.mpr h)
/-- a number that comes off again, or the next set -/
theorem inv_pop {j : Nat} {H : List Int} (I : Inv j H) (hn : H ≠ []) : (0 < j ∧ at0 H 0 = at0 S20 (j - 1) ∧ Inv j (hrest H)) ∨ (j < 20 ∧ at0 H 0 = at0 S20 j ∧ (0 < j → at0 S20 (j - 1) < at0 S20 j) ∧ Inv (j + 1) (pushAll (hrest H) (succs (at0 S20 j)))) := by
  obtain ⟨a1, a2, a3, a4, a5, a6⟩ := hrest_ok I.hp hn
  obtain ⟨m1, m2⟩ := I.mem _ a5
  obtain ⟨i, hi, e⟩ := at0_S20 m1
  have dup : 0 < j → at0 H 0 = at0 S20 (j - 1) → Inv j (hrest H) := fun h0 e => by
    refine ⟨I.hj, a1, fun y hy => I.mem y (a3 y hy), fun z => absurd z (Nat.ne_of_gt h0), fun i hi y hy hlt => ?_⟩
    exact a4 y (I.on i hi y hy hlt) (by rw [e]; exact Int.ne_of_gt hlt)
  by_cases hj : j < 20
  · have hle := a6 _ (inv_next I hj)
    have hij : i ≤ j := S20_lt hi hj (by rw [e]; exact hle)
    by_cases hq : i = j
    · subst hq
      right
      have hprev : 0 < i → at0 S20 (i - 1) < at0 S20 i := fun h0 => S20_up i hj (i - 1) (Nat.sub_lt h0 Nat.one_pos)
      refine ⟨hj, e.symm, hprev, ?_⟩
      obtain ⟨b1, b2, b3⟩ := pushAll_ok (xs := succs (at0 S20 i)) a1
      refine ⟨hj, b1, fun y hy => ?_, fun z => absurd z (Nat.succ_ne_zero _), fun k hk y hy hlt => ?_⟩
      · rcases (b3 y).mp hy with h | h
        · obtain ⟨c1, c2⟩ := S20_succ i hj y h
          exact ⟨c1, fun _ => by simpa using Int.le_of_lt c2⟩
        · exact ⟨(I.mem y (a3 y h)).1, fun _ => by
            have := a6 y (a3 y h)
            rw [← e] at this; simpa using this⟩
      · simp only [Nat.add_sub_cancel] at hlt
        rcases Nat.lt_succ_iff_lt_or_eq.mp hk with h | h
        · refine (b3 y).mpr (.inr (a4 y (I.on k h y hy (Int.lt_trans (hprev (Nat.zero_lt_of_lt h)) hlt)) (by rw [← e]; exact Int.ne_of_gt hlt)))
        · subst h; exact (b3 y).mpr (.inl hy)
    · left
      have hlt := Nat.lt_of_le_of_ne hij hq
      have h0 : 0 < j := Nat.zero_lt_of_lt hlt
      have hge := m2 h0
      have : j - 1 ≤ i := S20_lt (Nat.lt_of_le_of_lt (Nat.sub_le j 1) hj) hi (by rw [e]; exact hge)
      obtain rfl : i = j - 1 := Nat.le_antisymm (Nat.le_sub_one_of_lt hlt) this
      exact ⟨h0, e.symm, dup h0 e.symm⟩
  · left
    have hj20 : j = 20 := Nat.le_antisymm I.hj (Nat.not_lt.mp hj)
    subst hj20
    have hge := m2 (by decide)
    have : 20 - 1 ≤ i := S20_lt (by decide) hi (by rw [e]; exact hge)
    obtain rfl : i = 19 := Nat.le_antisymm (Nat.le_of_lt_succ hi) this
    exact ⟨by decide, e.symm, dup (by decide) e.symm⟩
end Mine.Internal
end
section
open PySem
namespace Mine.Internal
set_option linter.unusedSectionVars false
set_option linter.unusedVariables false
set_option maxRecDepth 100000
variable {d : Nat} {st st' : St}

theorem gc_take {n : Nat} {ob : List PO} (hs : okSs n st.sl = true) (he : st.ob.take n = ob) (ho : okOs n ob = true) : gc n st = ⟨st.sl, ob⟩ := by
  unfold gc
  rw [he, hs, ho]
  rfl
theorem set_same {α : Type} {l : List α} {a : Nat} {x : α} (h : l[a]? = some x) : l.set a x = l := by
  apply List.ext_getElem?
  intro i
  rw [List.getElem?_set]
  split
  · rename_i e; subst e; rw [h]; rw [if_pos (List.getElem?_eq_some_iff.mp h).1]
  · rfl
theorem okI {k : Nat} {H : List Int} : okO k (.list (H.map .int)) = true := ints_ok0
noncomputable abbrev oI (x : Option Int) : Option PV := x.map .int
theorem okS_oI {k : Nat} {x : Option Int} : okS k (oI x) = true := by cases x <;> rfl

/-- numbers laid on the heap -/
noncomputable def layB : List IS := [.expr (.call (.const (.fn (.user 0))) [.var 1, .var 2])]
theorem lay_loop {laid L : List Int} (hL : L.length < 1000) : ∀ (k i : Nat) (H : List Int) (s2 : Option Int), i + k = L.length → IsHp H → H.length + k < 3000 → ∃ s2' : Option Int,
    RF phi 7 (.v 2) layB [] 4 ⟨[some (.ref 0), some (.ref 1), oI s2, none, none, none], [.list (laid.map .int), .list (H.map .int), .list [.int 7], .list (L.map .int), .listIter 3 i]⟩ .next
      ⟨[some (.ref 0), some (.ref 1), oI s2', none, none, none], [.list (laid.map .int), .list ((pushAll H (L.drop i)).map .int), .list [.int 7], .list (L.map .int), .dead]⟩ := by
  intro k
  induction k with
  | zero =>
    intro i H s2 hi hp hl
    refine ⟨s2, RF.done ?_ (by rw [List.drop_eq_nil_of_le (i := i) (Nat.le_of_eq hi.symm)]; exact RSs.nil)⟩
    have : (L.map PV.int)[i]? = none := by rw [List.getElem?_eq_none_iff, List.length_map]; exact Nat.le_of_eq hi.symm
    exact n_listE (it := 4) (l := 3) rfl rfl this
  | succ k ih =>
    intro i H s2 hi hp hl
    have hlt : i < L.length := Nat.lt_of_lt_of_eq (Nat.lt_add_of_pos_right (Nat.succ_pos k)) hi
    obtain ⟨b1, b2, b3⟩ := hpush_ok (x := at0 L i) hp
    obtain ⟨s2', r⟩ := ih (i + 1) (hpush H (at0 L i)) (some (at0 L i)) ((Nat.succ_add_eq_add_succ i k).trans hi) b1 (by rw [b2]; exact Nat.lt_of_le_of_lt (Nat.le_of_eq (Nat.succ_add_eq_add_succ _ _)) hl)
    have hd : pushAll H (L.drop i) = pushAll (hpush H (at0 L i)) (L.drop (i + 1)) := by
      have : L.drop i = at0 L i :: L.drop (i + 1) := by
        rw [List.drop_eq_getElem_cons hlt]
        congr 1
        have := at0_get hlt
        rw [List.getElem?_eq_getElem hlt] at this
        exact Option.some.inj this
      rw [this]; rfl
    rw [hd]
    refine ⟨s2', RF.more0 (v := .int (at0 L i)) (st1 := ⟨[some (.ref 0), some (.ref 1), oI s2, none, none, none], [.list (laid.map .int), .list (H.map .int), .list [.int 7], .list (L.map .int), .listIter 3 (i + 1)]⟩) ?_ rfl (RSs.cons (RS.expr (RE.user (.cons (RE.var rfl) (.one (RE.var rfl))) (push_run (a := 1) (H := H) (d := 5) rfl rfl (Nat.lt_trans (Nat.lt_of_le_of_lt (Nat.le_add_right _ _) hl) (by decide))))) RSs.nil) (gc_same (by simp)) r⟩
    have : (L.map PV.int)[i]? = some (.int (at0 L i)) := by rw [List.getElem?_map, at0_get hlt]; rfl
    exact n_list (it := 4) (l := 3) rfl rfl this

/-- the sets that come of one -/
noncomputable def upT : IT := .e (.cmp .eq (.bin .band (.bin .shr (.var 4) (.var 5)) (.const (.int 3))) (.const (.int 1)))
noncomputable def upB : List IS := [.ife upT [.expr (.call (.const (.fn (.user 0))) [.var 1, .bin .add (.var 4) (.bin .shl (.const (.int 1)) (.var 5))])] []]
noncomputable def sucFrom (m : Int) (k : Nat) : List Int := ((List.range 5).drop k).filterMap fun k => if bitOn m k then some (m + ((2 ^ k : Nat) : Int)) else none
theorem sucFrom_step (m : Int) {k : Nat} (hk : k < 5) : sucFrom m k = (if bitOn m k then [m + ((2 ^ k : Nat) : Int)] else []) ++ sucFrom m (k + 1) := by
  have : (List.range 5).drop k = k :: (List.range 5).drop (k + 1) := by
    match k, hk with
    | 0, _ => rfl
    | 1, _ => rfl
    | 2, _ => rfl
    | 3, _ => rfl
    | 4, _ => rfl
  unfold sucFrom
  rw [this, List.filterMap_cons]
  split
  · rename_i h
    split at h
    · cases h
    · rename_i hb; rw [if_neg hb]; rfl
  · rename_i b h
    split at h
    · rename_i hb; cases h; rw [if_pos hb]; rfl
    · cases h
noncomputable abbrev upS (m : Int) (s2 s5 : Option Int) (laid H T : List Int) (sl : List PV) (k : Nat) : St := ⟨[some (.ref 0), some (.ref 1), oI s2, some (.ref 2), some (.int m), oI s5], [.list (laid.map .int), .list (H.map .int), .list (T.map .int), .list sl, .range 0 5 1, .rangeIter (k : Int) (5 - (k : Int)) 1]⟩
theorem up_loop {m : Int} {s2 : Option Int} {laid T : List Int} {sl : List PV} (hm : 0 < m ∧ m < 64) : ∀ (r k : Nat) (H : List Int) (s5 : Option Int), k + r = 5 → IsHp H → H.length + r < 3900 → ∃ s5' : Option Int,
    RF phi 7 (.v 5) upB [] 5 (upS m s2 s5 laid H T sl k) .next ⟨[some (.ref 0), some (.ref 1), oI s2, some (.ref 2), some (.int m), oI s5'], [.list (laid.map .int), .list ((pushAll H (sucFrom m k)).map .int), .list (T.map .int), .list sl, .range 0 5 1, .dead]⟩ := by
  intro r
  induction r with
  | zero =>
    intro k H s5 hk hp hl
    obtain rfl : k = 5 := hk
    exact ⟨s5, RF.done rfl RSs.nil⟩
  | succ r ih =>
    intro k H s5 hk hp hl
    have hk5 : k < 5 := Nat.lt_of_lt_of_eq (Nat.lt_add_of_pos_right (Nat.succ_pos r)) hk
    have hk' : k + 1 + r = 5 := (Nat.succ_add_eq_add_succ k r).trans hk
    have nx : nextI (.v 5) 5 (upS m s2 s5 laid H T sl k) = some (some (.int (k : Int)), upS m s2 s5 laid H T sl (k + 1)) := by
      rw [n_range (it := 5) (x := (k : Int)) (left := 5 - (k : Int)) (step := 1) rfl (Int.sub_pos_of_lt (Int.ofNat_lt.mpr hk5))]
      have : 5 - (k : Int) - 1 = 5 - ((k + 1 : Nat) : Int) := Int.sub_sub 5 k 1
      rw [this]
      rfl
    have pk : ((2 ^ k : Nat) : Int) ≤ 16 ∧ (0 : Int) < ((2 ^ k : Nat) : Int) := by
      match k, hk5 with
      | 0, _ => decide
      | 1, _ => decide
      | 2, _ => decide
      | 3, _ => decide
      | 4, _ => decide
    have f0 : 0 ≤ Int.fdiv m ((2 ^ k : Nat) : Int) ∧ Int.fdiv m ((2 ^ k : Nat) : Int) ≤ m := by
      rw [Int.fdiv_eq_ediv_of_nonneg _ (Int.le_of_lt pk.2)]
      exact ⟨Int.ediv_nonneg (Int.le_of_lt hm.1) (Int.le_of_lt pk.2), Int.ediv_le_self _ (Int.le_of_lt hm.1)⟩
    have a3 : ((Int.fdiv m ((2 ^ k : Nat) : Int)).toNat &&& (3 : Int).toNat : Nat) ≤ 3 := Nat.and_le_right
    have tt : RT phi 7 upT (upS m s2 (some (k : Int)) laid H T sl (k + 1)) (bitOn m k) (upS m s2 (some (k : Int)) laid H T sl (k + 1)) :=
      RT.ex (RE.cmp (RE.bin (RE.bin (RE.var rfl) (RE.var rfl) (o_shr (k := k) (Int.le_of_lt hm.1) (Nat.lt_trans hk5 (by decide)) rfl (fits_small (Int.lt_of_lt_of_le (by decide) f0.1) (Int.lt_of_le_of_lt f0.2 (Int.lt_trans hm.2 (by decide)))))) RE.const (b_band f0.1 (by decide) rfl (fits_nat (Nat.lt_of_le_of_lt a3 (by decide))))) RE.const rfl) rfl
    rw [sucFrom_step m hk5]
    by_cases hb : bitOn m k = true
    · rw [hb] at tt
      rw [if_pos hb]
      obtain ⟨b1, b2, b3⟩ := hpush_ok (x := m + ((2 ^ k : Nat) : Int)) hp
      obtain ⟨s5', rr⟩ := ih (k + 1) (hpush H (m + ((2 ^ k : Nat) : Int))) (some (k : Int)) hk' b1 (by rw [b2]; exact Nat.lt_of_le_of_lt (Nat.le_of_eq (Nat.succ_add_eq_add_succ _ _)) hl)
      refine ⟨s5', RF.more0 nx rfl (RSs.cons (RS.ifeT tt (RSs.cons (RS.expr (RE.user (.cons (RE.var rfl) (.one (RE.bin (RE.var rfl) (RE.bin RE.const (RE.var rfl) (o_shl (k := k) (r := ((2 ^ k : Nat) : Int)) (by decide) (by decide) (Nat.lt_trans hk5 (by decide)) (Int.one_mul _) (fits_small (Int.lt_trans (by decide) pk.2) (Int.lt_of_le_of_lt pk.1 (by decide))))) (o_add (fits_small (Int.lt_trans (by decide) (Int.add_pos hm.1 pk.2)) (Int.lt_trans (Int.add_lt_add_of_lt_of_le hm.2 pk.1) (by decide))))))) (push_run (a := 1) (H := H) (d := 5) rfl rfl (Nat.lt_trans (Nat.lt_of_le_of_lt (Nat.le_add_right _ _) hl) (by decide))))) RSs.nil)) RSs.nil) (gc_same (by simp)) rr⟩
    · have hb' : bitOn m k = false := by simpa using hb
      rw [hb'] at tt
      rw [if_neg hb]
      obtain ⟨s5', rr⟩ := ih (k + 1) H (some (k : Int)) hk' hp (Nat.lt_of_succ_lt hl)
      exact ⟨s5', RF.more0 nx rfl (RSs.cons (RS.ifeF tt RSs.nil) RSs.nil) (gc_same (by simp)) rr⟩
end Mine.Internal
end
section
open PySem
namespace Mine.Internal
set_option linter.unusedSectionVars false
set_option linter.unusedVariables false
set_option maxRecDepth 100000
variable {d : Nat} {st st' : St}

theorem okSs4 {x y z : Option Int} {n : Nat} (h : 3 ≤ n) : okSs n [some (.ref 0), some (.ref 1), oI x, some (.ref 2), oI y, oI z] = true := by
  have r : ∀ i, i < 3 → okV n (.ref i) = true := fun i hi => Nat.ble_eq_true_of_le (Nat.le_trans (Nat.succ_le_of_lt hi) (by first | exact h | exact Nat.le_refl _))
  have r' : ∀ i, i < 3 → okS n (some (.ref i)) = true := r
  show (okS n (some (.ref 0)) && (okS n (some (.ref 1)) && (okS n (oI x) && (okS n (some (.ref 2)) && (okS n (oI y) && (okS n (oI z) && true)))))) = true
  rw [r' 0 (by decide), r' 1 (by decide), r' 2 (by decide), okS_oI, okS_oI, okS_oI]
  rfl
theorem memI {m : Int} {xs : List Int} : memV (.int m) (xs.map .int) = some (inI m xs) := by
  show (intsOf (xs.map .int)).map (inI m) = _
  rw [intsOf_map]; rfl

noncomputable def whT : IT := .e (.var 1)
noncomputable def whC : IT := .e (.cmp .notin (.var 4) (.slice (.var 3) (some (.neg (.const (.int 1)))) none))
noncomputable def whB : List IS := [.asg (.v 4) (.call (.const (.fn (.user 1))) [.var 1]), .ife whC [.expr (.meth .append (.var 3) [.var 4]), .fr (.v 5) (.call (.const (.fn (.prim .range))) [.const (.int 5)]) upB []] []]
noncomputable abbrev whS (laid H : List Int) (j : Nat) (s2 s4 s5 : Option Int) : St := ⟨[some (.ref 0), some (.ref 1), oI s2, some (.ref 2), oI s4, oI s5], [.list (laid.map .int), .list (H.map .int), .list ((S20.take j).map .int)]⟩

theorem wh_test {laid H : List Int} {j : Nat} {s2 s4 s5 : Option Int} (hl : H.length ≤ 3000) : RT phi 7 whT (whS laid H j s2 s4 s5) (!H.isEmpty) (whS laid H j s2 s4 s5) := by
  have := tr_list (st := whS laid H j s2 s4 s5) (l := 1) (xs := H.map .int) rfl (by rw [List.length_map]; exact Nat.le_trans hl (by decide))
  have e : (H.map PV.int).isEmpty = H.isEmpty := by cases H <;> rfl
  rw [e] at this
  exact RT.ex (RE.var rfl) this

theorem last_slice {j : Nat} {m : Int} {laid H : List Int} {s2 s5 : Option Int} (hj : j ≤ 20) : sliceop (.ref 2) (some (.int (-1))) none (whS laid H j s2 (some m) s5) = some (.ref 3, ⟨[some (.ref 0), some (.ref 1), oI s2, some (.ref 2), some (.int m), oI s5], [.list (laid.map .int), .list (H.map .int), .list ((S20.take j).map .int), .list (((S20.take j).drop (j - 1)).map .int)]⟩) := by
  have hlen : (S20.take j).length = j := by rw [List.length_take, S20_len, Nat.min_eq_left hj]
  have hlm : ((S20.take j).map PV.int).length = j := by rw [List.length_map, hlen]
  show (do
    let xs ← items _ 2
    let i ← clamp xs.length 0 (some (.int (-1)))
    let k ← clamp xs.length xs.length none
    if xs.length ≤ room then return push _ (.list ((xs.take k).drop i)) else none) = _
  rw [items_list_ (xs := (S20.take j).map .int) rfl]
  simp only [Option.bind_eq_bind, Option.bind_some]
  have c1 : clamp ((S20.take j).map PV.int).length 0 (some (.int (-1))) = some (j - 1) := by
    show (if (0 : Int) ≤ -1 then some (min (-1 : Int).toNat ((S20.take j).map PV.int).length) else some (((S20.take j).map PV.int).length - (-(-1 : Int)).toNat)) = _
    rw [if_neg (by decide), hlm]; rfl
  have c2 : clamp ((S20.take j).map PV.int).length ((S20.take j).map PV.int).length none = some j := by
    show some _ = _
    rw [hlm]
  rw [c1, c2]
  simp only [Option.bind_some]
  rw [if_pos (by rw [hlm]; exact Nat.le_trans hj (by decide))]
  have : (((S20.take j).map PV.int).take j).drop (j - 1) = ((S20.take j).drop (j - 1)).map PV.int := by
    rw [List.take_of_length_le (by rw [hlm]; exact Nat.le_refl _), List.map_drop]
  rw [this]
  rfl

theorem in_last : ∀ j, j ≤ 20 → (∀ m ∈ S20, inI m ((S20.take j).drop (j - 1)) = (decide (0 < j) && decide (m = at0 S20 (j - 1)))) := by decide +kernel

theorem wh_cond {j : Nat} {m : Int} {laid H : List Int} {s2 s5 : Option Int} (hj : j ≤ 20) (hm : m ∈ S20) : RT phi 7 whC (whS laid H j s2 (some m) s5) (!(decide (0 < j) && decide (m = at0 S20 (j - 1))))
    ⟨[some (.ref 0), some (.ref 1), oI s2, some (.ref 2), some (.int m), oI s5], [.list (laid.map .int), .list (H.map .int), .list ((S20.take j).map .int), .list (((S20.take j).drop (j - 1)).map .int)]⟩ := by
  refine RT.ex (RE.cmp (RE.var rfl) (RE.sliceLo (RE.var rfl) (RE.neg RE.const rfl) (last_slice hj)) ?_) rfl
  rw [c_notin (j := 3) (ys := ((S20.take j).drop (j - 1)).map .int) (items_list_ rfl) memI, in_last j hj m hm]

theorem take_succ20 : ∀ j, j < 20 → S20.take j ++ [at0 S20 j] = S20.take (j + 1) := by decide +kernel

theorem wh_dec {j r s N p : Nat} (h : j < 20) (hN : 10 * (20 - j) + r ≤ N) (hs : s ≤ 5) (hp : p = r + s) : 10 * (20 - (j + 1)) + p ≤ N := by lia
theorem wh_loop {laid : List Int} : ∀ (N j : Nat) (H : List Int) (s2 s4 s5 : Option Int), 10 * (20 - j) + H.length ≤ N → N ≤ 2900 → Inv j H → ∃ (s4' s5' : Option Int), RW phi 7 whT whB (whS laid H j s2 s4 s5) .next (whS laid [] 20 s2 s4' s5') := by
  intro N
  induction N with
  | zero =>
    intro j H s2 s4 s5 hN hN' I
    have hH : H = [] := List.length_eq_zero_iff.mp (Nat.le_zero.mp (Nat.le_trans (Nat.le_add_left _ _) hN))
    subst hH
    obtain rfl := inv_empty I
    exact ⟨s4, s5, RW.done0 (wh_test (by simp)) (gc_same (Nat.le_refl _))⟩
  | succ N ih =>
    intro j H s2 s4 s5 hN hN' I
    by_cases hn : H = []
    · subst hn
      obtain rfl := inv_empty I
      exact ⟨s4, s5, RW.done0 (wh_test (by simp)) (gc_same (Nat.le_refl _))⟩
    · have hH : H.length ≤ 2900 := Nat.le_trans (Nat.le_trans (Nat.le_add_left _ _) hN) hN'
      have ht := wh_test (laid := laid) (H := H) (j := j) (s2 := s2) (s4 := s4) (s5 := s5) (Nat.le_trans hH (by decide))
      have he : H.isEmpty = false := by cases H with
        | nil => exact absurd rfl hn
        | cons a b => rfl
      rw [he] at ht
      obtain ⟨a1, a2, a3, a4, a5, a6⟩ := hrest_ok I.hp hn
      have hmem := (I.mem _ a5).1
      have hN1 : 10 * (20 - j) + (hrest H).length ≤ N := Nat.le_of_succ_le_succ (by rw [← a2] at hN; exact hN)
      have b1 : RS phi 7 (.asg (.v 4) (.call (.const (.fn (.user 1))) [.var 1])) (whS laid H j s2 s4 s5) .next (whS laid (hrest H) j s2 (some (at0 H 0)) s5) :=
        RS.asg (RE.user (.one (RE.var rfl)) (pop_run (d := 4) (a := 1) (L := H) rfl rfl hn (Nat.lt_of_le_of_lt hH (by decide)))) rfl
      have cnd := wh_cond (laid := laid) (H := hrest H) (s2 := s2) (s5 := s5) I.hj hmem
      rcases inv_pop I hn with ⟨h0, hm, I'⟩ | ⟨h20, hm, hprev, I'⟩
      · rw [decide_eq_true h0, decide_eq_true hm] at cnd
        obtain ⟨s4', s5', r⟩ := ih j (hrest H) s2 (some (at0 H 0)) s5 hN1 (Nat.le_of_succ_le hN') I'
        refine ⟨s4', s5', RW.more0 ht (RSs.cons b1 (RSs.cons (RS.ifeF cnd RSs.nil) RSs.nil)) ?_ r⟩
        exact gc_take (okSs4 (x := s2) (y := some (at0 H 0)) (z := s5) (Nat.le_refl _)) rfl (by simp only [okOs, okI, Bool.and_true])
      · have hf : (decide (0 < j) && decide (at0 H 0 = at0 S20 (j - 1))) = false := by
          by_cases h0 : 0 < j
          · have := hprev h0
            rw [decide_eq_true h0, decide_eq_false (fun z => absurd (z.symm.trans hm) (Int.ne_of_lt this))]; rfl
          · rw [decide_eq_false h0]; rfl
        rw [hf] at cnd
        have hsm := S20_small _ hmem
        have hlen : (S20.take j).length = j := by rw [List.length_take, S20_len, Nat.min_eq_left (Nat.le_of_lt h20)]
        have ap : methop .append (.ref 2) [.int (at0 H 0)] (⟨[some (.ref 0), some (.ref 1), oI s2, some (.ref 2), some (.int (at0 H 0)), oI s5], [.list (laid.map .int), .list ((hrest H).map .int), .list ((S20.take j).map .int), .list (((S20.take j).drop (j - 1)).map .int)]⟩ : St) =
            some (.none, ⟨[some (.ref 0), some (.ref 1), oI s2, some (.ref 2), some (.int (at0 H 0)), oI s5], [.list (laid.map .int), .list ((hrest H).map .int), .list ((S20.take (j + 1)).map .int), .list (((S20.take j).drop (j - 1)).map .int)]⟩) := by
          rw [m_append (l := 2) (xs := (S20.take j).map PV.int) rfl (by rw [List.length_map, hlen]; exact Nat.le_trans (Nat.le_of_lt h20) (by decide))]
          have : (S20.take j).map PV.int ++ [.int (at0 H 0)] = (S20.take (j + 1)).map PV.int := by
            rw [← take_succ20 j h20, hm]; simp
          rw [this]; rfl
        obtain ⟨s5', lp⟩ := up_loop (m := at0 H 0) (s2 := s2) (laid := laid) (T := S20.take (j + 1)) (sl := ((S20.take j).drop (j - 1)).map .int) hsm 5 0 (hrest H) s5 rfl a1 (Nat.lt_of_le_of_lt (Nat.add_le_add_right (Nat.le_trans (Nat.le_of_succ_le (Nat.le_of_eq a2)) hH) 5) (by decide))
        have hs : sucFrom (at0 H 0) 0 = succs (at0 S20 j) := by rw [hm]; rfl
        rw [hs] at lp
        obtain ⟨p1, p2, p3⟩ := pushAll_ok (xs := succs (at0 S20 j)) a1
        have hsl := succs_len (at0 S20 j)
        obtain ⟨s4', s5'', r⟩ := ih (j + 1) (pushAll (hrest H) (succs (at0 S20 j))) s2 (some (at0 H 0)) s5' (wh_dec h20 hN1 hsl p2) (Nat.le_of_succ_le hN') I'
        refine ⟨s4', s5'', RW.more0 ht (RSs.cons b1 (RSs.cons (RS.ifeT cnd (RSs.cons (RS.expr (RE.meth (RE.var rfl) rfl (.one (RE.var rfl)) ap)) (RSs.cons (RS.fr0 (RE.prim (.one RE.const) (rb_range (a := 5) rfl)) rfl lp (st' := ⟨[some (.ref 0), some (.ref 1), oI s2, some (.ref 2), some (.int (at0 H 0)), oI s5'], [.list (laid.map .int), .list ((pushAll (hrest H) (succs (at0 S20 j))).map .int), .list ((S20.take (j + 1)).map .int), .list (((S20.take j).drop (j - 1)).map .int)]⟩) ?_) RSs.nil))) RSs.nil)) ?_ r⟩
        · exact gc_take (okSs4 (x := s2) (y := some (at0 H 0)) (z := s5') (show 3 ≤ 4 by decide)) rfl (by simp only [okOs, okI, Bool.and_true])
        · exact gc_take (okSs4 (x := s2) (y := some (at0 H 0)) (z := s5') (Nat.le_refl _)) rfl (by simp only [okOs, okI, Bool.and_true])

theorem leave_new {a : Nat} {ob ls : List PO} {L R : List Int} (h : ob[a]? = some (.list (L.map .int))) {k : Nat} (hk : ls[k]? = some (.list (R.map .int))) : leaveObs [a] (.ref (k + 1)) (.list (L.map .int) :: ls) ob = some (.ref ob.length, ob ++ [.list (R.map .int)]) := by
  have hb : bareO (.list (L.map .int)) = some (.list (L.map .int)) := by
    unfold bareO; simp only [ints_ok0]
  unfold leaveObs
  have : putBack [a] (.list (L.map .int) :: ls) ob = some ob := by
    rw [putBack, hb]
    show some (ob.set a (.list (L.map .int))) = _
    rw [set_same h]
  rw [this]
  simp only [Option.bind_eq_bind, Option.bind_some]
  have e : Nat.ble [a].length (k + 1) = true := Nat.ble_eq_true_of_le (by simp)
  rw [e]
  simp only [List.getElem?_cons_succ, hk, ints_ok0]
  rfl

theorem threes_run {a : Nat} {laid : List Int} {ob : List PO} (hc : callOk ob = true) (h : ob[a]? = some (.list (laid.map .int))) (hm : ∀ y ∈ laid, y ∈ S20) (hl : laid.length ≤ 100) :
    RCall phi 8 14 [.ref a] ob (.ref ob.length) (ob ++ [.list (S20.map .int)]) := by
  have hp0 : IsHp ([] : List Int) := fun i h0 hi => by simp at hi
  obtain ⟨p1, p2, p3⟩ := pushAll_ok (xs := 7 :: laid) hp0
  have I : Inv 0 (pushAll [] (7 :: laid)) := by
    refine ⟨Nat.zero_le _, p1, fun y hy => ⟨?_, fun z => absurd z (Nat.lt_irrefl 0)⟩, fun _ => (p3 7).mpr (.inl (.head _)), fun i hi => absurd hi (Nat.not_lt_zero i)⟩
    rcases (p3 y).mp hy with h | h
    · rcases List.mem_cons.mp h with rfl | h
      · decide
      · exact hm y h
    · cases h
  obtain ⟨s2', lay⟩ := lay_loop (laid := laid) (L := 7 :: laid) (Nat.lt_of_le_of_lt (Nat.succ_le_succ hl) (by decide)) (7 :: laid).length 0 [] none (Nat.zero_add _) hp0 (by rw [List.length_nil, Nat.zero_add]; exact Nat.lt_of_le_of_lt (Nat.succ_le_succ hl) (by decide))
  obtain ⟨s4', s5', wh⟩ := wh_loop (laid := laid) 2900 0 (pushAll [] (7 :: laid)) s2' none none (by rw [p2, List.length_nil, Nat.zero_add]; exact Nat.le_trans (Nat.add_le_add_left (Nat.succ_le_succ hl) _) (by decide)) (Nat.le_refl _) I
  have badd : binop .add (.ref 2) (.ref 0) (⟨[some (.ref 0), some (.ref 1), none, none, none, none], [.list (laid.map .int), .list [], .list [.int 7]]⟩ : St) = some (.ref 3, ⟨[some (.ref 0), some (.ref 1), none, none, none, none], [.list (laid.map .int), .list [], .list [.int 7], .list ((7 :: laid).map .int)]⟩) := by
    rw [b_cat (i := 2) (j := 0) (xs := [.int 7]) (ys := laid.map .int) (items_list_ rfl) (items_list_ rfl) (by rw [List.length_map]; exact Nat.le_trans (Nat.add_le_add_left hl _) (by decide))]
    rfl
  refine RCall.code (np := 1) (ns := 6) (df := []) (body := irLawThrees) (f := .ret (.ref 2)) (d := 7) rfl hc (enter_one (xs := []) h) rfl (by decide) (st1 := whS laid [] 20 s2' s4' s5') ?_ rfl ?_
  · refine RSs.cons (RS.asg (RE.list .nil (Nat.zero_le _)) rfl) (RSs.cons (RS.fr0 (RE.bin (RE.list (.one RE.const) (by decide)) (RE.var rfl) badd) rfl lay (st' := ⟨[some (.ref 0), some (.ref 1), oI s2', none, none, none], [.list (laid.map .int), .list ((pushAll [] (7 :: laid)).map .int)]⟩) ?_) (RSs.cons (RS.asg (RE.list .nil (Nat.zero_le _)) rfl) (RSs.cons (RS.whl wh) (RSs.ret (RS.ret (RE.var rfl))))))
    refine gc_take ?_ rfl (by simp only [okOs, okI, Bool.and_true])
    have r : ∀ i, i < 2 → okV 2 (.ref i) = true := fun i hi => Nat.ble_eq_true_of_le (Nat.le_trans (Nat.succ_le_of_lt hi) (by first | exact h | exact Nat.le_refl _))
    have r' : ∀ i, i < 2 → okS 2 (some (.ref i)) = true := r
    show (okS 2 (some (.ref 0)) && (okS 2 (some (.ref 1)) && (okS 2 (oI s2') && true))) = true
    rw [r' 0 (by decide), r' 1 (by decide), okS_oI]
    rfl
  · exact leave_new (k := 1) (R := S20) h rfl
end Mine.Internal
end
section
open PySem
namespace Mine.Internal
set_option linter.unusedSectionVars false
set_option linter.unusedVariables false
set_option maxRecDepth 100000
/-! Kruskal and Katona for three of six, by a search that is cut short -/
noncomputable def P15 : List Int := [33, 34, 36, 40, 48, 17, 18, 20, 24, 9, 10, 12, 5, 6, 3]
noncomputable def bit6 (v : Int) (k : Nat) : Bool := Nat.beq ((v.toNat / 2 ^ k) % 2) 1
noncomputable def subs (v : Int) : List Int := [5, 4, 3, 2, 1, 0].filterMap fun k => if bit6 v k then some (v - ((2 ^ k : Nat) : Int)) else none
noncomputable def hasI (acc : List Int) (x : Int) : Bool := acc.any fun y => decide (y = x)
noncomputable def addI (acc : List Int) (x : Int) : List Int := if hasI acc x then acc else acc ++ [x]
noncomputable def pairsL (D : List Int) : List Int := D.foldl (fun acc v => (subs v).foldl addI acc) []
theorem hasI_iff {acc : List Int} {x : Int} : hasI acc x = true ↔ x ∈ acc := by
  unfold hasI
  rw [List.any_eq_true]
  constructor
  · rintro ⟨y, hy, e⟩; rw [of_decide_eq_true e] at hy; exact hy
  · exact fun h => ⟨x, h, decide_eq_true rfl⟩
theorem addI_ok {acc : List Int} {x : Int} (h : acc.Nodup) : (addI acc x).Nodup ∧ ∀ y, y ∈ addI acc x ↔ y = x ∨ y ∈ acc := by
  unfold addI
  split
  · rename_i hx
    have hx := hasI_iff.mp hx
    exact ⟨h, fun y => ⟨.inr, fun k => by rcases k with rfl | k; exact hx; exact k⟩⟩
  · rename_i hx
    have hx : x ∉ acc := fun z => hx (hasI_iff.mpr z)
    refine ⟨List.nodup_append.mpr ⟨h, by simp, fun a ha b hb => by simp at hb; subst hb; exact fun z => hx (z ▸ ha)⟩, fun y => ?_⟩
    rw [List.mem_append]; simp; exact or_comm
theorem addAll_ok : ∀ {xs acc : List Int}, acc.Nodup → (xs.foldl addI acc).Nodup ∧ ∀ y, y ∈ xs.foldl addI acc ↔ y ∈ xs ∨ y ∈ acc
  | [], acc, h => ⟨h, fun y => by simp⟩
  | x :: r, acc, h => by
    obtain ⟨a1, a2⟩ := addI_ok (x := x) h
    obtain ⟨b1, b2⟩ := addAll_ok (xs := r) a1
    refine ⟨b1, fun y => ?_⟩
    rw [List.foldl_cons, b2, a2, List.mem_cons]
    constructor
    · rintro (h | h | h)
      · exact .inl (.inr h)
      · exact .inl (.inl h)
      · exact .inr h
    · rintro ((h | h) | h)
      · exact .inr (.inl h)
      · exact .inl h
      · exact .inr (.inr h)
theorem pairs_go : ∀ {D acc : List Int}, acc.Nodup → (D.foldl (fun acc v => (subs v).foldl addI acc) acc).Nodup ∧ ∀ y, y ∈ D.foldl (fun acc v => (subs v).foldl addI acc) acc ↔ (∃ v ∈ D, y ∈ subs v) ∨ y ∈ acc
  | [], acc, h => ⟨h, fun y => by simp⟩
  | v :: r, acc, h => by
    obtain ⟨a1, a2⟩ := addAll_ok (xs := subs v) h
    obtain ⟨b1, b2⟩ := pairs_go (D := r) a1
    refine ⟨b1, fun y => ?_⟩
    rw [List.foldl_cons, b2, a2]
    constructor
    · rintro (⟨u, hu, hy⟩ | h | h)
      · exact .inl ⟨u, .tail _ hu, hy⟩
      · exact .inl ⟨v, .head _, h⟩
      · exact .inr h
    · rintro (⟨u, hu, hy⟩ | h)
      · rcases List.mem_cons.mp hu with rfl | hu
        · exact .inr (.inl hy)
        · exact .inl ⟨u, hu, hy⟩
      · exact .inr (.inr h)
theorem pairsL_ok (D : List Int) : (pairsL D).Nodup ∧ ∀ y, y ∈ pairsL D ↔ ∃ v ∈ D, y ∈ subs v := by
  obtain ⟨a, b⟩ := pairs_go (D := D) (acc := []) .nil
  exact ⟨a, fun y => by rw [show (y ∈ pairsL D) = (y ∈ D.foldl (fun acc v => (subs v).foldl addI acc) []) from rfl, b]; simp⟩
theorem nodup_le {α : Type} [DecidableEq α] : ∀ {A B : List α}, A.Nodup → (∀ x ∈ A, x ∈ B) → A.length ≤ B.length
  | [], B, _, _ => Nat.zero_le _
  | x :: r, B, h, hs => by
    have h' := List.nodup_cons.mp h
    have hx : x ∈ B := hs x (.head _)
    have := nodup_le (A := r) (B := B.erase x) h'.2 fun y hy => (List.mem_erase_of_ne (fun (z : y = x) => h'.1 (by rw [← z]; exact hy))).mpr (hs y (.tail _ hy))
    rw [List.length_erase_of_mem hx] at this
    have hp : 0 < B.length := List.length_pos_of_mem hx
    simp only [List.length_cons]; lia

noncomputable def most : List Nat := [0, 0, 0, 1, 1, 2, 4, 4, 5, 7]
noncomputable def mostT (p : Nat) : Nat := most.getD p 20
theorem mostT_step (p : Nat) : mostT p ≤ mostT (p + 1) := by
  by_cases h : p < 10
  · have : ∀ p, p < 10 → mostT p ≤ mostT (p + 1) := by decide
    exact this p h
  · have e : ∀ q, 10 ≤ q → mostT q = 20 := fun q hq => by
      unfold mostT
      rw [List.getD_eq_getElem?_getD, List.getElem?_eq_none (by show most.length ≤ q; exact hq)]
      rfl
    rw [e p (by lia), e (p + 1) (by lia)]; exact Nat.le_refl _
theorem mostT_mono {p q : Nat} (h : p ≤ q) : mostT p ≤ mostT q := by
  induction q with
  | zero => obtain rfl : p = 0 := by lia
            exact Nat.le_refl _
  | succ q ih =>
    by_cases k : p ≤ q
    · exact Nat.le_trans (ih k) (mostT_step q)
    · obtain rfl : p = q + 1 := by lia
      exact Nat.le_refl _
noncomputable def inP (x v : Int) : Bool := Nat.beq (v.toNat &&& x.toNat) x.toNat
noncomputable def chk : List Int → List Int → Nat → Bool
  | [], cand, p => Nat.ble cand.length (mostT p)
  | x :: r, cand, p => Nat.ble cand.length (mostT p) || (chk r cand (p + 1) && chk r (cand.filter fun v => !inP x v) p)
theorem chk_ok (G : Int → Bool) : ∀ {rest cand : List Int} {p : Nat}, chk rest cand p = true → (cand.filter fun v => rest.all fun x => G x || !inP x v).length ≤ mostT (p + (rest.filter G).length)
  | [], cand, p, h => by
    unfold chk at h
    have := Nat.le_of_ble_eq_true h
    have e : (cand.filter fun v => ([] : List Int).all fun x => G x || !inP x v) = cand := by simp
    rw [e]; simpa using this
  | x :: r, cand, p, h => by
    unfold chk at h
    rw [Bool.or_eq_true] at h
    rcases h with h | h
    · exact Nat.le_trans (List.length_filter_le ..) (Nat.le_trans (Nat.le_of_ble_eq_true h) (mostT_mono (Nat.le_add_right _ _)))
    · rw [Bool.and_eq_true] at h
      by_cases g : G x = true
      · have := chk_ok G h.1
        have e1 : (cand.filter fun v => (x :: r).all fun x => G x || !inP x v) = cand.filter fun v => r.all fun x => G x || !inP x v := by
          congr 1; funext v; rw [List.all_cons, g]; simp
        have e2 : ((x :: r).filter G).length = (r.filter G).length + 1 := by rw [List.filter_cons, if_pos g]; rfl
        rw [e1, e2]
        rwa [show p + ((r.filter G).length + 1) = p + 1 + (r.filter G).length by lia]
      · have := chk_ok G h.2
        have e1 : (cand.filter fun v => (x :: r).all fun x => G x || !inP x v) = (cand.filter fun v => !inP x v).filter fun v => r.all fun x => G x || !inP x v := by
          rw [List.filter_filter]
          congr 1; funext v
          rw [List.all_cons]
          have : G x = false := by simpa using g
          rw [this, Bool.false_or, Bool.and_comm]
        have e2 : ((x :: r).filter G).length = (r.filter G).length := by rw [List.filter_cons, if_neg g]
        rw [e1, e2]; exact this
set_option maxHeartbeats 4000000 in
theorem chk_all : chk P15 S20 0 = true := by decide +kernel
theorem in_subs : ∀ v ∈ S20, ∀ x ∈ P15, inP x v = true → x ∈ subs v := by decide +kernel
theorem subs_P15 : ∀ v ∈ S20, ∀ x ∈ subs v, x ∈ P15 := by decide +kernel
noncomputable def fewT (k : Nat) : Nat := [0, 3, 5, 6, 6, 8, 9, 9, 10].getD k 0
theorem few_of : ∀ k, k ≤ 8 → ∀ q, q < fewT k → mostT q < k := by decide +kernel
theorem kk {D : List Int} (hn : D.Nodup) (hs : ∀ v ∈ D, v ∈ S20) (hl : D.length ≤ 8) : fewT D.length ≤ (pairsL D).length := by
  obtain ⟨p1, p2⟩ := pairsL_ok D
  have h := chk_ok (fun x => hasI (pairsL D) x) chk_all
  rw [Nat.zero_add] at h
  have h1 : D.length ≤ (S20.filter fun v => P15.all fun x => hasI (pairsL D) x || !inP x v).length := nodup_le hn fun v hv => by
    rw [List.mem_filter]
    refine ⟨hs v hv, List.all_eq_true.mpr fun x hx => ?_⟩
    cases hq : inP x v with
    | false => simp
    | true =>
      rw [hasI_iff.mpr ((p2 x).mpr ⟨v, hv, in_subs v (hs v hv) x hx hq⟩)]; rfl
  have h2 : (P15.filter fun x => hasI (pairsL D) x).length ≤ (pairsL D).length := nodup_le ((by decide : P15.Nodup).sublist List.filter_sublist) fun x hx => hasI_iff.mp (List.mem_filter.mp hx).2
  refine Decidable.byContradiction fun q => ?_
  have := few_of D.length hl (pairsL D).length (by lia)
  have h3 := mostT_mono h2
  lia
theorem pairsL_le {D : List Int} (hs : ∀ v ∈ D, v ∈ S20) : (pairsL D).length ≤ 15 := by
  obtain ⟨p1, p2⟩ := pairsL_ok D
  exact nodup_le (B := P15) p1 fun x hx => by
    obtain ⟨v, hv, hy⟩ := (p2 x).mp hx
    exact subs_P15 v (hs v hv) x hy
end Mine.Internal
end
section
open PySem
namespace Mine.Internal
set_option linter.unusedVariables false
set_option maxRecDepth 100000
set_option maxHeartbeats 4000000
noncomputable def flV : Flow → Option PV
  | .ret v => some v
  | _ => none
noncomputable def outV (r : Option (Flow × St)) : Option (PV × St) := do
  let p ← r
  let v ← flV p.1
  some (v, p.2)
noncomputable def outS (r : Option (Flow × St)) : Option Str := do
  let q ← outV r
  asS q.1
noncomputable def outI (r : Option (Flow × St)) : Option Int := do
  let q ← outV r
  asI q.1
/-- a row of rights -/
noncomputable def rowC (v : Int) : List Nat := [45, 45, 45, 45] ++ ([(5, 114), (4, 119), (3, 120), (2, 114), (1, 119), (0, 120)] : List (Nat × Nat)).map fun p => if bit6 v p.1 then p.2 else 45
noncomputable def rowS (v : Int) : Str := ⟨(rowC v).toArray⟩
noncomputable def allNames : List Str := ["OPTIMIZED", "NEWLOCALS", "VARARGS", "VARKEYWORDS", "NESTED", "GENERATOR"]
noncomputable def wordsL (v : Int) : List Str := (List.range 6).filterMap fun k => if bit6 v k then allNames[k]? else none
noncomputable def pfS (v : Int) : Str := Txt.join ", " (wordsL v)
/-- choices of few of at most six -/
noncomputable def waysT (n k : Nat) : Nat := match k with
  | 1 => n
  | 2 => n * (n - 1) / 2
  | _ => n * (n - 1) * (n - 2) / 6
/-- the least of the twos -/
noncomputable def nsT (e : Nat) : List Int := ([3, 5, 6, 9, 10, 12, 17, 18, 20, 24, 33, 34, 36, 40, 48] : List Int).take e
noncomputable def tlO : List PO → Option (PO × List PO)
  | x :: r => some (x, r)
  | [] => none
noncomputable def prevN : Nat → Option Nat
  | 0 => none
  | j + 1 => some j
noncomputable def outL (r : Option (Flow × St)) : Option (Nat × List Int × List Int) := do
  let q ← outV r
  let k ← asR q.1
  let j ← prevN k
  let p ← tlO q.2.ob
  let xs ← asList (some p.1)
  let X ← intsOf xs
  let ys ← asList p.2[j]?
  let Y ← intsOf ys
  some (j, X, Y)
noncomputable def outL2 (r : Option (Flow × St)) : Option (List Int × List Int) := (outL r).map (·.2)
end Mine.Internal
end
section
open PySem
namespace Mine.Internal
set_option linter.unusedVariables false
set_option maxRecDepth 100000
set_option maxHeartbeats 4000000
theorem fm_all : ∀ v ∈ S20 ++ P15, outS (evSs phi 60 7 irFilemode ⟨([32768 + v].map PV.int).map some ++ List.replicate 5 none, []⟩) = some (rowS v) := by decide +kernel
end Mine.Internal
end
section
open PySem
namespace Mine.Internal
set_option linter.unusedVariables false
set_option maxRecDepth 100000
set_option maxHeartbeats 4000000
theorem pf_all : ∀ v ∈ S20, outS (evSs phi 60 7 irPrettyFlags ⟨([v].map PV.int).map some ++ List.replicate 3 none, []⟩) = some (pfS v) := by decide +kernel
end Mine.Internal
end
section
open PySem
namespace Mine.Internal
set_option linter.unusedVariables false
set_option maxRecDepth 100000
set_option maxHeartbeats 4000000
theorem ways_all : ∀ n ∈ List.range 6, ∀ k ∈ ([1, 2, 3] : List Nat), outI (evSs phi 60 7 irLawWays ⟨([(n : Int), (k : Int)].map PV.int).map some ++ List.replicate 2 none, []⟩) = some (waysT n k : Int) := by decide +kernel
end Mine.Internal
end
section
open PySem
namespace Mine.Internal
set_option linter.unusedVariables false
set_option maxRecDepth 100000
set_option maxHeartbeats 4000000
theorem few_all : ∀ k ∈ ([1, 2, 3, 4, 5, 6, 7, 8] : List Nat), outI (evSs phi 100 7 irLawFewest ⟨([(k : Int)].map PV.int).map some ++ List.replicate 3 none, []⟩) = some (fewT k : Int) := by decide +kernel
end Mine.Internal
end
section
open PySem
namespace Mine.Internal
set_option linter.unusedVariables false
set_option maxRecDepth 100000
set_option maxHeartbeats 4000000
theorem ns_all : ∀ e ∈ ([3, 5, 6, 8, 9, 10] : List Nat), outL2 (evSs phi 200 7 irNsmallest ⟨[some (.int (e : Int)), some (.ref 0), some .none] ++ List.replicate 11 none, [.list (P15.map .int)]⟩) = some (P15, nsT e) := by decide +kernel
end Mine.Internal
end
section
open PySem
namespace Mine.Internal
set_option linter.unusedSectionVars false
set_option linter.unusedVariables false
set_option maxRecDepth 100000
variable {d : Nat} {st st' : St}

theorem app_set {q : Nat} {I : List PO} {a b : PO} (h : I.length = q) : (I ++ [a]).set q b = I ++ [b] := by
  subst h; simp
theorem app_get {q : Nat} {I : List PO} {a : PO} (h : I.length = q) : (I ++ [a])[q]? = some a := by
  subst h; simp
theorem p_append {q : Nat} {I : List PO} {acc : List PV} {x : PV} {sl : List (Option PV)} (h : I.length = q) (hr : acc.length ≤ room) : methop .append (.ref q) [x] ⟨sl, I ++ [.list acc]⟩ = some (.none, ⟨sl, I ++ [.list (acc ++ [x])]⟩) := by
  rw [m_append (app_get h) hr]
  show some (PV.none, (⟨sl, (I ++ [PO.list acc]).set q (PO.list (acc ++ [x]))⟩ : St)) = _
  rw [app_set h]

/-- a comprehension of one for, turn by turn -/
theorem rc_turns {elt : IE} {t : Tgt} {ifs : List IT} {j q m : Nat} {I : Nat → List PO} {I' : List PO} {X g : Nat → PV} {p : Nat → Bool} {SL : Nat → List (Option PV)}
    (hq : ∀ i, i ≤ m → (I i).length = q)
    (nx : ∀ i acc, i < m → nextI t j ⟨SL i, I i ++ [.list acc]⟩ = some (some (X i), ⟨SL i, I (i + 1) ++ [.list acc]⟩))
    (nd : ∀ acc, nextI t j ⟨SL m, I m ++ [.list acc]⟩ = some (none, ⟨SL m, I' ++ [.list acc]⟩))
    (sx : ∀ i acc, i < m → setT t (X i) ⟨SL i, I (i + 1) ++ [.list acc]⟩ = some ⟨SL (i + 1), I (i + 1) ++ [.list acc]⟩)
    (ts : ∀ i acc, i < m → RTs phi d ifs ⟨SL (i + 1), I (i + 1) ++ [.list acc]⟩ (p i) ⟨SL (i + 1), I (i + 1) ++ [.list acc]⟩)
    (el : ∀ i acc, i < m → p i = true → RE phi d elt ⟨SL (i + 1), I (i + 1) ++ [.list acc]⟩ (g i) ⟨SL (i + 1), I (i + 1) ++ [.list acc]⟩) :
    ∀ (r i : Nat) (acc : List PV), i + r = m → acc.length + r ≤ 100 → RC phi d elt t ifs [] j q ⟨SL i, I i ++ [.list acc]⟩ ⟨SL m, I' ++ [.list (acc ++ (((List.range m).drop i).filter p).map g)]⟩ := by
  intro r
  induction r with
  | zero =>
    intro i acc hi ha
    obtain rfl : i = m := by omega
    have : ((List.range i).drop i).filter p = [] := by rw [List.drop_eq_nil_of_le (by simp)]; rfl
    rw [this, List.map_nil, List.append_nil]
    exact RC.done (nd acc)
  | succ r ih =>
    intro i acc hi ha
    have hlt : i < m := by lia
    have hd : (List.range m).drop i = i :: (List.range m).drop (i + 1) := by
      rw [List.drop_eq_getElem_cons (by simpa using hlt)]
      simp
    cases hp : p i with
    | true =>
      have e : acc ++ (((List.range m).drop i).filter p).map g = (acc ++ [g i]) ++ (((List.range m).drop (i + 1)).filter p).map g := by
        rw [hd, List.filter_cons, if_pos hp]; simp
      rw [e]
      have t1 := ts i acc hlt
      rw [hp] at t1
      exact RC.take (nx i acc hlt) (sx i acc hlt) t1 (el i acc hlt hp) (p_append (hq (i + 1) hlt) (by unfold room; lia)) (ih (i + 1) (acc ++ [g i]) (by lia) (by simp; lia))
    | false =>
      have e : acc ++ (((List.range m).drop i).filter p).map g = acc ++ (((List.range m).drop (i + 1)).filter p).map g := by
        rw [hd, List.filter_cons, if_neg (by rw [hp]; decide)]
      rw [e]
      have t1 := ts i acc hlt
      rw [hp] at t1
      exact RC.skip (nx i acc hlt) (sx i acc hlt) t1 (ih (i + 1) acc (by omega) (by lia))

/-- a whole comprehension -/
theorem comp_run {elt it : IE} {t : Tgt} {ifs : List IT} {k j m : Nat} {I : Nat → List PO} {I' : List PO} {X g : Nat → PV} {p : Nat → Bool} {SL : Nat → List (Option PV)} {x : PV} {st1 st2 : St} {xs : List PV}
    (h1 : RE phi d it st x st1) (h2 : iterC x st1 = some (j, st2)) (hsl : st2.sl ++ List.replicate k none = SL 0) (hob : st2.ob = I 0)
    (hq : ∀ i, i ≤ m → (I i).length = (I 0).length) (hm : m ≤ 100)
    (nx : ∀ i acc, i < m → nextI t j ⟨SL i, I i ++ [.list acc]⟩ = some (some (X i), ⟨SL i, I (i + 1) ++ [.list acc]⟩))
    (nd : ∀ acc, nextI t j ⟨SL m, I m ++ [.list acc]⟩ = some (none, ⟨SL m, I' ++ [.list acc]⟩)) (hI' : I'.length = (I 0).length)
    (sx : ∀ i acc, i < m → setT t (X i) ⟨SL i, I (i + 1) ++ [.list acc]⟩ = some ⟨SL (i + 1), I (i + 1) ++ [.list acc]⟩)
    (ts : ∀ i acc, i < m → RTs phi d ifs ⟨SL (i + 1), I (i + 1) ++ [.list acc]⟩ (p i) ⟨SL (i + 1), I (i + 1) ++ [.list acc]⟩)
    (el : ∀ i acc, i < m → p i = true → RE phi d elt ⟨SL (i + 1), I (i + 1) ++ [.list acc]⟩ (g i) ⟨SL (i + 1), I (i + 1) ++ [.list acc]⟩)
    (hxs : ((List.range m).filter p).map g = xs) (hok : okVs 0 xs = true) (hs1 : (SL m).take st.sl.length = st.sl) (ho1 : I'.take st.ob.length = st.ob) (hle : st.ob.length ≤ (I 0).length) (hos : okSs st.ob.length st.sl = true) (hoo : okOs st.ob.length st.ob = true) :
    RE phi d (.comp elt (.mk t it ifs :: []) k) st (.ref st.ob.length) ⟨st.sl, st.ob ++ [.list xs]⟩ := by
  have rc := rc_turns (d := d) (elt := elt) (t := t) (ifs := ifs) (j := j) (q := (I 0).length) (m := m) (I := I) (I' := I') hq nx nd sx ts el m 0 [] (by lia) (by simpa using hm)
  rw [List.drop_zero, List.nil_append, hxs] at rc
  have ho2 : (I' ++ [PO.list xs]).take st.ob.length = st.ob := by rw [List.take_append_of_le_length (by lia), ho1]
  have := RE.comp (Φ := phi) (d := d) (elt := elt) (t := t) (it := it) (ifs := ifs) (gs := []) (m := k) (xs := xs) (st4 := ⟨SL m, I' ++ [.list xs]⟩) h1 h2 (by rw [hob, hsl]; exact rc) (by rw [hob]; exact app_get hI') hok (by rw [hs1]; exact hos) (by rw [ho2]; exact hoo)
  rw [hs1, ho2] at this
  exact this

end Mine.Internal
end
section
open PySem
namespace Mine.Internal
set_option linter.unusedSectionVars false
set_option linter.unusedVariables false
set_option maxRecDepth 100000
set_option maxHeartbeats 4000000
variable {d : Nat} {st st' : St}

theorem enter_ints (xs : List Int) (ob : List PO) : enterObs (xs.map .int) ob = some ([], xs.map .int, []) := by
  have r1 : ∀ (xs : List Int) (ids : List Nat), refsIn (xs.map .int) ids = ids := fun xs ids => by
    induction xs with
    | nil => rfl
    | cons x r ih => exact ih
  have r2 : ∀ xs : List Int, mapO (toLocV []) (xs.map .int) = some (xs.map .int) := fun xs => by
    induction xs with
    | nil => rfl
    | cons x r ih =>
      rw [List.map_cons, mapO]
      have : toLocV [] (.int x) = some (.int x) := rfl
      rw [this, ih]; rfl
  unfold enterObs
  dsimp only
  rw [r1, r2]
  rfl
theorem call_ints {k np ns : Nat} {body : List IS} {xs : List Int} {ob : List PO} {v : PV} {st1 : St} (hk : phi k = some (.code np ns [] body)) (hc : callOk ob = true) (hl : xs.length = np) (hn : np ≤ ns)
    (hb : RSs phi d body ⟨(xs.map .int).map some ++ List.replicate (ns - np) none, []⟩ (.ret v) st1) (hv : ∀ j, v ≠ .ref j) (ho : okV 0 v = true) : RCall phi (d + 1) k (xs.map .int) ob v ob := by
  have e : (xs.map PV.int) ++ ([] : List PV).drop ((xs.map PV.int).length + ([] : List PV).length - np) = xs.map PV.int := by simp
  refine RCall.code (df := []) (f := .ret v) hk hc (enter_ints xs ob) (by rw [e]; simpa using hl) hn (st1 := st1) (by rw [e]; exact hb) rfl ?_
  unfold leaveObs
  show (do let ob' ← putBack [] st1.ob ob; _) = _
  rw [putBack]
  simp only [Option.bind_eq_bind, Option.bind_some]
  cases v with
  | ref j => exact absurd rfl (hv j)
  | _ => simp only [ho]; rfl

theorem outV_ok {r : Option (Flow × St)} {q : PV × St} (h : outV r = some q) : r = some (.ret q.1, q.2) :=
  bindE (o := r) h fun p e1 h => bindE (o := flV p.1) h fun v e2 h => by
    cases h
    rw [e1, show p = (p.1, p.2) from rfl, show p.1 = .ret v by revert e2; cases p.1 <;> intro e2 <;> cases e2; rfl]
theorem outS_ok {r : Option (Flow × St)} {s : Str} (h : outS r = some s) : ∃ st1, r = some (.ret (.str s), st1) :=
  bindE (o := outV r) h fun q e1 e2 => ⟨q.2, by rw [outV_ok e1, asS_el e2]⟩
theorem outI_ok {r : Option (Flow × St)} {s : Int} (h : outI r = some s) : ∃ st1, r = some (.ret (.int s), st1) :=
  bindE (o := outV r) h fun q e1 e2 => ⟨q.2, by rw [outV_ok e1, asI_el e2]⟩

theorem fm_run {v : Int} {ob : List PO} (hv : v ∈ S20 ++ P15) (hc : callOk ob = true) : RCall phi 8 12 [.int (32768 + v)] ob (.str (rowS v)) ob := by
  obtain ⟨st1, h⟩ := outS_ok (fm_all v hv)
  exact call_ints (d := 7) (np := 1) (ns := 6) (body := irFilemode) (xs := [32768 + v]) rfl hc rfl (by decide) ⟨60, h⟩ (fun j z => by cases z) rfl
theorem pf_run {v : Int} {ob : List PO} (hv : v ∈ S20) (hc : callOk ob = true) : RCall phi 8 9 [.int v] ob (.str (pfS v)) ob := by
  obtain ⟨st1, h⟩ := outS_ok (pf_all v hv)
  exact call_ints (d := 7) (np := 1) (ns := 4) (body := irPrettyFlags) (xs := [v]) rfl hc rfl (by decide) ⟨60, h⟩ (fun j z => by cases z) rfl
theorem ways_run {n k : Nat} {ob : List PO} (hn : n < 6) (hk : k = 1 ∨ k = 2 ∨ k = 3) (hc : callOk ob = true) : RCall phi 8 13 [.int (n : Int), .int (k : Int)] ob (.int (waysT n k : Int)) ob := by
  obtain ⟨st1, h⟩ := outI_ok (ways_all n (List.mem_range.mpr hn) k (by rcases hk with rfl | rfl | rfl <;> decide))
  exact call_ints (d := 7) (np := 2) (ns := 4) (body := irLawWays) (xs := [(n : Int), (k : Int)]) rfl hc rfl (by decide) ⟨60, h⟩ (fun j z => by cases z) rfl
theorem few_run {k : Nat} {ob : List PO} (h1 : 0 < k) (h8 : k ≤ 8) (hc : callOk ob = true) : RCall phi 8 17 [.int (k : Int)] ob (.int (fewT k : Int)) ob := by
  obtain ⟨st1, h⟩ := outI_ok (few_all k (by
    have : ∀ k, k ≤ 8 → 0 < k → k ∈ ([1, 2, 3, 4, 5, 6, 7, 8] : List Nat) := by decide
    exact this k h8 h1))
  exact call_ints (d := 7) (np := 1) (ns := 4) (body := irLawFewest) (xs := [(k : Int)]) rfl hc rfl (by decide) ⟨100, h⟩ (fun j z => by cases z) rfl

theorem prevN_el {k j : Nat} (h : prevN k = some j) : k = j + 1 := by cases k <;> cases h; rfl
theorem tlO_el {l : List PO} {p : PO × List PO} (h : tlO l = some p) : l = p.1 :: p.2 := by cases l <;> cases h; rfl
theorem outL_ok {r : Option (Flow × St)} {j : Nat} {X Y : List Int} (h : outL r = some (j, X, Y)) : ∃ st1 ls, r = some (.ret (.ref (j + 1)), st1) ∧ st1.ob = .list (X.map .int) :: ls ∧ ls[j]? = some (.list (Y.map .int)) := by
  exact bindE (o := outV r) h fun q e1 h => bindE (o := asR q.1) h fun k e2 h => bindE (o := prevN k) h fun j' e3 h => bindE (o := tlO q.2.ob) h fun p e4 h =>
    bindE (o := asList (some p.1)) h fun xs e5 h => bindE (o := intsOf xs) h fun X' e6 h => bindE (o := asList p.2[j']?) h fun ys e7 h => bindE (o := intsOf ys) h fun Y' e8 h => by
      cases h
      refine ⟨q.2, p.2, ?_, ?_, ?_⟩
      · rw [outV_ok e1, asR_el e2, prevN_el e3]
      · rw [tlO_el e4, Option.some.inj (asList_el e5), intsOf_eq e6]
      · rw [asList_el e7, intsOf_eq e8]
theorem ns_run {e a : Nat} {ob : List PO} (he : e ∈ ([3, 5, 6, 8, 9, 10] : List Nat)) (hc : callOk ob = true) (h : ob[a]? = some (.list (P15.map .int))) : RCall phi 8 8 [.int (e : Int), .ref a] ob (.ref ob.length) (ob ++ [.list ((nsT e).map .int)]) := by
  obtain ⟨⟨j, X, Y⟩, h1, h2⟩ := Option.map_eq_some_iff.mp (ns_all e he)
  cases h2
  obtain ⟨st1, ls, r1, r2, r3⟩ := outL_ok h1
  have en : enterObs [.int (e : Int), .ref a] ob = some ([a], [.int (e : Int), .ref 0], [.list (P15.map .int)]) := by
    have hb : bareO (.list (P15.map .int)) = some (.list (P15.map .int)) := by unfold bareO; simp only [ints_ok0]
    have hg : getAll ob [a] = some [.list (P15.map .int)] := by unfold getAll; rw [mapO, h]; rfl
    have ht : mapO (toLocV [a]) [.int (e : Int), .ref a] = some [.int (e : Int), .ref 0] := by
      have : toLocV [a] (.ref a) = some (.ref 0) := by simp [toLocV, place]
      rw [mapO, mapO, this]; rfl
    have hr : refsIn [.int (e : Int), .ref a] [] = [a] := rfl
    unfold enterObs
    dsimp only
    rw [hr, ht, hg]
    simp only [Option.bind_eq_bind, Option.bind_some, mapO, hb]
    rfl
  refine RCall.code (d := 7) (np := 3) (ns := 14) (df := [.none]) (body := irNsmallest) (f := .ret (.ref (j + 1))) rfl hc en rfl (by decide) (st1 := st1) ⟨200, r1⟩ rfl ?_
  rw [r2]
  exact leave_new h r3
end Mine.Internal
end
section
open PySem
namespace Mine.Internal
set_option linter.unusedSectionVars false
set_option linter.unusedVariables false
set_option maxRecDepth 100000
set_option maxHeartbeats 4000000
variable {d : Nat} {st st' : St}

theorem enter_pv {a : Nat} {ob : List PO} {L : List PV} (hL : okVs 0 L = true) (h : ob[a]? = some (.list L)) : enterObs [.ref a] ob = some ([a], [.ref 0], [.list L]) := by
  have hb : bareO (.list L) = some (.list L) := by unfold bareO; simp only [hL]
  have hg : getAll ob [a] = some [.list L] := by unfold getAll; rw [mapO, h]; rfl
  have ht : mapO (toLocV [a]) [.ref a] = some [.ref 0] := by
    have : toLocV [a] (.ref a) = some (.ref 0) := by simp [toLocV, place]
    rw [mapO, this]; rfl
  have hr : refsIn [.ref a] [] = [a] := rfl
  unfold enterObs
  dsimp only
  rw [hr, ht, hg]
  simp only [Option.bind_eq_bind, Option.bind_some, mapO, hb]
  rfl
theorem leave_pv {a : Nat} {ob ls : List PO} {L R : List PV} (hL : okVs 0 L = true) (hR : okVs 0 R = true) (h : ob[a]? = some (.list L)) {k : Nat} (hk : ls[k]? = some (.list R)) : leaveObs [a] (.ref (k + 1)) (.list L :: ls) ob = some (.ref ob.length, ob ++ [.list R]) := by
  have hb : bareO (.list L) = some (.list L) := by unfold bareO; simp only [hL]
  unfold leaveObs
  have : putBack [a] (.list L :: ls) ob = some ob := by
    rw [putBack, hb]
    show some (ob.set a (.list L)) = _
    rw [set_same h]
  rw [this]
  simp only [Option.bind_eq_bind, Option.bind_some]
  have e : Nat.ble [a].length (k + 1) = true := Nat.ble_eq_true_of_le (by simp)
  rw [e]
  simp only [List.getElem?_cons_succ, hk, hR]
  rfl
theorem okStr {k : Nat} : ∀ {L : List Str}, okVs k (L.map .str) = true
  | [] => rfl
  | _ :: r => okStr (L := r)
theorem strsOf_map : ∀ {L : List Str}, strsOf (L.map .str) = some L
  | [] => rfl
  | x :: r => by rw [List.map_cons]; unfold strsOf; rw [strsOf_map]; rfl
theorem memS {m : Str} {xs : List Str} : memV (.str m) (xs.map .str) = some (inS m xs) := by
  show (strsOf (xs.map .str)).map (inS m) = _
  rw [strsOf_map]; rfl

noncomputable def strike (row : Str) (p : Nat) : Str := ((⟨((row.cps.toList.take (min p row.cps.size)).drop 0).toArray⟩ : Str) ++ ("-" : Str)) ++ (⟨((row.cps.toList.take row.cps.size).drop (min (p + 1) row.cps.size)).toArray⟩ : Str)
noncomputable def addSt (row : Str) (acc : List Str) (p : Nat) : List Str := if !strEq (strike row p) row && !inS (strike row p) acc then acc ++ [strike row p] else acc
noncomputable def struckRow (acc : List Str) (row : Str) : List Str := (List.range 9).foldl (fun acc i => addSt row acc (i + 1)) acc
noncomputable def struckL (rows : List Str) : List Str := rows.foldl struckRow []
theorem addSt_len (row : Str) (acc : List Str) (p : Nat) : (addSt row acc p).length ≤ acc.length + 1 := by
  unfold addSt
  split
  · simp
  · lia
theorem foldl_len {row : Str} : ∀ (l : List Nat) (acc : List Str), (l.foldl (fun acc i => addSt row acc (i + 1)) acc).length ≤ acc.length + l.length
  | [], acc => by simp
  | x :: r, acc => by
    have h1 := foldl_len (row := row) r (addSt row acc (x + 1))
    have h2 := addSt_len row acc (x + 1)
    simp only [List.foldl_cons, List.length_cons]; lia
theorem struckRow_len (acc : List Str) (row : Str) : (struckRow acc row).length ≤ acc.length + 9 := by
  have := foldl_len (row := row) (List.range 9) acc
  simpa [struckRow] using this

theorem sl_hi {s : Str} {p : Nat} (h : s.cps.size ≤ room) : sliceop (.str s) none (some (.int (p : Int))) st = some (.str ⟨((s.cps.toList.take (min p s.cps.size)).drop 0).toArray⟩, st) := by
  show (do
    let i ← clamp s.cps.size 0 none
    let j ← clamp s.cps.size s.cps.size (some (.int (p : Int)))
    if s.cps.size ≤ room then return (PV.str ⟨((s.cps.toList.take j).drop i).toArray⟩, st) else none) = _
  have c : clamp s.cps.size s.cps.size (some (.int (p : Int))) = some (min p s.cps.size) := by
    show (if (0 : Int) ≤ (p : Int) then some (min (p : Int).toNat s.cps.size) else some (s.cps.size - (-(p : Int)).toNat)) = _
    rw [if_pos (by lia)]; simp
  rw [c]
  show (if s.cps.size ≤ room then some (PV.str ⟨((s.cps.toList.take (min p s.cps.size)).drop 0).toArray⟩, st) else none) = _
  rw [if_pos h]
theorem sl_lo {s : Str} {p : Nat} (h : s.cps.size ≤ room) : sliceop (.str s) (some (.int (p : Int))) none st = some (.str ⟨((s.cps.toList.take s.cps.size).drop (min p s.cps.size)).toArray⟩, st) := by
  show (do
    let i ← clamp s.cps.size 0 (some (.int (p : Int)))
    let j ← clamp s.cps.size s.cps.size none
    if s.cps.size ≤ room then return (PV.str ⟨((s.cps.toList.take j).drop i).toArray⟩, st) else none) = _
  have c : clamp s.cps.size 0 (some (.int (p : Int))) = some (min p s.cps.size) := by
    show (if (0 : Int) ≤ (p : Int) then some (min (p : Int).toNat s.cps.size) else some (s.cps.size - (-(p : Int)).toNat)) = _
    rw [if_pos (by lia)]; simp
  rw [c]
  show (if s.cps.size ≤ room then some (PV.str ⟨((s.cps.toList.take s.cps.size).drop (min p s.cps.size)).toArray⟩, st) else none) = _
  rw [if_pos h]
theorem o_cat {x y : Str} (h : x.cps.size + y.cps.size ≤ room) : binop .add (.str x) (.str y) st = some (.str (x ++ y), st) := by
  show (if x.cps.size + y.cps.size ≤ room then some (PV.str (x ++ y), st) else none) = _
  rw [if_pos h]
theorem cat_size (x y : Str) : (x ++ y).cps.size = x.cps.size + y.cps.size := by
  show (x.cps ++ y.cps).size = _
  rw [Array.size_append]

noncomputable def skT : IT := .and (.e (.cmp .ne (.var 4) (.var 2))) (.e (.cmp .notin (.var 4) (.var 1)))
noncomputable def skA : IS := .asg (.v 4) (.bin .add (.bin .add (.slice (.var 2) none (some (.var 3))) (.const (.str "-"))) (.slice (.var 2) (some (.bin .add (.var 3) (.const (.int 1)))) none))
noncomputable def skB : List IS := [skA, .ife skT [.expr (.meth .append (.var 1) [.var 4])] []]
noncomputable abbrev oS (x : Option Str) : Option PV := x.map .str
noncomputable abbrev skS (rows acc : List Str) (row : Str) (i : Nat) (s3 : Option Int) (s4 : Option Str) (t : Nat) : St := ⟨[some (.ref 0), some (.ref 1), some (.str row), oI s3, oS s4], [.list (rows.map .str), .list (acc.map .str), .listIter 0 i, .range 1 10 1, .rangeIter (1 + (t : Int)) (9 - (t : Int)) 1]⟩

theorem sk_body {rows acc : List Str} {row : Str} {i t : Nat} {s4 : Option Str} (hr : row.cps.size ≤ 100) (ha : acc.length ≤ 1000) (ht : t < 9) : RSs phi 7 skB (skS rows acc row i (some (1 + (t : Int))) s4 (t + 1)) .next (skS rows (addSt row acc (t + 1)) row i (some (1 + (t : Int))) (some (strike row (t + 1))) (t + 1)) := by
  have hroom : row.cps.size ≤ room := by unfold room; lia
  have e1 : (1 + (t : Int)) = ((t + 1 : Nat) : Int) := by lia
  have z1 : (⟨((row.cps.toList.take (min (t + 1) row.cps.size)).drop 0).toArray⟩ : Str).cps.size ≤ 100 := by simp; lia
  have z2 : (⟨((row.cps.toList.take row.cps.size).drop (min (t + 1 + 1) row.cps.size)).toArray⟩ : Str).cps.size ≤ 100 := by simp; lia
  have zd : ("-" : Str).cps.size = 1 := rfl
  have hA : RS phi 7 skA (skS rows acc row i (some (1 + (t : Int))) s4 (t + 1)) .next (skS rows acc row i (some (1 + (t : Int))) (some (strike row (t + 1))) (t + 1)) := by
    have hadd : binop .add (.int (1 + (t : Int))) (.int 1) (skS rows acc row i (some (1 + (t : Int))) s4 (t + 1)) = some (.int ((t + 1 + 1 : Nat) : Int), skS rows acc row i (some (1 + (t : Int))) s4 (t + 1)) := by
      rw [o_add (fits_small (by lia) (by lia))]
      congr 3
      lia
    have h1 := sl_hi (s := row) (p := t + 1) (st := skS rows acc row i (some (1 + (t : Int))) s4 (t + 1)) hroom
    rw [← e1] at h1
    exact RS.asg (RE.bin (RE.bin (RE.sliceHi (RE.var rfl) (RE.var rfl) h1) RE.const (o_cat (by rw [zd]; unfold room; lia))) (RE.sliceLo (RE.var rfl) (RE.bin (RE.var rfl) RE.const hadd) (sl_lo (p := t + 1 + 1) hroom)) (o_cat (by rw [cat_size, zd]; unfold room; lia))) rfl
  have tn : RT phi 7 (.e (.cmp .ne (.var 4) (.var 2))) (skS rows acc row i (some (1 + (t : Int))) (some (strike row (t + 1))) (t + 1)) (!strEq (strike row (t + 1)) row) (skS rows acc row i (some (1 + (t : Int))) (some (strike row (t + 1))) (t + 1)) := RT.ex (RE.cmp (RE.var rfl) (RE.var rfl) rfl) rfl
  have ti : RT phi 7 (.e (.cmp .notin (.var 4) (.var 1))) (skS rows acc row i (some (1 + (t : Int))) (some (strike row (t + 1))) (t + 1)) (!inS (strike row (t + 1)) acc) (skS rows acc row i (some (1 + (t : Int))) (some (strike row (t + 1))) (t + 1)) := by
    refine RT.ex (RE.cmp (RE.var rfl) (RE.var rfl) (c := !inS (strike row (t + 1)) acc) ?_) rfl
    exact c_notin (j := 1) (ys := acc.map .str) (items_list_ rfl) memS
  have tt : RT phi 7 skT (skS rows acc row i (some (1 + (t : Int))) (some (strike row (t + 1))) (t + 1)) (!strEq (strike row (t + 1)) row && !inS (strike row (t + 1)) acc) (skS rows acc row i (some (1 + (t : Int))) (some (strike row (t + 1))) (t + 1)) := by
    cases hq : !strEq (strike row (t + 1)) row with
    | true => rw [hq] at tn; exact RT.andT tn ti
    | false => rw [hq] at tn; exact RT.andF tn
  by_cases hb : (!strEq (strike row (t + 1)) row && !inS (strike row (t + 1)) acc) = true
  · rw [hb] at tt
    have e : addSt row acc (t + 1) = acc ++ [strike row (t + 1)] := by unfold addSt; rw [if_pos hb]
    rw [e]
    have ap : methop .append (.ref 1) [.str (strike row (t + 1))] (skS rows acc row i (some (1 + (t : Int))) (some (strike row (t + 1))) (t + 1)) = some (.none, skS rows (acc ++ [strike row (t + 1)]) row i (some (1 + (t : Int))) (some (strike row (t + 1))) (t + 1)) := by
      rw [m_append (l := 1) (xs := acc.map PV.str) rfl (by rw [List.length_map]; unfold room; lia)]
      have : acc.map PV.str ++ [.str (strike row (t + 1))] = (acc ++ [strike row (t + 1)]).map PV.str := by simp
      rw [this]; rfl
    exact RSs.cons hA (RSs.cons (RS.ifeT tt (RSs.cons (RS.expr (RE.meth (RE.var rfl) rfl (.one (RE.var rfl)) ap)) RSs.nil)) RSs.nil)
  · have hb' : (!strEq (strike row (t + 1)) row && !inS (strike row (t + 1)) acc) = false := by simpa using hb
    rw [hb'] at tt
    have e : addSt row acc (t + 1) = acc := by unfold addSt; rw [if_neg hb]
    rw [e]
    exact RSs.cons hA (RSs.cons (RS.ifeF tt RSs.nil) RSs.nil)

theorem sk_inner {rows : List Str} {row : Str} {i : Nat} (hr : row.cps.size ≤ 100) : ∀ (r t : Nat) (acc : List Str) (s3 : Option Int) (s4 : Option Str), t + r = 9 → acc.length + r ≤ 1000 → ∃ (s3' : Option Int) (s4' : Option Str),
    RF phi 7 (.v 3) skB [] 4 (skS rows acc row i s3 s4 t) .next ⟨[some (.ref 0), some (.ref 1), some (.str row), oI s3', oS s4'], [.list (rows.map .str), .list ((((List.range 9).drop t).foldl (fun acc i => addSt row acc (i + 1)) acc).map .str), .listIter 0 i, .range 1 10 1, .dead]⟩ := by
  intro r
  induction r with
  | zero =>
    intro t acc s3 s4 ht ha
    obtain rfl : t = 9 := by omega
    exact ⟨s3, s4, RF.done rfl RSs.nil⟩
  | succ r ih =>
    intro t acc s3 s4 ht ha
    have ht9 : t < 9 := by lia
    have nx : nextI (.v 3) 4 (skS rows acc row i s3 s4 t) = some (some (.int (1 + (t : Int))), skS rows acc row i s3 s4 (t + 1)) := by
      rw [n_range (it := 4) (x := 1 + (t : Int)) (left := 9 - (t : Int)) (step := 1) rfl (by lia)]
      have e1 : 1 + (t : Int) + 1 = 1 + ((t + 1 : Nat) : Int) := by lia
      have e2 : 9 - (t : Int) - 1 = 9 - ((t + 1 : Nat) : Int) := by lia
      rw [e1, e2]
      rfl
    have hl := addSt_len row acc (t + 1)
    obtain ⟨s3', s4', rr⟩ := ih (t + 1) (addSt row acc (t + 1)) (some (1 + (t : Int))) (some (strike row (t + 1))) (by lia) (by lia)
    have hd : (List.range 9).drop t = t :: (List.range 9).drop (t + 1) := by
      rw [List.drop_eq_getElem_cons (by simpa using ht9)]
      simp
    rw [hd, List.foldl_cons]
    exact ⟨s3', s4', RF.more0 nx rfl (sk_body hr (by lia) ht9) (gc_same (Nat.le_refl _)) rr⟩
end Mine.Internal
end
section
open PySem
namespace Mine.Internal
set_option linter.unusedSectionVars false
set_option linter.unusedVariables false
set_option maxRecDepth 100000
set_option maxHeartbeats 4000000
variable {d : Nat} {st st' : St}

theorem okS_oS {k : Nat} {x : Option Str} : okS k (oS x) = true := by cases x <;> rfl
theorem okStrO {k : Nat} {L : List Str} : okO k (.list (L.map .str)) = true := okStr
theorem ok_r {n i : Nat} (h : i < n) : okS n (some (.ref i)) = true := by
  show okV n (.ref i) = true
  exact Nat.ble_eq_true_of_le h

noncomputable abbrev skO (rows acc : List Str) (s2 : Option Str) (s3 : Option Int) (s4 : Option Str) (i : Nat) : St := ⟨[some (.ref 0), some (.ref 1), oS s2, oI s3, oS s4], [.list (rows.map .str), .list (acc.map .str), .listIter 0 i]⟩
noncomputable def skF : List IS := [.fr (.v 3) (.call (.const (.fn (.prim .range))) [.const (.int 1), .const (.int 10)]) skB []]
theorem sk_outer {rows : List Str} (hrows : ∀ r ∈ rows, r.cps.size ≤ 100) : ∀ (r i : Nat) (acc : List Str) (s2 : Option Str) (s3 : Option Int) (s4 : Option Str), i + r = rows.length → acc.length + 9 * r ≤ 900 → ∃ (s2' : Option Str) (s3' : Option Int) (s4' : Option Str),
    RF phi 7 (.v 2) skF [] 2 (skO rows acc s2 s3 s4 i) .next ⟨[some (.ref 0), some (.ref 1), oS s2', oI s3', oS s4'], [.list (rows.map .str), .list (((rows.drop i).foldl struckRow acc).map .str), .dead]⟩ := by
  intro r
  induction r with
  | zero =>
    intro i acc s2 s3 s4 hi ha
    refine ⟨s2, s3, s4, RF.done ?_ (by rw [List.drop_eq_nil_of_le (by lia)]; exact RSs.nil)⟩
    have : (rows.map PV.str)[i]? = none := by rw [List.getElem?_eq_none_iff, List.length_map]; omega
    exact n_listE (it := 2) (l := 0) rfl rfl this
  | succ r ih =>
    intro i acc s2 s3 s4 hi ha
    have hlt : i < rows.length := by lia
    have hg : rows[i]? = some rows[i] := by simp [hlt]
    have hl := struckRow_len acc rows[i]
    obtain ⟨s3', s4', lp⟩ := sk_inner (rows := rows) (row := rows[i]) (i := i + 1) (hrows _ (List.getElem_mem hlt)) 9 0 acc s3 s4 rfl (by lia)
    have e0 : ((List.range 9).drop 0).foldl (fun acc j => addSt rows[i] acc (j + 1)) acc = struckRow acc rows[i] := rfl
    rw [e0] at lp
    obtain ⟨s2'', s3'', s4'', rr⟩ := ih (i + 1) (struckRow acc rows[i]) (some rows[i]) s3' s4' (by lia) (by lia)
    have hd : rows.drop i = rows[i] :: rows.drop (i + 1) := List.drop_eq_getElem_cons hlt
    rw [hd, List.foldl_cons]
    have nx : nextI (.v 2) 2 (skO rows acc s2 s3 s4 i) = some (some (.str rows[i]), skO rows acc s2 s3 s4 (i + 1)) := by
      have : (rows.map PV.str)[i]? = some (.str rows[i]) := by rw [List.getElem?_map, hg]; rfl
      exact n_list (it := 2) (l := 0) rfl rfl this
    have rg : primop .range [.int 1, .int 10] (skO rows acc (some rows[i]) s3 s4 (i + 1)) = some (.ref 3, ⟨(skO rows acc (some rows[i]) s3 s4 (i + 1)).sl, (skO rows acc (some rows[i]) s3 s4 (i + 1)).ob ++ [.range 1 10 1]⟩) := by
      rw [p_range2 (by decide)]; rfl
    refine ⟨s2'', s3'', s4'', RF.more0 nx rfl (RSs.cons (RS.fr0 (RE.prim (.cons RE.const (.one RE.const)) rg) rfl lp (st' := skO rows (struckRow acc rows[i]) (some rows[i]) s3' s4' (i + 1)) ?_) RSs.nil) (gc_same (Nat.le_refl _)) rr⟩
    refine gc_take ?_ rfl ?_
    · show (okS 3 (some (.ref 0)) && (okS 3 (some (.ref 1)) && (okS 3 (oS (some rows[i])) && (okS 3 (oI s3') && (okS 3 (oS s4') && true))))) = true
      rw [ok_r (by lia), ok_r (by lia), okS_oS, okS_oI, okS_oS]; rfl
    · show (okO 3 (.list (rows.map .str)) && (okO 3 (.list ((struckRow acc rows[i]).map .str)) && (okO 3 (.listIter 0 (i + 1)) && true))) = true
      rw [okStrO, okStrO]; rfl
theorem struck_run {a : Nat} {rows : List Str} {ob : List PO} (hc : callOk ob = true) (h : ob[a]? = some (.list (rows.map .str))) (hrows : ∀ r ∈ rows, r.cps.size ≤ 100) (hl : rows.length ≤ 90) (hs : (struckL rows).length < 64) :
    RCall phi 8 16 [.ref a] ob (.ref ob.length) (ob ++ [.list ((sortStrs (struckL rows)).map .str)]) := by
  obtain ⟨s2', s3', s4', lp⟩ := sk_outer hrows rows.length 0 [] none none none (by simp) (by simp; lia)
  have e0 : (rows.drop 0).foldl struckRow [] = struckL rows := rfl
  rw [e0] at lp
  have so : primop .sorted [.ref 1] (⟨[some (.ref 0), some (.ref 1), oS s2', oI s3', oS s4'], [.list (rows.map .str), .list ((struckL rows).map .str)]⟩ : St) = some (.ref 2, ⟨[some (.ref 0), some (.ref 1), oS s2', oI s3', oS s4'], [.list (rows.map .str), .list ((struckL rows).map .str), .list ((sortStrs (struckL rows)).map .str)]⟩) := by
    rw [p_sorted (l := 1) (xs := (struckL rows).map .str) (items_list_ rfl) strsOf_map hs]; rfl
  refine RCall.code (d := 7) (np := 1) (ns := 5) (df := []) (body := irLawStruck) (f := .ret (.ref 2)) rfl hc (enter_pv okStr h) rfl (by decide) (st1 := ⟨[some (.ref 0), some (.ref 1), oS s2', oI s3', oS s4'], [.list (rows.map .str), .list ((struckL rows).map .str), .list ((sortStrs (struckL rows)).map .str)]⟩) ?_ rfl ?_
  · refine RSs.cons (RS.asg (RE.list .nil (Nat.zero_le _)) rfl) (RSs.cons (RS.fr0 (RE.var rfl) rfl lp (st' := ⟨[some (.ref 0), some (.ref 1), oS s2', oI s3', oS s4'], [.list (rows.map .str), .list ((struckL rows).map .str)]⟩) ?_) (RSs.ret (RS.ret (RE.prim (.one (RE.var rfl)) so))))
    refine gc_take ?_ rfl ?_
    · show (okS 2 (some (.ref 0)) && (okS 2 (some (.ref 1)) && (okS 2 (oS s2') && (okS 2 (oI s3') && (okS 2 (oS s4') && true))))) = true
      rw [ok_r (by lia), ok_r (by lia), okS_oS, okS_oI, okS_oS]; rfl
    · show (okO 2 (.list (rows.map .str)) && (okO 2 (.list ((struckL rows).map .str)) && true)) = true
      rw [okStrO, okStrO]; rfl
  · exact leave_pv (k := 1) okStr okStr h rfl

/-! rows struck, as sets -/
noncomputable def addS (acc : List Str) (s : Str) : List Str := if inS s acc then acc else acc ++ [s]
noncomputable def strikes (row : Str) : List Str := (List.range 9).filterMap fun i => if strEq (strike row (i + 1)) row then none else some (strike row (i + 1))
theorem fold_strikes {row : Str} : ∀ (l : List Nat) (acc : List Str), l.foldl (fun acc i => addSt row acc (i + 1)) acc = (l.filterMap fun i => if strEq (strike row (i + 1)) row then none else some (strike row (i + 1))).foldl addS acc
  | [], acc => rfl
  | i :: r, acc => by
    rw [List.foldl_cons, fold_strikes r, List.filterMap_cons]
    cases hq : strEq (strike row (i + 1)) row with
    | true =>
      have : addSt row acc (i + 1) = acc := by unfold addSt; rw [hq]; rfl
      simp [this]
    | false =>
      have : addSt row acc (i + 1) = addS acc (strike row (i + 1)) := by
        unfold addSt addS
        rw [hq]
        cases inS (strike row (i + 1)) acc <;> simp
      simp [this]
theorem struckRow_eq (acc : List Str) (row : Str) : struckRow acc row = (strikes row).foldl addS acc := fold_strikes (List.range 9) acc
theorem strikes_all : ∀ v ∈ S20, strikes (rowS v) = (subs v).map rowS := by decide +kernel
theorem row_inj : ∀ x ∈ P15, ∀ y ∈ P15, rowS x = rowS y → x = y := by decide +kernel
theorem inS_iff {k : Str} : ∀ {xs : List Str}, inS k xs = true ↔ k ∈ xs
  | [] => by simp [inS]
  | x :: r => by
    rw [inS, Bool.or_eq_true, inS_iff, List.mem_cons]
    simp
theorem inS_row {acc : List Int} {x : Int} (hx : x ∈ P15) (ha : ∀ y ∈ acc, y ∈ P15) : inS (rowS x) (acc.map rowS) = hasI acc x := by
  have : (inS (rowS x) (acc.map rowS) = true) ↔ (hasI acc x = true) := by
    rw [inS_iff, hasI_iff, List.mem_map]
    constructor
    · rintro ⟨y, hy, e⟩; rw [← row_inj y (ha y hy) x hx e]; exact hy
    · exact fun h => ⟨x, h, rfl⟩
  cases h1 : inS (rowS x) (acc.map rowS) <;> cases h2 : hasI acc x <;> simp_all
theorem fold_row : ∀ (xs acc : List Int), (∀ x ∈ xs, x ∈ P15) → (∀ y ∈ acc, y ∈ P15) → (xs.map rowS).foldl addS (acc.map rowS) = (xs.foldl addI acc).map rowS ∧ ∀ y ∈ xs.foldl addI acc, y ∈ P15
  | [], acc, _, ha => ⟨rfl, ha⟩
  | x :: r, acc, hx, ha => by
    have e : addS (acc.map rowS) (rowS x) = (addI acc x).map rowS := by
      unfold addS addI
      rw [inS_row (hx x (.head _)) ha]
      cases hasI acc x <;> simp
    have ha' : ∀ y ∈ addI acc x, y ∈ P15 := fun y hy => by
      unfold addI at hy
      split at hy
      · exact ha y hy
      · rcases List.mem_append.mp hy with h | h
        · exact ha y h
        · simp at h; subst h; exact hx y (.head _)
    obtain ⟨h1, h2⟩ := fold_row r (addI acc x) (fun y hy => hx y (.tail _ hy)) ha'
    exact ⟨by rw [List.map_cons, List.foldl_cons, e, h1]; rfl, h2⟩
theorem fold_rows : ∀ (D acc : List Int), (∀ v ∈ D, v ∈ S20) → (∀ y ∈ acc, y ∈ P15) → (D.map rowS).foldl struckRow (acc.map rowS) = (D.foldl (fun acc v => (subs v).foldl addI acc) acc).map rowS
  | [], acc, _, _ => rfl
  | v :: r, acc, hD, ha => by
    rw [List.map_cons, List.foldl_cons, struckRow_eq, strikes_all v (hD v (.head _))]
    obtain ⟨h1, h2⟩ := fold_row (subs v) acc (subs_P15 v (hD v (.head _))) ha
    rw [h1]
    exact fold_rows r _ (fun u hu => hD u (.tail _ hu)) h2
theorem struck_eq {D : List Int} (hD : ∀ v ∈ D, v ∈ S20) : struckL (D.map rowS) = (pairsL D).map rowS := fold_rows D [] hD (fun _ h => nomatch h)
theorem row_size (v : Int) : (rowS v).cps.size = 10 := rfl
theorem sort_len : ∀ (l : List Str), (sortStrs l).length = l.length
  | [] => rfl
  | s :: r => by
    have ins : ∀ (l : List Str), (insStr s l).length = l.length + 1 := fun l => by
      induction l with
      | nil => rfl
      | cons t r ih => unfold insStr; split <;> simp [ih]
    show (insStr s (sortStrs r)).length = _
    rw [ins, sort_len r]; rfl
end Mine.Internal
end
section
open PySem
namespace Mine.Internal
set_option linter.unusedSectionVars false
set_option linter.unusedVariables false
set_option maxRecDepth 100000
set_option maxHeartbeats 4000000
variable {d : Nat} {st st' : St}

/-- numbers of a list made others, the list told by any expression -/
theorem comp_map2 {elt it : IE} {v b : Nat} {L : List PV} {G : List PO} {f : PV → PV} (hv : v = st.sl.length) (h1 : RE phi d it st (.ref b) ⟨st.sl, st.ob ++ G⟩) (hl : (st.ob ++ G)[b]? = some (.list L)) (hm : L.length ≤ 100)
    (el : ∀ x ∈ L, ∀ i acc, RE phi d elt ⟨st.sl ++ [some x], (st.ob ++ G ++ [.listIter b i]) ++ [.list acc]⟩ (f x) ⟨st.sl ++ [some x], (st.ob ++ G ++ [.listIter b i]) ++ [.list acc]⟩)
    (hok : okVs 0 (L.map f) = true) (hos : okSs st.ob.length st.sl = true) (hoo : okOs st.ob.length st.ob = true) :
    RE phi d (.comp elt [.mk (.v v) it []] 1) st (.ref st.ob.length) ⟨st.sl, st.ob ++ [.list (L.map f)]⟩ := by
  subst hv
  have hb := (List.getElem?_eq_some_iff.mp hl).1
  refine comp_run (x := .ref b) (st1 := ⟨st.sl, st.ob ++ G⟩) (st2 := ⟨st.sl, st.ob ++ G ++ [.listIter b 0]⟩) (j := (st.ob ++ G).length) (m := L.length) (I := fun i => st.ob ++ G ++ [.listIter b i]) (I' := st.ob ++ G ++ [.dead]) (X := fun i => L.getD i .none) (g := fun i => f (L.getD i .none)) (p := fun _ => true)
    (SL := fun i => st.sl ++ [if i = 0 then none else some (L.getD (i - 1) .none)]) h1 ?_ rfl rfl (fun i _ => by simp) hm (fun i acc hi => ?_) (fun acc => ?_) (by simp) (fun i acc hi => ?_) (fun i acc hi => RTs.nil) (fun i acc hi _ => ?_) ?_ hok (by simp) (by rw [List.append_assoc]; simp) (by simp) hos hoo
  · exact it_list hl
  · have e0 : ((st.ob ++ G ++ [PO.listIter b i]) ++ [PO.list acc])[(st.ob ++ G).length]? = some (.listIter b i) := by rw [List.append_assoc]; simp
    have e1 : ((st.ob ++ G ++ [PO.listIter b i]) ++ [PO.list acc])[b]? = some (.list L) := by rw [List.append_assoc, List.getElem?_append_left hb]; exact hl
    have e2 : L[i]? = some (L.getD i .none) := by rw [List.getD_eq_getElem?_getD]; simp [hi]
    have e3 : ((st.ob ++ G ++ [PO.listIter b i]) ++ [PO.list acc]).set (st.ob ++ G).length (.listIter b (i + 1)) = (st.ob ++ G ++ [.listIter b (i + 1)]) ++ [.list acc] := by rw [List.append_assoc, List.append_assoc (bs := [PO.listIter b (i + 1)]), List.set_append_right _ _ (Nat.le_refl _), Nat.sub_self]; rfl
    rw [n_list e0 (items_list_ e1) e2]
    unfold setO
    rw [e3]
  · have e0 : ((st.ob ++ G ++ [PO.listIter b L.length]) ++ [PO.list acc])[(st.ob ++ G).length]? = some (.listIter b L.length) := by rw [List.append_assoc]; simp
    have e1 : ((st.ob ++ G ++ [PO.listIter b L.length]) ++ [PO.list acc])[b]? = some (.list L) := by rw [List.append_assoc, List.getElem?_append_left hb]; exact hl
    have e2 : L[L.length]? = none := by simp
    have e3 : ((st.ob ++ G ++ [PO.listIter b L.length]) ++ [PO.list acc]).set (st.ob ++ G).length .dead = (st.ob ++ G ++ [.dead]) ++ [.list acc] := by rw [List.append_assoc, List.append_assoc (bs := [PO.dead]), List.set_append_right _ _ (Nat.le_refl _), Nat.sub_self]; rfl
    rw [n_listE e0 (items_list_ e1) e2]
    unfold setO
    rw [e3]
  · show setS _ st.sl.length _ = _
    unfold setS
    have hb : Nat.blt st.sl.length (st.sl ++ [if i = 0 then none else some (L.getD (i - 1) .none)]).length = true := Nat.ble_eq_true_of_le (by simp)
    rw [hb]
    simp
  · have := el (L.getD i .none) (List.mem_of_getElem? (i := i) (by rw [List.getD_eq_getElem?_getD]; simp [hi])) (i + 1) acc
    simpa using this
  · have e : (List.range L.length).filter (fun _ => true) = List.range L.length := List.filter_eq_self.mpr (fun _ _ => rfl)
    rw [e]
    refine List.ext_getElem (by simp) fun i h1 h2 => ?_
    have hi : i < L.length := by simpa using h1
    simp [List.getD_eq_getElem?_getD, hi]

/-! the law, statement by statement -/
noncomputable def drawnL (ns : List Int) : List Int := (ns.take 6 ++ [9, 15]).map fun v => Int.fmod v 4000
theorem drawn_len {ns : List Int} : (drawnL ns).length ≤ 8 := by
  unfold drawnL; simp; lia
theorem drawn_small {ns : List Int} : ∀ v ∈ drawnL ns, 0 ≤ v ∧ v < 4000 := by
  intro v hv
  unfold drawnL at hv
  obtain ⟨x, _, rfl⟩ := List.mem_map.mp hv
  rw [Int.fmod_eq_emod_of_nonneg _ (by decide)]
  exact ⟨Int.emod_nonneg _ (by decide), Int.emod_lt_of_pos _ (by decide)⟩
theorem o_mod {a b : Int} (hb : b ≠ 0) (hf : fits (Int.fmod a b) = true) : binop .mod (.int a) (.int b) st = some (.int (Int.fmod a b), st) := by
  exact o_bin (show (if b = 0 then none else some (Int.fmod a b)) = _ from if_neg hb) hf
theorem o_fdiv {a b : Int} (hb : b ≠ 0) (hs : b.natAbs < 1073741824) (hf : fits (Int.fdiv a b) = true) : binop .fdiv (.int a) (.int b) st = some (.int (Int.fdiv a b), st) := by
  exact o_bin (show (if b = 0 ∨ ¬ (b.natAbs < 1073741824) then none else some (Int.fdiv a b)) = _ from if_neg (by intro h; rcases h with h | h; exact hb h; exact h hs)) hf

noncomputable abbrev lawSt (s1 s2 s3 s4 s5 s6 s7 s8 s9 s10 s11 s12 s13 s14 : Option PV) (ob : List PO) : St := ⟨[some (.ref 0), s1, s2, s3, s4, s5, s6, s7, s8, s9, s10, s11, s12, s13, s14], ob⟩
noncomputable def st1L : IS := .asg (.v 1) (.list [(.const (.str "OPTIMIZED")), (.const (.str "NEWLOCALS")), (.const (.str "VARARGS")), (.const (.str "VARKEYWORDS")), (.const (.str "NESTED")), (.const (.str "GENERATOR"))])
theorem law1 {ns : List Int} : RS phi 8 st1L (lawSt none none none none none none none none none none none none none none [.ro (ns.map .int)]) .next
    (lawSt (some (.ref 1)) none none none none none none none none none none none none none [.ro (ns.map .int), .list (allNames.map .str)]) :=
  RS.asg (RE.list (.cons RE.const (.cons RE.const (.cons RE.const (.cons RE.const (.cons RE.const (.one RE.const)))))) (by decide)) rfl

noncomputable def modF : PV → PV
  | .int v => .int (Int.fmod v 4000)
  | x => x
noncomputable def st2L : IS := .asg (.v 2) (.comp (.bin .mod (.var 15) (.const (.int 4000))) [(.mk (.v 15) (.bin .add (.slice (.var 0) none (some (.const (.int 6)))) (.list [(.const (.int 9)), (.const (.int 15))])) [])] 1)
theorem law2 {ns : List Int} (hn : ns.length ≤ 63) : RS phi 8 st2L (lawSt (some (.ref 1)) none none none none none none none none none none none none none [.ro (ns.map .int), .list (allNames.map .str)]) .next
    (lawSt (some (.ref 1)) (some (.ref 2)) none none none none none none none none none none none none [.ro (ns.map .int), .list (allNames.map .str), .list ((drawnL ns).map .int)]) := by
  have hlm : (ns.map PV.int).length = ns.length := List.length_map ..
  have sl : sliceop (.ref 0) none (some (.int 6)) (lawSt (some (.ref 1)) none none none none none none none none none none none none none [.ro (ns.map .int), .list (allNames.map .str)]) =
      some (.ref 2, lawSt (some (.ref 1)) none none none none none none none none none none none none none [.ro (ns.map .int), .list (allNames.map .str), .list ((ns.take 6).map .int)]) := by
    show (if (ns.map PV.int).length ≤ room then some (push _ (PO.list (((ns.map PV.int).take (min 6 (ns.map PV.int).length)).drop 0))) else none) = _
    rw [if_pos (by rw [hlm]; unfold room; lia)]
    have : ((ns.map PV.int).take (min 6 (ns.map PV.int).length)).drop 0 = (ns.take 6).map PV.int := by
      rw [List.drop_zero, ← List.map_take]
      congr 1
      by_cases h : 6 ≤ ns.length
      · rw [hlm, Nat.min_eq_left h]
      · rw [hlm, Nat.min_eq_right (by lia), List.take_of_length_le (Nat.le_refl _), List.take_of_length_le (by omega)]
    rw [this]; rfl
  have ad : binop .add (.ref 2) (.ref 3) (lawSt (some (.ref 1)) none none none none none none none none none none none none none [.ro (ns.map .int), .list (allNames.map .str), .list ((ns.take 6).map .int), .list [.int 9, .int 15]]) =
      some (.ref 4, lawSt (some (.ref 1)) none none none none none none none none none none none none none [.ro (ns.map .int), .list (allNames.map .str), .list ((ns.take 6).map .int), .list [.int 9, .int 15], .list ((ns.take 6 ++ [9, 15]).map .int)]) := by
    rw [b_cat (i := 2) (j := 3) (xs := (ns.take 6).map .int) (ys := [.int 9, .int 15]) (items_list_ rfl) (items_list_ rfl) (by simp; unfold room; lia)]
    rw [List.map_append]
    rfl
  have h1 : RE phi 8 (.bin .add (.slice (.var 0) none (some (.const (.int 6)))) (.list [(.const (.int 9)), (.const (.int 15))])) (lawSt (some (.ref 1)) none none none none none none none none none none none none none [.ro (ns.map .int), .list (allNames.map .str)]) (.ref 4)
      (lawSt (some (.ref 1)) none none none none none none none none none none none none none [.ro (ns.map .int), .list (allNames.map .str), .list ((ns.take 6).map .int), .list [.int 9, .int 15], .list ((ns.take 6 ++ [9, 15]).map .int)]) :=
    RE.bin (RE.sliceHi (RE.var rfl) RE.const sl) (RE.list (.cons RE.const (.one RE.const)) (by decide)) ad
  have key := comp_map2 (d := 8) (elt := .bin .mod (.var 15) (.const (.int 4000))) (v := 15) (b := 4) (f := modF) (st := lawSt (some (.ref 1)) none none none none none none none none none none none none none [.ro (ns.map .int), .list (allNames.map .str)])
    (G := [.list ((ns.take 6).map .int), .list [.int 9, .int 15], .list ((ns.take 6 ++ [9, 15]).map .int)]) rfl h1 rfl (by simp; lia) (fun x hx i acc => by
      obtain ⟨v, _, rfl⟩ := List.mem_map.mp hx
      refine RE.bin (RE.var rfl) RE.const (o_mod (by decide) ?_)
      rw [Int.fmod_eq_emod_of_nonneg _ (by decide)]
      exact fits_small (by have := Int.emod_nonneg v (b := 4000) (by decide); lia) (by have := Int.emod_lt_of_pos v (b := 4000) (by decide); lia))
  have em : ((ns.take 6 ++ [9, 15]).map PV.int).map modF = (drawnL ns).map PV.int := by
    unfold drawnL; rw [List.map_map, List.map_map]; rfl
  rw [em] at key
  exact RS.asg (key ints_ok0 rfl (by
    show (okO 2 (.ro (ns.map .int)) && (okO 2 (.list (allNames.map .str)) && true)) = true
    rw [show okO 2 (PO.ro (ns.map .int)) = true from ints_ok0, okStrO]; rfl)) rfl
end Mine.Internal
end
section
open PySem
namespace Mine.Internal
set_option linter.unusedSectionVars false
set_option linter.unusedVariables false
set_option maxRecDepth 100000
set_option maxHeartbeats 4000000
variable {d : Nat} {st st' : St}

noncomputable def encL (D : List Int) : List Int := D.flatMap fun v => [64 + Int.fdiv v 64, Int.fmod v 64]
theorem decode_enc : ∀ {D : List Int}, (∀ v ∈ D, 0 ≤ v ∧ v < 4000) → decodeGo (encL D) = some D
  | [], _ => rfl
  | v :: r, h => by
    obtain ⟨h0, h1⟩ := h v (.head _)
    have e1 : Int.fdiv v 64 = v / 64 := Int.fdiv_eq_ediv_of_nonneg _ (by decide)
    have e2 : Int.fmod v 64 = v % 64 := Int.fmod_eq_emod_of_nonneg _ (by decide)
    show decodeGo ((64 + Int.fdiv v 64) :: Int.fmod v 64 :: encL r) = _
    rw [decodeGo, if_pos (by rw [e1, e2]; lia), decode_enc fun u hu => h u (.tail _ hu)]
    have : (64 + Int.fdiv v 64 - 64) * 64 + Int.fmod v 64 = v := by rw [e1, e2]; lia
    rw [this]; rfl
theorem enc_len : ∀ (D : List Int), (encL D).length = 2 * D.length
  | [] => rfl
  | v :: r => by
    have := enc_len r
    show ((64 + Int.fdiv v 64) :: Int.fmod v 64 :: encL r).length = _
    simp only [List.length_cons]; lia
theorem enc_snoc (D : List Int) (v : Int) : encL (D ++ [v]) = encL D ++ [64 + Int.fdiv v 64, Int.fmod v 64] := by
  unfold encL; rw [List.flatMap_append]; rfl

noncomputable def oct4 : List IS := [.expr (.meth .extend (.var 3) [(.list [(.bin .add (.const (.int 64)) (.bin .fdiv (.var 4) (.const (.int 64)))), (.bin .mod (.var 4) (.const (.int 64)))])])]
noncomputable abbrev o3 (ns D O : List Int) : List PO := [.ro (ns.map .int), .list (allNames.map .str), .list (D.map .int), .list (O.map .int)]
noncomputable abbrev st3S (s4 : Option Int) (ob : List PO) : St := lawSt (some (.ref 1)) (some (.ref 2)) (some (.ref 3)) (oI s4) none none none none none none none none none none ob
theorem ok3 {s4 : Option Int} {n : Nat} (h : 4 ≤ n) : okSs n (st3S s4 []).sl = true := by
  show (okS n (some (.ref 0)) && (okS n (some (.ref 1)) && (okS n (some (.ref 2)) && (okS n (some (.ref 3)) && (okS n (oI s4) && true))))) = true
  rw [ok_r (by lia), ok_r (by lia), ok_r (by lia), ok_r (by lia), okS_oI]; rfl
theorem okO3 {n : Nat} {ns D O : List Int} {r : List PO} (h : okOs n r = true) : okOs n (.ro (ns.map .int) :: .list (allNames.map .str) :: .list (D.map .int) :: .list (O.map .int) :: r) = true := by
  show (okO n (.ro (ns.map .int)) && (okO n (.list (allNames.map .str)) && (okO n (.list (D.map .int)) && (okO n (.list (O.map .int)) && okOs n r)))) = true
  rw [show okO n (PO.ro (ns.map .int)) = true from ints_ok0, okStrO, okI, okI, h]; rfl
theorem oct_loop {ns D : List Int} (hD : ∀ v ∈ D, 0 ≤ v ∧ v < 4000) (hl : D.length ≤ 8) : ∀ (r i : Nat) (s4 : Option Int), i + r = D.length → ∃ s4' : Option Int,
    RF phi 8 (.v 4) oct4 [] 4 (st3S s4 (o3 ns D (encL (D.take i)) ++ [.listIter 2 i])) .next (st3S s4' (o3 ns D (encL D) ++ [.dead])) := by
  intro r
  induction r with
  | zero =>
    intro i s4 hi
    rw [List.take_of_length_le (show D.length ≤ i by lia)]
    refine ⟨s4, RF.done ?_ RSs.nil⟩
    have : (D.map PV.int)[i]? = none := by rw [List.getElem?_eq_none_iff, List.length_map]; omega
    exact n_listE (it := 4) (l := 2) rfl rfl this
  | succ r ih =>
    intro i s4 hi
    have hlt : i < D.length := by lia
    have hv := hD _ (mem_at0.mpr ⟨i, hlt, rfl⟩)
    obtain ⟨s4', rr⟩ := ih (i + 1) (some (at0 D i)) (by lia)
    have e1 : Int.fdiv (at0 D i) 64 = at0 D i / 64 := Int.fdiv_eq_ediv_of_nonneg _ (by decide)
    have e2 : Int.fmod (at0 D i) 64 = at0 D i % 64 := Int.fmod_eq_emod_of_nonneg _ (by decide)
    have ht : D.take (i + 1) = D.take i ++ [at0 D i] := by
      rw [List.take_add_one, at0_get hlt]; rfl
    have hlen : (encL (D.take i)).length ≤ 16 := by rw [enc_len, List.length_take]; lia
    have nx : nextI (.v 4) 4 (st3S s4 (o3 ns D (encL (D.take i)) ++ [.listIter 2 i])) = some (some (.int (at0 D i)), st3S s4 (o3 ns D (encL (D.take i)) ++ [.listIter 2 (i + 1)])) := by
      have : (D.map PV.int)[i]? = some (.int (at0 D i)) := by rw [List.getElem?_map, at0_get hlt]; rfl
      exact n_list (it := 4) (l := 2) rfl rfl this
    have ex : methop .extend (.ref 3) [.ref 5] (st3S (some (at0 D i)) (o3 ns D (encL (D.take i)) ++ [.listIter 2 (i + 1), .list [.int (64 + Int.fdiv (at0 D i) 64), .int (Int.fmod (at0 D i) 64)]])) =
        some (.none, st3S (some (at0 D i)) (o3 ns D (encL (D.take (i + 1))) ++ [.listIter 2 (i + 1), .list [.int (64 + Int.fdiv (at0 D i) 64), .int (Int.fmod (at0 D i) 64)]])) := by
      rw [m_extend (l := 3) (k := 5) (xs := (encL (D.take i)).map PV.int) (ys := [.int (64 + Int.fdiv (at0 D i) 64), .int (Int.fmod (at0 D i) 64)]) rfl rfl (by rw [List.length_map]; show _ + 2 ≤ room; unfold room; lia) (by decide)]
      have : (encL (D.take i)).map PV.int ++ [.int (64 + Int.fdiv (at0 D i) 64), .int (Int.fmod (at0 D i) 64)] = (encL (D.take (i + 1))).map PV.int := by
        rw [ht, enc_snoc, List.map_append]; rfl
      rw [this]; rfl
    have la : RE phi 8 (.list [(.bin .add (.const (.int 64)) (.bin .fdiv (.var 4) (.const (.int 64)))), (.bin .mod (.var 4) (.const (.int 64)))]) (st3S (some (at0 D i)) (o3 ns D (encL (D.take i)) ++ [.listIter 2 (i + 1)])) (.ref 5)
        (st3S (some (at0 D i)) (o3 ns D (encL (D.take i)) ++ [.listIter 2 (i + 1), .list [.int (64 + Int.fdiv (at0 D i) 64), .int (Int.fmod (at0 D i) 64)]])) :=
      RE.list (.cons (RE.bin RE.const (RE.bin (RE.var rfl) RE.const (o_fdiv (by decide) (by decide) (by rw [e1]; exact fits_small (by lia) (by lia)))) (o_add (by rw [e1]; exact fits_small (by lia) (by lia)))) (.one (RE.bin (RE.var rfl) RE.const (o_mod (by decide) (by rw [e2]; exact fits_small (by lia) (by lia)))))) (by simp; decide)
    refine ⟨s4', RF.more0 nx rfl (RSs.cons (RS.expr (RE.meth (RE.var rfl) rfl (.one la) ex)) RSs.nil) (st4 := st3S (some (at0 D i)) (o3 ns D (encL (D.take (i + 1))) ++ [.listIter 2 (i + 1)])) ?_ rr⟩
    exact gc_take (ok3 (by simp)) rfl (okO3 (by show (Nat.blt 2 5 && true) = true; rfl))

noncomputable def st3L : IS := .asg (.v 3) (.list [])
noncomputable def st4L : IS := .fr (.v 4) (.var 2) oct4 []
theorem law3 {ns D : List Int} : RS phi 8 st3L (lawSt (some (.ref 1)) (some (.ref 2)) none none none none none none none none none none none none [.ro (ns.map .int), .list (allNames.map .str), .list (D.map .int)]) .next (st3S none (o3 ns D [])) :=
  RS.asg (RE.list .nil (Nat.zero_le _)) rfl
theorem law4 {ns D : List Int} (hD : ∀ v ∈ D, 0 ≤ v ∧ v < 4000) (hl : D.length ≤ 8) : ∃ s4, RS phi 8 st4L (st3S none (o3 ns D [])) .next (st3S s4 (o3 ns D (encL D))) := by
  obtain ⟨s4, lp⟩ := oct_loop (ns := ns) hD hl D.length 0 none (by lia)
  exact ⟨s4, RS.fr0 (RE.var rfl) rfl lp (gc_take (ok3 (by simp)) rfl (okO3 rfl))⟩
noncomputable def st5L : IS := .ife (.e (.cmp .ne (.call (.const (.fn (.user 15))) [(.var 3)]) (.var 2))) [.ret (.const (.bool false))] []
theorem law5 {ns D : List Int} {s4 : Option Int} (hD : ∀ v ∈ D, 0 ≤ v ∧ v < 4000) (hl : D.length ≤ 8) : RS phi 8 st5L (st3S s4 (o3 ns D (encL D))) .next (st3S s4 (o3 ns D (encL D) ++ [.list (D.map .int)])) := by
  have call : RCall phi 8 15 [.ref 3] (o3 ns D (encL D)) (.ref 4) (o3 ns D (encL D) ++ [.list (D.map .int)]) := by
    refine RCall.spec (d := 7) (F := readF) rfl rfl rfl (enter_one (xs := []) rfl) (v := .ref 1) (ls' := [.list ((encL D).map .int), .list (D.map .int)]) ?_ (leave_new (k := 0) rfl rfl)
    show (do
      let ns ← intsOf ((encL D).map .int)
      let ds ← decodeGo ns
      if ns.length ≤ 200 then some (PV.ref 1, [PO.list ((encL D).map .int), PO.list (ds.map .int)]) else none) = _
    rw [intsOf_map]
    simp only [Option.bind_eq_bind, Option.bind_some, decode_enc hD]
    rw [if_pos (by rw [enc_len]; lia)]
  refine RS.ifeF (RT.ex (RE.cmp (RE.user (.one (RE.var rfl)) call) (RE.var rfl) (c := false) ?_) rfl) RSs.nil
  refine c_ne (i := 4) (j := 2) (xs := D.map .int) (ys := D.map .int) (items_list_ rfl) (items_list_ rfl) (by rw [List.length_map]; unfold room; lia) (by rw [List.length_map]; unfold room; omega) ?_
  unfold neVs
  rw [intsOf_map]
  simp
end Mine.Internal
end
section
open PySem
namespace Mine.Internal
set_option linter.unusedSectionVars false
set_option linter.unusedVariables false
set_option maxRecDepth 100000
set_option maxHeartbeats 4000000
variable {d : Nat} {st st' : St}

noncomputable def ordE : IE := .bin .add (.bin .add (.bin .shl (.const (.int 1)) (.var 15)) (.bin .shl (.const (.int 1)) (.var 16))) (.bin .shl (.const (.int 1)) (.var 17))
noncomputable def ordG : List IGen := [(.mk (.v 16) (.call (.const (.fn (.prim .range))) [(.var 15)]) []), (.mk (.v 17) (.call (.const (.fn (.prim .range))) [(.var 16)]) [])]
theorem ord_ev (v0 v1 v2 v3 v4 v5 v6 v7 v8 v9 v10 v11 v12 v13 v14 : Option PV) (a0 a1 a2 a3 a4 : PO) :
    (evC phi 100 8 ordE (.v 15) [] ordG 6 7 ⟨[v0, v1, v2, v3, v4, v5, v6, v7, v8, v9, v10, v11, v12, v13, v14, none, none, none], [a0, a1, a2, a3, a4, .range 0 6 1, .rangeIter 0 6 1, .list []]⟩).map (fun s => (s.sl.take 15, s.ob.take 5, s.ob[7]?)) =
      some ([v0, v1, v2, v3, v4, v5, v6, v7, v8, v9, v10, v11, v12, v13, v14], [a0, a1, a2, a3, a4], some (.list (S20.map .int))) := by kernel_rfl
noncomputable def twoE : IE := .bin .add (.bin .shl (.const (.int 1)) (.var 15)) (.bin .shl (.const (.int 1)) (.var 16))
noncomputable def twoG : List IGen := [(.mk (.v 16) (.call (.const (.fn (.prim .range))) [(.var 15)]) [])]
theorem two_ev (v0 v1 v2 v3 v4 v5 v6 v7 v8 v9 v10 v11 v12 v13 v14 : Option PV) (a0 a1 a2 a3 a4 a5 a6 a7 a8 a9 : PO) :
    (evC phi 100 8 twoE (.v 15) [] twoG 11 12 ⟨[v0, v1, v2, v3, v4, v5, v6, v7, v8, v9, v10, v11, v12, v13, v14, none, none], [a0, a1, a2, a3, a4, a5, a6, a7, a8, a9, .range 5 0 (-1), .rangeIter 5 5 (-1), .list []]⟩).map (fun s => (s.sl.take 15, s.ob.take 10, s.ob[12]?)) =
      some ([v0, v1, v2, v3, v4, v5, v6, v7, v8, v9, v10, v11, v12, v13, v14], [a0, a1, a2, a3, a4, a5, a6, a7, a8, a9], some (.list (P15.map .int))) := by kernel_rfl
end Mine.Internal
end
section
open PySem
namespace Mine.Internal
set_option linter.unusedSectionVars false
set_option linter.unusedVariables false
set_option maxRecDepth 100000
set_option maxHeartbeats 4000000
variable {d : Nat} {st st' : St}

theorem okRo {n : Nat} {H : List Int} : okO n (.ro (H.map .int)) = true := ints_ok0

noncomputable abbrev O5 (ns D : List Int) : List PO := [.ro (ns.map .int), .list (allNames.map .str), .list (D.map .int), .list ((encL D).map .int), .list (D.map .int)]
noncomputable def st6L : IS := .asg (.v 5) (.comp ordE (.mk (.v 15) (.call (.const (.fn (.prim .range))) [(.const (.int 6))]) [] :: ordG) 3)
theorem okO5 {n : Nat} {ns D : List Int} {r : List PO} (h : okOs n r = true) : okOs n (O5 ns D ++ r) = true := by
  show (okO n (.ro (ns.map .int)) && (okO n (.list (allNames.map .str)) && (okO n (.list (D.map .int)) && (okO n (.list ((encL D).map .int)) && (okO n (.list (D.map .int)) && okOs n r))))) = true
  simp only [okRo, okStrO, okI, h, Bool.and_true]
theorem law6 {ns D : List Int} {s4 : Option Int} : RS phi 8 st6L (lawSt (some (.ref 1)) (some (.ref 2)) (some (.ref 3)) (oI s4) none none none none none none none none none none (O5 ns D)) .next
    (lawSt (some (.ref 1)) (some (.ref 2)) (some (.ref 3)) (oI s4) (some (.ref 5)) none none none none none none none none none (O5 ns D ++ [.list (S20.map .int)])) := by
  obtain ⟨s, hs, e⟩ := Option.map_eq_some_iff.mp (ord_ev (some (.ref 0)) (some (.ref 1)) (some (.ref 2)) (some (.ref 3)) (oI s4) none none none none none none none none none none (.ro (ns.map .int)) (.list (allNames.map .str)) (.list (D.map .int)) (.list ((encL D).map .int)) (.list (D.map .int)))
  have e1 : s.sl.take 15 = _ := congrArg (·.1) e
  have e2 : s.ob.take 5 = _ := congrArg (·.2.1) e
  have e3 : s.ob[7]? = _ := congrArg (·.2.2) e
  have rg := rb_range (sl := (lawSt (some (.ref 1)) (some (.ref 2)) (some (.ref 3)) (oI s4) none none none none none none none none none none (O5 ns D)).sl) (ob := O5 ns D) (a := 6) rfl
  have := RE.comp (Φ := phi) (d := 8) (elt := ordE) (t := .v 15) (it := .call (.const (.fn (.prim .range))) [(.const (.int 6))]) (ifs := []) (gs := ordG) (m := 3) (xs := S20.map .int) (st := lawSt (some (.ref 1)) (some (.ref 2)) (some (.ref 3)) (oI s4) none none none none none none none none none none (O5 ns D)) (st4 := s)
    (j := 6) (st2 := ⟨(lawSt (some (.ref 1)) (some (.ref 2)) (some (.ref 3)) (oI s4) none none none none none none none none none none (O5 ns D)).sl, O5 ns D ++ [PO.range 0 6 1, PO.rangeIter 0 6 1]⟩) (RE.prim (.one RE.const) rg) rfl ⟨100, hs⟩ e3 ints_ok0 ?_ ?_
  · refine RS.asg this ?_
    show setS ⟨s.sl.take 15, s.ob.take 5 ++ [.list (S20.map .int)]⟩ 5 (.ref 5) = _
    rw [e1, e2]
    rfl
  · show okSs 5 (s.sl.take 15) = true
    rw [e1]
    show (okS 5 (some (.ref 0)) && (okS 5 (some (.ref 1)) && (okS 5 (some (.ref 2)) && (okS 5 (some (.ref 3)) && (okS 5 (oI s4) && true))))) = true
    rw [okS_oI]; rfl
  · show okOs 5 (s.ob.take 5) = true
    rw [e2]
    exact okO5 (r := []) rfl

noncomputable def laidL (D : List Int) : List Int := D.map fun v => at0 S20 (v.toNat % 20)
theorem laid_S20 {D : List Int} : ∀ y ∈ laidL D, y ∈ S20 := by
  intro y hy
  obtain ⟨v, _, rfl⟩ := List.mem_map.mp hy
  exact mem_at0.mpr ⟨v.toNat % 20, by rw [S20_len]; exact Nat.mod_lt _ (by decide), rfl⟩
noncomputable def laidF : PV → PV
  | .int v => .int (at0 S20 (v.toNat % 20))
  | x => x
noncomputable def st7L : IS := .asg (.v 6) (.comp (.idx (.var 5) (.bin .mod (.var 15) (.const (.int 20)))) [(.mk (.v 15) (.var 2) [])] 1)
theorem law7 {ns D : List Int} {s4 : Option Int} (hD : ∀ v ∈ D, 0 ≤ v ∧ v < 4000) (hl : D.length ≤ 8) : RS phi 8 st7L (lawSt (some (.ref 1)) (some (.ref 2)) (some (.ref 3)) (oI s4) (some (.ref 5)) none none none none none none none none none (O5 ns D ++ [.list (S20.map .int)])) .next
    (lawSt (some (.ref 1)) (some (.ref 2)) (some (.ref 3)) (oI s4) (some (.ref 5)) (some (.ref 6)) none none none none none none none none (O5 ns D ++ [.list (S20.map .int), .list ((laidL D).map .int)])) := by
  have key := comp_map2 (d := 8) (elt := .idx (.var 5) (.bin .mod (.var 15) (.const (.int 20)))) (it := .var 2) (v := 15) (b := 2) (f := laidF) (L := D.map .int) (G := [])
    (st := lawSt (some (.ref 1)) (some (.ref 2)) (some (.ref 3)) (oI s4) (some (.ref 5)) none none none none none none none none none (O5 ns D ++ [.list (S20.map .int)])) rfl (RE.var rfl) rfl (by simp; lia) (fun x hx i acc => by
      obtain ⟨v, hv, rfl⟩ := List.mem_map.mp hx
      obtain ⟨h0, h1⟩ := hD v hv
      have e : Int.fmod v 20 = ((v.toNat % 20 : Nat) : Int) := by rw [Int.fmod_eq_emod_of_nonneg _ (by decide)]; lia
      have hm : v.toNat % 20 < 20 := Nat.mod_lt _ (by decide)
      have md : binop .mod (.int v) (.int 20) (⟨(lawSt (some (.ref 1)) (some (.ref 2)) (some (.ref 3)) (oI s4) (some (.ref 5)) none none none none none none none none none (O5 ns D ++ [.list (S20.map .int)])).sl ++ [some (.int v)], ((O5 ns D ++ [.list (S20.map .int)]) ++ [] ++ [.listIter 2 i]) ++ [.list acc]⟩ : St) =
          some (.int ((v.toNat % 20 : Nat) : Int), ⟨(lawSt (some (.ref 1)) (some (.ref 2)) (some (.ref 3)) (oI s4) (some (.ref 5)) none none none none none none none none none (O5 ns D ++ [.list (S20.map .int)])).sl ++ [some (.int v)], ((O5 ns D ++ [.list (S20.map .int)]) ++ [] ++ [.listIter 2 i]) ++ [.list acc]⟩) := by
        have := o_mod (a := v) (b := 20) (st := ⟨(lawSt (some (.ref 1)) (some (.ref 2)) (some (.ref 3)) (oI s4) (some (.ref 5)) none none none none none none none none none (O5 ns D ++ [.list (S20.map .int)])).sl ++ [some (.int v)], ((O5 ns D ++ [.list (S20.map .int)]) ++ [] ++ [.listIter 2 i]) ++ [.list acc]⟩) (by decide) (by rw [e]; exact fits_small (by omega) (by omega))
        rw [e] at this; exact this
      exact RE.idx (RE.var rfl) (RE.bin (RE.var rfl) RE.const md) (i_list (H := S20) rfl (by rw [S20_len]; exact hm) (by omega)))
  have em : (D.map PV.int).map laidF = (laidL D).map PV.int := by unfold laidL; rw [List.map_map, List.map_map]; rfl
  rw [em] at key
  refine RS.asg (key ints_ok0 ?_ ?_) rfl
  · show (okS 6 (some (.ref 0)) && (okS 6 (some (.ref 1)) && (okS 6 (some (.ref 2)) && (okS 6 (some (.ref 3)) && (okS 6 (oI s4) && (okS 6 (some (.ref 5)) && true)))))) = true
    rw [okS_oI]; rfl
  · exact okO5 (by show (okO 6 (.list (S20.map .int)) && true) = true; rw [okI]; rfl)

noncomputable abbrev O8 (ns D : List Int) : List PO := O5 ns D ++ [.list (S20.map .int), .list ((laidL D).map .int), .list (S20.map .int)]
noncomputable def st8L : IS := .asg (.v 7) (.call (.const (.fn (.user 14))) [(.var 6)])
theorem law8 {ns D : List Int} {s4 : Option Int} (hl : D.length ≤ 8) : RS phi 8 st8L (lawSt (some (.ref 1)) (some (.ref 2)) (some (.ref 3)) (oI s4) (some (.ref 5)) (some (.ref 6)) none none none none none none none none (O5 ns D ++ [.list (S20.map .int), .list ((laidL D).map .int)])) .next
    (lawSt (some (.ref 1)) (some (.ref 2)) (some (.ref 3)) (oI s4) (some (.ref 5)) (some (.ref 6)) (some (.ref 7)) none none none none none none none (O8 ns D)) :=
  RS.asg (RE.user (.one (RE.var rfl)) (threes_run (laid := laidL D) rfl rfl laid_S20 (by unfold laidL; rw [List.length_map]; lia))) rfl

noncomputable def rowF : PV → PV
  | .int v => .str (rowS v)
  | x => x
noncomputable abbrev rowsL : List Str := S20.map rowS
noncomputable abbrev O9 (ns D : List Int) : List PO := O8 ns D ++ [.list (rowsL.map .str)]
theorem okO8 {n : Nat} {ns D : List Int} {r : List PO} (h : okOs n r = true) : okOs n (O8 ns D ++ r) = true := by
  show okOs n ((O5 ns D ++ [.list (S20.map .int), .list ((laidL D).map .int), .list (S20.map .int)]) ++ r) = true
  rw [List.append_assoc]
  refine okO5 ?_
  show (okO n (.list (S20.map .int)) && (okO n (.list ((laidL D).map .int)) && (okO n (.list (S20.map .int)) && okOs n r))) = true
  simp only [okI, h, Bool.and_true]
theorem okO9 {n : Nat} {ns D : List Int} {r : List PO} (h : okOs n r = true) : okOs n (O9 ns D ++ r) = true := by
  show okOs n ((O8 ns D ++ [.list (rowsL.map .str)]) ++ r) = true
  rw [List.append_assoc]
  refine okO8 ?_
  show (okO n (.list (rowsL.map .str)) && okOs n r) = true
  rw [okStrO, h]; rfl
noncomputable abbrev sl9 (s4 : Option Int) (s8 s9 s10 s11 s12 s13 s14 : Option PV) (ob : List PO) : St := lawSt (some (.ref 1)) (some (.ref 2)) (some (.ref 3)) (oI s4) (some (.ref 5)) (some (.ref 6)) (some (.ref 7)) s8 s9 s10 s11 s12 s13 s14 ob
theorem ok9 {n : Nat} {s4 : Option Int} {r : List (Option PV)} (hn : 8 ≤ n) (h : okSs n r = true) : okSs n ([some (.ref 0), some (.ref 1), some (.ref 2), some (.ref 3), oI s4, some (.ref 5), some (.ref 6), some (.ref 7)] ++ r) = true := by
  show (okS n (some (.ref 0)) && (okS n (some (.ref 1)) && (okS n (some (.ref 2)) && (okS n (some (.ref 3)) && (okS n (oI s4) && (okS n (some (.ref 5)) && (okS n (some (.ref 6)) && (okS n (some (.ref 7)) && okSs n r)))))))) = true
  rw [ok_r (by lia), ok_r (by lia), ok_r (by lia), ok_r (by lia), okS_oI, ok_r (by lia), ok_r (by lia), ok_r (by lia), h]; rfl
theorem o_ifreg {v : Int} (h : v ∈ S20 ++ P15) : binop .add (.int 32768) (.int v) st = some (.int (32768 + v), st) := by
  have : ∀ v ∈ S20 ++ P15, 0 < v ∧ v < 64 := by decide +kernel
  have := this v h
  exact o_add (fits_small (by lia) (by lia))
noncomputable def st9L : IS := .asg (.v 8) (.comp (.call (.const (.fn (.user 12))) [(.bin .add (.const (.int 32768)) (.var 15))]) [(.mk (.v 15) (.var 7) [])] 1)
theorem law9 {ns D : List Int} {s4 : Option Int} : RS phi 8 st9L (sl9 s4 none none none none none none none (O8 ns D)) .next (sl9 s4 (some (.ref 8)) none none none none none none (O9 ns D)) := by
  have key := comp_map2 (d := 8) (elt := .call (.const (.fn (.user 12))) [(.bin .add (.const (.int 32768)) (.var 15))]) (it := .var 7) (v := 15) (b := 7) (f := rowF) (L := S20.map .int) (G := [])
    (st := sl9 s4 none none none none none none none (O8 ns D)) rfl (RE.var rfl) rfl (by decide) (fun x hx i acc => by
      obtain ⟨v, hv, rfl⟩ := List.mem_map.mp hx
      exact RE.user (.one (RE.bin RE.const (RE.var rfl) (o_ifreg (List.mem_append_left _ hv)))) (fm_run (List.mem_append_left _ hv) rfl))
  have em : (S20.map PV.int).map rowF = rowsL.map PV.str := by unfold rowsL; rw [List.map_map, List.map_map]; rfl
  rw [em] at key
  exact RS.asg (key okStr (ok9 (r := [none, none, none, none, none, none, none]) (by show 8 ≤ 8; lia) rfl) (okO8 (r := []) rfl)) rfl
end Mine.Internal
end
section
open PySem
namespace Mine.Internal
set_option linter.unusedSectionVars false
set_option linter.unusedVariables false
set_option maxRecDepth 100000
set_option maxHeartbeats 4000000
variable {d : Nat} {st st' : St}

theorem row_injS : ∀ x ∈ S20, ∀ y ∈ S20, rowS x = rowS y → x = y := by decide +kernel
theorem inS_rowS {acc : List Int} {x : Int} (hx : x ∈ S20) (ha : ∀ y ∈ acc, y ∈ S20) : inS (rowS x) (acc.map rowS) = hasI acc x := by
  have : (inS (rowS x) (acc.map rowS) = true) ↔ (hasI acc x = true) := by
    rw [inS_iff, hasI_iff, List.mem_map]
    constructor
    · rintro ⟨y, hy, e⟩; rw [← row_injS y (ha y hy) x hx e]; exact hy
    · exact fun h => ⟨x, h, rfl⟩
  cases h1 : inS (rowS x) (acc.map rowS) <;> cases h2 : hasI acc x <;> simp_all
theorem addI_S20 {acc : List Int} {x : Int} (hx : x ∈ S20) (ha : ∀ y ∈ acc, y ∈ S20) : ∀ y ∈ addI acc x, y ∈ S20 := fun y hy => by
  unfold addI at hy
  split at hy
  · exact ha y hy
  · rcases List.mem_append.mp hy with h | h
    · exact ha y h
    · simp at h; subst h; exact hx
theorem addI_len (acc : List Int) (x : Int) : (addI acc x).length ≤ acc.length + 1 := by
  unfold addI; split
  · lia
  · simp
theorem addAll_len : ∀ (xs acc : List Int), (xs.foldl addI acc).length ≤ acc.length + xs.length
  | [], acc => by simp
  | x :: r, acc => by
    have h1 := addAll_len r (addI acc x)
    have h2 := addI_len acc x
    simp only [List.foldl_cons, List.length_cons]; lia
theorem addAll_S20 : ∀ {xs acc : List Int}, (∀ x ∈ xs, x ∈ S20) → (∀ y ∈ acc, y ∈ S20) → ∀ y ∈ xs.foldl addI acc, y ∈ S20
  | [], acc, _, ha => ha
  | x :: r, acc, hx, ha => addAll_S20 (xs := r) (fun y hy => hx y (.tail _ hy)) (addI_S20 (hx x (.head _)) ha)

noncomputable abbrev O10 (ns D A : List Int) : List PO := O9 ns D ++ [.list ((A.map rowS).map .str)]
theorem okO10 {n : Nat} {ns D A : List Int} {r : List PO} (h : okOs n r = true) : okOs n (O10 ns D A ++ r) = true := by
  show okOs n ((O9 ns D ++ [.list ((A.map rowS).map .str)]) ++ r) = true
  rw [List.append_assoc]
  refine okO9 ?_
  show (okO n (.list ((A.map rowS).map .str)) && okOs n r) = true
  rw [okStrO, h]; rfl
noncomputable def fileT : IT := .e (.cmp .notin (.call (.const (.fn (.user 12))) [(.bin .add (.const (.int 32768)) (.var 4))]) (.var 9))
noncomputable def fileB : List IS := [.ife fileT [.expr (.meth .append (.var 9) [(.call (.const (.fn (.user 12))) [(.bin .add (.const (.int 32768)) (.var 4))])])] []]
noncomputable abbrev fS (ns D A : List Int) (s4 : Option Int) (i : Nat) : St := sl9 s4 (some (.ref 8)) (some (.ref 9)) none none none none none (O10 ns D A ++ [.listIter 6 i])
theorem file_loop {ns D L : List Int} (hL : L = laidL D) (hl : L.length ≤ 8) : ∀ (r i : Nat) (A : List Int) (s4 : Option Int), i + r = L.length → (∀ y ∈ A, y ∈ S20) → A.length + r ≤ 8 → ∃ s4' : Option Int,
    RF phi 8 (.v 4) fileB [] 10 (fS ns D A s4 i) .next (sl9 s4' (some (.ref 8)) (some (.ref 9)) none none none none none (O10 ns D ((L.drop i).foldl addI A) ++ [.dead])) := by
  subst hL
  intro r
  induction r with
  | zero =>
    intro i A s4 hi hA ha
    rw [List.drop_eq_nil_of_le (show (laidL D).length ≤ i by lia)]
    refine ⟨s4, RF.done ?_ RSs.nil⟩
    have : ((laidL D).map PV.int)[i]? = none := by rw [List.getElem?_eq_none_iff, List.length_map]; omega
    exact n_listE (it := 10) (l := 6) rfl rfl this
  | succ r ih =>
    intro i A s4 hi hA ha
    have hlt : i < (laidL D).length := by lia
    have hv : at0 (laidL D) i ∈ S20 := laid_S20 _ (mem_at0.mpr ⟨i, hlt, rfl⟩)
    have hlen := addI_len A (at0 (laidL D) i)
    obtain ⟨s4', rr⟩ := ih (i + 1) (addI A (at0 (laidL D) i)) (some (at0 (laidL D) i)) (by lia) (addI_S20 hv hA) (by lia)
    have hd : (laidL D).drop i = at0 (laidL D) i :: (laidL D).drop (i + 1) := by
      rw [List.drop_eq_getElem_cons hlt]
      congr 1
      have := at0_get hlt
      rw [List.getElem?_eq_getElem hlt] at this
      exact Option.some.inj this
    rw [hd, List.foldl_cons]
    have nx : nextI (.v 4) 10 (fS ns D A s4 i) = some (some (.int (at0 (laidL D) i)), fS ns D A s4 (i + 1)) := by
      have : ((laidL D).map PV.int)[i]? = some (.int (at0 (laidL D) i)) := by rw [List.getElem?_map, at0_get hlt]; rfl
      exact n_list (it := 10) (l := 6) rfl rfl this
    have cl : RE phi 8 (.call (.const (.fn (.user 12))) [(.bin .add (.const (.int 32768)) (.var 4))]) (fS ns D A (some (at0 (laidL D) i)) (i + 1)) (.str (rowS (at0 (laidL D) i))) (fS ns D A (some (at0 (laidL D) i)) (i + 1)) :=
      RE.user (.one (RE.bin RE.const (RE.var rfl) (o_ifreg (List.mem_append_left _ hv)))) (fm_run (List.mem_append_left _ hv) rfl)
    have tt : RT phi 8 fileT (fS ns D A (some (at0 (laidL D) i)) (i + 1)) (!hasI A (at0 (laidL D) i)) (fS ns D A (some (at0 (laidL D) i)) (i + 1)) := by
      refine RT.ex (RE.cmp cl (RE.var rfl) (c := !hasI A (at0 (laidL D) i)) ?_) rfl
      rw [c_notin (j := 9) (ys := (A.map rowS).map .str) (items_list_ rfl) memS, inS_rowS hv hA]
    cases hb : hasI A (at0 (laidL D) i) with
    | true =>
      rw [hb] at tt
      have e : addI A (at0 (laidL D) i) = A := by unfold addI; rw [hb]; rfl
      rw [e] at rr ⊢
      exact ⟨s4', RF.more0 nx rfl (RSs.cons (RS.ifeF tt RSs.nil) RSs.nil) (gc_same (Nat.le_refl _)) rr⟩
    | false =>
      rw [hb] at tt
      have e : addI A (at0 (laidL D) i) = A ++ [at0 (laidL D) i] := by unfold addI; rw [hb]; rfl
      rw [e] at rr ⊢
      have ap : methop .append (.ref 9) [.str (rowS (at0 (laidL D) i))] (fS ns D A (some (at0 (laidL D) i)) (i + 1)) = some (.none, fS ns D (A ++ [at0 (laidL D) i]) (some (at0 (laidL D) i)) (i + 1)) := by
        rw [m_append (l := 9) (xs := (A.map rowS).map PV.str) rfl (by rw [List.length_map, List.length_map]; unfold room; lia)]
        have : (A.map rowS).map PV.str ++ [.str (rowS (at0 (laidL D) i))] = ((A ++ [at0 (laidL D) i]).map rowS).map PV.str := by simp
        rw [this]; rfl
      exact ⟨s4', RF.more0 nx rfl (RSs.cons (RS.ifeT tt (RSs.cons (RS.expr (RE.meth (RE.var rfl) rfl (.one cl) ap)) RSs.nil)) RSs.nil) (gc_same (Nat.le_refl _)) rr⟩

noncomputable def ddL (D : List Int) : List Int := (laidL D).foldl addI []
noncomputable def st10L : IS := .asg (.v 9) (.list [])
noncomputable def st11L : IS := .fr (.v 4) (.var 6) fileB []
theorem law10 {ns D : List Int} {s4 : Option Int} : RS phi 8 st10L (sl9 s4 (some (.ref 8)) none none none none none none (O9 ns D)) .next (sl9 s4 (some (.ref 8)) (some (.ref 9)) none none none none none (O10 ns D [])) :=
  RS.asg (RE.list .nil (Nat.zero_le _)) rfl
theorem law11 {ns D : List Int} {s4 : Option Int} (hl : D.length ≤ 8) : ∃ s4', RS phi 8 st11L (sl9 s4 (some (.ref 8)) (some (.ref 9)) none none none none none (O10 ns D [])) .next (sl9 s4' (some (.ref 8)) (some (.ref 9)) none none none none none (O10 ns D (ddL D))) := by
  have hll : (laidL D).length = D.length := by unfold laidL; rw [List.length_map]
  obtain ⟨s4', lp⟩ := file_loop (ns := ns) (D := D) rfl (by lia) (laidL D).length 0 [] s4 (by lia) (fun _ h => nomatch h) (by simp; omega)
  exact ⟨s4', RS.fr0 (RE.var rfl) rfl lp (gc_take (ok9 (r := [some (.ref 8), some (.ref 9), none, none, none, none, none]) (by show 8 ≤ 10; lia) rfl) rfl (okO10 (r := []) rfl))⟩
theorem dd_facts {D : List Int} (hl : D.length ≤ 8) (hn : D ≠ []) : (ddL D).Nodup ∧ (∀ v ∈ ddL D, v ∈ S20) ∧ 0 < (ddL D).length ∧ (ddL D).length ≤ 8 := by
  have hll : (laidL D).length = D.length := by unfold laidL; rw [List.length_map]
  obtain ⟨a, b⟩ := addAll_ok (xs := laidL D) (acc := []) .nil
  refine ⟨a, addAll_S20 laid_S20 (fun _ h => nomatch h), ?_, ?_⟩
  · cases D with
    | nil => exact absurd rfl hn
    | cons v r =>
      have : at0 S20 (v.toNat % 20) ∈ (laidL (v :: r)).foldl addI [] := (b _).mpr (.inl (.head _))
      exact List.length_pos_of_mem this
  · have := addAll_len (laidL D) []
    show ((laidL D).foldl addI []).length ≤ 8
    simp at this; lia

noncomputable def st12L : IS := .asg (.v 10) (.call (.const (.fn (.user 17))) [(.call (.const (.fn (.prim .len))) [(.var 9)])])
theorem law12 {ns D : List Int} {s4 : Option Int} (hl : D.length ≤ 8) (hn : D ≠ []) : RS phi 8 st12L (sl9 s4 (some (.ref 8)) (some (.ref 9)) none none none none none (O10 ns D (ddL D))) .next
    (sl9 s4 (some (.ref 8)) (some (.ref 9)) (some (.int (fewT (ddL D).length : Int))) none none none none (O10 ns D (ddL D))) := by
  obtain ⟨d1, d2, d3, d4⟩ := dd_facts hl hn
  have hlm : (((ddL D).map rowS).map PV.str).length = (ddL D).length := by rw [List.length_map, List.length_map]
  have ln : primop .len [.ref 9] (sl9 s4 (some (.ref 8)) (some (.ref 9)) none none none none none (O10 ns D (ddL D))) = some (.int ((ddL D).length : Int), sl9 s4 (some (.ref 8)) (some (.ref 9)) none none none none none (O10 ns D (ddL D))) := by
    rw [p_len (l := 9) (xs := ((ddL D).map rowS).map .str) (items_list_ rfl) (by rw [hlm]; unfold room; lia), hlm]
  exact RS.asg (RE.user (.one (RE.prim (.one (RE.var rfl)) ln)) (few_run d3 d4 rfl)) rfl

noncomputable def st13L : IS := .asg (.v 11) (.comp twoE (.mk (.v 15) (.call (.const (.fn (.prim .range))) [(.const (.int 5)), (.const (.int 0)), (.neg (.const (.int 1)))]) [] :: twoG) 2)
theorem law13 {ns D A : List Int} {s4 : Option Int} {e : Int} : RS phi 8 st13L (sl9 s4 (some (.ref 8)) (some (.ref 9)) (some (.int e)) none none none none (O10 ns D A)) .next
    (sl9 s4 (some (.ref 8)) (some (.ref 9)) (some (.int e)) (some (.ref 10)) none none none (O10 ns D A ++ [.list (P15.map .int)])) := by
  obtain ⟨s, hs, e0⟩ := Option.map_eq_some_iff.mp (two_ev (some (.ref 0)) (some (.ref 1)) (some (.ref 2)) (some (.ref 3)) (oI s4) (some (.ref 5)) (some (.ref 6)) (some (.ref 7)) (some (.ref 8)) (some (.ref 9)) (some (.int e)) none none none none (.ro (ns.map .int)) (.list (allNames.map .str)) (.list (D.map .int)) (.list ((encL D).map .int)) (.list (D.map .int))
    (.list (S20.map .int)) (.list ((laidL D).map .int)) (.list (S20.map .int)) (.list (rowsL.map .str)) (.list ((A.map rowS).map .str)))
  have e1 : s.sl.take 15 = _ := congrArg (·.1) e0
  have e2 : s.ob.take 10 = _ := congrArg (·.2.1) e0
  have e3 : s.ob[12]? = _ := congrArg (·.2.2) e0
  have rg : primop .range [.int 5, .int 0, .int (-1)] (sl9 s4 (some (.ref 8)) (some (.ref 9)) (some (.int e)) none none none none (O10 ns D A)) = some (.ref 10, sl9 s4 (some (.ref 8)) (some (.ref 9)) (some (.int e)) none none none none (O10 ns D A ++ [.range 5 0 (-1)])) := by
    rw [p_range3 (by decide)]; rfl
  have := RE.comp (Φ := phi) (d := 8) (elt := twoE) (t := .v 15) (it := .call (.const (.fn (.prim .range))) [(.const (.int 5)), (.const (.int 0)), (.neg (.const (.int 1)))]) (ifs := []) (gs := twoG) (m := 2) (xs := P15.map .int) (st := sl9 s4 (some (.ref 8)) (some (.ref 9)) (some (.int e)) none none none none (O10 ns D A)) (st4 := s)
    (j := 11) (st2 := sl9 s4 (some (.ref 8)) (some (.ref 9)) (some (.int e)) none none none none (O10 ns D A ++ [PO.range 5 0 (-1), PO.rangeIter 5 5 (-1)])) (RE.prim (.cons RE.const (.cons RE.const (.one (RE.neg RE.const rfl)))) rg) rfl ⟨100, hs⟩ e3 ints_ok0 ?_ ?_
  · refine RS.asg this ?_
    show setS ⟨s.sl.take 15, s.ob.take 10 ++ [.list (P15.map .int)]⟩ 11 (.ref 10) = _
    rw [e1, e2]
    rfl
  · show okSs 10 (s.sl.take 15) = true
    rw [e1]
    exact ok9 (r := [some (.ref 8), some (.ref 9), some (.int e), none, none, none, none]) (by lia) rfl
  · show okOs 10 (s.ob.take 10) = true
    rw [e2]
    exact okO10 (ns := ns) (D := D) (A := A) (r := []) rfl
end Mine.Internal
end
section
open PySem
namespace Mine.Internal
set_option linter.unusedSectionVars false
set_option linter.unusedVariables false
set_option maxRecDepth 100000
set_option maxHeartbeats 4000000
variable {d : Nat} {st st' : St}

theorem few_small : ∀ k, k ≤ 8 → fewT k ≤ 10 ∧ (0 < k → fewT k ∈ ([3, 5, 6, 8, 9, 10] : List Nat)) := by decide
theorem struck_len {D : List Int} (h : ∀ v ∈ D, v ∈ S20) : (struckL (D.map rowS)).length = (pairsL D).length := by rw [struck_eq h, List.length_map]
theorem rows_size {D : List Int} : ∀ r ∈ D.map rowS, r.cps.size ≤ 100 := by
  intro r hr
  obtain ⟨v, _, rfl⟩ := List.mem_map.mp hr
  rw [row_size]; decide

noncomputable abbrev sl12 (s4 : Option Int) (e : Int) (s12 s13 s14 : Option PV) (ob : List PO) : St := sl9 s4 (some (.ref 8)) (some (.ref 9)) (some (.int e)) (some (.ref 10)) s12 s13 s14 ob
noncomputable abbrev O11 (ns D A : List Int) (r : List PO) : List PO := O10 ns D A ++ .list (P15.map .int) :: r
noncomputable def st14L : IS := .ife (.e (.cmp .lt (.call (.const (.fn (.prim .len))) [(.call (.const (.fn (.user 16))) [(.var 9)])]) (.var 10))) [.ret (.const (.bool false))] []
theorem law14 {ns D A : List Int} {s4 : Option Int} (hn : A.Nodup) (hA : ∀ v ∈ A, v ∈ S20) (h8 : A.length ≤ 8) : RS phi 8 st14L (sl12 s4 (fewT A.length : Int) none none none (O11 ns D A [])) .next
    (sl12 s4 (fewT A.length : Int) none none none (O11 ns D A [.list ((sortStrs (struckL (A.map rowS))).map .str)])) := by
  have hl := struck_len hA
  have h15 := pairsL_le hA
  have hk := kk hn hA h8
  have hlm : ((sortStrs (struckL (A.map rowS))).map PV.str).length = (pairsL A).length := by rw [List.length_map, sort_len, hl]
  have ln : primop .len [.ref 11] (sl12 s4 (fewT A.length : Int) none none none (O11 ns D A [.list ((sortStrs (struckL (A.map rowS))).map .str)])) = some (.int ((pairsL A).length : Int), sl12 s4 (fewT A.length : Int) none none none (O11 ns D A [.list ((sortStrs (struckL (A.map rowS))).map .str)])) := by
    rw [p_len (l := 11) (xs := (sortStrs (struckL (A.map rowS))).map .str) (items_list_ rfl) (by rw [hlm]; unfold room; lia), hlm]
  have call : RCall phi 8 16 [.ref 9] (O11 ns D A []) (.ref 11) (O11 ns D A [.list ((sortStrs (struckL (A.map rowS))).map .str)]) := struck_run (a := 9) (rows := A.map rowS) rfl rfl rows_size (by rw [List.length_map]; lia) (by rw [hl]; lia)
  refine RS.ifeF (RT.ex (RE.cmp (RE.prim (.one (RE.user (.one (RE.var rfl)) call)) ln) (RE.var rfl) (c := false) ?_) rfl) RSs.nil
  show some (decide (((pairsL A).length : Int) < (fewT A.length : Int))) = _
  rw [decide_eq_false (by lia)]

noncomputable def nsF : PV → PV
  | .int v => .str (rowS v)
  | x => x
theorem nsT_P15 (e : Nat) : ∀ v ∈ nsT e, v ∈ S20 ++ P15 := by
  intro v hv
  have h1 : v ∈ ([3, 5, 6, 9, 10, 12, 17, 18, 20, 24, 33, 34, 36, 40, 48] : List Int) := List.mem_of_mem_take hv
  have : ∀ v ∈ ([3, 5, 6, 9, 10, 12, 17, 18, 20, 24, 33, 34, 36, 40, 48] : List Int), v ∈ S20 ++ P15 := by decide
  exact this v h1
theorem nsT_len (e : Nat) : (nsT e).length ≤ 15 := by
  unfold nsT; rw [List.length_take]; exact Nat.min_le_right _ _
theorem same_rows : ∀ k ∈ ([1, 2, 3, 4, 5, 6, 7, 8] : List Nat), neVs ((sortStrs (struckL ((S20.take k).map rowS))).map .str) ((sortStrs ((nsT (fewT k)).map rowS)).map .str) = some false := by decide +kernel
theorem in_eight : ∀ k, k ≤ 8 → 0 < k → k ∈ ([1, 2, 3, 4, 5, 6, 7, 8] : List Nat) := by decide

noncomputable def cmpE : IE := .comp (.call (.const (.fn (.user 12))) [(.bin .add (.const (.int 32768)) (.var 15))]) [(.mk (.v 15) (.call (.const (.fn (.user 8))) [(.var 10), (.var 11)]) [])] 1
noncomputable def st15L : IS := .ife (.e (.cmp .ne (.call (.const (.fn (.user 16))) [(.slice (.var 8) none (some (.call (.const (.fn (.prim .len))) [(.var 9)])))]) (.call (.const (.fn (.prim .sorted))) [cmpE]))) [.ret (.const (.bool false))] []
theorem law15 {ns D A : List Int} {s4 : Option Int} {X : List Str} (h0 : 0 < A.length) (h8 : A.length ≤ 8) : ∃ X1 X2 X3 X4 : List Str, RS phi 8 st15L (sl12 s4 (fewT A.length : Int) none none none (O11 ns D A [.list (X.map .str)])) .next
    (sl12 s4 (fewT A.length : Int) none none none (O11 ns D A [.list (X.map .str), .list (X1.map .str), .list (X2.map .str), .list (X3.map .str), .list (X4.map .str)])) := by
  have hlm : ((A.map rowS).map PV.str).length = A.length := by rw [List.length_map, List.length_map]
  have ln : primop .len [.ref 9] (sl12 s4 (fewT A.length : Int) none none none (O11 ns D A [.list (X.map .str)])) = some (.int (A.length : Int), sl12 s4 (fewT A.length : Int) none none none (O11 ns D A [.list (X.map .str)])) := by
    rw [p_len (l := 9) (xs := (A.map rowS).map .str) (items_list_ rfl) (by rw [hlm]; unfold room; lia), hlm]
  have hr : (rowsL.map PV.str).length = 20 := by rw [List.length_map, List.length_map, S20_len]
  have sl : sliceop (.ref 8) none (some (.int (A.length : Int))) (sl12 s4 (fewT A.length : Int) none none none (O11 ns D A [.list (X.map .str)])) = some (.ref 12, sl12 s4 (fewT A.length : Int) none none none (O11 ns D A [.list (X.map .str), .list (((S20.take A.length).map rowS).map .str)])) := by
    show (do
      let xs ← items _ 8
      let i ← clamp xs.length 0 none
      let k ← clamp xs.length xs.length (some (.int (A.length : Int)))
      if xs.length ≤ room then return push _ (.list ((xs.take k).drop i)) else none) = _
    rw [items_list_ (xs := rowsL.map .str) rfl]
    simp only [Option.bind_eq_bind, Option.bind_some]
    have c1 : clamp (rowsL.map PV.str).length (rowsL.map PV.str).length (some (.int (A.length : Int))) = some A.length := by
      show (if (0 : Int) ≤ (A.length : Int) then some (min (A.length : Int).toNat (rowsL.map PV.str).length) else some ((rowsL.map PV.str).length - (-(A.length : Int)).toNat)) = _
      rw [if_pos (by lia), hr]
      simp; lia
    have c0 : clamp (rowsL.map PV.str).length 0 none = some 0 := rfl
    rw [c0, c1]
    simp only [Option.bind_some]
    rw [if_pos (by rw [hr]; decide)]
    have : ((rowsL.map PV.str).take A.length).drop 0 = ((S20.take A.length).map rowS).map PV.str := by
      rw [List.drop_zero, ← List.map_take, ← List.map_take]
    rw [this]; rfl
  have hT : ∀ v ∈ S20.take A.length, v ∈ S20 := fun v hv => List.mem_of_mem_take hv
  have call : RCall phi 8 16 [.ref 12] (O11 ns D A [.list (X.map .str), .list (((S20.take A.length).map rowS).map .str)]) (.ref 13) (O11 ns D A [.list (X.map .str), .list (((S20.take A.length).map rowS).map .str), .list ((sortStrs (struckL ((S20.take A.length).map rowS))).map .str)]) :=
    struck_run (a := 12) (rows := (S20.take A.length).map rowS) rfl rfl rows_size (by rw [List.length_map, List.length_take]; lia) (by rw [struck_len hT]; have := pairsL_le hT; lia)
  have key := comp_map2 (d := 8) (elt := .call (.const (.fn (.user 12))) [(.bin .add (.const (.int 32768)) (.var 15))]) (it := .call (.const (.fn (.user 8))) [(.var 10), (.var 11)]) (v := 15) (b := 14) (f := nsF) (L := (nsT (fewT A.length)).map .int) (G := [.list ((nsT (fewT A.length)).map .int)])
    (st := sl12 s4 (fewT A.length : Int) none none none (O11 ns D A [.list (X.map .str), .list (((S20.take A.length).map rowS).map .str), .list ((sortStrs (struckL ((S20.take A.length).map rowS))).map .str)])) rfl
    (RE.user (.cons (RE.var rfl) (.one (RE.var rfl))) (ns_run (a := 10) ((few_small _ h8).2 h0) rfl rfl)) rfl (by rw [List.length_map]; have := nsT_len (fewT A.length); lia) (fun x hx i acc => by
      obtain ⟨v, hv, rfl⟩ := List.mem_map.mp hx
      exact RE.user (.one (RE.bin RE.const (RE.var rfl) (o_ifreg (nsT_P15 _ v hv)))) (fm_run (nsT_P15 _ v hv) rfl))
  have em : ((nsT (fewT A.length)).map PV.int).map nsF = ((nsT (fewT A.length)).map rowS).map PV.str := by rw [List.map_map, List.map_map]; rfl
  rw [em] at key
  have key := key okStr (ok9 (r := [some (.ref 8), some (.ref 9), some (.int (fewT A.length : Int)), some (.ref 10), none, none, none]) (by show 8 ≤ 14; lia) rfl) (okO10 (r := [.list (P15.map .int), .list (X.map .str), .list (((S20.take A.length).map rowS).map .str), .list ((sortStrs (struckL ((S20.take A.length).map rowS))).map .str)]) (by
    show (okO 14 (.list (P15.map .int)) && (okO 14 (.list (X.map .str)) && (okO 14 (.list (((S20.take A.length).map rowS).map .str)) && (okO 14 (.list ((sortStrs (struckL ((S20.take A.length).map rowS))).map .str)) && true)))) = true
    simp only [okI, okStrO, Bool.and_true]))
  have so : primop .sorted [.ref 14] (sl12 s4 (fewT A.length : Int) none none none (O11 ns D A [.list (X.map .str), .list (((S20.take A.length).map rowS).map .str), .list ((sortStrs (struckL ((S20.take A.length).map rowS))).map .str), .list (((nsT (fewT A.length)).map rowS).map .str)])) =
      some (.ref 15, sl12 s4 (fewT A.length : Int) none none none (O11 ns D A [.list (X.map .str), .list (((S20.take A.length).map rowS).map .str), .list ((sortStrs (struckL ((S20.take A.length).map rowS))).map .str), .list (((nsT (fewT A.length)).map rowS).map .str), .list ((sortStrs ((nsT (fewT A.length)).map rowS)).map .str)])) := by
    rw [p_sorted (l := 14) (xs := ((nsT (fewT A.length)).map rowS).map .str) (items_list_ rfl) strsOf_map (by rw [List.length_map]; have := nsT_len (fewT A.length); lia)]; rfl
  refine ⟨_, _, _, _, RS.ifeF (RT.ex (RE.cmp (RE.user (.one (RE.sliceHi (RE.var rfl) (RE.prim (.one (RE.var rfl)) ln) sl)) call) (RE.prim (.one key) so) (c := false) ?_) rfl) RSs.nil⟩
  exact c_ne (i := 13) (j := 15) (xs := (sortStrs (struckL ((S20.take A.length).map rowS))).map .str) (ys := (sortStrs ((nsT (fewT A.length)).map rowS)).map .str) (items_list_ rfl) (items_list_ rfl) (by rw [List.length_map, sort_len, struck_len hT]; have := pairsL_le hT; unfold room; lia) (by rw [List.length_map, sort_len, List.length_map]; have := nsT_len (fewT A.length); unfold room; lia) (same_rows A.length (in_eight _ h8 h0))
end Mine.Internal
end
section
open PySem
namespace Mine.Internal
set_option linter.unusedSectionVars false
set_option linter.unusedVariables false
set_option maxRecDepth 100000
set_option maxHeartbeats 4000000
variable {d : Nat} {st st' : St}

theorem comp_range {elt it : IE} {ifs : List IT} {v m : Nat} {a b c : Int} {p : Nat → Bool} {g : Nat → PV} {xs : List PV} (hv : v = st.sl.length) (h1 : RE phi d it st (.ref st.ob.length) ⟨st.sl, st.ob ++ [.range a b c]⟩) (hlen : rangeLen a b c = (m : Int)) (hm : m ≤ 100)
    (ts : ∀ i acc, i < m → RTs phi d ifs ⟨st.sl ++ [some (.int (a + (i : Int) * c))], (st.ob ++ [.range a b c, .rangeIter (a + ((i + 1 : Nat) : Int) * c) ((m : Int) - ((i + 1 : Nat) : Int)) c]) ++ [.list acc]⟩ (p i) ⟨st.sl ++ [some (.int (a + (i : Int) * c))], (st.ob ++ [.range a b c, .rangeIter (a + ((i + 1 : Nat) : Int) * c) ((m : Int) - ((i + 1 : Nat) : Int)) c]) ++ [.list acc]⟩)
    (el : ∀ i acc, i < m → p i = true → RE phi d elt ⟨st.sl ++ [some (.int (a + (i : Int) * c))], (st.ob ++ [.range a b c, .rangeIter (a + ((i + 1 : Nat) : Int) * c) ((m : Int) - ((i + 1 : Nat) : Int)) c]) ++ [.list acc]⟩ (g i) ⟨st.sl ++ [some (.int (a + (i : Int) * c))], (st.ob ++ [.range a b c, .rangeIter (a + ((i + 1 : Nat) : Int) * c) ((m : Int) - ((i + 1 : Nat) : Int)) c]) ++ [.list acc]⟩)
    (hxs : ((List.range m).filter p).map g = xs) (hok : okVs 0 xs = true) (hos : okSs st.ob.length st.sl = true) (hoo : okOs st.ob.length st.ob = true) :
    RE phi d (.comp elt [.mk (.v v) it ifs] 1) st (.ref st.ob.length) ⟨st.sl, st.ob ++ [.list xs]⟩ := by
  subst hv
  refine comp_run (x := .ref st.ob.length) (st1 := ⟨st.sl, st.ob ++ [.range a b c]⟩) (st2 := ⟨st.sl, st.ob ++ [.range a b c, .rangeIter a (m : Int) c]⟩) (j := st.ob.length + 1) (m := m) (I := fun i => st.ob ++ [.range a b c, .rangeIter (a + (i : Int) * c) ((m : Int) - (i : Int)) c]) (I' := st.ob ++ [.range a b c, .dead]) (X := fun i => .int (a + (i : Int) * c)) (g := g) (p := p)
    (SL := fun i => st.sl ++ [if i = 0 then none else some (.int (a + ((i - 1 : Nat) : Int) * c))]) h1 ?_ rfl (by simp) (fun i _ => by simp) hm (fun i acc hi => ?_) (fun acc => ?_) (by simp) (fun i acc hi => ?_) (fun i acc hi => ?_) (fun i acc hi hp => ?_) hxs hok (by simp) (by simp) (by simp) hos hoo
  · refine (it_range (a := a) (b := b) (c := c) (by show (st.ob ++ [PO.range a b c])[st.ob.length]? = _; simp)).trans ?_
    rw [hlen]
    simp
  · have e0 : ((st.ob ++ [PO.range a b c, PO.rangeIter (a + (i : Int) * c) ((m : Int) - (i : Int)) c]) ++ [PO.list acc])[st.ob.length + 1]? = some (.rangeIter (a + (i : Int) * c) ((m : Int) - (i : Int)) c) := by rw [List.append_assoc]; simp
    have e3 : ((st.ob ++ [PO.range a b c, PO.rangeIter (a + (i : Int) * c) ((m : Int) - (i : Int)) c]) ++ [PO.list acc]).set (st.ob.length + 1) (.rangeIter (a + (i : Int) * c + c) ((m : Int) - (i : Int) - 1) c) = (st.ob ++ [.range a b c, .rangeIter (a + ((i + 1 : Nat) : Int) * c) ((m : Int) - ((i + 1 : Nat) : Int)) c]) ++ [.list acc] := by
      have h1 : a + (i : Int) * c + c = a + ((i + 1 : Nat) : Int) * c := by rw [Int.natCast_add, Int.add_mul]; simp; lia
      have h2 : (m : Int) - (i : Int) - 1 = (m : Int) - ((i + 1 : Nat) : Int) := by lia
      rw [h1, h2, List.append_assoc, List.append_assoc, List.set_append_right _ _ (by lia)]
      simp
    rw [n_range e0 (by lia)]
    unfold setO
    rw [e3]
  · have e0 : ((st.ob ++ [PO.range a b c, PO.rangeIter (a + (m : Int) * c) ((m : Int) - (m : Int)) c]) ++ [PO.list acc])[st.ob.length + 1]? = some (.rangeIter (a + (m : Int) * c) ((m : Int) - (m : Int)) c) := by rw [List.append_assoc]; simp
    have e3 : ((st.ob ++ [PO.range a b c, PO.rangeIter (a + (m : Int) * c) ((m : Int) - (m : Int)) c]) ++ [PO.list acc]).set (st.ob.length + 1) .dead = (st.ob ++ [.range a b c, .dead]) ++ [.list acc] := by
      rw [List.append_assoc, List.append_assoc, List.set_append_right _ _ (by lia)]
      simp
    rw [n_rangeE e0 (by lia)]
    unfold setO
    rw [e3]
  · show setS _ st.sl.length _ = _
    unfold setS
    have hb : Nat.blt st.sl.length (st.sl ++ [if i = 0 then none else some (PV.int (a + ((i - 1 : Nat) : Int) * c))]).length = true := Nat.ble_eq_true_of_le (by simp)
    rw [hb]
    simp
  · have := ts i acc hi
    simpa using this
  · have := el i acc hi hp
    simpa using this

/-! what the words tell of a set -/
noncomputable def plL (v : Int) : List Nat := (List.range 6).filter (bit6 v)
noncomputable def plI (v : Int) : List Int := (plL v).map fun k : Nat => (k : Int)
theorem w_split : ∀ v ∈ S20, Txt.split (pfS v) ", " = wordsL v := by decide +kernel
theorem w_in : ∀ v ∈ S20, ∀ k, k < 6 → (allNames[k]?.map fun s => inS s (wordsL v)) = some (bit6 v k) := by decide +kernel
theorem w_pl : ∀ v ∈ S20, (plL v).length = 3 ∧ (∀ k ∈ plL v, k < 6) ∧ neVs ((wordsL v).map .str) ((plL v).map fun k => .str (allNames.getD k "")) = some false := by decide +kernel
theorem w_size : ∀ v ∈ S20, (pfS v).cps.size ≤ 1000 := by decide +kernel
theorem w_sum : ∀ r, r < 20 → ((List.range 3).map fun i : Nat => ((waysT ((plL (at0 S20 r)).getD i 0) (i + 1) : Nat) : Int)).sum = (r : Int) := by decide +kernel
theorem w_bit : ∀ v ∈ S20, ∀ k : Nat, k < 6 → inI (k : Int) (plI v) = bit6 v k := by decide +kernel
noncomputable def chS (k : Nat) : Str := ⟨#[([120, 119, 114, 120, 119, 114] : List Nat).getD k 0]⟩
noncomputable def jnL (v : Int) : List Str := (List.range 6).map fun i => if bit6 v (5 - i) then chS (5 - i) else "-"
theorem w_row : ∀ v ∈ S20, strEq (rowS v) (("----" : Str) ++ Txt.join "" (jnL v)) = true ∧ (Txt.join "" (jnL v)).cps.size ≤ 1000 := by decide +kernel
end Mine.Internal
end
section
open PySem
namespace Mine.Internal
set_option linter.unusedSectionVars false
set_option linter.unusedVariables false
set_option maxRecDepth 100000
set_option maxHeartbeats 4000000
variable {d : Nat} {st st' : St}

theorem okOs_app {n : Nat} : ∀ (a b : List PO), okOs n (a ++ b) = (okOs n a && okOs n b)
  | [], b => rfl
  | x :: r, b => by show (okO n x && okOs n (r ++ b)) = ((okO n x && okOs n r) && okOs n b); rw [okOs_app r b, Bool.and_assoc]
theorem callOk_app : ∀ (a b : List PO), callOk (a ++ b) = (callOk a && callOk b)
  | [], b => rfl
  | x :: r, b => by
    rw [List.cons_append]
    cases x <;> first
      | (show callOk (r ++ b) = (callOk r && callOk b); exact callOk_app r b)
      | rfl

/-- what a turn of the law's last loop asks of the objects -/
structure Good (ob : List PO) : Prop where
  len : 18 ≤ ob.length
  names : ob[1]? = some (.list (allNames.map .str))
  rows : ob[8]? = some (.list (rowsL.map .str))
  ok : ∀ n, 18 ≤ n → okOs n ob = true
  call : callOk ob = true
theorem Good.push {ob : List PO} {xs : List PV} (G : Good ob) (h : ∀ n, okVs n xs = true) : Good (ob ++ [.list xs]) := by
  have := G.len
  refine ⟨by simp; lia, by rw [List.getElem?_append_left (by lia)]; exact G.names, by rw [List.getElem?_append_left (by lia)]; exact G.rows, fun n hn => ?_, ?_⟩
  · rw [okOs_app, G.ok n hn]
    show (true && (okVs n xs && true)) = true
    rw [h n]; rfl
  · rw [callOk_app, G.call]; rfl

/-- a slot that holds no object, or one of the first n -/
noncomputable def Sl (n : Nat) (s : Option PV) : Prop := s = none ∨ ∃ k, k < n ∧ s = some (.ref k)
theorem Sl.ok {n m : Nat} {s : Option PV} (h : Sl n s) (hm : n ≤ m) : okS m s = true := by
  rcases h with rfl | ⟨k, hk, rfl⟩
  · rfl
  · exact ok_r (by lia)
noncomputable abbrev bS (v e r : Int) (s13 s14 : Option PV) (ob : List PO) : St := sl12 (some v) e (some (.int r)) s13 s14 ob
theorem ok_bS {v e r : Int} {s13 s14 : Option PV} {n : Nat} (hn : 18 ≤ n) (h1 : okS n s13 = true) (h2 : okS n s14 = true) : okSs n (bS v e r s13 s14 []).sl = true := by
  refine ok9 (r := [some (.ref 8), some (.ref 9), some (.int e), some (.ref 10), some (.int r), s13, s14]) (by lia) ?_
  show (okS n (some (.ref 8)) && (okS n (some (.ref 9)) && (okS n (some (.int e)) && (okS n (some (.ref 10)) && (okS n (some (.int r)) && (okS n s13 && (okS n s14 && true))))))) = true
  rw [ok_r (by lia), ok_r (by lia), ok_r (by lia), h1, h2]
  rfl

noncomputable def saL : IS := .asg (.v 13) (.meth .split (.call (.const (.fn (.user 9))) [(.var 4)]) [(.const (.str ", "))])
theorem turn_a {v e r : Int} {s13 s14 : Option PV} {ob : List PO} (G : Good ob) (hv : v ∈ S20) : RS phi 8 saL (bS v e r s13 s14 ob) .next (bS v e r (some (.ref ob.length)) s14 (ob ++ [.list ((wordsL v).map .str)])) := by
  have spl : methop .split (.str (pfS v)) [.str ", "] (bS v e r s13 s14 ob) = some (.ref ob.length, bS v e r s13 s14 (ob ++ [.list ((wordsL v).map .str)])) := by
    rw [m_split (Nat.le_trans (w_size v hv) (by decide)) (by decide), w_split v hv]
    rfl
  exact RS.asg (RE.meth (RE.user (.one (RE.var rfl)) (pf_run hv G.call)) rfl (.one RE.const) spl) rfl

noncomputable def sbL : IS := .asg (.v 14) (.comp (.var 15) [(.mk (.v 15) (.call (.const (.fn (.prim .range))) [(.const (.int 6))]) [(.e (.cmp .isin (.idx (.var 1) (.var 15)) (.var 13)))])] 1)
theorem turn_b {v e r : Int} {s14 : Option PV} {ob : List PO} (G : Good ob) (hv : v ∈ S20) (h14 : Sl ob.length s14) : RS phi 8 sbL (bS v e r (some (.ref ob.length)) s14 (ob ++ [.list ((wordsL v).map .str)])) .next
    (bS v e r (some (.ref ob.length)) (some (.ref (ob.length + 1))) (ob ++ [.list ((wordsL v).map .str)] ++ [.list ((plI v).map .int)])) := by
  have G1 : Good (ob ++ [.list ((wordsL v).map .str)]) := G.push fun n => okStr
  have hl := G.len
  have key := comp_range (d := 8) (elt := .var 15) (it := .call (.const (.fn (.prim .range))) [(.const (.int 6))]) (ifs := [(.e (.cmp .isin (.idx (.var 1) (.var 15)) (.var 13)))]) (v := 15) (m := 6) (a := 0) (b := 6) (c := 1) (p := bit6 v) (g := fun i => .int (i : Int)) (xs := (plI v).map .int)
    (st := bS v e r (some (.ref ob.length)) s14 (ob ++ [.list ((wordsL v).map .str)])) rfl (RE.prim (.one RE.const) (rb_range rfl)) rfl (by decide) (fun i acc hi => by
      have ei : (0 : Int) + (i : Int) * 1 = (i : Int) := by lia
      rw [ei]
      have hn : allNames[i]? = some (allNames.getD i "") := by
        have : ∀ i, i < 6 → allNames[i]? = some (allNames.getD i "") := by decide
        exact this i hi
      have hin : inS (allNames.getD i "") (wordsL v) = bit6 v i := by
        have := w_in v hv i hi
        rw [hn] at this
        exact Option.some.inj this
      refine RTs.one (RT.ex (RE.cmp (RE.idx (RE.var rfl) (RE.var rfl) (i_any (x := .str (allNames.getD i "")) (xs := allNames.map .str) ?_ (by rw [List.getElem?_map, hn]; rfl) (by lia))) (RE.var rfl) (c := bit6 v i) ?_) rfl)
      · show (((ob ++ [PO.list ((wordsL v).map .str)]) ++ _) ++ _)[1]? = _
        rw [List.getElem?_append_left (by simp <;> omega), List.getElem?_append_left (by simp <;> lia)]
        exact G1.names
      · refine c_isin (j := ob.length) (ys := (wordsL v).map .str) (items_list_ ?_) (by rw [memS, hin])
        show (((ob ++ [PO.list ((wordsL v).map .str)]) ++ _) ++ _)[ob.length]? = _
        rw [List.getElem?_append_left (by simp <;> omega), List.getElem?_append_left (by simp <;> omega)]
        exact app_get rfl)
    (fun i acc hi hp => by
      have ei : (0 : Int) + (i : Int) * 1 = (i : Int) := by omega
      rw [ei]
      exact RE.var rfl)
    (by unfold plI plL; rw [List.map_map]; rfl) ints_ok0 (ok_bS (by simp; lia) (ok_r (by simp)) (h14.ok (by simp))) (G1.ok _ (by simp; omega))
  have hs : (ob ++ [PO.list ((wordsL v).map .str)]).length = ob.length + 1 := by simp
  have key : RE phi 8 _ _ (.ref (ob ++ [PO.list ((wordsL v).map .str)]).length) _ := key
  rw [hs] at key
  exact RS.asg key rfl
end Mine.Internal
end
section
open PySem
namespace Mine.Internal
set_option linter.unusedSectionVars false
set_option linter.unusedVariables false
set_option maxRecDepth 100000
set_option maxHeartbeats 4000000
variable {d : Nat} {st st' : St}

theorem plL_mem {v : Int} (hv : v ∈ S20) {k : Int} (hk : k ∈ plI v) : ∃ i : Nat, i < 6 ∧ k = (i : Int) := by
  unfold plI at hk
  obtain ⟨i, hi, rfl⟩ := List.mem_map.mp hk
  exact ⟨i, (w_pl v hv).2.1 i hi, rfl⟩
noncomputable def nmF : PV → PV
  | .int k => .str (allNames.getD k.toNat "")
  | x => x
noncomputable def scL : IS := .ife (.or (.e (.cmp .ne (.var 13) (.comp (.idx (.var 1) (.var 15)) [(.mk (.v 15) (.var 14) [])] 1))) (.e (.cmp .ne (.call (.const (.fn (.prim .len))) [(.var 14)]) (.const (.int 3))))) [.ret (.const (.bool false))] []
theorem turn_c {v e r : Int} {w p : Nat} {ob : List PO} (G : Good ob) (hv : v ∈ S20) (hw : ob[w]? = some (.list ((wordsL v).map .str))) (hp : ob[p]? = some (.list ((plI v).map .int))) : RS phi 8 scL (bS v e r (some (.ref w)) (some (.ref p)) ob) .next
    (bS v e r (some (.ref w)) (some (.ref p)) (ob ++ [.list ((plL v).map fun k => .str (allNames.getD k ""))])) := by
  have hl := G.len
  have hwl : w < ob.length := (List.getElem?_eq_some_iff.mp hw).1
  have hpl : p < ob.length := (List.getElem?_eq_some_iff.mp hp).1
  obtain ⟨f1, f2, f3⟩ := w_pl v hv
  have hlm : ((plI v).map PV.int).length = 3 := by unfold plI; rw [List.length_map, List.length_map, f1]
  have key := comp_map2 (d := 8) (elt := .idx (.var 1) (.var 15)) (it := .var 14) (v := 15) (b := p) (f := nmF) (L := (plI v).map .int) (G := []) (st := bS v e r (some (.ref w)) (some (.ref p)) ob) rfl
    (by rw [List.append_nil]; exact RE.var rfl) (by rw [List.append_nil]; exact hp) (by rw [hlm]; decide) (fun x hx i acc => by
      obtain ⟨k, hk, rfl⟩ := List.mem_map.mp hx
      obtain ⟨j, hj, rfl⟩ := plL_mem hv hk
      have hn : allNames[j]? = some (allNames.getD j "") := by
        have : ∀ i, i < 6 → allNames[i]? = some (allNames.getD i "") := by decide
        exact this j hj
      refine RE.idx (RE.var rfl) (RE.var rfl) (i_any (x := .str (allNames.getD j "")) (xs := allNames.map .str) ?_ (by rw [List.getElem?_map, hn]; rfl) (by lia))
      show (((ob ++ []) ++ _) ++ _)[1]? = _
      rw [List.append_nil, List.getElem?_append_left (by simp <;> lia), List.getElem?_append_left (by lia)]
      exact G.names)
  have em : ((plI v).map PV.int).map nmF = (plL v).map fun k => .str (allNames.getD k "") := by
    unfold plI; rw [List.map_map, List.map_map]; rfl
  have hok : okVs 0 ((plL v).map fun k => PV.str (allNames.getD k "")) = true := by
    have : ((plL v).map fun k => PV.str (allNames.getD k "")) = ((plL v).map fun k => allNames.getD k "").map .str := by rw [List.map_map]; rfl
    rw [this]; exact okStr
  rw [em] at key
  have key := key hok (ok_bS (by exact hl) (ok_r hwl) (ok_r hpl)) (G.ok _ hl)
  have t1 : RT phi 8 (.e (.cmp .ne (.var 13) (.comp (.idx (.var 1) (.var 15)) [(.mk (.v 15) (.var 14) [])] 1))) (bS v e r (some (.ref w)) (some (.ref p)) ob) false (bS v e r (some (.ref w)) (some (.ref p)) (ob ++ [.list ((plL v).map fun k => .str (allNames.getD k ""))])) := by
    refine RT.ex (RE.cmp (RE.var rfl) key (c := false) ?_) rfl
    have hwn : (wordsL v).length ≤ 6 := Nat.le_trans (List.length_filterMap_le ..) (by simp)
    exact c_ne (i := w) (j := ob.length) (xs := (wordsL v).map .str) (ys := (plL v).map fun k => .str (allNames.getD k "")) (items_list_ (by show (ob ++ _)[w]? = _; rw [List.getElem?_append_left hwl]; exact hw)) (items_list_ (app_get rfl)) (by rw [List.length_map]; unfold room; lia) (by rw [List.length_map, f1]; decide) f3
  have t2 : RT phi 8 (.e (.cmp .ne (.call (.const (.fn (.prim .len))) [(.var 14)]) (.const (.int 3)))) (bS v e r (some (.ref w)) (some (.ref p)) (ob ++ [.list ((plL v).map fun k => .str (allNames.getD k ""))])) false (bS v e r (some (.ref w)) (some (.ref p)) (ob ++ [.list ((plL v).map fun k => .str (allNames.getD k ""))])) := by
    have ln : primop .len [.ref p] (bS v e r (some (.ref w)) (some (.ref p)) (ob ++ [.list ((plL v).map fun k => .str (allNames.getD k ""))])) = some (.int 3, bS v e r (some (.ref w)) (some (.ref p)) (ob ++ [.list ((plL v).map fun k => .str (allNames.getD k ""))])) := by
      rw [p_len (l := p) (xs := (plI v).map .int) (items_list_ (by show (ob ++ _)[p]? = _; rw [List.getElem?_append_left hpl]; exact hp)) (by rw [hlm]; decide), hlm]
      rfl
    exact RT.ex (RE.cmp (RE.prim (.one (RE.var rfl)) ln) RE.const rfl) rfl
  exact RS.ifeF (RT.orF t1 t2) RSs.nil

theorem p_sum {l : Nat} {xs : List Int} (h : st.ob[l]? = some (.list (xs.map .int))) (hl : xs.length = 3) (hx : ∀ x ∈ xs, 0 ≤ x ∧ x < 1000) : primop .sum [.ref l] st = some (.int xs.sum, st) := by
  have hall : xs.all (fun x => decide (-4294967296 < x) && decide (x < 4294967296)) = true := by
    rw [List.all_eq_true]
    intro x hm
    have := hx x hm
    rw [Bool.and_eq_true]
    exact ⟨decide_eq_true (by lia), decide_eq_true (by lia)⟩
  exact p_sum0 (items_list_ h) intsOf_map (by rw [hl]; unfold room; lia) hall
/-! its place among the sets -/
noncomputable def wayW (v : Int) (i : Nat) : Int := ((waysT ((plL v).getD i 0) (i + 1) : Nat) : Int)
noncomputable def sdL : IS := .ife (.e (.cmp .ne (.var 12) (.call (.const (.fn (.prim .sum))) [(.comp (.call (.const (.fn (.user 13))) [(.var 16), (.bin .add (.var 15) (.const (.int 1)))]) [(.mk (.tup [15, 16]) (.call (.const (.fn (.prim .enumerate))) [(.var 14)]) [])] 2)]))) [.ret (.const (.bool false))] []
theorem ways_small : ∀ n, n < 6 → ∀ k, k < 4 → waysT n k ≤ 60 := by decide
theorem turn_d {v e : Int} {r w p : Nat} {ob : List PO} (G : Good ob) (hr : r < 20) (hv : v = at0 S20 r) (hp : ob[p]? = some (.list ((plI v).map .int))) (hwl : w < ob.length) : RS phi 8 sdL (bS v e (r : Int) (some (.ref w)) (some (.ref p)) ob) .next
    (bS v e (r : Int) (some (.ref w)) (some (.ref p)) (ob ++ [.list (((List.range 3).map (wayW v)).map .int)])) := by
  have hvS : v ∈ S20 := by rw [hv]; exact mem_at0.mpr ⟨r, by rw [S20_len]; exact hr, rfl⟩
  have hl := G.len
  have hpl : p < ob.length := (List.getElem?_eq_some_iff.mp hp).1
  obtain ⟨f1, f2, f3⟩ := w_pl v hvS
  have hlm : ((plI v).map PV.int).length = 3 := by unfold plI; rw [List.length_map, List.length_map, f1]
  have hP : ∀ i, i < 3 → ((plI v).map PV.int)[i]? = some (.int (((plL v).getD i 0 : Nat) : Int)) ∧ (plL v).getD i 0 < 6 := fun i hi => by
    have hi' : i < (plL v).length := by lia
    constructor
    · unfold plI
      rw [List.getElem?_map, List.getElem?_map, List.getD_eq_getElem?_getD]
      simp [hi']
    · refine f2 _ ?_
      rw [List.getD_eq_getElem?_getD]
      simp [hi']
  have hen : primop .enumerate [.ref p] (bS v e (r : Int) (some (.ref w)) (some (.ref p)) ob) = some (.ref (ob.length + 1), bS v e (r : Int) (some (.ref w)) (some (.ref p)) (ob ++ [.listIter p 0, .enum ob.length 0])) := by
    have hit : iterI (.ref p) (bS v e (r : Int) (some (.ref w)) (some (.ref p)) ob) = some (ob.length, bS v e (r : Int) (some (.ref w)) (some (.ref p)) (ob ++ [.listIter p 0])) := by
      exact it_list hp
    refine obS (o := arg1 [.ref p]) rfl (obS hit ?_)
    show some (PV.ref (ob ++ [PO.listIter p 0]).length, (⟨_, (ob ++ [PO.listIter p 0]) ++ [PO.enum ob.length 0]⟩ : St)) = _
    have el : (ob ++ [PO.listIter p 0]).length = ob.length + 1 := by simp
    rw [List.append_assoc, el]
    rfl
  have e0 : ∀ (i : Nat) (acc : List PV), ((ob ++ [PO.listIter p i, PO.enum ob.length i]) ++ [PO.list acc])[ob.length + 1]? = some (.enum ob.length i) := fun i acc => by rw [List.append_assoc]; simp
  have e1 : ∀ (i : Nat) (acc : List PV), ((ob ++ [PO.listIter p i, PO.enum ob.length i]) ++ [PO.list acc])[ob.length]? = some (.listIter p i) := fun i acc => by rw [List.append_assoc]; simp
  have e2 : ∀ (i : Nat) (acc : List PV), ((ob ++ [PO.listIter p i, PO.enum ob.length i]) ++ [PO.list acc])[p]? = some (.list ((plI v).map .int)) := fun i acc => by rw [List.append_assoc, List.getElem?_append_left hpl]; exact hp
  have n1 : ∀ (i : Nat) (acc : List PV) (sl : List (Option PV)), i < 3 → nextI (.tup [15, 16]) (ob.length + 1) ⟨sl, (ob ++ [PO.listIter p i, PO.enum ob.length i]) ++ [PO.list acc]⟩ = some (some (.tup [.int (i : Int), .int (((plL v).getD i 0 : Nat) : Int)]), ⟨sl, (ob ++ [PO.listIter p (i + 1), PO.enum ob.length (i + 1)]) ++ [PO.list acc]⟩) := fun i acc sl hi => by
    rw [n_enum (e0 i acc) (e1 i acc) (items_list_ (e2 i acc)) (hP i hi).1]
    unfold setO
    have : (((ob ++ [PO.listIter p i, PO.enum ob.length i]) ++ [PO.list acc]).set ob.length (.listIter p (i + 1))).set (ob.length + 1) (.enum ob.length (i + 1)) = (ob ++ [PO.listIter p (i + 1), PO.enum ob.length (i + 1)]) ++ [PO.list acc] := by
      rw [List.append_assoc, List.append_assoc, List.set_append_right _ _ (Nat.le_refl _), List.set_append_right _ _ (Nat.le_succ _), Nat.sub_self, show ob.length.succ - ob.length = 1 by lia]; rfl
    rw [this]
  have n3 : ∀ (acc : List PV) (sl : List (Option PV)), nextI (.tup [15, 16]) (ob.length + 1) ⟨sl, (ob ++ [PO.listIter p 3, PO.enum ob.length 3]) ++ [PO.list acc]⟩ = some (none, ⟨sl, (ob ++ [PO.dead, PO.dead]) ++ [PO.list acc]⟩) := fun acc sl => by
    have := n_enumE (st := ⟨sl, (ob ++ [PO.listIter p 3, PO.enum ob.length 3]) ++ [PO.list acc]⟩) (ks := [15, 16]) (it := ob.length + 1) (it' := ob.length) (l := p) (xs := (plI v).map .int) (by rw [hlm]; exact e0 3 acc) (by rw [hlm]; exact e1 3 acc) (items_list_ (e2 3 acc))
    rw [this]
    unfold setO
    have : (((ob ++ [PO.listIter p 3, PO.enum ob.length 3]) ++ [PO.list acc]).set ob.length .dead).set (ob.length + 1) .dead = (ob ++ [PO.dead, PO.dead]) ++ [PO.list acc] := by
      rw [List.append_assoc, List.append_assoc, List.set_append_right _ _ (Nat.le_refl _), List.set_append_right _ _ (Nat.le_succ _), Nat.sub_self, show ob.length.succ - ob.length = 1 by lia]; rfl
    rw [this]
  have key := comp_run (d := 8) (elt := .call (.const (.fn (.user 13))) [(.var 16), (.bin .add (.var 15) (.const (.int 1)))]) (t := .tup [15, 16]) (it := .call (.const (.fn (.prim .enumerate))) [(.var 14)]) (ifs := []) (k := 2) (x := .ref (ob.length + 1)) (j := ob.length + 1) (m := 3)
    (st := bS v e (r : Int) (some (.ref w)) (some (.ref p)) ob) (st1 := bS v e (r : Int) (some (.ref w)) (some (.ref p)) (ob ++ [.listIter p 0, .enum ob.length 0])) (st2 := bS v e (r : Int) (some (.ref w)) (some (.ref p)) (ob ++ [.listIter p 0, .enum ob.length 0]))
    (I := fun i => ob ++ [.listIter p i, .enum ob.length i]) (I' := ob ++ [.dead, .dead]) (X := fun i => .tup [.int (i : Int), .int (((plL v).getD i 0 : Nat) : Int)]) (g := fun i => .int (wayW v i)) (p := fun _ => true)
    (SL := fun i => (bS v e (r : Int) (some (.ref w)) (some (.ref p)) []).sl ++ (if i = 0 then [none, none] else [some (.int ((i - 1 : Nat) : Int)), some (.int (((plL v).getD (i - 1) 0 : Nat) : Int))]))
    (xs := ((List.range 3).map (wayW v)).map .int)
    (RE.prim (.one (RE.var rfl)) hen) (show iterC (.ref (ob.length + 1)) (bS v e (r : Int) (some (.ref w)) (some (.ref p)) (ob ++ [.listIter p 0, .enum ob.length 0])) = _ from it_enum (a := ob.length) (b := 0) (by show (ob ++ [PO.listIter p 0, PO.enum ob.length 0])[ob.length + 1]? = _; simp)) rfl rfl (fun i _ => by simp) (by decide) (fun i acc hi => n1 i acc _ hi) (fun acc => n3 acc _) (by simp) (fun i acc hi => by
      by_cases h0 : i = 0
      · subst h0; rfl
      · rw [if_neg h0, if_neg (by lia)]; rfl)
    (fun i acc hi => RTs.nil) (fun i acc hi _ => by
      rw [if_neg (by omega)]
      have hadd : binop .add (.int (i : Int)) (.int 1) (⟨(bS v e (r : Int) (some (.ref w)) (some (.ref p)) []).sl ++ [some (.int ((i + 1 - 1 : Nat) : Int)), some (.int (((plL v).getD (i + 1 - 1) 0 : Nat) : Int))], (ob ++ [.listIter p (i + 1), .enum ob.length (i + 1)]) ++ [.list acc]⟩ : St) =
          some (.int ((i + 1 : Nat) : Int), ⟨(bS v e (r : Int) (some (.ref w)) (some (.ref p)) []).sl ++ [some (.int ((i + 1 - 1 : Nat) : Int)), some (.int (((plL v).getD (i + 1 - 1) 0 : Nat) : Int))], (ob ++ [.listIter p (i + 1), .enum ob.length (i + 1)]) ++ [.list acc]⟩) := by
        rw [o_add (fits_small (by lia) (by lia))]
        congr 3
      have hc : callOk ((ob ++ [PO.listIter p (i + 1), PO.enum ob.length (i + 1)]) ++ [PO.list acc]) = true := by rw [callOk_app, callOk_app, G.call]; rfl
      refine RE.user (.cons (RE.var rfl) (.one (RE.bin (RE.var rfl) RE.const hadd))) (ways_run (n := (plL v).getD i 0) (k := i + 1) (hP i hi).2 (by lia) hc))
    (by rw [List.filter_eq_self.mpr (fun _ _ => rfl), List.map_map]; rfl) ints_ok0 (by simp) (by simp) (by simp) (ok_bS hl (ok_r hwl) (ok_r hpl)) (G.ok _ hl)
  have sm := p_sum (st := bS v e (r : Int) (some (.ref w)) (some (.ref p)) (ob ++ [.list (((List.range 3).map (wayW v)).map .int)])) (l := ob.length) (xs := (List.range 3).map (wayW v)) (app_get rfl) (by simp) (fun x hx => by
    obtain ⟨i, hi, rfl⟩ := List.mem_map.mp hx
    have hi' := List.mem_range.mp hi
    have := ways_small _ (hP i hi').2 (i + 1) (by lia)
    unfold wayW
    lia)
  have hs : ((List.range 3).map (wayW v)).sum = (r : Int) := by rw [hv]; exact w_sum r hr
  rw [hs] at sm
  refine RS.ifeF (RT.ex (RE.cmp (RE.var rfl) (RE.prim (.one key) sm) (c := false) ?_) rfl) RSs.nil
  show some (!decide ((r : Int) = (r : Int))) = _
  simp
end Mine.Internal
end
section
open PySem
namespace Mine.Internal
set_option linter.unusedSectionVars false
set_option linter.unusedVariables false
set_option maxRecDepth 100000
set_option maxHeartbeats 4000000
variable {d : Nat} {st st' : St}

noncomputable def ltF (v : Int) (i : Nat) : PV := .str (if bit6 v (5 - i) then chS (5 - i) else "-")
theorem x_idx : ∀ j : Nat, j < 6 → idxop (.str "xwrxwr") (.int (j : Int)) st = some (.str (chS j), st) := by
  intro j hj
  match j, hj with
  | 0, _ => rfl
  | 1, _ => rfl
  | 2, _ => rfl
  | 3, _ => rfl
  | 4, _ => rfl
  | 5, _ => rfl
noncomputable def cmE : IE := .comp (.ife (.e (.cmp .isin (.var 15) (.var 14))) (.idx (.const (.str "xwrxwr")) (.var 15)) (.const (.str "-"))) [(.mk (.v 15) (.call (.const (.fn (.prim .range))) [(.const (.int 5)), (.neg (.const (.int 1))), (.neg (.const (.int 1)))]) [])] 1
theorem turn_letters {v e r : Int} {w p : Nat} {ob : List PO} (G : Good ob) (hv : v ∈ S20) (hwl : w < ob.length) (hp : ob[p]? = some (.list ((plI v).map .int))) : RE phi 8 cmE (bS v e r (some (.ref w)) (some (.ref p)) ob) (.ref ob.length)
    (bS v e r (some (.ref w)) (some (.ref p)) (ob ++ [.list ((jnL v).map .str)])) := by
  have hl := G.len
  have hpl : p < ob.length := (List.getElem?_eq_some_iff.mp hp).1
  have rg : primop .range [.int 5, .int (-1), .int (-1)] (bS v e r (some (.ref w)) (some (.ref p)) ob) = some (.ref ob.length, bS v e r (some (.ref w)) (some (.ref p)) (ob ++ [.range 5 (-1) (-1)])) := by
    rw [p_range3 (by decide)]; rfl
  refine comp_range (d := 8) (m := 6) (a := 5) (b := -1) (c := -1) (p := fun _ => true) (g := ltF v) (xs := (jnL v).map .str) (st := bS v e r (some (.ref w)) (some (.ref p)) ob) rfl (RE.prim (.cons RE.const (.cons (RE.neg RE.const rfl) (.one (RE.neg RE.const rfl)))) rg) rfl (by decide) (fun i acc hi => RTs.nil)
    (fun i acc hi _ => ?_) ?_ okStr (ok_bS hl (ok_r hwl) (ok_r hpl)) (G.ok _ hl)
  · have ei : (5 : Int) + (i : Int) * (-1) = ((5 - i : Nat) : Int) := by lia
    rw [ei]
    have hb := w_bit v hv (5 - i) (by lia)
    have tt : RT phi 8 (.e (.cmp .isin (.var 15) (.var 14))) ⟨(bS v e r (some (.ref w)) (some (.ref p)) ob).sl ++ [some (.int ((5 - i : Nat) : Int))], ((bS v e r (some (.ref w)) (some (.ref p)) ob).ob ++ [.range 5 (-1) (-1), .rangeIter (5 + ((i + 1 : Nat) : Int) * (-1)) (((6 : Nat) : Int) - ((i + 1 : Nat) : Int)) (-1)]) ++ [.list acc]⟩ (bit6 v (5 - i))
        ⟨(bS v e r (some (.ref w)) (some (.ref p)) ob).sl ++ [some (.int ((5 - i : Nat) : Int))], ((bS v e r (some (.ref w)) (some (.ref p)) ob).ob ++ [.range 5 (-1) (-1), .rangeIter (5 + ((i + 1 : Nat) : Int) * (-1)) (((6 : Nat) : Int) - ((i + 1 : Nat) : Int)) (-1)]) ++ [.list acc]⟩ := by
      refine RT.ex (RE.cmp (RE.var rfl) (RE.var rfl) (c := bit6 v (5 - i)) ?_) rfl
      refine c_isin (j := p) (ys := (plI v).map .int) (items_list_ ?_) (by rw [memI, hb])
      show ((ob ++ _) ++ _)[p]? = _
      rw [List.getElem?_append_left (by simp <;> lia), List.getElem?_append_left hpl]
      exact hp
    unfold ltF
    cases hq : bit6 v (5 - i) with
    | true =>
      rw [hq] at tt
      exact RE.ifeT tt (RE.idx RE.const (RE.var rfl) (x_idx (5 - i) (by omega)))
    | false =>
      rw [hq] at tt
      exact RE.ifeF tt RE.const
  · rw [List.filter_eq_self.mpr (fun _ _ => rfl)]
    unfold jnL
    rw [List.map_map]
    rfl
theorem chS_size (k : Nat) : (chS k).cps.size = 1 := rfl
theorem jn_size (v : Int) : ∀ x ∈ jnL v, x.cps.size = 1 := by
  intro x hx
  obtain ⟨i, _, rfl⟩ := List.mem_map.mp hx
  by_cases hb : bit6 v (5 - i) = true
  · rw [if_pos hb]; exact chS_size _
  · rw [if_neg hb]; rfl

noncomputable def seL : IS := .ife (.e (.cmp .ne (.idx (.var 8) (.var 12)) (.bin .add (.const (.str "----")) (.meth .join (.const (.str "")) [cmE])))) [.ret (.const (.bool false))] []
theorem p_join {l : Nat} {ss : List Str} {x : Str} (h : st.ob[l]? = some (.list (ss.map .str))) (hl : ss.length ≤ 64) (hs : ∀ y ∈ ss, y.cps.size = 1) (hx : x.cps.size ≤ 10) : methop .join (.str x) [.ref l] st = some (.str (Txt.join x ss), st) := by
  have e : items st l = some (ss.map .str) := items_list_ h
  have ha : ss.all (fun x => decide (x.cps.size ≤ room)) = true := by
    rw [List.all_eq_true]
    intro y hy
    refine decide_eq_true ?_
    rw [hs y hy]; decide
  exact m_join e strsOf_map hl ha (by unfold room; lia)
theorem turn_e {v e : Int} {r w p : Nat} {ob : List PO} (G : Good ob) (hr : r < 20) (hv : v = at0 S20 r) (hwl : w < ob.length) (hp : ob[p]? = some (.list ((plI v).map .int))) : RS phi 8 seL (bS v e (r : Int) (some (.ref w)) (some (.ref p)) ob) .next
    (bS v e (r : Int) (some (.ref w)) (some (.ref p)) (ob ++ [.list ((jnL v).map .str)])) := by
  have hvS : v ∈ S20 := by rw [hv]; exact mem_at0.mpr ⟨r, by rw [S20_len]; exact hr, rfl⟩
  obtain ⟨h1, h2⟩ := w_row v hvS
  have hrow : (rowsL.map PV.str)[r]? = some (.str (rowS v)) := by
    rw [List.getElem?_map, List.getElem?_map, at0_get (by rw [S20_len]; exact hr), hv]; rfl
  have jn : methop .join (.str "") [.ref ob.length] (bS v e (r : Int) (some (.ref w)) (some (.ref p)) (ob ++ [.list ((jnL v).map .str)])) = some (.str (Txt.join "" (jnL v)), bS v e (r : Int) (some (.ref w)) (some (.ref p)) (ob ++ [.list ((jnL v).map .str)])) :=
    p_join (app_get rfl) (by unfold jnL; simp) (jn_size v) (by decide)
  have z4 : ("----" : Str).cps.size = 4 := rfl
  refine RS.ifeF (RT.ex (RE.cmp (RE.idx (RE.var rfl) (RE.var rfl) (i_any G.rows hrow (by lia))) (RE.bin RE.const (RE.meth RE.const rfl (.one (turn_letters G hvS hwl hp)) jn) (o_cat (by rw [z4]; unfold room; lia))) (c := false) ?_) rfl) RSs.nil
  show some (!strEq (rowS v) (("----" : Str) ++ Txt.join "" (jnL v))) = _
  rw [h1]; rfl

noncomputable def bodyB : List IS := [saL, sbL, scL, sdL, seL]
theorem turn_all {v e : Int} {r : Nat} {s13 s14 : Option PV} {ob : List PO} (G : Good ob) (hr : r < 20) (hv : v = at0 S20 r) (h14 : Sl ob.length s14) : RSs phi 8 bodyB (bS v e (r : Int) s13 s14 ob) .next
    (bS v e (r : Int) (some (.ref ob.length)) (some (.ref (ob.length + 1))) (ob ++ [.list ((wordsL v).map .str)] ++ [.list ((plI v).map .int)] ++ [.list ((plL v).map fun k => .str (allNames.getD k ""))] ++ [.list (((List.range 3).map (wayW v)).map .int)] ++ [.list ((jnL v).map .str)])) := by
  have hvS : v ∈ S20 := by rw [hv]; exact mem_at0.mpr ⟨r, by rw [S20_len]; exact hr, rfl⟩
  have G1 : Good (ob ++ [.list ((wordsL v).map .str)]) := G.push fun n => okStr
  have G2 : Good (ob ++ [.list ((wordsL v).map .str)] ++ [.list ((plI v).map .int)]) := G1.push fun n => ints_ok0
  have e3 : ((plL v).map fun k => PV.str (allNames.getD k "")) = ((plL v).map fun k => allNames.getD k "").map .str := by rw [List.map_map]; rfl
  have G3 : Good (ob ++ [.list ((wordsL v).map .str)] ++ [.list ((plI v).map .int)] ++ [.list ((plL v).map fun k => .str (allNames.getD k ""))]) := G2.push fun n => by rw [e3]; exact okStr
  have G4 : Good (ob ++ [.list ((wordsL v).map .str)] ++ [.list ((plI v).map .int)] ++ [.list ((plL v).map fun k => .str (allNames.getD k ""))] ++ [.list (((List.range 3).map (wayW v)).map .int)]) := G3.push fun n => ints_ok0
  have w2 : (ob ++ [PO.list ((wordsL v).map .str)] ++ [PO.list ((plI v).map .int)])[ob.length]? = some (.list ((wordsL v).map .str)) := by rw [List.append_assoc]; simp
  have p2 : (ob ++ [PO.list ((wordsL v).map .str)] ++ [PO.list ((plI v).map .int)])[ob.length + 1]? = some (.list ((plI v).map .int)) := by rw [List.append_assoc]; simp
  have p3 : (ob ++ [PO.list ((wordsL v).map .str)] ++ [PO.list ((plI v).map .int)] ++ [PO.list ((plL v).map fun k => .str (allNames.getD k ""))])[ob.length + 1]? = some (.list ((plI v).map .int)) := by rw [List.getElem?_append_left (by simp <;> omega)]; exact p2
  have p4 : (ob ++ [PO.list ((wordsL v).map .str)] ++ [PO.list ((plI v).map .int)] ++ [PO.list ((plL v).map fun k => .str (allNames.getD k ""))] ++ [PO.list (((List.range 3).map (wayW v)).map .int)])[ob.length + 1]? = some (.list ((plI v).map .int)) := by rw [List.getElem?_append_left (by simp <;> omega)]; exact p3
  exact RSs.cons (turn_a G hvS) (RSs.cons (turn_b G hvS h14) (RSs.cons (turn_c G2 hvS w2 p2) (RSs.cons (turn_d G3 hr hv p3 (by simp <;> omega)) (RSs.cons (turn_e G4 hr hv (by simp <;> omega) p4) RSs.nil))))
end Mine.Internal
end
section
open PySem
namespace Mine.Internal
set_option linter.unusedSectionVars false
set_option linter.unusedVariables false
set_option maxRecDepth 100000
set_option maxHeartbeats 4000000
variable {d : Nat} {st st' : St}

/-- the law's objects in its last loop: the two iterators at 16 and 17, what the turns left behind them -/
noncomputable def Ob (ns D A : List Int) (X X1 X2 X3 X4 : List Str) (a b : PO) (T : List PO) : List PO :=
  O11 ns D A (.list (X.map .str) :: .list (X1.map .str) :: .list (X2.map .str) :: .list (X3.map .str) :: .list (X4.map .str) :: a :: b :: T)
section
variable {ns D A : List Int} {X X1 X2 X3 X4 : List Str} {a b c : PO} {T R : List PO}
theorem ob_len : (Ob ns D A X X1 X2 X3 X4 a b T).length = T.length + 18 := rfl
theorem ob_1 : (Ob ns D A X X1 X2 X3 X4 a b T)[1]? = some (.list (allNames.map .str)) := rfl
theorem ob_7 : (Ob ns D A X X1 X2 X3 X4 a b T)[7]? = some (.list (S20.map .int)) := rfl
theorem ob_8 : (Ob ns D A X X1 X2 X3 X4 a b T)[8]? = some (.list (rowsL.map .str)) := rfl
theorem ob_16 : (Ob ns D A X X1 X2 X3 X4 a b T)[16]? = some a := rfl
theorem ob_17 : (Ob ns D A X X1 X2 X3 X4 a b T)[17]? = some b := rfl
theorem ob_set16 : (Ob ns D A X X1 X2 X3 X4 a b T).set 16 c = Ob ns D A X X1 X2 X3 X4 c b T := rfl
theorem ob_set17 : (Ob ns D A X X1 X2 X3 X4 a b T).set 17 c = Ob ns D A X X1 X2 X3 X4 a c T := rfl
theorem ob_app : Ob ns D A X X1 X2 X3 X4 a b T ++ R = Ob ns D A X X1 X2 X3 X4 a b (T ++ R) := rfl
theorem ob_call {i j : Nat} (h : callOk T = true) : callOk (Ob ns D A X X1 X2 X3 X4 (.listIter 7 i) (.enum 16 j) T) = true := h
theorem ob_ok {i j n : Nat} (hn : 18 ≤ n) (h : okOs n T = true) : okOs n (Ob ns D A X X1 X2 X3 X4 (.listIter 7 i) (.enum 16 j) T) = true := by
  refine okO10 (r := .list (P15.map .int) :: .list (X.map .str) :: .list (X1.map .str) :: .list (X2.map .str) :: .list (X3.map .str) :: .list (X4.map .str) :: .listIter 7 i :: .enum 16 j :: T) ?_
  show (okO n (.list (P15.map .int)) && (okO n (.list (X.map .str)) && (okO n (.list (X1.map .str)) && (okO n (.list (X2.map .str)) && (okO n (.list (X3.map .str)) && (okO n (.list (X4.map .str)) && (Nat.blt 7 n && (Nat.blt 16 n && okOs n T)))))))) = true
  have b7 : Nat.blt 7 n = true := Nat.ble_eq_true_of_le (show 8 ≤ n by lia)
  have b16 : Nat.blt 16 n = true := Nat.ble_eq_true_of_le (show 17 ≤ n by lia)
  simp only [okI, okStrO, b7, b16, h, Bool.and_true]
theorem ob_good {i j : Nat} (hk : ∀ n, 18 ≤ n → okOs n T = true) (hc : callOk T = true) : Good (Ob ns D A X X1 X2 X3 X4 (.listIter 7 i) (.enum 16 j) T) :=
  ⟨by rw [ob_len]; lia, ob_1, ob_8, fun n hn => ob_ok hn (hk n hn), ob_call hc⟩

theorem ob_more {i : Nat} {sl : List (Option PV)} (hi : i < 20) : nextI (.tup [12, 4]) 17 ⟨sl, Ob ns D A X X1 X2 X3 X4 (.listIter 7 i) (.enum 16 i) T⟩ = some (some (.tup [.int (i : Int), .int (at0 S20 i)]), ⟨sl, Ob ns D A X X1 X2 X3 X4 (.listIter 7 (i + 1)) (.enum 16 (i + 1)) T⟩) := by
  have hx : (S20.map PV.int)[i]? = some (.int (at0 S20 i)) := by rw [List.getElem?_map, at0_get (by rw [S20_len]; exact hi)]; rfl
  rw [n_enum ob_17 ob_16 (items_list_ ob_7) hx]
  unfold setO
  dsimp only
  rw [ob_set16, ob_set17]
theorem ob_end {sl : List (Option PV)} : nextI (.tup [12, 4]) 17 ⟨sl, Ob ns D A X X1 X2 X3 X4 (.listIter 7 20) (.enum 16 20) T⟩ = some (none, ⟨sl, Ob ns D A X X1 X2 X3 X4 .dead .dead T⟩) := by
  have hl : (S20.map PV.int).length = 20 := by rw [List.length_map, S20_len]
  have := n_enumE (st := ⟨sl, Ob ns D A X X1 X2 X3 X4 (.listIter 7 20) (.enum 16 20) T⟩) (ks := [12, 4]) (it := 17) (it' := 16) (l := 7) (xs := S20.map .int) (by rw [hl]; exact ob_17) (by rw [hl]; exact ob_16) (items_list_ ob_7)
  rw [this]
  unfold setO
  dsimp only
  rw [ob_set16, ob_set17]
end

theorem okSs_mem {n : Nat} : ∀ {l : List (Option PV)} {k : Nat} {s : Option PV}, okSs n l = true → l[k]? = some s → okS n s = true
  | x :: r, 0, s, h, e => by
    simp at e; subst e
    replace h : okS n x = true ∧ okSs n r = true := Bool.and_eq_true_iff.mp h
    exact h.1
  | x :: r, k + 1, s, h, e => by
    replace h : okS n x = true ∧ okSs n r = true := Bool.and_eq_true_iff.mp h
    exact okSs_mem h.2 (by simpa using e)
/-- a slot holds the first object beyond the mark: nothing is dropped -/
theorem gc_no {n k : Nat} (h : st.sl[k]? = some (some (.ref n))) : gc n st = st := by
  unfold gc
  split
  · rename_i e
    rw [Bool.and_eq_true] at e
    have := okSs_mem e.1 h
    have hb : Nat.blt n n = true := this
    exact absurd (Nat.le_of_ble_eq_true hb) (Nat.not_succ_le_self n)
  · rfl

theorem last_loop {ns D A : List Int} {X X1 X2 X3 X4 : List Str} {e : Int} : ∀ (r i : Nat) (s4 : Option Int) (s12 s13 s14 : Option PV) (T : List PO), i + r = 20 → (∀ n, 18 ≤ n → okOs n T = true) → callOk T = true → Sl (T.length + 18) s14 →
    ∃ (s4' : Option Int) (s12' s13' s14' : Option PV) (T' : List PO), RF phi 8 (.tup [12, 4]) bodyB [] 17 (sl12 s4 e s12 s13 s14 (Ob ns D A X X1 X2 X3 X4 (.listIter 7 i) (.enum 16 i) T)) .next (sl12 s4' e s12' s13' s14' (Ob ns D A X X1 X2 X3 X4 .dead .dead T')) := by
  intro r
  induction r with
  | zero =>
    intro i s4 s12 s13 s14 T hi hk hc hs
    have : i = 20 := by omega
    subst this
    exact ⟨s4, s12, s13, s14, T, RF.done ob_end RSs.nil⟩
  | succ r ih =>
    intro i s4 s12 s13 s14 T hi hk hc hs
    have hlt : i < 20 := by lia
    have tn := turn_all (v := at0 S20 i) (e := e) (r := i) (s13 := s13) (s14 := s14) (ob_good (ns := ns) (D := D) (A := A) (X := X) (X1 := X1) (X2 := X2) (X3 := X3) (X4 := X4) (i := i + 1) (j := i + 1) hk hc) hlt rfl (by rw [ob_len]; exact hs)
    rw [ob_app, ob_app, ob_app, ob_app, ob_app, ob_len] at tn
    have e3 : ((plL (at0 S20 i)).map fun k => PV.str (allNames.getD k "")) = ((plL (at0 S20 i)).map fun k => allNames.getD k "").map .str := by rw [List.map_map]; rfl
    rw [e3] at tn
    obtain ⟨s4', s12', s13', s14', T', rr⟩ := ih (i + 1) (some (at0 S20 i)) (some (.int (i : Int))) (some (.ref (T.length + 18))) (some (.ref (T.length + 18 + 1)))
      (T ++ [.list ((wordsL (at0 S20 i)).map .str)] ++ [.list ((plI (at0 S20 i)).map .int)] ++ [.list (((plL (at0 S20 i)).map fun k => allNames.getD k "").map .str)] ++ [.list (((List.range 3).map (wayW (at0 S20 i))).map .int)] ++ [.list ((jnL (at0 S20 i)).map .str)]) (by lia) (fun n hn => by
      rw [okOs_app, okOs_app, okOs_app, okOs_app, okOs_app, hk n hn]
      show (((((true && (okO n (.list ((wordsL (at0 S20 i)).map .str)) && true)) && (okO n (.list ((plI (at0 S20 i)).map .int)) && true)) && (okO n (.list (((plL (at0 S20 i)).map fun k => allNames.getD k "").map .str)) && true)) && (okO n (.list (((List.range 3).map (wayW (at0 S20 i))).map .int)) && true)) && (okO n (.list ((jnL (at0 S20 i)).map .str)) && true)) = true
      simp only [okI, okStrO, Bool.and_true]) (by
      rw [callOk_app, callOk_app, callOk_app, callOk_app, callOk_app, hc]; rfl) (.inr ⟨_, by simp, rfl⟩)
    exact ⟨s4', s12', s13', s14', T', RF.more0 (ob_more hlt) rfl tn (gc_no (k := 13) (by rw [ob_len]; rfl)) rr⟩

noncomputable def st16L : IS := .fr (.tup [12, 4]) (.call (.const (.fn (.prim .enumerate))) [(.var 7)]) bodyB []
noncomputable def st17L : IS := .ret (.cmp .eq (.call (.const (.fn (.prim .len))) [(.var 7)]) (.const (.int 20)))
theorem law16 {ns D A : List Int} {X X1 X2 X3 X4 : List Str} {s4 : Option Int} {e : Int} : ∃ (s4' : Option Int) (s12' s13' s14' : Option PV) (ob' : List PO),
    RS phi 8 st16L (sl12 s4 e none none none (O11 ns D A [.list (X.map .str), .list (X1.map .str), .list (X2.map .str), .list (X3.map .str), .list (X4.map .str)])) .next (sl12 s4' e s12' s13' s14' ob') ∧ ob'[7]? = some (.list (S20.map .int)) := by
  obtain ⟨s4', s12', s13', s14', T', rr⟩ := last_loop (ns := ns) (D := D) (A := A) (X := X) (X1 := X1) (X2 := X2) (X3 := X3) (X4 := X4) (e := e) 20 0 s4 none none none [] rfl (fun _ _ => rfl) rfl (.inl rfl)
  have hen : primop .enumerate [.ref 7] (sl12 s4 e none none none (O11 ns D A [.list (X.map .str), .list (X1.map .str), .list (X2.map .str), .list (X3.map .str), .list (X4.map .str)])) = some (.ref 17, sl12 s4 e none none none (Ob ns D A X X1 X2 X3 X4 (.listIter 7 0) (.enum 16 0) [])) := rfl
  have hg : ∃ ob', gc (O11 ns D A [.list (X.map .str), .list (X1.map .str), .list (X2.map .str), .list (X3.map .str), .list (X4.map .str)]).length (sl12 s4' e s12' s13' s14' (Ob ns D A X X1 X2 X3 X4 .dead .dead T')) = sl12 s4' e s12' s13' s14' ob' ∧ ob'[7]? = some (.list (S20.map .int)) := by
    unfold gc
    split
    · exact ⟨_, rfl, rfl⟩
    · exact ⟨_, rfl, rfl⟩
  obtain ⟨ob', hg, h7⟩ := hg
  exact ⟨s4', s12', s13', s14', ob', RS.fr0 (RE.prim (.one (RE.var rfl)) hen) rfl rr hg, h7⟩
theorem law17 {s4 : Option Int} {e : Int} {s12 s13 s14 : Option PV} {ob : List PO} (h : ob[7]? = some (.list (S20.map .int))) : RS phi 8 st17L (sl12 s4 e s12 s13 s14 ob) (.ret (.bool true)) (sl12 s4 e s12 s13 s14 ob) := by
  have ln : primop .len [.ref 7] (sl12 s4 e s12 s13 s14 ob) = some (.int 20, sl12 s4 e s12 s13 s14 ob) := by
    rw [p_len (l := 7) (xs := S20.map .int) (items_list_ h) (by rw [List.length_map, S20_len]; decide), List.length_map, S20_len]
    rfl
  exact RS.ret (RE.cmp (RE.prim (.one (RE.var rfl)) ln) RE.const rfl)
end Mine.Internal
end
section
open PySem PySem.W PyProof.Rows PySem.Calls
namespace Mine.Internal
set_option linter.unusedSectionVars false
set_option linter.unusedVariables false
set_option maxRecDepth 100000
set_option maxHeartbeats 4000000
variable {mg mb : Str → Option Value} {mean : ExcName → Option Value} {w w' : World} {prog : Program}

theorem ints_VRs {fv : Fn → Value} {φ : Nat → Addr} {n : Nat} {h : Heap} : ∀ {vs : List Value} {ns : List Int}, IntsAre vs ns → VRs fv φ n h vs (ns.map .int)
  | _, _, .nil => .nil
  | _, _, .cons _ _ H => .cons (.int _ _) (ints_VRs H)

theorem law_top {s : Shared} {ns : List Int} {st' : St} {n : Nat} {ls fa : Addr} {vs : List Value} {R : Result → Shared → Prop} (F : Facts w mean mg mb s.heap)
    (hrun : evSs phi n 8 irLaw ⟨some (.ref 0) :: List.replicate 14 none, [.ro (ns.map .int)]⟩ = some (.ret (.bool true), st')) (hL : s.heap.IsList ls vs.toArray) (hI : IntsAre vs ns) (hfa : mg "law" = some (.ref fa))
    (hR : ∀ h' tk, s.heap.StaysIn h' → R (.ok (.ret (.bool true))) { s with heap := h', toks := tk }) : codeAny (model prog w') callerA (.call (.ref fa) ⟨[.ref ls], []⟩) R s := by
  have G : GlobOk (fvOf mg) phi s.heap := glob_all F
  obtain ⟨ol, hol, hlc, nl, hld⟩ := id hL
  obtain ⟨f, ef, H⟩ := code_frame (prog := prog) (w := w') (fv := fvOf mg) (Φ := phi) (d := 8) (k := 18) (ys := [.ref 0]) (ls := [.ro (ns.map .int)]) (φ2 := fun _ => ls) (vs := [.ref ls]) (A := callerA) (s := s) (R := R) (irLaw_code (fv := fun _ => (mg "law").getD .none) F.T rfl) (fun _ _ e => e) F.T.nolimit ⟨rfl, by decide, by decide⟩ G (fun _ _ e => e) (by decide) (fun _ => rfl) rfl rfl (by decide)
    (fun h1 _ => .cons (.ref 0 (by show 0 < 1; decide)) .nil) (fun h1 dv _ D => by obtain rfl := D.isNil; exact .nil)
    (fun h1 hk k o e => by
      match k, e with
      | 0, e =>
        obtain rfl := Option.some.inj e
        exact ⟨⟨ol, hol⟩, vs, ⟨ol, hk _ _ hol, hlc, nl, hld⟩, ints_VRs hI⟩
      | k + 1, e => cases e)
    (fun a b oa ob' ea eb _ _ q => by
      have ha : a < 1 := (List.getElem?_eq_some_iff.mp ea).1
      have hb' : b < 1 := (List.getElem?_eq_some_iff.mp eb).1
      omega)
    fun {env stmts N T lay2 h1 tk1} eCS CX R2 hsz _ _ => (all_phi n).ss eCS hrun rfl CX R2 fun φ3 fl' h3 tk3 R3 S3 F3 => by
      cases F3 with
      | ret V =>
        cases V with
        | bool => exact hR h3 tk3 R3.stays
  rw [hfa] at ef
  obtain rfl := Value.ref.inj ef
  exact H

/-- what is left: the law's text, run by the interpreter -/
noncomputable def LawRuns : Prop := ∀ ns : List Int, ns.length ≤ 63 → ∃ n st', evSs phi n 8 irLaw ⟨some (.ref 0) :: List.replicate 14 none, [.ro (ns.map .int)]⟩ = some (.ret (.bool true), st')

theorem xT_of (s : Shared) (e : xT s = true) : XP0 (s.heap.nsMap mainGlobals) s.heap := by
  unfold xT at e
  simp only [Bool.and_eq_true, beq_iff_eq] at e
  exact ⟨xl_of s e.1.1, e.2⟩
theorem xT_rec (s : Shared) (e : xT s = true) : RecFacts PySem.Challenge.rw_un0027_01.row.records s.heap := by
  unfold xT at e
  simp only [Bool.and_eq_true] at e
  exact recFacts_of e.1.2

theorem holds_of (H : LawRuns) : PySem.Challenge.rw_un0027_01.Holds := by
  w_on
  refine holds_law head_said fun said => ?_
  refine holds_open (q := vw) (loose := LW0) (Xt := xT) (XP := XP0) (Yf := fun s => nsObs s.heap) (Ya := fun _ => nsGood) (YP := fun _ h => NsP h) (N := 2336) left0 (fun _ _ e => NsP.of e) (fun _ _ _ x k => x.keeps k) xT_of (fun mg h h' x k => ⟨XL.keeps mg h h' x.1 k, x.2⟩)
    (by rfl) (by rfl) (by rfl) xT_rec (by rfl) said (by decide +kernel) ⟨rfl, rfl, rfl, rfl, rfl, by decide +kernel⟩ ?hw ?hc
  case hw => w_witness2
  intro w s₀ s₁ mg mb G Y fa o pm cd doc dV kV ho hd hcd hD hmg hg args vals as hpre hlay hrd hwl hlo
  have X := (Ground.X G).1.1
  have V := (Ground.X G).1.2
  have N76 := (Ground.X G).2
  refine Ground.open G ?_
  intro T B D TE TW
  try (refine guard_noD D (by decide +kernel) ?_; clear D)
  have hmg' := hmg
  wrow_args hpre hlay hrd hwl hlo
  all_goals (
    first | refine callC_kw (enter_call ?_) | refine enter_call ?_ | refine callC_kw (enter_callW ?_) | refine enter_callW ?_ | w_how
    w_top on
    try refine codeAny_mono ?_ (fun _ _ g => GoodW.toG g))
  rename_i ns _ _ _ _ _ _ _ ls vs _ hL _ _ _ hI _ hlen _
  obtain ⟨n, st', hrun⟩ := H ns (by omega)
  exact law_top ⟨T, B, V, Y, N76⟩ hrun hL hI hmg' fun h' tk hk => ⟨Or.inl ⟨.bool true, .bool true, [], rfl, fun _ => rfl, .bool true, by first | kernel_rfl | (simp; done) | (with_unfolding_all rfl), fun _ => ⟨.nil, fun _ hm => nomatch hm⟩⟩, hk, rfl, hg⟩
end Mine.Internal
end
section
open PySem
namespace Mine.Internal
set_option linter.unusedSectionVars false
set_option linter.unusedVariables false
set_option maxRecDepth 100000
set_option maxHeartbeats 4000000

theorem law_text : irLaw = [st1L, st2L, st3L, st4L, st5L, st6L, st7L, st8L, st9L, st10L, st11L, st12L, st13L, st14L, st15L, st16L, st17L] := rfl
theorem drawn_ne {ns : List Int} : drawnL ns ≠ [] := by
  intro h
  have := congrArg List.length h
  unfold drawnL at this
  rw [List.length_map, List.length_append] at this
  simp at this

theorem lawRuns : LawRuns := by
  intro ns hn
  have hs := drawn_small (ns := ns)
  have hl := drawn_len (ns := ns)
  have hne := drawn_ne (ns := ns)
  obtain ⟨a4, l4⟩ := law4 (ns := ns) hs hl
  obtain ⟨a11, l11⟩ := law11 (ns := ns) (s4 := a4) hl
  obtain ⟨q1, q2, q3, q4⟩ := dd_facts hl hne
  obtain ⟨X1, X2, X3, X4, l15⟩ := law15 (ns := ns) (D := drawnL ns) (A := ddL (drawnL ns)) (s4 := a11) (X := sortStrs (struckL ((ddL (drawnL ns)).map rowS))) q3 q4
  obtain ⟨b4, b12, b13, b14, ob', l16, h7⟩ := law16 (ns := ns) (D := drawnL ns) (A := ddL (drawnL ns)) (X := sortStrs (struckL ((ddL (drawnL ns)).map rowS))) (X1 := X1) (X2 := X2) (X3 := X3) (X4 := X4) (s4 := a11) (e := (fewT (ddL (drawnL ns)).length : Int))
  have key : RSs phi 8 irLaw (lawSt none none none none none none none none none none none none none none [.ro (ns.map .int)]) (.ret (.bool true)) (sl12 b4 (fewT (ddL (drawnL ns)).length : Int) b12 b13 b14 ob') := by
    rw [law_text]
    exact RSs.cons law1 (RSs.cons (law2 hn) (RSs.cons law3 (RSs.cons l4 (RSs.cons (law5 hs hl) (RSs.cons law6 (RSs.cons (law7 hs hl) (RSs.cons (law8 hl) (RSs.cons law9 (RSs.cons law10 (RSs.cons l11 (RSs.cons (law12 hl hne) (RSs.cons law13 (RSs.cons (law14 q1 q2 q4) (RSs.cons l15 (RSs.cons l16 (RSs.ret (law17 h7)))))))))))))))))
  obtain ⟨n, hk⟩ := key
  exact ⟨n, _, hk⟩

theorem holds : PySem.Challenge.rw_un0027_01.Holds := holds_of lawRuns
end Mine.Internal
end
theorem PySem.Challenge.cw_un0027_01_holds : PySem.Challenge.rw_un0027_01.Holds :=
  Mine.Internal.holds
