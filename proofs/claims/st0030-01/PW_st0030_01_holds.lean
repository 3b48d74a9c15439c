import PyProof.Rows.All
import Wide.All
import OpenK.AllK
import Wide.FinOn
import PySem.Challenge.RW_st0030_01
set_option Elab.async false
set_option maxRecDepth 1000000
set_option maxHeartbeats 8000000
set_option linter.unusedSimpArgs false
set_option linter.unusedVariables false

section
set_option tactic.hygienic false
namespace Mine
open PySem PySem.W PyProof.Rows
-- the head's twin of the program, named ahead, so that the head need not spell it out again
noncomputable def pre.tw9452547445585764089 : Program := Challenge.pw_st0030_01
theorem pre.te9452547445585764089 : Challenge.pw_st0030_01 = pre.tw9452547445585764089 := by kernel_rfl
theorem of_holds (_ : Challenge.rw_st0030_01.Holds) : (True ∧ True) = True := by simp
set_option Elab.async true in
/-- its only end: the head, run here, names the heap that it has written out -/
theorem pre : (True ∧ True) ∧ 0 + 0 = 0 := by
  simp (discharger := (w_on; o_law; k_head; (case hw => w_witness2))) only [of_holds, Nat.add_zero]
  decide
end Mine
end

section
set_option genInjectivity false
set_option genSizeOf false
set_option tactic.hygienic false
namespace Mine
open PySem PyProof.Rows

inductive PV where
  | none | bool (b : Bool) | int (i : Int) | str (s : Str) | tup (xs : List PV) | obj (n : Nat) | top (v : Value) | range (a b c : Int)

inductive Cell where
  | lst (xs : List PV) | inst (C : Addr) (as : List (Str × PV)) | cel (v : Option PV) | own (n : Nat) | const (xs : List PV)

inductive MV where
  | loc (i : Nat) | cel (i : Nat)

inductive MT where
  | one (x : MV) | tup (xs : List MV)

mutual
inductive ME where
  | cst (v : PV)
  | var (x : MV)
  | and (a b : ME)
  | or (a b : ME)
  | not (a : ME)
  | ite (t b o : ME)
  | bin (op : Operator) (a b : ME)
  | cmp (a : ME) (r : MC)
  | list (es : MEs)
  | tup (es : MEs)
  | comp (nl nc : Nat) (frees : List Nat) (it : MI) (g : MG)
  | call (f : ME) (es : MEs) (ks : MK)
  | meth (o : ME) (x : Str) (es : MEs) (ks : MK)
  | attr (o : ME) (x : Str)
  | idx (o i : ME)
  | slc (o l u s : ME)
inductive MEs where
  | nil
  | cons (e : ME) (r : MEs)
inductive MK where
  | nil
  | cons (x : Str) (e : ME) (r : MK)
inductive MC where
  | nil
  | cons (op : CmpOp) (e : ME) (r : MC)
inductive MI where
  | val (e : ME)
  | zip (es : MEs)
inductive MG where
  | lvl (t : MT) (ifs : MEs) (r : MG)
  | elt (e : ME)
  | nest (it : MI) (g : MG)
end

mutual
inductive MS where
  | bad
  | expr (e : ME)
  | ret (e : ME)
  | set (ts : List MT) (e : ME)
  | aug (x : MV) (op : Operator) (e : ME)
  | seti (o i e : ME)
  | seta (o : ME) (x : Str) (e : ME)
  | cond (t : ME) (b o : MSs)
  | whil (t : ME) (b : MSs)
  | loop (t : MT) (it : MI) (b : MSs)
inductive MSs where
  | nil
  | cons (s : MS) (r : MSs)
end

noncomputable abbrev St := List Cell
noncomputable abbrev M (α : Type) := St → Option (α × St)
noncomputable def rt {α : Type} (a : α) : M α := fun σ => some (a, σ)
noncomputable def fail {α : Type} : M α := fun _ => none
noncomputable def bnd {α β : Type} (m : M α) (f : α → M β) : M β := fun σ => match m σ with
  | some (a, σ') => f a σ'
  | none => none
noncomputable def lift {α : Type} (o : Option α) : M α := fun σ => match o with
  | some a => some (a, σ)
  | none => none
noncomputable def look {α : Type} (f : St → Option α) : M α := fun σ => match f σ with
  | some a => some (a, σ)
  | none => none
noncomputable def alloc (c : Cell) : M PV := fun σ => some (.obj σ.length, σ ++ [c])
noncomputable def put (n : Nat) (c : Cell) : M Unit := fun σ => some ((), σ.set n c)

structure Fm where
  ρ : List (Option PV)
  cs : List Nat

noncomputable def getV (fm : Fm) : MV → M PV
  | .loc i => lift (fm.ρ[i]?.join)
  | .cel i => look fun σ => match fm.cs[i]? with
    | some k => match σ[k]? with
      | some (.cel (some v)) => some v
      | _ => none
    | none => none
noncomputable def setV (fm : Fm) (v : PV) : MV → M Fm
  | .loc i => rt ⟨fm.ρ.set i (some v), fm.cs⟩
  | .cel i => fun σ => match fm.cs[i]? with
    | some k => match σ[k]? with
      | some (.cel _) => some (fm, σ.set k (.cel (some v)))
      | _ => none
    | none => none
noncomputable def setVs (fm : Fm) : List MV → List PV → M Fm
  | [], [] => rt fm
  | x :: xs, v :: vs => bnd (setV fm v x) fun fm' => setVs fm' xs vs
  | _, _ => fail
noncomputable def setT (fm : Fm) (v : PV) : MT → M Fm
  | .one x => setV fm v x
  | .tup xs => match v with
    | .tup vs => setVs fm xs vs
    | _ => fail
noncomputable def setTs (v : PV) : List MT → Fm → M Fm
  | [], fm => rt fm
  | t :: ts, fm => bnd (setT fm v t) fun fm' => setTs v ts fm'

noncomputable def truth (σ : St) : PV → Option Bool
  | .none => some false
  | .bool b => some b
  | .int i => some (i != 0)
  | .str s => some (s.length != 0)
  | .obj n => match σ[n]? with
    | some (.lst xs) => some (!xs.isEmpty)
    | _ => none
  | _ => none

noncomputable def small (i : Int) : Bool := decide (-4611686018427387904 < i) && decide (i < 4611686018427387904)

noncomputable def lstAt (σ : St) (n : Nat) : Option (List PV) := match σ[n]? with
  | some (.lst xs) => some xs
  | _ => none

noncomputable def fits (s : Str) : Bool := decide (s.length ≤ 1000000) && PyData.strOk s

noncomputable def mapO {α β : Type} (f : α → Option β) : List α → Option (List β)
  | [] => some []
  | x :: xs => match f x, mapO f xs with
    | some y, some ys => some (y :: ys)
    | _, _ => none

/-- a value as a datum -/
noncomputable def deep (σ : St) : Nat → PV → Option PyData
  | 0, v => match v with
    | .none => some .none
    | .bool b => some (.bool b)
    | .int i => some (.int i)
    | .str s => some (.str s)
    | _ => none
  | n + 1, v => match v with
    | .none => some .none
    | .bool b => some (.bool b)
    | .int i => some (.int i)
    | .str s => some (.str s)
    | .tup xs => (mapO (deep σ n) xs).map .tuple
    | .obj k => match lstAt σ k with
      | some xs => (mapO (deep σ n) xs).map .list
      | none => none
    | _ => none
/-- Python's ==; none where it is not served -/
noncomputable def eqTop (σ : St) (a b : PV) : Option Bool := match deep σ 6 a, deep σ 6 b with
  | some x, some y => some (PyData.eqv x y)
  | _, _ => none
noncomputable def isIn (σ : St) (x : PV) (ys : List PV) : Option Bool := match deep σ 6 x, mapO (deep σ 5) ys with
  | some d, some ds => some (ds.any fun y => PyData.eqv y d)
  | _, _ => none

noncomputable def cmpIS (fi : Int → Int → Bool) (fs : Str → Str → Bool) (a b : PV) : Option Bool := match a, b with
  | .int x, .int y => some (fi x y)
  | .str x, .str y => some (fs x y)
  | _, _ => none
noncomputable def cmpI (fi : Int → Int → Bool) (a b : PV) : Option Bool := match a, b with
  | .int x, .int y => some (fi x y)
  | _, _ => none
noncomputable def isO (a b : PV) : Option Bool := match a, b with
  | .none, .none => some true
  | .str _, .none => some false
  | .obj _, .none => some false
  | .top (.type x), .top (.type y) => some (x == y)
  | _, _ => none
noncomputable def inO (σ : St) (a b : PV) : Option Bool := match a, b with
  | .str x, .str y => some (Txt.contains y x)
  | x, .tup ys => isIn σ x ys
  | x, .obj n => match lstAt σ n with
    | some ys => isIn σ x ys
    | none => none
  | _, _ => none
noncomputable def cmpop (σ : St) (op : CmpOp) (a b : PV) : Option Bool := match op with
  | .Eq => eqTop σ a b
  | .NotEq => (eqTop σ a b).map (!·)
  | .Lt => cmpIS (fun x y => decide (x < y)) (fun x y => decide (x.cps.toList < y.cps.toList)) a b
  | .LtE => cmpI (fun x y => decide (x ≤ y)) a b
  | .Gt => cmpIS (fun x y => decide (x > y)) (fun x y => decide (y.cps.toList < x.cps.toList)) a b
  | .GtE => cmpI (fun x y => decide (x ≥ y)) a b
  | .Is => isO a b
  | .IsNot => (isO a b).map (!·)
  | .In => inO σ a b
  | .NotIn => (inO σ a b).map (!·)

noncomputable def intOf : PV → Option Int
  | .int i => some i
  | .bool b => some (if b then 1 else 0)
  | _ => none

noncomputable def addM (a b : PV) : M PV := match a, b with
  | .str x, .str y => if fits (x ++ y) then rt (.str (x ++ y)) else fail
  | .obj i, .obj j => fun σ => match lstAt σ i, lstAt σ j with
    | some xs, some ys => if xs.length + ys.length ≤ 10000 then alloc (.lst (xs ++ ys)) σ else none
    | _, _ => none
  | .int x, .int y => rt (.int (x + y))
  | .int x, .bool y => rt (.int (x + if y then 1 else 0))
  | _, _ => fail
noncomputable def subM (a b : PV) : M PV := match a, b with
  | .int x, .int y => rt (.int (x - y))
  | .bool x, .bool y => rt (.int ((if x then 1 else 0) - if y then 1 else 0))
  | _, _ => fail
noncomputable def mulM (a b : PV) : M PV := match a, b with
  | .int x, .int y => if decide (x.natAbs < 1000000) && decide (y.natAbs < 1000000) then rt (.int (x * y)) else fail
  | _, _ => fail
noncomputable def fdivM (a b : PV) : M PV := match a, b with
  | .int x, .int y => if decide (0 < y) && small x && small y then rt (.int (Int.fdiv x y)) else fail
  | _, _ => fail
noncomputable def modM (a b : PV) : M PV := match a, b with
  | .int x, .int y => if decide (0 < y) then rt (.int (Int.fmod x y)) else fail
  | _, _ => fail
noncomputable def bitM (xor : Bool) (a b : PV) : M PV := match a, b with
  | .int x, .int y => rt (.int (if xor then Builtin.bitXor x y else Builtin.bitAnd x y))
  | _, _ => fail
noncomputable def binop (op : Operator) (a b : PV) : M PV := match op with
  | .Add => addM a b
  | .Sub => subM a b
  | .Mult => mulM a b
  | .FloorDiv => fdivM a b
  | .Mod => modM a b
  | .BitAnd => bitM false a b
  | .BitXor => bitM true a b
  | _ => fail

/-- +=, -= -/
noncomputable def augop (op : Operator) (a b : PV) : M PV := match op, a, b with
  | .Add, .str x, .str y => if fits (x ++ y) then rt (.str (x ++ y)) else fail
  | .Add, .int x, .int y => rt (.int (x + y))
  | .Add, .int x, .bool y => rt (.int (x + if y then 1 else 0))
  | .Sub, .int x, .int y => rt (.int (x - y))
  | _, _, _ => fail

/-- where an index lands -/
noncomputable def idxAt (i : Int) (n : Nat) : Option Nat := if small i then seqIndex? i n else none

noncomputable def item (σ : St) (o i : PV) : Option PV := match o, i with
  | .str s, .int i => match idxAt i s.length with
    | some k => match s.cps[k]? with
      | some c => some (.str ⟨#[c]⟩)
      | none => none
    | none => none
  | .tup xs, .int i => match idxAt i xs.length with
    | some k => xs[k]?
    | none => none
  | .obj n, .int i => match lstAt σ n with
    | some xs => match idxAt i xs.length with
      | some k => xs[k]?
      | none => none
    | none => none
  | _, _ => none

noncomputable def optInt : PV → Option (Option Int)
  | .none => some none
  | .int i => if small i then some (some i) else none
  | _ => none

noncomputable def slicePV (xs : List PV) (l u s : Option Int) : List PV :=
  let b := sliceBounds l u s xs.length
  (sliceRange b.1 b.2.1 b.2.2).filterMap (fun k => xs[k]?)

noncomputable def sliceAt (o : PV) (l u s : Option Int) : M PV := match o with
  | .str x =>
    let ks := Builtin.Str.strSliceIndices l u (s.getD 1) x.length
    if s.getD 1 == 1 && ks.length == x.length then rt (.str x) else
      if fits ⟨(ks.filterMap (x.cps[·]?)).toArray⟩ then rt (.str ⟨(ks.filterMap (x.cps[·]?)).toArray⟩) else fail
  | .obj n => fun σ => match lstAt σ n with
    | some xs => alloc (.lst (slicePV xs l u s)) σ
    | none => match σ[n]? with
      | some (.const xs) => alloc (.lst (slicePV xs l u s)) σ
      | _ => none
  | _ => fail
noncomputable def slice (o l u s : PV) : M PV := match optInt l, optInt u, optInt s with
  | some l, some u, some s => if s == some 0 then fail else sliceAt o l u s
  | _, _, _ => fail

noncomputable abbrev Ap := PV → List PV → List (Str × PV) → M PV
noncomputable abbrev Mt := St → PV → Str → Option Value
/-- what calls, method names and attributes are served -/
structure Tab where
  ap : Ap
  mt : Mt
  at_ : Addr → Str → Bool

inductive PI where
  | one (v : PV) | zip (vs : List PV) (k : Nat)

noncomputable def nth1 (σ : St) (v : PV) (i : Nat) : Option (Option PV) := match v with
  | .str s => some (s.cps[i]?.map fun c => .str ⟨#[c]⟩)
  | .tup xs => some xs[i]?
  | .obj n => match lstAt σ n with
    | some xs => some xs[i]?
    | none => none
  | .range a b c => some (if a + c * i < b then some (.int (a + c * i)) else none)
  | _ => none
noncomputable def nths (σ : St) (i : Nat) : List PV → Option (Option (List PV))
  | [] => some (some [])
  | v :: vs => match nth1 σ v i with
    | some (some x) => match nths σ i vs with
      | some (some xs) => some (some (x :: xs))
      | some none => some none
      | none => none
    | some none => some none
    | none => none
noncomputable def isOwn (σ : St) (k n : Nat) : Bool := match σ[k]? with
  | some (.own m) => m == n
  | _ => false
/-- what zip is served on -/
noncomputable def zipable : PV → Bool
  | .str _ => true
  | .obj _ => true
  | _ => false
noncomputable def nth (σ : St) (it : PI) (i : Nat) : Option (Option PV) := match it with
  | .one v => nth1 σ v i
  | .zip vs k => if isOwn σ k vs.length then match nths σ i vs with
    | some (some xs) => some (some (.tup xs))
    | some none => some none
    | none => none
    else none

noncomputable def loopM {β γ : Type} (src : PI) (body : PV → β → M (β × Option γ)) : Nat → Nat → β → M (β × Option γ)
  | 0, _, _ => fail
  | n + 1, i, b => fun σ => match nth σ src i with
    | none => none
    | some none => some ((b, none), σ)
    | some (some v) => match body v b σ with
      | none => none
      | some ((b', some r), σ') => some ((b', some r), σ')
      | some ((b', none), σ') => loopM src body n (i + 1) b' σ'

noncomputable def whileM {β γ : Type} (test : β → M Bool) (body : β → M (β × Option γ)) : Nat → β → M (β × Option γ)
  | 0, _ => fail
  | n + 1, b => bnd (test b) fun t => if t then bnd (body b) fun r => match r with
      | (b', some v) => rt (b', some v)
      | (b', none) => whileM test body n b'
    else rt (b, none)

noncomputable def fuel : Nat := 100

noncomputable def allocCells : Nat → M (List Nat)
  | 0 => rt []
  | n + 1 => fun σ => match allocCells n (σ ++ [.cel none]) with
    | some (ks, σ') => some (ks ++ [σ.length], σ')
    | none => none

noncomputable def push (acc : PV) (v : PV) : M Unit := match acc with
  | .obj n => fun σ => match lstAt σ n with
    | some xs => if xs.length ≤ 10000 then some ((), σ.set n (.lst (xs ++ [v]))) else none
    | none => none
  | _ => fail

noncomputable def plainC : PV → Bool
  | .tup _ => false
  | .obj _ => false
  | .range _ _ _ => false
  | _ => true
noncomputable def noTop : Option PV → Option PV
  | some (.top _) => none
  | r => r
section
variable (T : Tab)
mutual
noncomputable def ev : ME → Fm → M PV
  | .cst v, _ => if plainC v then rt v else fail
  | .var x, fm => getV fm x
  | .and a b, fm => bnd (ev a fm) fun v => bnd (look (truth · v)) fun t => if t then ev b fm else rt v
  | .or a b, fm => bnd (ev a fm) fun v => bnd (look (truth · v)) fun t => if t then rt v else ev b fm
  | .not a, fm => bnd (ev a fm) fun v => bnd (look (truth · v)) fun t => rt (.bool (!t))
  | .ite t b o, fm => bnd (ev t fm) fun v => bnd (look (truth · v)) fun c => if c then ev b fm else ev o fm
  | .bin op a b, fm => bnd (ev a fm) fun x => bnd (ev b fm) fun y => binop op x y
  | .cmp a r, fm => bnd (ev a fm) fun x => bnd (evC r x fm) fun b => rt (.bool b)
  | .list es, fm => bnd (evs es fm) fun vs => if vs.length ≤ 1000 then alloc (.lst vs) else fail
  | .tup es, fm => bnd (evs es fm) fun vs => if vs.length ≤ 1000 then rt (.tup vs) else fail
  | .comp nl nc frees it g, fm => bnd (evI it fm) fun src => bnd (alloc (.lst [])) fun acc => bnd (allocCells nc) fun ks =>
      bnd (lift ((frees.mapM fun i => fm.cs[i]?).map List.reverse)) fun fs =>
      bnd (loopM (γ := Unit) src (fun v fm' => bnd (evG g acc (some v) fm') fun fm'' => rt (fm'', none)) fuel 0 ⟨List.replicate nl none, ks ++ fs⟩) fun _ => rt acc
  | .call f es ks, fm => bnd (ev f fm) fun fv => bnd (evs es fm) fun vs => bnd (evK ks fm) fun kvs => T.ap fv vs kvs
  | .meth o x es ks, fm => bnd (ev o fm) fun ov => bnd (look fun σ => T.mt σ ov x) fun fv => bnd (evs es fm) fun vs => bnd (evK ks fm) fun kvs => T.ap (.top fv) (ov :: vs) kvs
  | .attr o x, fm => bnd (ev o fm) fun ov => match ov with
    | .obj n => look fun σ => match σ[n]? with
      | some (.inst C as) => if T.at_ C x then noTop (as.lookup x) else none
      | _ => none
    | _ => fail
  | .idx o i, fm => bnd (ev o fm) fun ov => bnd (ev i fm) fun iv => look fun σ => item σ ov iv
  | .slc o l u s, fm => bnd (ev o fm) fun ov => bnd (ev l fm) fun lv => bnd (ev u fm) fun uv => bnd (ev s fm) fun sv => slice ov lv uv sv
noncomputable def evs : MEs → Fm → M (List PV)
  | .nil, _ => rt []
  | .cons e r, fm => bnd (ev e fm) fun v => bnd (evs r fm) fun vs => rt (v :: vs)
noncomputable def evK : MK → Fm → M (List (Str × PV))
  | .nil, _ => rt []
  | .cons x e r, fm => bnd (ev e fm) fun v => bnd (evK r fm) fun vs => rt ((x, v) :: vs)
noncomputable def evC : MC → PV → Fm → M Bool
  | .nil, _, _ => rt true
  | .cons op e r, a, fm => bnd (ev e fm) fun b => bnd (look fun σ => cmpop σ op a b) fun c => if c then evC r b fm else rt false
noncomputable def evI : MI → Fm → M PI
  | .val e, fm => bnd (ev e fm) fun v => fun σ => if (nth1 σ v 0).isSome then some (.one v, σ) else none
  | .zip es, fm => bnd (evs es fm) fun vs => fun σ => if (vs.length == 2 || vs.length == 3) && vs.all (fun v => zipable v && (nth1 σ v 0).isSome) then some (.zip vs σ.length, σ ++ [.own vs.length]) else none
noncomputable def evIfs : MEs → Fm → M Bool
  | .nil, _ => rt true
  | .cons e r, fm => bnd (ev e fm) fun v => bnd (look (truth · v)) fun t => if t then evIfs r fm else rt false
noncomputable def evG : MG → PV → Option PV → Fm → M Fm
  | .lvl t ifs r, acc, v, fm => match v with
    | some v => bnd (setT fm v t) fun fm' => bnd (evIfs ifs fm') fun ok => if ok then evG r acc none fm' else rt fm'
    | none => fail
  | .elt e, acc, _, fm => bnd (ev e fm) fun v => bnd (push acc v) fun _ => rt fm
  | .nest _ _, _, _, _ => fail
end

noncomputable def seti (o i v : PV) : M Unit := match o, i with
  | .obj n, .int i => fun σ => match lstAt σ n with
    | some xs => match idxAt i xs.length with
      | some k => some ((), σ.set n (.lst (xs.set k v)))
      | none => none
    | none => none
  | _, _ => fail
noncomputable def putA (x : Str) (v : PV) : List (Str × PV) → List (Str × PV)
  | [] => [(x, v)]
  | (y, u) :: r => if x == y then (y, v) :: r else (y, u) :: putA x v r
noncomputable def seta (o : PV) (x : Str) (v : PV) : M Unit := match o with
  | .obj n => fun σ => match σ[n]? with
    | some (.inst C as) => if T.at_ C x && decide (as.length ≤ 100) then some ((), σ.set n (.inst C (putA x v as))) else none
    | _ => none
  | _ => fail

mutual
noncomputable def ex : MS → Fm → M (Fm × Option PV)
  | .bad, _ => fail
  | .expr e, fm => bnd (ev T e fm) fun _ => rt (fm, none)
  | .ret e, fm => bnd (ev T e fm) fun v => rt (fm, some v)
  | .set ts e, fm => bnd (ev T e fm) fun v => bnd (setTs v ts fm) fun fm' => rt (fm', none)
  | .aug x op e, fm => bnd (getV fm x) fun a => bnd (ev T e fm) fun b => bnd (augop op a b) fun v => bnd (setV fm v x) fun fm' => rt (fm', none)
  | .seti o i e, fm => bnd (ev T e fm) fun v => bnd (ev T o fm) fun ov => bnd (ev T i fm) fun iv => bnd (seti ov iv v) fun _ => rt (fm, none)
  | .seta o x e, fm => bnd (ev T e fm) fun v => bnd (ev T o fm) fun ov => bnd (seta T ov x v) fun _ => rt (fm, none)
  | .cond t b o, fm => bnd (ev T t fm) fun v => bnd (look (truth · v)) fun c => if c then exs b fm else exs o fm
  | .whil t b, fm => whileM (fun fm => bnd (ev T t fm) fun v => look (truth · v)) (fun fm => exs b fm) fuel fm
  | .loop t it b, fm => bnd (evI T it fm) fun src => loopM src (fun v fm' => bnd (setT fm' v t) fun fm'' => exs b fm'') fuel 0 fm
noncomputable def exs : MSs → Fm → M (Fm × Option PV)
  | .nil, fm => rt (fm, none)
  | .cons s r, fm => bnd (ex s fm) fun x => match x with
    | (fm', some v) => rt (fm', some v)
    | (fm', none) => exs r fm'
end
end
end Mine
end

section
set_option tactic.hygienic false
namespace Mine
open PySem PyProof.Rows

/-! ### heaps only grow -/
theorem runs_size {M : Model} {Γ : Ctx} {p : Pos} {t : Sem Fin} {fs : List Frame} {s s' : Shared} {e : End} (h : Runs M Γ p t fs s e s') :
    s.heap.objs.size ≤ s'.heap.objs.size := by
  induction h <;> (try simp only [Shared.setGen, Heap.size_push, Heap.size_after_update] at *) <;> omega

theorem returns_size {M : Model} {Γ : Ctx} {p : Pos} {s s' : Shared} {r : Result} (h : Returns M Γ p s r s') :
    s.heap.objs.size ≤ s'.heap.objs.size := runs_size h

theorem wakes_size {M : Model} {Γ : Ctx} {p : Pos} {g : Nat} {r : Resume} {s s' : Shared} {res : GenResult} (h : Wakes M Γ p g r s res s') :
    s.heap.objs.size ≤ s'.heap.objs.size := by
  unfold Wakes at h
  split at h
  · exact h.elim
  · split at h
    · obtain ⟨e₁, s₁, hr, _, _, rfl⟩ := h; exact (runs_size hr : (s.setGen g .running).heap.objs.size ≤ s₁.heap.objs.size)
    · rw [h.2]; exact Nat.le_refl _
    · rw [h.2]; exact Nat.le_refl _
  · obtain ⟨e₁, s₁, hr, _, _, rfl⟩ := h; exact (runs_size hr : (s.setGen g .running).heap.objs.size ≤ s₁.heap.objs.size)
  · rw [h.2]; exact Nat.le_refl _
  · rw [h.2]; exact Nat.le_refl _

theorem wp_size {α : Type} (M : Model) (Γ : Ctx) (n : Nat) (t : Sem α) : ∀ (Q : α → Pos → Shared → Prop) (E : Value → Pos → Shared → Prop) (p : Pos) (s : Shared),
    n ≤ s.heap.objs.size → Sem.wp M Γ t Q E p s →
    Sem.wp M Γ t (fun a p' s' => n ≤ s'.heap.objs.size ∧ Q a p' s') (fun e p' s' => n ≤ s'.heap.objs.size ∧ E e p' s') p s := by
  induction t with
  | pure a => intro Q E p s hn h; exact ⟨hn, h⟩
  | raise e => intro Q E p s hn h; exact ⟨hn, h⟩
  | unsupported _ => intro Q E p s _ h; exact h
  | finish _ => intro Q E p s _ h; exact h
  | rule _ k ih => intro Q E p s hn h; exact ih () Q E p s hn h
  | «at» p' k ih => intro Q E p s hn h; exact ih () Q E p' s hn h
  | load a _ k ih => intro Q E p s hn h; obtain ⟨o, ho, h⟩ := h; exact ⟨o, ho, ih o Q E p s hn h⟩
  | update a _ f k ih => intro Q E p s hn h; exact ⟨h.1, ih () Q E p _ (by simpa using hn) h.2⟩
  | loadIfAlive a k ih => intro Q E p s hn h; exact ih _ Q E p s hn h
  | point _ k ih => intro Q E p s hn h; exact ih () Q E p s hn h
  | register _ _ => intro Q E p s _ h; exact h
  | alloc o k ih => intro Q E p s hn h; exact ih _ Q E p _ (by simp only [Heap.size_push]; omega) h
  | fresh k ih => intro Q E p s hn h; exact ih _ Q E p _ hn h
  | ask k ih => intro Q E p s hn h; exact ih _ Q E p s hn h
  | choose src m k ih => intro Q E p s hn h; exact ⟨h.1, ih _ Q E p _ hn h.2⟩
  | os q _ k ih => intro Q E p s hn h; exact ih _ Q E p _ hn h
  | call c hd _ _ k ih => intro Q E p s hn h; obtain ⟨r, s', hr, h⟩ := h; exact ⟨r, s', hr, ih r Q E p s' (Nat.le_trans hn (returns_size hr)) h⟩
  | handled own k ih => intro Q E p s hn h; exact ih _ Q E p s hn h
  | genState g k ih => intro Q E p s hn h; obtain ⟨st, hs, h⟩ := h; exact ⟨st, hs, ih _ Q E p s hn h⟩
  | newGen c k ih => intro Q E p s hn h; exact ih _ Q E p _ hn h
  | resume g r _ k ih => intro Q E p s hn h; obtain ⟨res, s', hw, h⟩ := h; exact ⟨res, s', hw, ih res Q E p s' (Nat.le_trans hn (wakes_size hw)) h⟩
  | yield _ _ _ _ => intro Q E p s _ h; exact h
  | stack k ih => intro Q E p s hn h; exact ih _ Q E p s hn h
  | fork _ _ => intro Q E p s _ h; exact h
  | thread k ih => intro Q E p s hn h; exact ih _ Q E p s hn h
  | await _ _ _ _ _ => intro Q E p s _ h; exact h

/-- no run comes back with an exception here -/
noncomputable def bot : Value → Shared → Prop := fun _ _ => False
/-- our triple: no exception, and only heap and tokens turn -/
noncomputable def W {α : Type} (prog : Program) (w : World) (A : Around) (t : Sem α) (s : Shared) (Q : α → Heap → Prop) : Prop :=
  wpAny (model prog w) A t (fun a s' => ∃ h' tk, s' = { s with heap := h', toks := tk } ∧ Q a h') bot s

section
variable {α β : Type} {prog : Program} {w : World} {A : Around} {s : Shared}

theorem sized {t : Sem α} {Q : α → Shared → Prop} (h : wpAny (model prog w) A t (fun a s' => s.heap.objs.size ≤ s'.heap.objs.size → Q a s') bot s) :
    wpAny (model prog w) A t Q bot s :=
  wpAny_mono (Q := fun a s' => s.heap.objs.size ≤ s'.heap.objs.size ∧ (s.heap.objs.size ≤ s'.heap.objs.size → Q a s')) (E := fun e s' => s.heap.objs.size ≤ s'.heap.objs.size ∧ bot e s')
    (fun Γ p hΓ => wp_size _ Γ _ t _ _ p s (Nat.le_refl _) (h Γ p hΓ)) (fun _ _ x => x.2 x.1) (fun _ _ x => x.2)

theorem bot_any {t : Sem α} {Q : α → Shared → Prop} {E : Value → Shared → Prop} (h : wpAny (model prog w) A t Q bot s) : wpAny (model prog w) A t Q E s :=
  wpAny_mono h (fun _ _ x => x) (fun _ _ x => x.elim)
end

/-! ### how plain values lie in a heap -/
noncomputable abbrev Phi := List (Addr × Addr)

mutual
inductive RV (φ : Phi) (h : Heap) : PV → Value → Prop where
  | none : RV φ h .none .none
  | bool (b : Bool) : RV φ h (.bool b) (.bool b)
  | int (i : Int) (t : Tok) : RV φ h (.int i) (.int i t)
  | str {s : Str} (hs : fits s = true) (t : Tok) : RV φ h (.str s) (.str s t)
  | tup {xs : List PV} {us : List Value} {a : Addr} {n : Nat} : h.get? a = some { cls := .type "tuple", dict := none, data := .seq us.toArray n, slots := #[] } →
      (∀ p ∈ φ, p.2 ≠ a) → RVs φ h xs us → RV φ h (.tup xs) (.ref a)
  | obj {n : Nat} {p : Addr × Addr} : φ[n]? = some p → RV φ h (.obj n) (.ref p.1)
  | top (v : Value) : RV φ h (.top v) v
  | range {a b c : Int} {r : Addr} {t u v : Tok} : IsRange h r a b c t u v → small a = true → small b = true → small c = true → 0 < c → RV φ h (.range a b c) (.ref r)
inductive RVs (φ : Phi) (h : Heap) : List PV → List Value → Prop where
  | nil : RVs φ h [] []
  | cons {x : PV} {xs : List PV} {u : Value} {us : List Value} : RV φ h x u → RVs φ h xs us → RVs φ h (x :: xs) (u :: us)
end

noncomputable def Imm (o : Obj) : Prop := match o.data with
  | .plain => True
  | .seq _ _ => o.cls = .type "tuple"
  | .fields _ => o.cls = .type "range"
  | _ => False
theorem imm_plain {o : Obj} (h : o.data = .plain) : Imm o := by unfold Imm; rw [h]; trivial
theorem imm_dict {o : Obj} {es : Array DictEntry} {n : Nat} (h : o.data = .dict es n) : ¬ Imm o := by unfold Imm; rw [h]; exact id
theorem imm_cell {o : Obj} {v : Option Value} (h : o.data = .cell v) : ¬ Imm o := by unfold Imm; rw [h]; exact id

/-- immutable things stay -/
structure Grow (φ φ' : Phi) (h h' : Heap) : Prop where
  ext : φ <+: φ'
  new : ∀ p ∈ φ', p ∈ φ ∨ h.objs.size ≤ p.2
  imm : ∀ b o, h.get? b = some o → Imm o → (o.cls = .type "tuple" → ∀ p ∈ φ, p.2 ≠ b) → h'.get? b = some o
theorem Grow.off {φ φ' : Phi} {h h' : Heap} (g : Grow φ φ' h h') {b : Addr} {o : Obj} (e : h.get? b = some o) (hb : ∀ p ∈ φ, p.2 ≠ b) : ∀ p ∈ φ', p.2 ≠ b := fun p hp z => by
  rcases g.new p hp with q | q
  · exact hb p q z
  · exact Nat.lt_irrefl _ (Nat.lt_of_lt_of_le (Heap.lt_size e) (z ▸ q))

theorem imm_tuple {us : Array Value} {n : Nat} : Imm { cls := .type "tuple", dict := none, data := .seq us n, slots := #[] } := rfl

mutual
theorem RV.mono {φ φ' : Phi} {h h' : Heap} (g : Grow φ φ' h h') : ∀ {x : PV} {u : Value}, RV φ h x u → RV φ' h' x u
  | _, _, .none => .none
  | _, _, .bool b => .bool b
  | _, _, .int i t => .int i t
  | _, _, .str e t => .str e t
  | _, _, .tup e hn r => .tup (g.imm _ _ e imm_tuple fun _ => hn) (g.off e hn) (RVs.mono g r)
  | _, _, .obj e => .obj (by
      obtain ⟨ψ, rfl⟩ := g.ext
      rw [List.getElem?_append_left (List.getElem?_eq_some_iff.mp e).1]; exact e)
  | _, _, .top v => .top v
  | _, _, .range e h1 h2 h3 h4 => .range (g.imm _ _ e rfl (fun x => by simp at x)) h1 h2 h3 h4
theorem RVs.mono {φ φ' : Phi} {h h' : Heap} (g : Grow φ φ' h h') : ∀ {xs : List PV} {us : List Value}, RVs φ h xs us → RVs φ' h' xs us
  | _, _, .nil => .nil
  | _, _, .cons a r => .cons (RV.mono g a) (RVs.mono g r)
end

section
variable {φ : Phi} {h : Heap} {u : Value}
theorem RV.inv {v : PV} (q : RV φ h v u) : match v with
  | .none => u = .none
  | .bool b => u = .bool b
  | .int i => ∃ t, u = .int i t
  | .str x => fits x = true ∧ ∃ t, u = .str x t
  | .tup xs => ∃ a us n, h.get? a = Option.some { cls := .type "tuple", dict := Option.none, data := .seq (List.toArray us) n, slots := #[] } ∧ (∀ p ∈ φ, p.2 ≠ a) ∧ RVs φ h xs us ∧ u = .ref a
  | .obj n => ∃ p, φ[n]? = Option.some p ∧ u = .ref p.1
  | .top x => u = x
  | .range a b c => ∃ r t u' w, IsRange h r a b c t u' w ∧ small a = true ∧ small b = true ∧ small c = true ∧ 0 < c ∧ u = .ref r := by
  cases q with
  | none => rfl
  | bool => rfl
  | int i t => exact ⟨t, rfl⟩
  | str e t => exact ⟨e, t, rfl⟩
  | tup e o r => exact ⟨_, _, _, e, o, r, rfl⟩
  | obj e => exact ⟨_, e, rfl⟩
  | top => rfl
  | range e h1 h2 h3 h4 => exact ⟨_, _, _, _, e, h1, h2, h3, h4, rfl⟩
theorem RV.i_bool {b : Bool} (q : RV φ h (.bool b) u) : u = .bool b := q.inv
theorem RV.i_int {i : Int} (q : RV φ h (.int i) u) : ∃ t, u = .int i t := q.inv
theorem RV.i_str {x : Str} (q : RV φ h (.str x) u) : fits x = true ∧ ∃ t, u = .str x t := q.inv
theorem RV.i_obj {n : Nat} (q : RV φ h (.obj n) u) : ∃ p, φ[n]? = Option.some p ∧ u = .ref p.1 := q.inv
theorem RV.i_top {x : Value} (q : RV φ h (.top x) u) : u = x := q.inv
theorem RV.i_tup {xs : List PV} (q : RV φ h (.tup xs) u) : ∃ a us n, h.get? a = Option.some { cls := .type "tuple", dict := Option.none, data := .seq (List.toArray us) n, slots := #[] } ∧ (∀ p ∈ φ, p.2 ≠ a) ∧ RVs φ h xs us ∧ u = .ref a := q.inv
theorem RV.i_none (q : RV φ h .none u) : u = .none := q.inv
theorem RVs.i_nil {us : List Value} (r : RVs φ h [] us) : us = [] := by cases r; rfl
inductive ConsS (φ : Phi) (h : Heap) (x : PV) (xs : List PV) (us : List Value) : Prop where
  | mk (u : Value) (us' : List Value) (q : RV φ h x u) (r : RVs φ h xs us') (e : us = u :: us') : ConsS φ h x xs us
theorem RVs.i_cons {x : PV} {xs : List PV} {us : List Value} (r : RVs φ h (x :: xs) us) : ConsS φ h x xs us := by
  cases r with | cons q r => exact ⟨_, _, q, r, rfl⟩
end
theorem RVs.length {φ : Phi} {h : Heap} : ∀ {xs : List PV} {us : List Value}, RVs φ h xs us → xs.length = us.length
  | _, _, .nil => rfl
  | _, _, .cons _ r => by simp [RVs.length r]
theorem RVs.get {φ : Phi} {h : Heap} : ∀ {xs : List PV} {us : List Value}, RVs φ h xs us → ∀ {i : Nat} {x : PV}, xs[i]? = some x → ∃ u, us[i]? = some u ∧ RV φ h x u
  | _, _, .nil, _, _, e => by simp at e
  | _, _, .cons a r, i, x, e => by
    cases i with
    | zero => simp at e; subst e; exact ⟨_, by simp, a⟩
    | succ i => simp at e; simpa using RVs.get r e
theorem RVs.append {φ : Phi} {h : Heap} : ∀ {xs : List PV} {us : List Value} {ys : List PV} {vs : List Value}, RVs φ h xs us → RVs φ h ys vs → RVs φ h (xs ++ ys) (us ++ vs)
  | _, _, _, _, .nil, r => r
  | _, _, _, _, .cons a r, q => .cons a (RVs.append r q)
theorem RVs.set {φ : Phi} {h : Heap} : ∀ {xs : List PV} {us : List Value} {i : Nat} {x : PV} {u : Value}, RVs φ h xs us → RV φ h x u → RVs φ h (xs.set i x) (us.set i u)
  | _, _, _, _, _, .nil, _ => .nil
  | _, _, 0, _, _, .cons _ r, q => .cons q r
  | _, _, i + 1, _, _, .cons a r, q => .cons a (RVs.set r q)
theorem RVs.at {φ : Phi} {h : Heap} {xs : List PV} {us : List Value} (r : RVs φ h xs us) {i : Nat} (hi : i < us.length) : ∃ x, xs[i]? = some x ∧ RV φ h x us[i] := by
  have hx : i < xs.length := by rw [r.length]; exact hi
  obtain ⟨u, hu, q⟩ := r.get (List.getElem?_eq_getElem hx)
  refine ⟨xs[i], List.getElem?_eq_getElem hx, ?_⟩
  rw [List.getElem?_eq_getElem hi] at hu
  cases hu; exact q

/-! ### the store -/
noncomputable def CelV (φ : Phi) (h : Heap) : Option PV → Option Value → Prop
  | none, none => True
  | some v, some u => RV φ h v u
  | _, _ => False

noncomputable def AttrsAt (φ : Phi) (h : Heap) (as : List (Str × PV)) (m : Str → Option Value) : Prop :=
  ∀ x, match as.lookup x with
    | some v => ∃ u, m x = some u ∧ RV φ h v u
    | none => m x = none

noncomputable def CellAt (φ : Phi) (h : Heap) (p : Addr × Addr) : Cell → Prop
  | .lst xs => p.1 = p.2 ∧ xs.length ≤ 20000 ∧ ∃ us n, h.get? p.1 = some { cls := .type "list", dict := none, data := .seq (List.toArray us) n, slots := #[] } ∧ RVs φ h xs us
  | .inst C as => (∃ o, h.get? p.1 = some o ∧ o.cls = .ref C ∧ o.data = .plain ∧ o.dict = some p.2) ∧ p.1 ≠ p.2 ∧
      (∃ od, h.get? p.2 = some od ∧ ∃ es n, od.data = .dict es n) ∧ ∃ m, h.Ns1 p.2 m ∧ AttrsAt φ h as m
  | .cel v => p.1 = p.2 ∧ ∃ o ov, h.get? p.1 = some o ∧ o.data = .cell ov ∧ CelV φ h v ov
  | .own k => p.1 = p.2 ∧ ∃ us n, h.get? p.1 = some { cls := .type "tuple", dict := none, data := .seq us n, slots := #[] } ∧ us.size = k
  | .const xs => p.1 = p.2 ∧ xs.length ≤ 20000 ∧ ∃ us, h.IsList p.1 (List.toArray us) ∧ RVs φ h xs us
noncomputable def isConst : Cell → Bool
  | .const _ => true
  | _ => false

structure Inv (h₀ : Heap) (φ : Phi) (σ : St) (h : Heap) : Prop where
  base : ∀ b o, h₀.get? b = some o → h.get? b = some o
  sz : h₀.objs.size ≤ h.objs.size
  low : ∀ (i : Nat) p c, φ[i]? = some p → σ[i]? = some c → isConst c = false → h₀.objs.size ≤ p.2
  len : φ.length = σ.length
  nd : (φ.map (·.2)).Nodup
  at_ : ∀ (i : Nat) c p, σ[i]? = some c → φ[i]? = some p → CellAt φ h p c

structure Step (X : List Addr) (φ φ' : Phi) (h h' : Heap) : Prop extends Grow φ φ' h h' where
  size : h.objs.size ≤ h'.objs.size
  keep : ∀ b o, h.get? b = some o → b ∉ X → (∀ p ∈ φ, p.2 ≠ b) → h'.get? b = some o

theorem Grow.refl (φ : Phi) (h : Heap) : Grow φ φ h h := ⟨List.prefix_refl _, fun _ hp => .inl hp, fun _ _ e _ _ => e⟩
theorem Grow.trans {φ φ' φ'' : Phi} {h h' h'' : Heap} (a : Grow φ φ' h h') (hz : h.objs.size ≤ h'.objs.size) (b : Grow φ' φ'' h' h'') : Grow φ φ'' h h'' where
  ext := a.ext.trans b.ext
  new := fun p hp => by
    rcases b.new p hp with q | q
    · exact a.new p q
    · exact .inr (Nat.le_trans hz q)
  imm := fun c o e hi ht => b.imm c o (a.imm c o e hi ht) hi fun z => a.off e (ht z)
theorem Step.refl (X : List Addr) (φ : Phi) (h : Heap) : Step X φ φ h h :=
  ⟨Grow.refl φ h, Nat.le_refl _, fun _ _ e _ _ => e⟩
theorem Step.trans {X : List Addr} {φ φ' φ'' : Phi} {h h' h'' : Heap} (a : Step X φ φ' h h') (b : Step X φ' φ'' h' h'') : Step X φ φ'' h h'' where
  ext := a.ext.trans b.ext
  size := Nat.le_trans a.size b.size
  new := fun p hp => by
    rcases b.new p hp with q | q
    · exact a.new p q
    · exact .inr (Nat.le_trans a.size q)
  imm := fun c o e hi ht => b.imm c o (a.imm c o e hi ht) hi fun z => a.toGrow.off e (ht z)
  keep := fun c o e hx hp => b.keep c o (a.keep c o e hx hp) hx (a.toGrow.off e hp)
/-- what lies above the old heap's end needs no mention -/
theorem Step.less {X Y : List Addr} {φ φ' : Phi} {h h' : Heap} (a : Step Y φ φ' h h') (hY : ∀ y ∈ Y, y ∈ X ∨ h.objs.size ≤ y) : Step X φ φ' h h' :=
  { a with keep := fun c o e hx hp => a.keep c o e (fun hc => by
      rcases hY c hc with q | q
      · exact hx q
      · exact Nat.lt_irrefl _ (Nat.lt_of_lt_of_le (Heap.lt_size e) q)) hp }
theorem Step.more {X Y : List Addr} {φ φ' : Phi} {h h' : Heap} (a : Step X φ φ' h h') (hX : ∀ x ∈ X, x ∈ Y) : Step Y φ φ' h h' :=
  a.less fun y hy => .inl (hX y hy)
theorem Step.nil {X : List Addr} {φ φ' : Phi} {h h' : Heap} (a : Step [] φ φ' h h') : Step X φ φ' h h' := a.more (by simp)
theorem Step.rv {X : List Addr} {φ φ' : Phi} {h h' : Heap} (a : Step X φ φ' h h') {x : PV} {u : Value} (r : RV φ h x u) : RV φ' h' x u := r.mono a.toGrow
theorem Step.rvs {X : List Addr} {φ φ' : Phi} {h h' : Heap} (a : Step X φ φ' h h') {x : List PV} {u : List Value} (r : RVs φ h x u) : RVs φ' h' x u := r.mono a.toGrow

/-- a change beside the store -/
structure Ext (X : List Addr) (h h' : Heap) : Prop where
  size : h.objs.size ≤ h'.objs.size
  imm : ∀ b o, h.get? b = some o → Imm o → h'.get? b = some o
  keep : ∀ b o, h.get? b = some o → b ∉ X → h'.get? b = some o
theorem Ext.grow {X : List Addr} {φ : Phi} {h h' : Heap} (a : Ext X h h') : Grow φ φ h h' := ⟨List.prefix_refl _, fun _ hp => .inl hp, fun b o e i _ => a.imm b o e i⟩
theorem Ext.step {X : List Addr} {φ : Phi} {h h' : Heap} (a : Ext X h h') : Step X φ φ h h' :=
  ⟨a.grow, a.size, fun b o e hx _ => a.keep b o e hx⟩
theorem Ext.refl (X : List Addr) (h : Heap) : Ext X h h := ⟨Nat.le_refl _, fun _ _ e _ => e, fun _ _ e _ => e⟩
theorem Ext.push (h : Heap) (o : Obj) : Ext [] h (h.push o) :=
  ⟨by simp, fun _ _ e _ => Heap.get?_push_of_some _ e, fun _ _ e _ => Heap.get?_push_of_some _ e⟩
theorem Ext.trans {X : List Addr} {h h' h'' : Heap} (a : Ext X h h') (b : Ext X h' h'') : Ext X h h'' :=
  ⟨Nat.le_trans a.size b.size, fun c o e hi => b.imm c o (a.imm c o e hi) hi, fun c o e hx => b.keep c o (a.keep c o e hx) hx⟩
theorem Ext.nil {X : List Addr} {h h' : Heap} (a : Ext [] h h') : Ext X h h' := ⟨a.size, a.imm, fun b o e _ => a.keep b o e (by simp)⟩
theorem Ext.more {X Y : List Addr} {h h' : Heap} (a : Ext X h h') (hX : ∀ x ∈ X, x ∈ Y) : Ext Y h h' := ⟨a.size, a.imm, fun b o e hb => a.keep b o e fun z => hb (hX b z)⟩
theorem Ext.but {a : Addr} {h h' : Heap} (hs : Heap.ExtBut a h h') (hz : h.objs.size ≤ h'.objs.size) (hi : ∀ o, h.get? a = some o → ¬ Imm o) : Ext [a] h h' := by
  refine ⟨hz, fun b o e i => hs b o ?_ e, fun b o e hb => hs b o (by simpa using hb) e⟩
  rintro rfl
  exact hi o e i
theorem Ext.same {a : Addr} {h h' : Heap} (hs : Heap.SameBut a h h') (hi : ∀ o, h.get? a = some o → ¬ Imm o) : Ext [a] h h' :=
  Ext.but hs.extBut (Nat.le_of_eq hs.1.symm) hi

theorem CelV.mono {φ φ' : Phi} {h h' : Heap} (g : Grow φ φ' h h') : ∀ {v : Option PV} {u : Option Value}, CelV φ h v u → CelV φ' h' v u
  | none, none, _ => trivial
  | some _, some _, r => RV.mono g r
  | none, some _, r => r.elim
  | some _, none, r => r.elim
theorem AttrsAt.mono {φ φ' : Phi} {h h' : Heap} (g : Grow φ φ' h h') {as : List (Str × PV)} {m : Str → Option Value} (r : AttrsAt φ h as m) : AttrsAt φ' h' as m := by
  intro x
  have q := r x
  split <;> rename_i e <;> rw [e] at q
  · obtain ⟨u, hu, z⟩ := q; exact ⟨u, hu, z.mono g⟩
  · exact q
theorem CellAt.mono {φ φ' : Phi} {h h' : Heap} {p : Addr × Addr} {c : Cell} (r : CellAt φ h p c) (gr : Grow φ φ' h h')
    (hp : ∀ o, h.get? p.2 = some o → h'.get? p.2 = some o) : CellAt φ' h' p c := by
  cases c with
  | lst xs =>
    obtain ⟨e, hz, us, n, g, q⟩ := r
    exact ⟨e, hz, us, n, by rw [e] at g ⊢; exact hp _ g, q.mono gr⟩
  | inst C as =>
    obtain ⟨⟨o, g, hc, hd, hdx⟩, hne, ⟨od, gd, r2⟩, m, hm, q⟩ := r
    exact ⟨⟨o, gr.imm _ _ g (imm_plain hd) (fun z => by rw [hc] at z; cases z), hc, hd, hdx⟩, hne, ⟨od, hp _ gd, r2⟩, m, hm.at hp, q.mono gr⟩
  | cel v =>
    obtain ⟨e, o, ov, g, hd, q⟩ := r
    exact ⟨e, o, ov, by rw [e] at g ⊢; exact hp _ g, hd, q.mono gr⟩
  | own k =>
    obtain ⟨e, us, n, g, z⟩ := r
    exact ⟨e, us, n, by rw [e] at g ⊢; exact hp _ g, z⟩
  | const xs =>
    obtain ⟨e, hz, us, ⟨o, g, r⟩, q⟩ := r
    exact ⟨e, hz, us, ⟨o, by rw [e] at g ⊢; exact hp _ g, r⟩, q.mono gr⟩

/-- the object that a cell's change turns -/
theorem CellAt.not_imm {φ : Phi} {h : Heap} {p : Addr × Addr} {c : Cell} (r : CellAt φ h p c) : ∃ o, h.get? p.2 = some o ∧ (Imm o → o.cls = .type "tuple") := by
  cases c with
  | lst xs =>
    obtain ⟨e, _, us, n, g, _⟩ := r
    exact ⟨_, e ▸ g, fun z => by simp [Imm] at z⟩
  | inst C as =>
    obtain ⟨_, _, ⟨od, gd, es, n, r2⟩, _⟩ := r
    exact ⟨_, gd, fun z => absurd z (imm_dict r2)⟩
  | cel v =>
    obtain ⟨e, o, ov, g, hd, _⟩ := r
    exact ⟨_, e ▸ g, fun z => absurd z (imm_cell hd)⟩
  | own k =>
    obtain ⟨e, us, n, g, _⟩ := r
    exact ⟨_, e ▸ g, fun _ => rfl⟩
  | const xs =>
    obtain ⟨e, _, us, ⟨o, g, hc, n, hd⟩, _⟩ := r
    exact ⟨_, e ▸ g, fun z => by unfold Imm at z; rw [hd, hc] at z; simp at z⟩

theorem Inv.cell {h₀ : Heap} {φ : Phi} {σ : St} {h : Heap} (I : Inv h₀ φ σ h) {i : Nat} {c : Cell} (e : σ[i]? = some c) : ∃ p, φ[i]? = some p ∧ CellAt φ h p c := by
  have hi : i < φ.length := by rw [I.len]; exact (List.getElem?_eq_some_iff.mp e).1
  exact ⟨φ[i], List.getElem?_eq_getElem hi, I.at_ i c _ e (List.getElem?_eq_getElem hi)⟩
theorem Inv.cell' {h₀ : Heap} {φ : Phi} {σ : St} {h : Heap} (I : Inv h₀ φ σ h) {i : Nat} {p : Addr × Addr} (e : φ[i]? = some p) : ∃ c, σ[i]? = some c ∧ CellAt φ h p c := by
  have hi : i < σ.length := by rw [← I.len]; exact (List.getElem?_eq_some_iff.mp e).1
  exact ⟨σ[i], List.getElem?_eq_getElem hi, I.at_ i _ p (List.getElem?_eq_getElem hi) e⟩
theorem Inv.there {h₀ : Heap} {φ : Phi} {σ : St} {h : Heap} (I : Inv h₀ φ σ h) {p : Addr × Addr} (hp : p ∈ φ) : ∃ o, h.get? p.2 = some o ∧ (Imm o → o.cls = .type "tuple") := by
  obtain ⟨i, hi, e⟩ := List.getElem_of_mem hp
  obtain ⟨c, _, r⟩ := I.cell' (i := i) (p := p) (by rw [← e]; exact List.getElem?_eq_getElem hi)
  exact r.not_imm

theorem Inv.ext {h₀ : Heap} {φ : Phi} {σ : St} {h h' : Heap} {X : List Addr} (I : Inv h₀ φ σ h) (x : Ext X h h') (hX : ∀ a ∈ X, h₀.objs.size ≤ a) (hφ : ∀ a ∈ X, ∀ p ∈ φ, p.2 ≠ a) : Inv h₀ φ σ h' where
  base := fun b o e => x.keep b o (I.base b o e) fun hb => Nat.lt_irrefl _ (Nat.lt_of_lt_of_le (Heap.lt_size e) (hX b hb))
  sz := Nat.le_trans I.sz x.size
  low := I.low
  len := I.len
  nd := I.nd
  at_ := fun i _ p hc hp => (I.at_ i _ p hc hp).mono x.grow fun o e => x.keep _ o e fun hm => hφ _ hm p (List.mem_of_getElem? hp) rfl
theorem Inv.ext0 {h₀ : Heap} {φ : Phi} {σ : St} {h h' : Heap} (I : Inv h₀ φ σ h) (x : Ext [] h h') : Inv h₀ φ σ h' := I.ext x (by simp) (by simp)

theorem Inv.fresh {h₀ : Heap} {φ : Phi} {σ : St} {h : Heap} (I : Inv h₀ φ σ h) {a : Addr} (ha : h.objs.size ≤ a) : ∀ p ∈ φ, p.2 ≠ a := fun p hp z => by
  obtain ⟨o, e, _⟩ := I.there hp
  exact Nat.lt_irrefl _ (Nat.lt_of_lt_of_le (Heap.lt_size e) (z ▸ ha))
/-- a new cell -/
theorem Inv.alloc {h₀ : Heap} {φ : Phi} {σ : St} {h h' : Heap} {c : Cell} {p : Addr × Addr} (I : Inv h₀ φ σ h) (x : Ext [] h h') (hp : h.objs.size ≤ p.2)
    (hc : CellAt (φ ++ [p]) h' p c) : Inv h₀ (φ ++ [p]) (σ ++ [c]) h' ∧ Step [] φ (φ ++ [p]) h h' := by
  have I' := I.ext0 x
  have gr : Grow φ (φ ++ [p]) h h' := ⟨⟨[p], rfl⟩, fun q hq => by
      rcases List.mem_append.mp hq with z | z
      · exact .inl z
      · simp at z; subst z; exact .inr hp, fun b o e i _ => x.imm b o e i⟩
  refine ⟨⟨I'.base, I'.sz, ?_, by simp [I.len], ?_, ?_⟩, ⟨gr, x.size, fun b o e _ _ => x.keep b o e (by simp)⟩⟩
  · intro i q c' hq hc' hn
    by_cases hi : i < φ.length
    · rw [List.getElem?_append_left hi] at hq
      rw [List.getElem?_append_left (by rw [← I.len]; exact hi)] at hc'
      exact I.low i q c' hq hc' hn
    · have hi' : i = φ.length := by
        have := (List.getElem?_eq_some_iff.mp hq).1
        simp at this; omega
      subst hi'
      rw [List.getElem?_concat_length] at hq
      cases hq
      exact Nat.le_trans I.sz hp
  · rw [List.map_append, List.nodup_append]
    refine ⟨I.nd, by simp, ?_⟩
    intro a ha b hb'
    simp at hb'
    subst hb'
    obtain ⟨q, hq, rfl⟩ := List.mem_map.mp ha
    exact I.fresh hp q hq
  · intro i c' q hc' hq
    by_cases hi : i < σ.length
    · rw [List.getElem?_append_left hi] at hc'
      rw [List.getElem?_append_left (by rw [I.len]; exact hi)] at hq
      exact (I.at_ i c' q hc' hq).mono gr fun o e => x.keep _ o e (by simp)
    · have hi' : i = σ.length := by
        have := (List.getElem?_eq_some_iff.mp hc').1
        simp at this; omega
      subst hi'
      rw [List.getElem?_concat_length] at hc'
      rw [← I.len, List.getElem?_concat_length] at hq
      cases hc'; cases hq
      exact hc

theorem SameBut.grow {h₀ : Heap} {φ : Phi} {σ : St} {h h' : Heap} {p : Addr × Addr} (I : Inv h₀ φ σ h) (hm : p ∈ φ) (hs : Heap.SameBut p.2 h h') : Grow φ φ h h' := by
  obtain ⟨o₀, e₀, n₀⟩ := I.there hm
  refine ⟨List.prefix_refl _, fun _ hq => .inl hq, fun b o e i ht => hs.extBut b o ?_ e⟩
  rintro rfl
  rw [e₀] at e; cases e
  exact ht (n₀ i) p hm rfl

theorem low_set {h₀ : Heap} {φ : Phi} {σ : St} {h : Heap} {c : Cell} {p : Addr × Addr} {i : Nat} (I : Inv h₀ φ σ h) (hi : φ[i]? = some p) {c₁ : Cell} (hσ₁ : σ[i]? = some c₁) (hn₁ : isConst c₁ = false) :
    ∀ (j : Nat) q c', φ[j]? = some q → (σ.set i c)[j]? = some c' → isConst c' = false → h₀.objs.size ≤ q.2 := by
  intro j q c' hq hc' hn
  by_cases hj : j = i
  · subst hj
    rw [hi] at hq; cases hq
    exact I.low _ _ _ hi hσ₁ hn₁
  · rw [List.getElem?_set_ne (Ne.symm hj)] at hc'
    exact I.low j q c' hq hc' hn
/-- a cell's change -/
theorem Inv.put {h₀ : Heap} {φ : Phi} {σ : St} {h h' : Heap} {c : Cell} {p : Addr × Addr} {i : Nat} (I : Inv h₀ φ σ h) (hi : φ[i]? = some p) {c₁ : Cell} (hσ₁ : σ[i]? = some c₁) (hn₁ : isConst c₁ = false)
    (hs : Heap.SameBut p.2 h h') (hc : CellAt φ h' p c) : Inv h₀ φ (σ.set i c) h' ∧ Step [] φ φ h h' := by
  obtain ⟨c₀, hc₀, _⟩ := I.cell' hi
  have hm := List.mem_of_getElem? hi
  have gr : Grow φ φ h h' := SameBut.grow I hm hs
  have sz : h.objs.size ≤ h'.objs.size := Nat.le_of_eq hs.1.symm
  refine ⟨⟨?_, Nat.le_trans I.sz sz, low_set I hi hσ₁ hn₁, by simp [I.len], I.nd, ?_⟩, ⟨gr, sz, fun b o e _ hb => hs.extBut b o (Ne.symm (hb p hm)) e⟩⟩
  · intro b o e
    refine hs.extBut b o ?_ (I.base b o e)
    exact Nat.ne_of_lt (Nat.lt_of_lt_of_le (Heap.lt_size e) (I.low i p c₁ hi hσ₁ hn₁))
  · intro j c' q hc' hq
    by_cases hj : j = i
    · subst hj
      rw [hi] at hq; cases hq
      rw [List.getElem?_set_self (List.getElem?_eq_some_iff.mp hc₀).1] at hc'
      cases hc'; exact hc
    · rw [List.getElem?_set_ne (Ne.symm hj)] at hc'
      refine (I.at_ j c' q hc' hq).mono gr fun o e => hs.extBut _ o ?_ e
      intro z
      apply hj
      have h1 : (φ.map (·.2))[j]? = some q.2 := by rw [List.getElem?_map, hq]; rfl
      have h2 : (φ.map (·.2))[i]? = some p.2 := by rw [List.getElem?_map, hi]; rfl
      have hjl : j < (φ.map (·.2)).length := (List.getElem?_eq_some_iff.mp h1).1
      exact (List.getElem?_inj hjl I.nd).mp (by rw [h1, h2, z])
/-- the same, the cell as it was -/
theorem Inv.turn {h₀ : Heap} {φ : Phi} {σ : St} {h h' : Heap} {c : Cell} {p : Addr × Addr} {i : Nat} (I : Inv h₀ φ σ h) (hi : φ[i]? = some p) (hσ : σ[i]? = some c) (hn₁ : isConst c = false)
    (hs : Heap.SameBut p.2 h h') (hc : CellAt φ h' p c) : Inv h₀ φ σ h' ∧ Step [] φ φ h h' := by
  have := I.put hi hσ hn₁ hs hc
  have e : σ.set i c = σ := by
    apply List.ext_getElem?
    intro j
    by_cases hj : i = j
    · subst hj
      rw [hσ, List.getElem?_set_self (List.getElem?_eq_some_iff.mp hσ).1]
    · rw [List.getElem?_set_ne hj]
  rwa [e] at this
end Mine
end

section
set_option tactic.hygienic false
namespace Mine
open PySem PyProof.Rows

/-- what is known of a block when it is turned into our small text -/
structure Gm where
  names : List (Str × NameKind)
  locs : List Str
  cells : List Str

noncomputable def place (xs : List Str) (x : Str) : Option Nat := xs.findIdx? (x == ·)

noncomputable def mv (γ : Gm) (x : Str) : Option MV := match γ.names.lookup x with
  | some .local => (place γ.locs x).map .loc
  | some .cell => (place γ.cells x).map .cel
  | some .free => (place γ.cells x).map .cel
  | _ => none

noncomputable def namesOf (k : NameKind) (names : List (Str × NameKind)) : List Str := (names.filter (·.2 == k)).map (·.1)

noncomputable def relab (γ : Gm) (names : List (Str × NameKind)) : List (Str × NameKind) :=
  names.map fun (n, k) => if (k == .free && true && γ.names.lookup n == some .cell) then (n, .cell) else (n, k)

noncomputable def inner (γ : Gm) (sc : Scope) : Gm :=
  ⟨relab γ sc.names, namesOf .local sc.names, (namesOf .cell sc.names).reverse ++ (namesOf .free sc.names).reverse⟩

noncomputable def blockOk (names : List (Str × NameKind)) : Bool :=
  decide (namesOf .local names).Nodup && names.all fun x => x.2 != .local || names.lookup x.1 == some .local

noncomputable def notSuper : Expr → Bool
  | .Call (.Name _ _) [] [] _ => false
  | _ => true

noncomputable def seqL : List (Option ME) → Option MEs
  | [] => some .nil
  | some e :: r => (seqL r).map (.cons e)
  | none :: _ => none

noncomputable def opA (op : BoolOp) (a b : ME) : ME := match op with
  | .And => .and a b
  | .Or => .or a b
noncomputable def orL (op : BoolOp) : List (Option ME) → Option ME
  | [] => none
  | [e] => e
  | some e :: r => (orL op r).map (opA op e)
  | none :: _ => none

noncomputable def seqC : List CmpOp → List (Option ME) → Option MC
  | [], [] => some .nil
  | op :: ops, some e :: r => (seqC ops r).map (.cons op e)
  | _, _ => none

noncomputable def nameTarget (γ : Gm) : Expr → Option MV
  | .Name x _ => mv γ x
  | _ => none
noncomputable def target (γ : Gm) : Expr → Option MT
  | .Name x _ => (mv γ x).map .one
  | .Tuple es _ _ => (es.mapM (nameTarget γ)).map .tup
  | _ => none

noncomputable def isZip (G : List (Str × PV)) (γ : Gm) : Expr → Bool
  | .Name z _ => z == "zip" && γ.names.lookup z == some .globalImplicit && (match G.lookup z with | some (.top (.type n)) => n == "zip" | _ => false)
  | _ => false

noncomputable def constOf : Const → Option PV
  | .none => some .none
  | .bool b => some (.bool b)
  | .int i => some (.int i)
  | .str s => if fits s then some (.str s) else none
  | _ => none

noncomputable def optE (c : Expr → Option ME) : Option Expr → Option ME
  | none => some (.cst .none)
  | some e => c e

section
variable (G : List (Str × PV))

/-- a zip's tuple is taken apart at once -/
noncomputable def zipT : MT → MI → Bool
  | .one _, .zip _ => false
  | _, _ => true

/-- an iterable -/
noncomputable def cI (c : Expr → Option ME) (γ : Gm) (it : Expr) : Option MI := match it with
  | .Call f es ks p => if isZip G γ f && ks.isEmpty then (seqL (es.map c)).map .zip else (c (.Call f es ks p)).map .val
  | e => (c e).map .val

/-- the clauses behind the first one's iterable, in the comprehension's own block -/
noncomputable def cG (c : Gm → Expr → Option ME) (γ : Gm) (elt : Expr) : List Comprehension → Option MG
  | [] => (c γ elt).map .elt
  | _ :: _ => have _ := G; none

noncomputable def bind2 {α β γ' : Type} (a : Option α) (b : Option β) (f : α → β → Option γ') : Option γ' := match a, b with
  | some x, some y => f x y
  | _, _ => none
noncomputable def bind3 {α β γ' δ : Type} (a : Option α) (b : Option β) (c : Option γ') (f : α → β → γ' → Option δ) : Option δ := match a, b, c with
  | some x, some y, some z => f x y z
  | _, _, _ => none
noncomputable def bind4 {α β γ' δ ε : Type} (a : Option α) (b : Option β) (c : Option γ') (d : Option δ) (f : α → β → γ' → δ → Option ε) : Option ε := match a, b, c, d with
  | some x, some y, some z, some u => f x y z u
  | _, _, _, _ => none
noncomputable def pick {α β : Type} (q : Option α) (f : α → Option β) (e : Option β) : Option β := match q with
  | some x => f x
  | none => e
theorem pick_some {α β : Type} {q : Option α} {f : α → Option β} {e : Option β} {r : β} (h : pick q f e = some r) : (∃ x, q = some x ∧ f x = some r) ∨ (q = none ∧ e = some r) := by
  cases q with
  | none => exact .inr ⟨rfl, h⟩
  | some x => exact .inl ⟨x, rfl, h⟩
theorem opt2 {α β γ' : Type} {a : Option α} {b : Option β} {f : α → β → Option γ'} {r : γ'} (h : bind2 a b f = some r) : ∃ x y, a = some x ∧ b = some y ∧ f x y = some r := by
  cases a with
  | none => cases h
  | some x => cases b with
    | none => cases h
    | some y => exact ⟨x, y, rfl, rfl, h⟩
theorem opt3 {α β γ' δ : Type} {a : Option α} {b : Option β} {c : Option γ'} {f : α → β → γ' → Option δ} {r : δ} (h : bind3 a b c f = some r) : ∃ x y z, a = some x ∧ b = some y ∧ c = some z ∧ f x y z = some r := by
  cases a with
  | none => cases h
  | some x => cases b with
    | none => cases h
    | some y => cases c with
      | none => cases h
      | some z => exact ⟨x, y, z, rfl, rfl, rfl, h⟩
theorem opt4 {α β γ' δ ε : Type} {a : Option α} {b : Option β} {c : Option γ'} {d : Option δ} {f : α → β → γ' → δ → Option ε} {r : ε} (h : bind4 a b c d f = some r) : ∃ x y z u, a = some x ∧ b = some y ∧ c = some z ∧ d = some u ∧ f x y z u = some r := by
  cases a with
  | none => cases h
  | some x => cases b with
    | none => cases h
    | some y => cases c with
      | none => cases h
      | some z => cases d with
        | none => cases h
        | some u => exact ⟨x, y, z, u, rfl, rfl, rfl, rfl, h⟩
theorem ift {α : Type} {c : Bool} {a : Option α} {r : α} (h : (if c = true then a else none) = some r) : c = true ∧ a = some r := by
  cases c
  · cases h
  · exact ⟨rfl, h⟩
theorem iff' {α : Type} {c : Bool} {a : Option α} {r : α} (h : (if c = true then none else a) = some r) : c = false ∧ a = some r := by
  cases c
  · exact ⟨rfl, h⟩
  · cases h
noncomputable def asAttr : Expr → Option (Expr × Str × Pos)
  | .Attribute o x ap => some (o, x, ap)
  | _ => none
theorem asAttr_some {f o : Expr} {x : Str} {ap : Pos} (h : asAttr f = some (o, x, ap)) : f = .Attribute o x ap := by
  cases f <;> first | (cases h; rfl) | cases h
theorem asAttr_none {f : Expr} (h : asAttr f = none) : ∀ o x ap, f ≠ .Attribute o x ap := by
  rintro o x ap rfl; cases h
noncomputable def asSub : Expr → Option (Expr × Expr × Pos)
  | .Subscript o i q => some (o, i, q)
  | _ => none
theorem asSub_some {f o i : Expr} {q : Pos} (h : asSub f = some (o, i, q)) : f = .Subscript o i q := by
  cases f <;> first | (cases h; rfl) | cases h
noncomputable def asSlc : Expr → Option (Option Expr × Option Expr × Option Expr × Pos)
  | .Slice l u t q => some (l, u, t, q)
  | _ => none
theorem asSlc_some {f : Expr} {l u t : Option Expr} {q : Pos} (h : asSlc f = some (l, u, t, q)) : f = .Slice l u t q := by
  cases f <;> first | (cases h; rfl) | cases h
theorem asSlc_none {f : Expr} (h : asSlc f = none) : ∀ l u t q, f ≠ .Slice l u t q := by
  rintro l u t q rfl; cases h
noncomputable def cName (γ : Gm) (x : Str) : Option ME := if (x == ("__debug__" : Str)) = true then some (.cst (.bool true)) else if (x == ("__classdict__" : Str)) = true then none else match mv γ x with
  | some v => some (.var v)
  | none => if (γ.names.lookup x == some .globalImplicit) = true then (G.lookup x).map .cst else none
noncomputable def cComp (it : Option MI) (fs : Option (List Nat)) (t : Option MT) (ifs : Option MEs) (g : Option MG) (bad : Bool) (sc : Scope) : Option ME := if bad = true then none else
  match it, fs, t, ifs, g with
  | some i, some fs, some t, some ifs, some g => if (!zipT t i) = true then none else some (.comp (namesOf .local sc.names).length (namesOf .cell sc.names).length fs i (.lvl t ifs g))
  | _, _, _, _, _ => none
noncomputable def cCmp (a : ME) : MC → Option ME
  | .cons op e r => some (.cmp a (.cons op e r))
  | .nil => none
noncomputable def cCall (f : Option ME) (es : Option MEs) (ks : Option MK) (c : Bool) : Option ME := if c = true then bind3 f es ks fun f es ks => some (.call f es ks) else none
noncomputable def cE : Nat → Gm → Expr → Option ME
  | 0, _, _ => none
  | n + 1, γ, e => match e with
    | .Constant k _ _ => (constOf k).map .cst
    | .Name x _ => cName G γ x
    | .BoolOp op vs _ => orL op (vs.map (cE n γ))
    | .BinOp l op r _ => bind2 (cE n γ l) (cE n γ r) fun a b => some (.bin op a b)
    | .UnaryOp op x _ => match op with
      | .Not => (cE n γ x).map .not
      | _ => none
    | .IfExp t b o _ => bind3 (cE n γ t) (cE n γ b) (cE n γ o) fun t b o => some (.ite t b o)
    | .List es _ => (seqL (es.map (cE n γ))).map .list
    | .Tuple es _ _ => (seqL (es.map (cE n γ))).map .tup
    | .ListComp elt gens sc _ => match gens with
      | ⟨t, it, ifs, a⟩ :: r => cComp (cI G (cE n γ) γ it) ((namesOf .free sc.names).mapM (place γ.cells)) (target (inner γ sc) t) (seqL (ifs.map (cE n (inner γ sc)))) (cG G (cE n) (inner γ sc) elt r) (a != 0 || sc.kind != .function || !blockOk sc.names) sc
      | [] => none
    | .Compare l ops cs _ => bind2 (cE n γ l) (seqC ops (cs.map (cE n γ))) cCmp
    | .Call f es ks p => pick (asAttr f) (fun q => if (notSuper q.1 && q.2.2.endLine == p.line && decide (es.length + ks.length < 20)) = true then bind3 (cE n γ q.1) (seqL (es.map (cE n γ))) (seqK (cE n γ) ks) fun o es ks => some (.meth o q.2.1 es ks) else none)
      (cCall (cE n γ f) (seqL (es.map (cE n γ))) (seqK (cE n γ) ks) (decide (es.length + ks.length < 10)))
    | .Attribute o x _ => if (notSuper o) = true then (cE n γ o).map (.attr · x) else none
    | .Subscript o i _ => pick (asSlc i) (fun q => bind4 (cE n γ o) (optE (cE n γ) q.1) (optE (cE n γ) q.2.1) (optE (cE n γ) q.2.2.1) fun o l u s => some (.slc o l u s))
      (bind2 (cE n γ o) (cE n γ i) fun o i => some (.idx o i))
    | _ => none
where
  seqK (c : Expr → Option ME) : List Keyword → Option MK
    | [] => some .nil
    | ⟨some x, e, _⟩ :: r => match c e, seqK c r with
      | some e, some r => some (.cons x e r)
      | _, _ => none
    | ⟨none, _, _⟩ :: _ => none

noncomputable def seqS : List (Option MS) → Option MSs
  | [] => some .nil
  | some s :: r => (seqS r).map (.cons s)
  | none :: _ => none

noncomputable def isCall : Expr → Bool
  | .Call .. => true
  | _ => false
noncomputable def isSlice : Expr → Bool
  | .Slice .. => true
  | _ => false

/-- a pair of names laid from a pair -/
noncomputable def pairOk (targets : List Expr) (value : Expr) : Bool := match targets, value with
  | [.Tuple ts _ _], .Tuple vs _ _ => ts.length == 2 && vs.length == 2 && !vs.all (constantsAlone 8)
  | [.List _ _], _ => false
  | _, _ => true
noncomputable def same : MV → MV → Bool
  | .loc i, .loc j => i == j
  | .cel i, .cel j => i == j
  | _, _ => false
noncomputable def distinct : MT → Bool
  | .tup [x, y] => !same x y
  | _ => true

noncomputable def isComp : Expr → Bool
  | .ListComp .. => true
  | _ => false

noncomputable def cSet (e' : Option ME) (ts' : Option (List MT)) (ts : List Expr) (e : Expr) : Option MS := bind2 e' ts' fun e' ts' => if (pairOk ts e && ts'.all distinct && (!isComp e || ts.length == 1)) = true then some (.set ts' e') else none
noncomputable def cS : Nat → Gm → Stmt → Option MS
  | 0, _, _ => none
  | n + 1, γ, s => match s with
    | .Expr e _ => if isCall e = true then (cE G n γ e).map .expr else none
    | .Return o _ => match o with
      | some e => (cE G n γ e).map .ret
      | none => none
    | .Assign ts e _ => match ts with
      | [t] => pick (asSub t) (fun q => if (isSlice q.2.1 || isComp e) = true then none else bind3 (cE G n γ q.1) (cE G n γ q.2.1) (cE G n γ e) fun o i e => some (.seti o i e))
        (pick (asAttr t) (fun q => if isComp e = true then none else bind2 (cE G n γ q.1) (cE G n γ e) fun o e => some (.seta o q.2.1 e))
          (cSet (cE G n γ e) ([t].mapM (target γ)) [t] e))
      | ts => cSet (cE G n γ e) (ts.mapM (target γ)) ts e
    | .AugAssign t op e _ => match t with
      | .Name x _ => bind2 (mv γ x) (cE G n γ e) fun v e => if (x != "__classdict__") = true then some (.aug v op e) else none
      | _ => none
    | .If t b o _ => bind3 (cE G n γ t) (seqS (b.map (cS n γ))) (seqS (o.map (cS n γ))) fun t b o => some (.cond t b o)
    | .While t b o _ => match o with
      | [] => bind2 (cE G n γ t) (seqS (b.map (cS n γ))) fun t b => some (.whil t b)
      | _ => none
    | .For t it b o _ => match o with
      | [] => bind3 (target γ t) (cI G (cE G n γ) γ it) (seqS (b.map (cS n γ))) fun t it b => if zipT t it = true then some (.loop t it b) else none
      | _ => none
    | .Raise .. => some .bad
    | _ => none
end
end Mine
end

section
set_option tactic.hygienic false
namespace Mine
open PySem PyProof.Rows

section
variable {α β : Type} {prog : Program} {w : World} {A : Around} {s : Shared}

theorem W.go {t : Sem α} {Q : α → Heap → Prop} {G : α → Shared → Prop} (h : W prog w A t s Q) (k : ∀ a h' tk, Q a h' → G a { s with heap := h', toks := tk }) :
    wpAny (model prog w) A t G bot s :=
  wpAny_mono h (fun a s' ⟨h', tk, e, q⟩ => by subst e; exact k a h' tk q) (fun _ _ x => x)
theorem W.mono {t : Sem α} {Q Q' : α → Heap → Prop} (h : W prog w A t s Q) (k : ∀ a h', Q a h' → Q' a h') : W prog w A t s Q' :=
  h.go fun a h' tk q => ⟨h', tk, rfl, k a h' q⟩
theorem W.pure {a : α} {Q : α → Heap → Prop} (h : Q a s.heap) : W prog w A (pure a) s Q := wpAny_pure ⟨_, _, rfl, h⟩
theorem W.bind {t : Sem α} {f : α → Sem β} {Q : α → Heap → Prop} {Q' : β → Heap → Prop} (h : W prog w A t s Q)
    (k : ∀ a h' tk, Q a h' → W prog w A (f a) { s with heap := h', toks := tk } Q') : W prog w A (t >>= f) s Q' :=
  wpAny_bind (h.go fun a h' tk q => (k a h' tk q).go fun b h'' tk' q' => ⟨h'', tk', rfl, q'⟩)
end

/-- room for frames and for C's own stack; nothing is being handled -/
structure Room (d : Nat) (A : Around) : Prop where
  depth : A.depth + d < recursionLimit
  units : A.units + 20 * d + 200 < cLine
  free : A.handled = none
theorem Room.le {d d' : Nat} {A : Around} (r : Room d A) (h : d' ≤ d) : Room d' A :=
  ⟨by have := r.depth; omega, by have := r.units; omega, r.free⟩

/-- what a computation leaves: its value, the store -/
inductive Ret (h₀ : Heap) (X : List Addr) (φ : Phi) (h : Heap) (v : PV) (σ' : St) (u : Value) (h' : Heap) : Prop where
  | mk (φ' : Phi) (S : Step X φ φ' h h') (I : Inv h₀ φ' σ' h') (q : RV φ' h' v u) : Ret h₀ X φ h v σ' u h'
theorem Ret.before {h₀ : Heap} {X : List Addr} {φ φ₁ : Phi} {h h₁ : Heap} {v : PV} {σ' : St} {u : Value} {h' : Heap} (S : Step X φ φ₁ h h₁) (r : Ret h₀ X φ₁ h₁ v σ' u h') : Ret h₀ X φ h v σ' u h' :=
  by obtain ⟨φ', S', I, q⟩ := r; exact ⟨φ', S.trans S', I, q⟩
theorem Ret.here {h₀ : Heap} {X : List Addr} {φ : Phi} {h : Heap} {v : PV} {σ : St} {u : Value} (I : Inv h₀ φ σ h) (q : RV φ h v u) : Ret h₀ X φ h v σ u h :=
  ⟨φ, Step.refl _ _ _, I, q⟩
/-- the same of values that are no Values -/
inductive RetP {β : Type} (h₀ : Heap) (X : List Addr) (φ : Phi) (h : Heap) (σ' : St) (P : β → Prop) (u : β) (h' : Heap) : Prop where
  | mk (φ' : Phi) (S : Step X φ φ' h h') (I : Inv h₀ φ' σ' h') (q : P u) : RetP h₀ X φ h σ' P u h'

inductive CellsAt (φ : Phi) : List Str → List (Str × Addr) → List Nat → Prop where
  | nil : CellsAt φ [] [] []
  | cons {x : Str} {a : Addr} {k : Nat} {xs es ks} : φ[k]? = some (a, a) → CellsAt φ xs es ks → CellsAt φ (x :: xs) ((x, a) :: es) (k :: ks)
theorem CellsAt.mono {φ φ' : Phi} (he : φ <+: φ') {xs es ks} (c : CellsAt φ xs es ks) : CellsAt φ' xs es ks := by
  induction c with
  | nil => exact .nil
  | cons e _ ih =>
    refine .cons ?_ ih
    obtain ⟨ψ, rfl⟩ := he
    rw [List.getElem?_append_left (List.getElem?_eq_some_iff.mp e).1]; exact e
theorem CellsAt.get {φ : Phi} {xs es ks} (c : CellsAt φ xs es ks) {x : Str} {i : Nat} (h : place xs x = some i) : ∃ a k, es.lookup x = some a ∧ ks[i]? = some k ∧ φ[k]? = some (a, a) := by
  induction c generalizing i with
  | nil => simp [place] at h
  | @cons y a k xs es ks e _ ih =>
    unfold place at h ih
    rw [List.findIdx?_cons] at h
    by_cases hx : (x == y) = true
    · rw [hx] at h; simp at h; subst h
      exact ⟨a, k, by simp [List.lookup_cons, hx], by simp, e⟩
    · have hx' : (x == y) = false := by simpa using hx
      rw [hx'] at h
      simp at h
      obtain ⟨j, hj, rfl⟩ := h
      obtain ⟨a', k', h1, h2, h3⟩ := ih hj
      exact ⟨a', k', by simp [List.lookup_cons, hx', h1], by simpa using h2, h3⟩
theorem CellsAt.lens {φ : Phi} {xs es ks} (c : CellsAt φ xs es ks) : xs.length = ks.length ∧ es.length = ks.length := by
  induction c with
  | nil => simp
  | cons _ _ ih => simp [ih.1, ih.2]

structure EnvOk (γ : Gm) (env : Env) : Prop where
  kind : env.scope.kind = .function
  names : env.scope.names = γ.names
  globals : env.globals = mainGlobals
  builtins : env.builtins = builtinsNs
  locs : γ.locs.Nodup
theorem EnvOk.kindOf {γ : Gm} {env : Env} (E : EnvOk γ env) (x : Str) : env.kindOf x = γ.names.lookup x := by unfold Env.kindOf; rw [E.names]
theorem EnvOk.plain {γ : Gm} {env : Env} (E : EnvOk γ env) : (env.scope.kind == .class || (env.scope.kind == .module && env.locals != env.globals)) = false := by rw [E.kind]; rfl

noncomputable def LocsAt (γ : Gm) (φ : Phi) (h : Heap) (ρ : List (Option PV)) (m : Str → Option Value) : Prop :=
  ∀ (i : Nat) x v, γ.locs[i]? = some x → ρ[i]? = some (some v) → ∃ u, m x = some u ∧ RV φ h v u

structure FrAt (h₀ : Heap) (γ : Gm) (env : Env) (fm : Fm) (φ : Phi) (h : Heap) : Prop where
  ns : ∃ m, h.Ns env.locals m ∧ LocsAt γ φ h fm.ρ m
  len : fm.ρ.length = γ.locs.length
  low : h₀.objs.size ≤ env.locals
  off : ∀ p ∈ φ, p.2 ≠ env.locals
  cells : CellsAt φ γ.cells env.cells fm.cs

theorem FrAt.there {h₀ : Heap} {γ : Gm} {env : Env} {fm : Fm} {φ : Phi} {h : Heap} (F : FrAt h₀ γ env fm φ h) : ∃ o, h.get? env.locals = some o ∧ ¬ Imm o := by
  obtain ⟨m, ⟨o, es, ep, e, d, _⟩, _⟩ := F.ns
  exact ⟨o, e, imm_dict d⟩
theorem FrAt.step {h₀ : Heap} {γ : Gm} {env : Env} {fm : Fm} {φ φ' : Phi} {h h' : Heap} {X : List Addr} (F : FrAt h₀ γ env fm φ h) (S : Step X φ φ' h h') (hX : env.locals ∉ X) : FrAt h₀ γ env fm φ' h' where
  ns := by
    obtain ⟨m, hn, hl⟩ := F.ns
    refine ⟨m, hn.at' fun o e => S.keep _ o e hX F.off, fun i x v hx hv => ?_⟩
    obtain ⟨u, hu, q⟩ := hl i x v hx hv
    exact ⟨u, hu, S.rv q⟩
  len := F.len
  low := F.low
  off := fun p hp z => by
    rcases S.new p hp with q | q
    · exact F.off p q z
    · obtain ⟨o, e, _⟩ := F.there
      exact Nat.lt_irrefl _ (Nat.lt_of_lt_of_le (Heap.lt_size e) (z ▸ q))
  cells := F.cells.mono S.ext
theorem FrAt.step0 {h₀ : Heap} {γ : Gm} {env : Env} {fm : Fm} {φ φ' : Phi} {h h' : Heap} (F : FrAt h₀ γ env fm φ h) (S : Step [] φ φ' h h') : FrAt h₀ γ env fm φ' h' := F.step S (by simp)

/-- the globals and what the heap's own part holds of them -/
structure Globs (h₀ : Heap) (G : List (Str × PV)) : Prop where
  ns : ∃ mg mb, h₀.Ns mainGlobals mg ∧ h₀.Ns builtinsNs mb ∧ ∀ x v, G.lookup x = some v → ∃ u, (mg x = some u ∨ (mg x = none ∧ mb x = some u)) ∧ ∀ φ h, RV φ h v u

section
variable {prog : Program} {w : World} {A : Around} {s : Shared} {h₀ : Heap} {γ : Gm} {env : Env} {fm : Fm} {φ : Phi} {σ : St}

theorem place_get {xs : List Str} {x : Str} {i : Nat} (h : place xs x = some i) : xs[i]? = some x := by
  unfold place at h
  obtain ⟨hi, hp, _⟩ := List.findIdx?_eq_some_iff_getElem.mp h
  rw [List.getElem?_eq_getElem hi]
  rw [beq_iff_eq.mp hp]

theorem mv_loc {x : Str} {i : Nat} (h : mv γ x = some (.loc i)) : γ.names.lookup x = some .local ∧ γ.locs[i]? = some x := by
  unfold mv at h
  split at h
  · rename_i e
    cases q : place γ.locs x with
    | none => rw [q] at h; cases h
    | some j => rw [q] at h; cases h; exact ⟨e, place_get q⟩
  · cases q : place γ.cells x <;> rw [q] at h <;> cases h
  · cases q : place γ.cells x <;> rw [q] at h <;> cases h
  · cases h
theorem mv_cel {x : Str} {i : Nat} (h : mv γ x = some (.cel i)) : (γ.names.lookup x = some .cell ∨ γ.names.lookup x = some .free) ∧ place γ.cells x = some i := by
  unfold mv at h
  split at h
  · cases q : place γ.locs x <;> rw [q] at h <;> cases h
  · rename_i e
    cases q : place γ.cells x with
    | none => rw [q] at h; cases h
    | some j => rw [q] at h; cases h; exact ⟨.inl e, rfl⟩
  · rename_i e
    cases q : place γ.cells x with
    | none => rw [q] at h; cases h
    | some j => rw [q] at h; cases h; exact ⟨.inr e, rfl⟩
  · cases h

set_option tactic.hygienic true in
/-- a name is read -/
theorem getV_sound {x : Str} {mx : MV} {v : PV} {σ' : St} (E : EnvOk γ env) (hx : mv γ x = some mx) (hv : getV fm mx σ = some (v, σ')) (I : Inv h₀ φ σ s.heap) (F : FrAt h₀ γ env fm φ s.heap)
    (hc : (x == ("__classdict__" : Str)) = false) :
    σ' = σ ∧ W prog w A (loadName env x) s fun u h' => h' = s.heap ∧ RV φ s.heap v u := by
  cases mx with
  | loc i =>
    obtain ⟨hk, hi⟩ := mv_loc hx
    simp only [getV, lift] at hv
    split at hv
    · rename_i v' e
      cases hv
      have e' : fm.ρ[i]? = some (some v) := by
        cases q : fm.ρ[i]? with
        | none => rw [q] at e; cases e
        | some y => rw [q] at e; simp at e; rw [e]
      obtain ⟨m, hn, hl⟩ := F.ns
      obtain ⟨u, hu, q⟩ := hl i x v hi e'
      exact ⟨rfl, wpAny_loadName_local E.kind (by rw [E.kindOf, hk]) hn hu ⟨_, _, rfl, rfl, q⟩⟩
    · cases hv
  | cel i =>
    obtain ⟨hk, hp⟩ := mv_cel hx
    obtain ⟨a, k, h1, h2, h3⟩ := F.cells.get hp
    simp only [getV, look, h2] at hv
    split at hv
    · rename_i v' e
      cases hv
      split at e
      · rename_i v'' e'
        cases e
        obtain ⟨p, hp', c⟩ := I.cell e'
        rw [h3] at hp'; cases hp'
        obtain ⟨_, o, ov, g, d, q⟩ := c
        cases ov with
        | none => exact q.elim
        | some u =>
          refine ⟨rfl, ?_⟩
          have hc' : s.heap.IsCell a (some u) := ⟨o, g, d⟩
          rcases hk with hk | hk
          · exact wpAny_loadName_cell E.kind (by rw [E.kindOf, hk]) h1 hc' ⟨_, _, rfl, rfl, q⟩
          · exact wpAny_loadName_free E.kind (by rw [E.kindOf, hk]) h1 hc' ⟨_, _, rfl, rfl, q⟩ hc
      · cases e
    · cases hv

theorem LocsAt.set {m : Str → Option Value} {ρ : List (Option PV)} {h : Heap} {i : Nat} {x : Str} {v : PV} {u : Value} (L : LocsAt γ φ h ρ m) (hn : γ.locs.Nodup) (hi : γ.locs[i]? = some x) (q : RV φ h v u) :
    LocsAt γ φ h (ρ.set i (some v)) (fun y => if y = x then some u else m y) := by
  intro j y v' hj hv'
  by_cases hji : j = i
  · subst hji
    rw [hi] at hj; cases hj
    have : j < ρ.length := by
      have := (List.getElem?_eq_some_iff.mp hv').1
      simpa using this
    rw [List.getElem?_set_self this] at hv'
    cases hv'
    exact ⟨u, by simp, q⟩
  · rw [List.getElem?_set_ne (Ne.symm hji)] at hv'
    obtain ⟨u', hu', q'⟩ := L j y v' hj hv'
    have : y ≠ x := fun z => hji ((List.getElem?_inj (List.getElem?_eq_some_iff.mp hj).1 hn).mp (by rw [hj, hi, z]))
    exact ⟨u', by simp [this, hu'], q'⟩

set_option tactic.hygienic true in
/-- a name is laid -/
theorem setV_sound {x : Str} {mx : MV} {v : PV} {u : Value} {fm' : Fm} {σ' : St} (E : EnvOk γ env) (hx : mv γ x = some mx) (hv : setV fm v mx σ = some (fm', σ')) (I : Inv h₀ φ σ s.heap) (F : FrAt h₀ γ env fm φ s.heap)
    (q : RV φ s.heap v u) :
    W prog w A (storeName env x u) s fun _ h' => Step [env.locals] φ φ s.heap h' ∧ Inv h₀ φ σ' h' ∧ FrAt h₀ γ env fm' φ h' := by
  cases mx with
  | loc i =>
    obtain ⟨hk, hi⟩ := mv_loc hx
    cases hv
    obtain ⟨m, hn, hl⟩ := F.ns
    obtain ⟨oL, eL, nL⟩ := F.there
    refine wpAny_storeName_local (by rw [E.kindOf, hk]) hn (fun h' hn' hs => ⟨h', _, rfl, ?_⟩) E.plain
    have x1 : Ext [env.locals] s.heap h' := Ext.same hs fun o e => by rw [eL] at e; cases e; exact nL
    refine ⟨x1.step, I.ext x1 (by simpa using F.low) (by simpa using F.off), ⟨⟨_, hn', ?_⟩, by simpa using F.len, F.low, F.off, F.cells⟩⟩
    have := LocsAt.set (ρ := fm.ρ) (m := m) hl E.locs hi q
    intro j y v' hj hv'
    obtain ⟨u', h1, h2⟩ := this j y v' hj hv'
    exact ⟨u', h1, h2.mono x1.grow⟩
  | cel i =>
    obtain ⟨hk, hp⟩ := mv_cel hx
    obtain ⟨a, k, h1, h2, h3⟩ := F.cells.get hp
    simp only [setV, h2] at hv
    split at hv
    · rename_i ov e'
      cases hv
      obtain ⟨p, hp', c⟩ := I.cell e'
      rw [h3] at hp'; cases hp'
      obtain ⟨_, o, ov', g, d, _⟩ := c
      have hc' : s.heap.IsCell a ov' := ⟨o, g, d⟩
      have go : ∀ h', h'.IsCell a (some u) → Heap.SameBut a s.heap h' → Step [env.locals] φ φ s.heap h' ∧ Inv h₀ φ (σ.set k (.cel (some v))) h' ∧ FrAt h₀ γ env fm φ h' := fun h' hc'' hs => by
        obtain ⟨o', g', d'⟩ := hc''
        obtain ⟨I', S'⟩ := I.put h3 e' rfl hs (c := .cel (some v)) ⟨rfl, o', some u, g', d', q.mono (SameBut.grow I (List.mem_of_getElem? h3) hs)⟩
        exact ⟨S'.nil, I', F.step0 S'⟩
      rcases hk with hk | hk
      · exact wpAny_storeName_cell E.kind (by rw [E.kindOf, hk]) h1 hc' fun h' a b => ⟨h', _, rfl, go h' a b⟩
      · have e2 : storeName env x u = (do cellSet (← cellOf env x) (some u)) := by
          have hkk : env.kindOf x = some .free := by rw [E.kindOf, hk]
          simp only [storeName, hkk, Env.blockKind, E.kind]
          rfl
        show wpAny _ _ _ _ _ _
        rw [e2]
        exact wpAny_bind (wpAny_cellOf h1 (wpAny_cellSet hc' fun h' a b => ⟨h', _, rfl, go h' a b⟩))
    · cases hv

/-- a global -/
theorem glob_sound {G : List (Str × PV)} (K : Globs h₀ G) (E : EnvOk γ env) {x : Str} {v : PV} (hk : γ.names.lookup x = some .globalImplicit) (hv : G.lookup x = some v) (I : Inv h₀ φ σ s.heap) :
    W prog w A (loadName env x) s fun u h' => h' = s.heap ∧ RV φ s.heap v u := by
  obtain ⟨mg, mb, hg, hb, hG⟩ := K.ns
  obtain ⟨u, hu, q⟩ := hG x v hv
  show wpAny _ _ _ _ _ _
  rw [PyProof.Rows.loadName_read E.kind (by rw [E.kindOf, hk])]
  rcases hu with hu | ⟨h1, h2⟩
  · exact Calls.loadGlobal_global (by rw [E.globals]; exact hg.keeps I.base) hu ⟨_, _, rfl, rfl, q _ _⟩
  · exact Calls.loadGlobal_builtin (by rw [E.globals]; exact hg.keeps I.base) h1 (by rw [E.builtins]; exact hb.keeps I.base) h2 ⟨_, _, rfl, rfl, q _ _⟩

theorem fits_le {x : Str} (h : fits x = true) : x.length ≤ 1000000 := by simp [fits] at h; exact h.1
theorem fits_ok {x : Str} (h : fits x = true) : PyData.strOk x = true := by simp [fits] at h; exact h.2
theorem fits_sign {x : Str} (h : fits x = true) {i c : Nat} (hc : x.cps[i]? = some c) : fits ⟨#[c]⟩ = true := by
  have := fits_ok h
  unfold PyData.strOk at this
  have h2 := Array.all_eq_true'.mp this c (Array.mem_of_getElem? hc)
  simp [fits, PyData.strOk, Str.length] at h2 ⊢
  exact h2

set_option tactic.hygienic true in
theorem truth_sound {v : PV} {u : Value} {b : Bool} (hv : truth σ v = some b) (I : Inv h₀ φ σ s.heap) (q : RV φ s.heap v u) :
    W prog w A (truthy u) s fun c h' => c = b ∧ h' = s.heap := by
  cases q with
  | none => cases hv; exact PyProof.Rows.truthy_none ⟨_, _, rfl, rfl, rfl⟩
  | bool b => cases hv; exact wpAny_truthy_bool ⟨_, _, rfl, rfl, rfl⟩
  | int i t => cases hv; exact P.truthy_int ⟨_, _, rfl, rfl, rfl⟩
  | str hs t =>
    cases hv
    refine P.truthy_str (by have := fits_le hs; omega) ⟨_, _, rfl, ?_, rfl⟩
    rename_i x
    cases x.length <;> rfl
  | tup => cases hv
  | obj e =>
    simp only [truth] at hv
    split at hv
    · rename_i xs e'
      cases hv
      obtain ⟨p, hp, c⟩ := I.cell e'
      rw [e] at hp; cases hp
      obtain ⟨_, hz, us, n, g, r⟩ := c
      have hl := r.length
      refine wpAny_truthy_list (items := us.toArray) ⟨_, g, rfl, n, rfl⟩ (by simp; omega) ⟨_, _, rfl, ?_, rfl⟩
      cases r <;> simp
    · cases hv
  | top => cases hv
  | range => cases hv
end
end Mine
end

section
set_option tactic.hygienic false
namespace Mine
open PySem PyProof.Rows

section
variable {prog : Program} {w : World} {A : Around} {s : Shared} {h₀ : Heap} {φ : Phi} {σ : St}

theorem fits_line {x : Str} (h : fits x = true) : x.length ≤ sizeLine := by have := fits_le h; rw [sizeLine_eq]; omega

/-- a new list -/
theorem newList_at {h : Heap} {us : List Value} {xs : List PV} (I : Inv h₀ φ σ h) (r : RVs φ h xs us) (hz : xs.length ≤ 20000) :
    Ret h₀ [] φ h (.obj σ.length) (σ ++ [.lst xs]) (.ref h.objs.size) (h.push { cls := .type "list", data := .seq us.toArray }) := by
  obtain ⟨I', S'⟩ := I.alloc (Ext.push h _) (p := (h.objs.size, h.objs.size)) (Nat.le_refl _) (c := .lst xs)
    ⟨rfl, hz, us, 0, Heap.get?_push_size _ rfl, r.mono ⟨⟨_, rfl⟩, fun q hq => by
      rcases List.mem_append.mp hq with z | z
      · exact .inl z
      · simp at z; subst z; exact .inr (Nat.le_refl _), fun _ _ e _ _ => Heap.get?_push_of_some _ e⟩⟩
  refine ⟨_, S', I', ?_⟩
  have : (φ ++ [(h.objs.size, h.objs.size)])[σ.length]? = some (h.objs.size, h.objs.size) := by rw [← I.len]; simp
  exact RV.obj (p := (h.objs.size, h.objs.size)) this

/-- a new tuple -/
theorem newTuple_at {h : Heap} {us : List Value} {xs : List PV} (I : Inv h₀ φ σ h) (r : RVs φ h xs us) :
    Ret h₀ [] φ h (.tup xs) σ (.ref h.objs.size) (h.push { cls := .type "tuple", data := .seq us.toArray }) :=
  ⟨φ, (Ext.push h _).step, I.ext0 (Ext.push h _), .tup (Heap.get?_push_size _ rfl) (I.fresh (Nat.le_refl _)) (r.mono (Ext.push h _).grow)⟩

theorem lstAt_get {n : Nat} {xs : List PV} (h : lstAt σ n = some xs) : σ[n]? = some (.lst xs) := by
  unfold lstAt at h
  split at h
  · rename_i e; cases h; exact e
  · cases h

/-- a list's own object -/
inductive ListAt (φ : Phi) (h : Heap) (n : Nat) (xs : List PV) (u : Value) : Prop where
  | mk (a : Addr) (us : List Value) (k : Nat) (h1 : u = .ref a) (h2 : φ[n]? = some (a, a)) (h3 : xs.length ≤ 20000) (h4 : h.get? a = some { cls := .type "list", dict := none, data := .seq (List.toArray us) k, slots := #[] }) (h5 : RVs φ h xs us) : ListAt φ h n xs u
theorem list_at {h : Heap} {n : Nat} {xs : List PV} {u : Value} (hl : lstAt σ n = some xs) (I : Inv h₀ φ σ h) (q : RV φ h (.obj n) u) : ListAt φ h n xs u := by
  cases q with
  | @obj _ p e =>
    obtain ⟨p', hp, c⟩ := I.cell (lstAt_get hl)
    rw [e] at hp; cases hp
    obtain ⟨e', hz, us, k, g, r⟩ := c
    obtain ⟨a, b⟩ := p
    dsimp only at e'
    subst e'
    exact ⟨a, us, k, rfl, e, hz, g, r⟩

theorem Ret.int {h : Heap} {X : List Addr} (I : Inv h₀ φ σ h) (i : Int) (t : Tok) : Ret h₀ X φ h (.int i) σ (.int i t) h := Ret.here I (.int i t)
theorem Ret.str {h : Heap} {X : List Addr} (I : Inv h₀ φ σ h) {x : Str} (hx : fits x = true) (t : Tok) : Ret h₀ X φ h (.str x) σ (.str x t) h := Ret.here I (.str hx t)
theorem Ret.bool {h : Heap} {X : List Addr} (I : Inv h₀ φ σ h) (b : Bool) : Ret h₀ X φ h (.bool b) σ (.bool b) h := Ret.here I (.bool b)

theorem rt_eq {α : Type} {a b : α} {σ σ' : St} (h : rt a σ = some (b, σ')) : b = a ∧ σ' = σ := by cases h; exact ⟨rfl, rfl⟩
theorem if_rt {α : Type} {c : Prop} [Decidable c] {a b : α} {σ σ' : St} (h : (if c then rt a else fail) σ = some (b, σ')) : c ∧ b = a ∧ σ' = σ := by
  split at h
  · exact ⟨by assumption, rt_eq h⟩
  · cases h

theorem str_empty {x : Str} (h : (x.length == 0) = true) : x = Str.empty := by
  obtain ⟨⟨l⟩⟩ := x
  cases l with
  | nil => rfl
  | cons a l => simp [Str.length] at h

theorem glue_post {x y : Str} {t u : Tok} {Q : Value → Shared → Prop} (hf : fits (x ++ y) = true) (h : ∀ t' k, Q (.str (x ++ y) t') { s with toks := k }) :
    (if x.length == 0 then Made.val (.str y u) else if y.length == 0 then Made.val (.str x t) else Made.str (x ++ y)).post Q s := by
  split
  · rename_i e
    have := str_empty e
    subst this
    have z : (Str.empty ++ y : Str) = y := Str.empty_append y
    rw [z] at h
    exact h u s.toks
  · split
    · rename_i e
      have := str_empty e
      subst this
      have z : (x ++ Str.empty : Str) = x := Str.append_empty x
      rw [z] at h
      exact h t s.toks
    · exact ⟨fits_line hf, h _ _⟩

theorem augop_sound {op : Operator} {a b v : PV} {ua ub : Value} {σ' : St} (hv : augop op a b σ = some (v, σ')) (I : Inv h₀ φ σ s.heap) (qa : RV φ s.heap a ua) (qb : RV φ s.heap b ub) :
    W prog w A (inplaceOp op ua ub) s (Ret h₀ [] φ s.heap v σ') := by
  unfold augop at hv
  split at hv
  · obtain ⟨hf, rfl, rfl⟩ := if_rt hv
    obtain ⟨h1, t1, rfl⟩ := qa.i_str
    obtain ⟨h2, t2, rfl⟩ := qb.i_str
    exact P.iadd_str (glue_post hf fun t' k => ⟨_, _, rfl, Ret.str I hf t'⟩)
  · obtain ⟨rfl, rfl⟩ := rt_eq hv
    obtain ⟨t1, rfl⟩ := qa.i_int
    obtain ⟨t2, rfl⟩ := qb.i_int
    exact AutoIntOps.iadd_0 ⟨_, _, rfl, Ret.int I _ _⟩
  · obtain ⟨rfl, rfl⟩ := rt_eq hv
    obtain ⟨t1, rfl⟩ := qa.i_int
    obtain rfl := qb.i_bool
    exact PySem.iadd_int_bool ⟨_, _, rfl, Ret.int I _ _⟩
  · obtain ⟨rfl, rfl⟩ := rt_eq hv
    obtain ⟨t1, rfl⟩ := qa.i_int
    obtain ⟨t2, rfl⟩ := qb.i_int
    exact AutoIntOps.isub_0 ⟨_, _, rfl, Ret.int I _ _⟩
  · cases hv

theorem small_iff {i : Int} (h : small i = true) : -4611686018427387904 < i ∧ i < 4611686018427387904 := by
  simpa [small] using h

section
variable {a b v : PV} {ua ub : Value} {σ' : St}
set_option tactic.hygienic true in
theorem add_snd (hv : addM a b σ = some (v, σ')) (I : Inv h₀ φ σ s.heap) (qa : RV φ s.heap a ua) (qb : RV φ s.heap b ub) : W prog w A (binaryOp .Add ua ub) s (Ret h₀ [] φ s.heap v σ') := by
  unfold addM at hv
  split at hv
  · obtain ⟨hf, rfl, rfl⟩ := if_rt hv
    obtain ⟨h1, t1, rfl⟩ := qa.i_str
    obtain ⟨h2, t2, rfl⟩ := qb.i_str
    exact P.add_str (glue_post hf fun t' k => ⟨_, _, rfl, Ret.str I hf t'⟩)
  · split at hv
    · rename_i xs ys e1 e2
      split at hv
      · cases hv
        obtain ⟨a, us, k, rfl, _, _, g1, r1⟩ := list_at e1 I qa
        obtain ⟨b, us', k', rfl, _, _, g2, r2⟩ := list_at e2 I qb
        refine P.add_list (l := a) (b := b) g1 g2 ⟨_, _, rfl, ?_⟩ (by have := r1.length; have := r2.length; rw [sizeLine_eq]; simp; omega)
        have := newList_at I (r1.append r2) (by simp; omega)
        simpa using this
      · cases hv
    · cases hv
  · obtain ⟨rfl, rfl⟩ := rt_eq hv
    obtain ⟨t1, rfl⟩ := qa.i_int
    obtain ⟨t2, rfl⟩ := qb.i_int
    exact AutoIntOps.add_0 ⟨_, _, rfl, Ret.int I _ _⟩
  · obtain ⟨rfl, rfl⟩ := rt_eq hv
    obtain ⟨t1, rfl⟩ := qa.i_int
    obtain rfl := qb.i_bool
    exact PySem.add_int_bool ⟨_, _, rfl, Ret.int I _ _⟩
  · cases hv
theorem sub_snd (hv : subM a b σ = some (v, σ')) (I : Inv h₀ φ σ s.heap) (qa : RV φ s.heap a ua) (qb : RV φ s.heap b ub) : W prog w A (binaryOp .Sub ua ub) s (Ret h₀ [] φ s.heap v σ') := by
  unfold subM at hv
  split at hv
  · obtain ⟨rfl, rfl⟩ := rt_eq hv
    obtain ⟨t1, rfl⟩ := qa.i_int
    obtain ⟨t2, rfl⟩ := qb.i_int
    exact AutoIntOps.sub_0 ⟨_, _, rfl, Ret.int I _ _⟩
  · obtain ⟨rfl, rfl⟩ := rt_eq hv
    obtain rfl := qa.i_bool
    obtain rfl := qb.i_bool
    exact PyProof.Rows.sub_bool ⟨_, _, rfl, Ret.int I _ _⟩
  · cases hv
theorem mul_snd (hv : mulM a b σ = some (v, σ')) (I : Inv h₀ φ σ s.heap) (qa : RV φ s.heap a ua) (qb : RV φ s.heap b ub) : W prog w A (binaryOp .Mult ua ub) s (Ret h₀ [] φ s.heap v σ') := by
  unfold mulM at hv
  split at hv
  · obtain ⟨hc, rfl, rfl⟩ := if_rt hv
    obtain ⟨t1, rfl⟩ := qa.i_int
    obtain ⟨t2, rfl⟩ := qb.i_int
    rw [Bool.and_eq_true, decide_eq_true_eq, decide_eq_true_eq] at hc
    exact AutoIntOps.mul_0 ⟨_, _, rfl, Ret.int I _ _⟩ (IntMulOk.of_left (intBits_le_64 (by omega) (by omega)))
  · cases hv
set_option tactic.hygienic true in
theorem fdiv_snd (hv : fdivM a b σ = some (v, σ')) (I : Inv h₀ φ σ s.heap) (qa : RV φ s.heap a ua) (qb : RV φ s.heap b ub) : W prog w A (binaryOp .FloorDiv ua ub) s (Ret h₀ [] φ s.heap v σ') := by
  unfold fdivM at hv
  split at hv
  · rename_i x y
    obtain ⟨hc, rfl, rfl⟩ := if_rt hv
    obtain ⟨t1, rfl⟩ := qa.i_int
    obtain ⟨t2, rfl⟩ := qb.i_int
    simp only [Bool.and_eq_true, decide_eq_true_eq] at hc
    have h2 := small_iff hc.2
    refine AutoIntOps.floordiv_1 (by simp; omega) ?_ ⟨_, _, rfl, Ret.int I _ _⟩
    rw [PyProof.noPylong_of_log2 (by
      have : y.natAbs.log2 < 64 := by
        by_cases z : y.natAbs = 0
        · rw [z]; decide
        · exact (Nat.log2_lt z).mpr (by omega)
      omega)]
    simp
  · cases hv
theorem mod_snd (hv : modM a b σ = some (v, σ')) (I : Inv h₀ φ σ s.heap) (qa : RV φ s.heap a ua) (qb : RV φ s.heap b ub) : W prog w A (binaryOp .Mod ua ub) s (Ret h₀ [] φ s.heap v σ') := by
  unfold modM at hv
  split at hv
  · obtain ⟨hc, rfl, rfl⟩ := if_rt hv
    obtain ⟨t1, rfl⟩ := qa.i_int
    obtain ⟨t2, rfl⟩ := qb.i_int
    rw [decide_eq_true_eq] at hc
    exact AutoIntOps.mod_1 (by simp; omega) ⟨_, _, rfl, Ret.int I _ _⟩
  · cases hv
theorem bit_snd {xor : Bool} (hv : bitM xor a b σ = some (v, σ')) (I : Inv h₀ φ σ s.heap) (qa : RV φ s.heap a ua) (qb : RV φ s.heap b ub) : W prog w A (binaryOp (if xor then .BitXor else .BitAnd) ua ub) s (Ret h₀ [] φ s.heap v σ') := by
  unfold bitM at hv
  split at hv
  · obtain ⟨rfl, rfl⟩ := rt_eq hv
    obtain ⟨t1, rfl⟩ := qa.i_int
    obtain ⟨t2, rfl⟩ := qb.i_int
    cases xor
    · exact PyProof.Rows.and_int ⟨_, _, rfl, Ret.int I _ _⟩
    · exact PyProof.Rows.xor_int ⟨_, _, rfl, Ret.int I _ _⟩
  · cases hv
theorem binop_sound {op : Operator} (hv : binop op a b σ = some (v, σ')) (I : Inv h₀ φ σ s.heap) (qa : RV φ s.heap a ua) (qb : RV φ s.heap b ub) : W prog w A (binaryOp op ua ub) s (Ret h₀ [] φ s.heap v σ') := by
  cases op with
  | Add => exact add_snd hv I qa qb
  | Sub => exact sub_snd hv I qa qb
  | Mult => exact mul_snd hv I qa qb
  | FloorDiv => exact fdiv_snd hv I qa qb
  | Mod => exact mod_snd hv I qa qb
  | BitAnd => exact bit_snd (xor := false) hv I qa qb
  | BitXor => exact bit_snd (xor := true) hv I qa qb
  | _ => cases hv
end
end
end Mine
end

section
set_option tactic.hygienic false
namespace Mine
open PySem PyProof.Rows

section
variable {prog : Program} {w : World} {A : Around} {s : Shared} {h₀ : Heap} {φ : Phi} {σ : St}

set_option tactic.hygienic true in
theorem all_reads {h : Heap} {n : Nat} {f : PV → Option PyData} (hf : ∀ v u d, f v = some d → RV φ h v u → ∃ as, Reads h u d as ∧ d.canLay0 = true ∧ d.depth ≤ n) :
    ∀ xs us ds, mapO f xs = some ds → RVs φ h xs us → ∃ as, ReadsAll h us ds as ∧ PyData.canLayAll0 ds = true ∧ PyData.depthAll ds ≤ n := by
  intro xs
  induction xs with
  | nil => intro us ds hd r; cases r; cases hd; exact ⟨[], .nil, rfl, Nat.zero_le _⟩
  | cons x xs ih =>
    intro us ds hd r
    cases r with
    | cons r1 r2 =>
      simp only [mapO] at hd
      split at hd
      · rename_i y ys e1 e2
        cases hd
        obtain ⟨as, a1, a2, a3⟩ := hf _ _ _ e1 r1
        obtain ⟨bs, b1, b2, b3⟩ := ih _ _ e2 r2
        exact ⟨as ++ bs, .cons a1 b1, by simp [PyData.canLayAll0, a2, b2], by simp only [PyData.depthAll]; omega⟩
      · cases hd

set_option tactic.hygienic true in
theorem deep_reads {h : Heap} (I : Inv h₀ φ σ h) : ∀ n v u d, deep σ n v = some d → RV φ h v u → ∃ as, Reads h u d as ∧ d.canLay0 = true ∧ d.depth ≤ n := by
  intro n
  induction n with
  | zero =>
    intro v u d hd r
    cases r with
    | none => cases hd; exact ⟨_, .none, rfl, Nat.le_refl _⟩
    | bool b => cases hd; exact ⟨_, .bool b, rfl, Nat.le_refl _⟩
    | int i t => cases hd; exact ⟨_, .int i t, rfl, Nat.le_refl _⟩
    | str hs t => cases hd; exact ⟨_, .str _ t, fits_ok hs, Nat.le_refl _⟩
    | tup _ _ => cases hd
    | obj _ => cases hd
    | top _ => cases hd
    | range _ => cases hd
  | succ n ih =>
    intro v u d hd r
    cases r with
    | none => cases hd; exact ⟨_, .none, rfl, Nat.zero_le _⟩
    | bool b => cases hd; exact ⟨_, .bool b, rfl, Nat.zero_le _⟩
    | int i t => cases hd; exact ⟨_, .int i t, rfl, Nat.zero_le _⟩
    | str hs t => cases hd; exact ⟨_, .str _ t, fits_ok hs, Nat.zero_le _⟩
    | @tup xs us a k g _ r =>
      simp only [deep, Option.map_eq_some_iff] at hd
      obtain ⟨ds, e, rfl⟩ := hd
      obtain ⟨as, h1, h2, h3⟩ := all_reads ih _ _ _ e r
      exact ⟨_, .tuple g rfl rfl h1, h2, by simp only [PyData.depth]; omega⟩
    | @obj k p e =>
      simp only [deep] at hd
      split at hd
      · rename_i xs hl
        rw [Option.map_eq_some_iff] at hd
        obtain ⟨ds, e', rfl⟩ := hd
        obtain ⟨a, us, k', hu, _, _, g, r⟩ := list_at hl I (.obj e)
        obtain ⟨as, h1, h2, h3⟩ := all_reads ih _ _ _ e' r
        rw [hu]
        exact ⟨_, .list g rfl rfl h1, h2, by simp only [PyData.depth]; omega⟩
      · cases hd
    | top _ => cases hd
    | range _ => cases hd

theorem Room.cline {d : Nat} (R : Room d A) : A.units + 200 < cLine := by have := R.units; omega

set_option tactic.hygienic true in
theorem eqTop_sound {a b : PV} {ua ub : Value} {c : Bool} (R : Room 0 A) (hv : eqTop σ a b = some c) (I : Inv h₀ φ σ s.heap) (qa : RV φ s.heap a ua) (qb : RV φ s.heap b ub) :
    (W prog w A (compareOp .Eq ua ub) s fun u h' => h' = s.heap ∧ u = .bool c) ∧ W prog w A (compareOp .NotEq ua ub) s fun u h' => h' = s.heap ∧ u = .bool !c := by
  unfold eqTop at hv
  split at hv
  · rename_i x y e1 e2
    cases hv
    obtain ⟨as, a1, a2, a3⟩ := deep_reads I _ _ _ _ e1 qa
    obtain ⟨bs, b1, b2, b3⟩ := deep_reads I _ _ _ _ e2 qb
    have hu : A.units + min x.depth y.depth < cLine := by have := R.cline; omega
    exact ⟨SeqAt.compareEq_reads a1 b1 a2 b2 hu ⟨_, _, rfl, rfl, rfl⟩, SeqAt.compareNe_reads a1 b1 a2 b2 hu ⟨_, _, rfl, rfl, rfl⟩⟩
  · cases hv

set_option tactic.hygienic true in
theorem in_sound {x ys' : PV} {ux uc : Value} {ys : List PV} {c : Bool} (R : Room 0 A) (hv : isIn σ x ys = some c) (hy : ys' = .tup ys ∨ ∃ n, ys' = .obj n ∧ lstAt σ n = some ys) (I : Inv h₀ φ σ s.heap) (qx : RV φ s.heap x ux) (qc : RV φ s.heap ys' uc) :
    (W prog w A (compareOp .In ux uc) s fun u h' => h' = s.heap ∧ u = .bool c) ∧ W prog w A (compareOp .NotIn ux uc) s fun u h' => h' = s.heap ∧ u = .bool !c := by
  unfold isIn at hv
  split at hv
  · rename_i d ds e1 e2
    cases hv
    obtain ⟨as, a1, a2, a3⟩ := deep_reads I _ _ _ _ e1 qx
    rcases hy with rfl | ⟨n, rfl, hl⟩
    · cases qc with
      | tup g _ r =>
        obtain ⟨bs, b1, b2, b3⟩ := all_reads (deep_reads I 5) _ _ _ e2 r
        have hu : A.units + 1 + min (PyData.depthAll ds) d.depth < cLine := by have := R.cline; omega
        exact ⟨SeqAt.in_tuple_reads (.tuple g rfl rfl b1) a1 b2 a2 hu ⟨_, _, rfl, rfl, rfl⟩, SeqAt.notIn_tuple_reads (.tuple g rfl rfl b1) a1 b2 a2 hu ⟨_, _, rfl, rfl, rfl⟩⟩
    · obtain ⟨a, us, k', rfl, _, _, g, r⟩ := list_at hl I qc
      obtain ⟨bs, b1, b2, b3⟩ := all_reads (deep_reads I 5) _ _ _ e2 r
      have hu : A.units + 1 + min (PyData.depthAll ds) d.depth < cLine := by have := R.cline; omega
      exact ⟨SeqAt.in_list_reads (.list g rfl rfl b1) a1 b2 a2 hu ⟨_, _, rfl, rfl, rfl⟩, SeqAt.notIn_list_reads (.list g rfl rfl b1) a1 b2 a2 hu ⟨_, _, rfl, rfl, rfl⟩⟩
  · cases hv

theorem type_beq (x y : String) : (Value.type x == Value.type y) = (x == y) := by
  by_cases h : x = y
  · subst h; simp
  · rw [beq_eq_false_iff_ne.mpr h, beq_eq_false_iff_ne.mpr (by intro e; cases e; exact h rfl)]
theorem two_ints {x y : Int} {h : Heap} {ua ub : Value} (qa : RV φ h (.int x) ua) (qb : RV φ h (.int y) ub) {P : Value → Value → Prop} (k : ∀ t1 t2, P (.int x t1) (.int y t2)) : P ua ub := by
  obtain ⟨t1, rfl⟩ := qa.i_int
  obtain ⟨t2, rfl⟩ := qb.i_int
  exact k t1 t2
theorem two_strs {x y : Str} {h : Heap} {ua ub : Value} (qa : RV φ h (.str x) ua) (qb : RV φ h (.str y) ub) {P : Value → Value → Prop} (k : ∀ t1 t2, P (.str x t1) (.str y t2)) : P ua ub := by
  obtain ⟨_, t1, rfl⟩ := qa.i_str
  obtain ⟨_, t2, rfl⟩ := qb.i_str
  exact k t1 t2
theorem cmpIS_some {fi : Int → Int → Bool} {fs : Str → Str → Bool} {P : PV → PV → Bool → Prop} (hi : ∀ x y, P (.int x) (.int y) (fi x y)) (hs : ∀ x y, P (.str x) (.str y) (fs x y)) (a b : PV) (c : Bool) (h : cmpIS fi fs a b = some c) : P a b c := by
  unfold cmpIS at h
  split at h
  · exact Option.some.inj h ▸ hi _ _
  · exact Option.some.inj h ▸ hs _ _
  · exact nomatch h
theorem cmpI_some {fi : Int → Int → Bool} {P : PV → PV → Bool → Prop} (hi : ∀ x y, P (.int x) (.int y) (fi x y)) (a b : PV) (c : Bool) (h : cmpI fi a b = some c) : P a b c := by
  unfold cmpI at h
  split at h
  · exact Option.some.inj h ▸ hi _ _
  · exact nomatch h
theorem isO_ok {h : Heap} {a b : PV} {ua ub : Value} {c : Bool} (hv : isO a b = some c) (qa : RV φ h a ua) (qb : RV φ h b ub) : plainIs ua ub = true ∧ (ua == ub) = c := by
  unfold isO at hv
  split at hv
  · cases qa.i_none; cases qb.i_none; exact ⟨rfl, Option.some.inj hv⟩
  · obtain ⟨_, t, rfl⟩ := qa.i_str; cases qb.i_none; exact ⟨rfl, Option.some.inj hv⟩
  · obtain ⟨p, _, rfl⟩ := qa.i_obj; cases qb.i_none; exact ⟨rfl, Option.some.inj hv⟩
  · cases qa.i_top; cases qb.i_top; exact ⟨rfl, (type_beq _ _).trans (Option.some.inj hv)⟩
  · exact nomatch hv
theorem not_of {o : Option Bool} {c : Bool} (h : o.map (!·) = some c) : ∃ c', o = some c' ∧ c = !c' := by
  rw [Option.map_eq_some_iff] at h
  exact h.imp fun _ x => ⟨x.1, x.2.symm⟩
theorem inO_sound {a b : PV} {ua ub : Value} {c : Bool} (R : Room 0 A) (hv : inO σ a b = some c) (I : Inv h₀ φ σ s.heap) (qa : RV φ s.heap a ua) (qb : RV φ s.heap b ub) :
    (W prog w A (compareOp .In ua ub) s fun u h' => h' = s.heap ∧ u = .bool c) ∧ W prog w A (compareOp .NotIn ua ub) s fun u h' => h' = s.heap ∧ u = .bool !c := by
  unfold inO at hv
  split at hv
  · rw [← Option.some.inj hv]
    apply two_strs qa qb
    exact fun _ _ => ⟨P.in_str ⟨_, _, rfl, rfl, rfl⟩, P.notIn_str ⟨_, _, rfl, rfl, rfl⟩⟩
  · exact in_sound R hv (.inl rfl) I qa qb
  · split at hv
    · rename_i e; exact in_sound R hv (.inr ⟨_, rfl, e⟩) I qa qb
    · exact nomatch hv
  · exact nomatch hv
theorem cmpop_sound {op : CmpOp} {a b : PV} {ua ub : Value} {c : Bool} (R : Room 0 A) (hv : cmpop σ op a b = some c) (I : Inv h₀ φ σ s.heap) (qa : RV φ s.heap a ua) (qb : RV φ s.heap b ub) :
    W prog w A (compareOp op ua ub) s fun u h' => h' = s.heap ∧ u = .bool c := by
  revert qa qb
  cases op with
  | Eq => exact fun qa qb => (eqTop_sound R hv I qa qb).1
  | NotEq => exact fun qa qb => have ⟨_, e, hc⟩ := not_of hv; hc ▸ (eqTop_sound R e I qa qb).2
  | Lt =>
    apply cmpIS_some ?_ ?_ _ _ _ hv
    · intro x y qa qb; apply two_ints qa qb; exact fun _ _ => P.lt_int ⟨_, _, rfl, rfl, rfl⟩
    · intro x y qa qb; apply two_strs qa qb; exact fun _ _ => P.lt_str ⟨_, _, rfl, rfl, rfl⟩
  | LtE =>
    apply cmpI_some ?_ _ _ _ hv
    · intro x y qa qb; apply two_ints qa qb; exact fun _ _ => P.le_int ⟨_, _, rfl, rfl, rfl⟩
  | Gt =>
    apply cmpIS_some ?_ ?_ _ _ _ hv
    · intro x y qa qb; apply two_ints qa qb; exact fun _ _ => P.gt_int ⟨_, _, rfl, rfl, rfl⟩
    · intro x y qa qb; apply two_strs qa qb; exact fun _ _ => P.gt_str ⟨_, _, rfl, rfl, rfl⟩
  | GtE =>
    apply cmpI_some ?_ _ _ _ hv
    · intro x y qa qb; apply two_ints qa qb; exact fun _ _ => P.ge_int ⟨_, _, rfl, rfl, rfl⟩
  | Is => exact fun qa qb => have ⟨h1, h2⟩ := isO_ok hv qa qb; wpAny_is_plain h1 ⟨_, _, rfl, rfl, by rw [h2]⟩
  | IsNot => exact fun qa qb => have ⟨_, e, hc⟩ := not_of hv; have ⟨h1, h2⟩ := isO_ok e qa qb; wpAny_isNot_plain h1 ⟨_, _, rfl, rfl, by rw [h2, hc]⟩
  | In => exact fun qa qb => (inO_sound R hv I qa qb).1
  | NotIn => exact fun qa qb => have ⟨_, e, hc⟩ := not_of hv; hc ▸ (inO_sound R e I qa qb).2

theorem idxAt_get {i : Int} {n k : Nat} (h : idxAt i n = some k) : small i = true ∧ seqIndex? i n = some k ∧ k < n ∧ ((0 ≤ i ∧ k = i.toNat) ∨ (i < 0 ∧ -(n : Int) ≤ i ∧ k = (i + n).toNat)) := by
  unfold idxAt at h
  split at h
  · rename_i hs
    refine ⟨hs, h, ?_⟩
    unfold seqIndex? at h
    dsimp only at h
    by_cases h0 : i < 0
    · rw [if_pos h0] at h
      by_cases hj : (decide (0 ≤ i + (n : Int)) && decide (i + (n : Int) < n)) = true
      · rw [if_pos hj] at h
        simp only [Bool.and_eq_true, decide_eq_true_eq] at hj
        have h' := (Option.some.inj h).symm
        exact ⟨by omega, .inr ⟨h0, by omega, h'⟩⟩
      · rw [if_neg hj] at h; cases h
    · rw [if_neg h0] at h
      by_cases hj : (decide (0 ≤ i) && decide (i < (n : Int))) = true
      · rw [if_pos hj] at h
        simp only [Bool.and_eq_true, decide_eq_true_eq] at hj
        have h' := (Option.some.inj h).symm
        exact ⟨by omega, .inl ⟨by omega, h'⟩⟩
      · rw [if_neg hj] at h; cases h
  · cases h

set_option tactic.hygienic true in
theorem item_sound {o i v : PV} {uo ui : Value} (hv : item σ o i = some v) (I : Inv h₀ φ σ s.heap) (qo : RV φ s.heap o uo) (qi : RV φ s.heap i ui) :
    W prog w A (getItem uo ui) s fun u h' => h' = s.heap ∧ RV φ s.heap v u := by
  unfold item at hv
  split at hv
  · split at hv
    · rename_i x i k hk
      split at hv
      · rename_i c hc
        cases hv
        cases qo with | str hs t => cases qi with | int _ t' =>
        obtain ⟨h1, h2, _⟩ := idxAt_get hk
        have h3 := small_iff h1
        exact P.getItem_str (by simp; omega) (by rw [h2]; exact hc) ⟨_, _, rfl, rfl, .str (fits_sign hs hc) _⟩
      · cases hv
    · cases hv
  · split at hv
    · rename_i x i k hk
      cases qo with | tup g _ r => cases qi with | int _ t' =>
      obtain ⟨h1, h2, _⟩ := idxAt_get hk
      have h3 := small_iff h1
      obtain ⟨u, hu, q⟩ := r.get hv
      rw [r.length] at h2
      exact P.getItem_tuple g (by omega) (by omega) h2 (by simpa using hu) ⟨_, _, rfl, rfl, q⟩
    · cases hv
  · split at hv
    · rename_i xs hl
      split at hv
      · rename_i k hk
        cases qi with | int _ t' =>
        obtain ⟨a, us, k', rfl, _, _, g, r⟩ := list_at hl I qo
        obtain ⟨h1, _, h2, h4⟩ := idxAt_get hk
        have h3 := small_iff h1
        obtain ⟨u, hu, q⟩ := r.get hv
        have hl' : s.heap.IsList a us.toArray := ⟨_, g, rfl, _, rfl⟩
        rcases h4 with ⟨h0, rfl⟩ | ⟨h0, h5, rfl⟩
        · exact wpAny_getItem_list hl' h0 (by omega) (by simpa using hu) ⟨_, _, rfl, rfl, q⟩
        · rw [r.length] at h5 hu
          exact wpAny_getItem_list_neg hl' h0 (by simpa using h5) (by omega) (by simpa using hu) ⟨_, _, rfl, rfl, q⟩
      · cases hv
    · cases hv
  · cases hv
end
end Mine
end

section
set_option tactic.hygienic false
namespace Mine
open PySem PyProof.Rows

section
variable {prog : Program} {w : World} {A : Around} {s : Shared} {h₀ : Heap} {φ : Phi} {σ : St}

theorem subscripted_ops (slice : Expr) (o i : Value) : ∃ ops, subscripted slice false o i = operate ops (getItem o i) := by
  unfold subscripted
  split
  · exact ⟨_, rfl⟩
  · rename_i h; cases h
  · exact ⟨_, rfl⟩

set_option tactic.hygienic true in
theorem tail_item {value slice : Expr} {o i v : PV} {uo ui : Value} (hv : item σ o i = some v) (I : Inv h₀ φ σ s.heap) (qo : RV φ s.heap o uo) (qi : RV φ s.heap i ui) :
    W prog w A (subscriptTail value slice uo ui) s fun u h' => h' = s.heap ∧ RV φ s.heap v u := by
  have G : W prog w A (getItem uo ui) s fun u h' => h' = s.heap ∧ RV φ s.heap v u := item_sound hv I qo qi
  obtain ⟨ops, hs⟩ := subscripted_ops slice uo ui
  unfold item at hv
  split at hv
  · cases qo; cases qi
    exact tail_any (typeIs_str s _ _) PySem.F.slot_str_getitem.lookup G hs
  · cases qo with
    | tup g => exact tail_any ⟨_, g, rfl⟩ PySem.F.slot_tuple_getitem.lookup G hs
  · split at hv
    · rename_i xs hl
      obtain ⟨a, us, k', rfl, _, _, g, r⟩ := list_at hl I qo
      exact tail_any ⟨_, g, rfl⟩ PySem.F.slot_list_getitem.lookup G hs
    · cases hv
  · cases hv

theorem optInt_part {v : PV} {u : Value} {h : Heap} {k : Option Int} (hk : optInt v = some k) (q : RV φ h v u) : IsPart u k ∧ ∃ p : Option (Int × Tok), p.map (·.1) = k ∧ u = partValue p := by
  unfold optInt at hk
  split at hk
  · cases hk; cases q; exact ⟨.none, none, rfl, rfl⟩
  · split at hk
    · cases hk; cases q with | int _ t => exact ⟨.int _ t, some (_, t), rfl, rfl⟩
    · cases hk
  · cases hk

theorem RVs.filterMap {h : Heap} {xs : List PV} {us : List Value} (r : RVs φ h xs us) : ∀ ks : List Nat, RVs φ h (ks.filterMap (xs[·]?)) (ks.filterMap (us[·]?))
  | [] => .nil
  | k :: ks => by
    rw [List.filterMap_cons, List.filterMap_cons]
    cases e : xs[k]? with
    | none =>
      have : us[k]? = none := by
        rw [List.getElem?_eq_none_iff] at e ⊢
        rw [← r.length]; exact e
      rw [this]
      exact RVs.filterMap r ks
    | some x =>
      obtain ⟨u, hu, q⟩ := r.get e
      rw [hu]
      exact .cons q (RVs.filterMap r ks)

theorem slice_some {o l u t : PV} {r : PV × St} (h : slice o l u t σ = some r) : ∃ kl ku kt, optInt l = some kl ∧ optInt u = some ku ∧ optInt t = some kt ∧ kt ≠ some 0 ∧ sliceAt o kl ku kt σ = some r := by
  revert h
  unfold slice
  cases optInt l with
  | none => exact nofun
  | some kl =>
    cases optInt u with
    | none => exact nofun
    | some ku =>
      cases optInt t with
      | none => exact nofun
      | some kt =>
        intro h
        change (if kt == some 0 then fail else sliceAt o kl ku kt : M PV) σ = some r at h
        split at h
        · exact nomatch h
        · rename_i h0
          exact ⟨kl, ku, kt, rfl, rfl, rfl, fun e => h0 (by rw [e]; rfl), h⟩
theorem slice_str {value sl : Expr} {x : Str} {v : PV} {ul uu ut : Value} {tx : Tok} {σ' : St} {kl ku kt : Option Int} (hv : sliceAt (.str x) kl ku kt σ = some (v, σ')) (h0 : kt ≠ some 0) (I : Inv h₀ φ σ s.heap) (hx : fits x = true) (p1 : IsPart ul kl) (p2 : IsPart uu ku) (p3 : IsPart ut kt)
    {a1 a2 a3 : Option (Int × Tok)} (b1 : a1.map (·.1) = kl) (b2 : a2.map (·.1) = ku) (b3 : a3.map (·.1) = kt) (c1 : ul = partValue a1) (c2 : uu = partValue a2) (c3 : ut = partValue a3) :
    W prog w A (subscriptTail value sl (.str x tx) (.ref s.heap.objs.size)) { s with heap := s.heap.push { cls := .type "slice", data := .fields #[ul, uu, ut] } } (Ret h₀ [] φ s.heap v σ') := by
  obtain ⟨ops, hs⟩ := subscripted_ops sl (.str x tx) (.ref s.heap.objs.size)
  have x1 := Ext.push s.heap { cls := .type "slice", data := .fields #[ul, uu, ut] }
  have I1 := I.ext0 x1
  have hsl : (s.heap.push { cls := .type "slice", data := .fields #[ul, uu, ut] }).IsSlice s.heap.objs.size a1 a2 a3 := ⟨_, Heap.get?_push_size _ rfl, rfl, by rw [c1, c2, c3]⟩
  refine tail_any (typeIs_str _ _ _) PySem.F.slot_str_getitem.lookup (wpAny_getItem_str_slice hsl ?_ ?_) hs
  · rw [b3]
    cases kt with
    | none => rfl
    | some z => exact beq_eq_false_iff_ne.mpr fun e => h0 (congrArg some e)
  · unfold sliceMade slicePicked
    rw [b1, b2, b3]
    change (if _ then _ else _ : M PV) σ = _ at hv
    split at hv
    · rename_i hc
      rw [if_pos hc]
      obtain ⟨rfl, rfl⟩ := rt_eq hv
      exact ⟨_, _, rfl, (Ret.str I1 hx tx).before x1.step⟩
    · rename_i hc
      rw [if_neg hc]
      obtain ⟨hf, rfl, rfl⟩ := if_rt hv
      exact ⟨fits_line hf, ⟨_, _, rfl, (Ret.str I1 hf _).before x1.step⟩⟩
set_option tactic.hygienic true in
theorem sliceAt_list {n : Nat} {v : PV} {σ' : St} {kl ku kt : Option Int} {uo : Value} (hv : sliceAt (.obj n) kl ku kt σ = some (v, σ')) (I : Inv h₀ φ σ s.heap) (qo : RV φ s.heap (.obj n) uo) :
    ∃ xs a us, uo = .ref a ∧ xs.length ≤ 20000 ∧ s.heap.IsList a (List.toArray us) ∧ RVs φ s.heap xs us ∧ v = .obj σ.length ∧ σ' = σ ++ [.lst (slicePV xs kl ku kt)] := by
  change (match lstAt σ n with | some xs => alloc (.lst (slicePV xs kl ku kt)) σ | none => match σ[n]? with | some (.const xs) => alloc (.lst (slicePV xs kl ku kt)) σ | _ => none) = _ at hv
  split at hv
  · rename_i xs hl
    obtain ⟨a, us, k', hu, _, hz, g, r⟩ := list_at hl I qo
    cases hv
    exact ⟨xs, a, us, hu, hz, ⟨_, g, rfl, _, rfl⟩, r, rfl, rfl⟩
  · split at hv
    · rename_i xs hσ
      obtain ⟨p, e, rfl⟩ := qo.i_obj
      obtain ⟨p', hp, c⟩ := I.cell hσ
      obtain rfl := Option.some.inj (e.symm.trans hp)
      obtain ⟨_, hz, us, g, r⟩ := c
      cases hv
      exact ⟨xs, p.1, us, rfl, hz, g, r, rfl, rfl⟩
    · exact nomatch hv
theorem slice_list {value sl : Expr} {xs : List PV} {ul uu ut : Value} {kl ku kt : Option Int} {a : Addr} {us : List Value} (h0 : kt ≠ some 0) (I : Inv h₀ φ σ s.heap) (p1 : IsPart ul kl) (p2 : IsPart uu ku) (p3 : IsPart ut kt)
    (hz : xs.length ≤ 20000) (hl : s.heap.IsList a (List.toArray us)) (r : RVs φ s.heap xs us) :
    W prog w A (subscriptTail value sl (.ref a) (.ref s.heap.objs.size)) { s with heap := s.heap.push { cls := .type "slice", data := .fields #[ul, uu, ut] } } (Ret h₀ [] φ s.heap (.obj σ.length) (σ ++ [.lst (slicePV xs kl ku kt)])) := by
  obtain ⟨ops, hs⟩ := subscripted_ops sl (.ref a) (.ref s.heap.objs.size)
  have x1 := Ext.push s.heap { cls := .type "slice", data := .fields #[ul, uu, ut] }
  obtain ⟨ol, g, gc, gn, gd⟩ := hl
  have g1 := Heap.get?_push_of_some { cls := .type "slice", data := .fields #[ul, uu, ut] } g
  have hl' : (s.heap.push { cls := .type "slice", data := .fields #[ul, uu, ut] }).IsList a us.toArray := ⟨_, g1, gc, _, gd⟩
  have hsl : (s.heap.push { cls := .type "slice", data := .fields #[ul, uu, ut] }).IsSliceOf s.heap.objs.size ul uu ut := Heap.IsSliceOf.new _ _ _ _
  have hr := r.length
  have hsz : us.toArray.size ≤ 20000 := by rw [List.size_toArray, ← hr]; exact hz
  refine tail_any ⟨_, g1, gc⟩ PySem.F.slot_list_getitem.lookup (wpAny_getItem_list_slice hl' hsl p1 p2 p3 h0 ?_ (Nat.le_trans hsz (by rw [sizeLine_eq]; decide))) hs
  refine ⟨_, _, rfl, Ret.before x1.step ?_⟩
  have r' := (x1.step.rvs r).filterMap (sliceRange (sliceBounds kl ku kt xs.length).1 (sliceBounds kl ku kt xs.length).2.1 (sliceBounds kl ku kt xs.length).2.2)
  have e : slicePick us.toArray kl ku kt = ((sliceRange (sliceBounds kl ku kt xs.length).1 (sliceBounds kl ku kt xs.length).2.1 (sliceBounds kl ku kt xs.length).2.2).filterMap (us[·]?)).toArray := by
    unfold slicePick
    simp only [List.size_toArray, hr, List.getElem?_toArray]
  rw [e]
  refine newList_at (I.ext0 x1) r' ?_
  have h1 := slicePick_size_le us.toArray kl ku kt
  rw [e] at h1
  exact Nat.le_trans (Nat.le_of_eq r'.length) (Nat.le_trans h1 hsz)
theorem tail_slice {value sl : Expr} {o l u t v : PV} {uo ul uu ut : Value} {σ' : St} (hv : slice o l u t σ = some (v, σ')) (I : Inv h₀ φ σ s.heap) (qo : RV φ s.heap o uo) (ql : RV φ s.heap l ul) (qu : RV φ s.heap u uu) (qt : RV φ s.heap t ut) :
    W prog w A (subscriptTail value sl uo (.ref s.heap.objs.size)) { s with heap := s.heap.push { cls := .type "slice", data := .fields #[ul, uu, ut] } } (Ret h₀ [] φ s.heap v σ') := by
  obtain ⟨kl, ku, kt, e1, e2, e3, h0, hv⟩ := slice_some hv
  obtain ⟨p1, a1, b1, c1⟩ := optInt_part e1 ql
  obtain ⟨p2, a2, b2, c2⟩ := optInt_part e2 qu
  obtain ⟨p3, a3, b3, c3⟩ := optInt_part e3 qt
  cases o with
  | str x =>
    obtain ⟨hx, tx, rfl⟩ := qo.i_str
    exact slice_str hv h0 I hx p1 p2 p3 b1 b2 b3 c1 c2 c3
  | obj n =>
    obtain ⟨xs, a, us, rfl, hz, hl, r, rfl, rfl⟩ := sliceAt_list hv I qo
    exact slice_list h0 I p1 p2 p3 hz hl r
  | _ => exact nomatch (show (Option.none : Option (PV × St)) = some _ from hv)

theorem SameBut.lst {h h' : Heap} {n : Nat} {a : Addr} {xs : List PV} {us : List Value} {k : Nat} (I : Inv h₀ φ σ h) (hi : φ[n]? = some (a, a)) {ys : List PV} (hl : lstAt σ n = some ys) (hs : Heap.SameBut a h h') (hz : xs.length ≤ 20000)
    (g : h'.get? a = some { cls := .type "list", dict := none, data := .seq us.toArray k, slots := #[] }) (r : RVs φ h xs us) : Inv h₀ φ (σ.set n (.lst xs)) h' ∧ Step [] φ φ h h' :=
  I.put hi (lstAt_get hl) rfl hs (c := .lst xs) ⟨rfl, hz, us, k, g, r.mono (SameBut.grow I (p := (a, a)) (List.mem_of_getElem? hi) hs)⟩

set_option tactic.hygienic true in
theorem seti_sound {o i v : PV} {uo ui u : Value} {x : Unit} {σ' : St} (hv : seti o i v σ = some (x, σ')) (I : Inv h₀ φ σ s.heap) (qo : RV φ s.heap o uo) (qi : RV φ s.heap i ui) (q : RV φ s.heap v u) :
    W prog w A (setItem uo ui u) s fun _ h' => Step [] φ φ s.heap h' ∧ Inv h₀ φ σ' h' := by
  unfold seti at hv
  split at hv
  · split at hv
    · rename_i xs hl
      split at hv
      · rename_i k hk
        cases hv
        cases qi with | int _ t' =>
        obtain ⟨a, us, k', rfl, hi, hz, g, r⟩ := list_at hl I qo
        obtain ⟨h1, _, h2, h4⟩ := idxAt_get hk
        have h3 := small_iff h1
        have fin : ∀ j, j = k → (∃ h' tk, ({ s with heap := s.heap.update a (Obj.mapSeq (·.setIfInBounds j u)) } : Shared) = { s with heap := h', toks := tk } ∧ (Step [] φ φ s.heap h' ∧ Inv h₀ φ (σ.set _ (.lst (xs.set k v))) h')) := fun j hj => by
          subst hj
          obtain ⟨a1, a2⟩ := SameBut.lst (us := us.set j u) (k := k') I hi hl (Heap.SameBut.update ..) (h' := s.heap.update a (Obj.mapSeq (·.setIfInBounds j u))) (xs := xs.set j v) (by simpa using hz) (by
            rw [Heap.get?_update_self _ g rfl]
            simp [Obj.mapSeq]) (r.set q)
          exact ⟨_, _, rfl, a2, a1⟩
        rcases h4 with ⟨h0, hj⟩ | ⟨h0, h5, hj⟩
        · refine PySem.W.ki_setAt g h0 (by omega) ?_ (fin _ hj.symm)
          have := r.length
          simp; omega
        · have := r.length
          refine PySem.W.ki_setBack g h0 (by simp; omega) (by omega) (fin _ ?_)
          rw [hj, r.length]; simp
      · cases hv
    · cases hv
  · cases hv

set_option tactic.hygienic true in
theorem push_sound {acc v : PV} {ua u : Value} {x : Unit} {σ' : St} (hv : push acc v σ = some (x, σ')) (I : Inv h₀ φ σ s.heap) (qo : RV φ s.heap acc ua) (q : RV φ s.heap v u) :
    W prog w A (call (.builtin "list.append") [ua, u]) s fun r h' => r = .none ∧ Step [] φ φ s.heap h' ∧ Inv h₀ φ σ' h' := by
  unfold push at hv
  split at hv
  · split at hv
    · rename_i xs hl
      split at hv
      · rename_i hlen
        cases hv
        obtain ⟨a, us, k', rfl, hi, hz, g, r⟩ := list_at hl I qo
        refine wpAny_list_append_plain (items := us.toArray) ⟨_, g⟩ (fun h' hp hs => ?_) (by have := r.length; rw [sizeLine_eq]; simp; omega)
        obtain ⟨k'', g'⟩ := hp
        obtain ⟨a1, a2⟩ := SameBut.lst (us := us ++ [u]) (k := k'') (xs := xs ++ [v]) I hi hl hs (by simp; omega) (by rw [g']; simp) (r.append (.cons q .nil))
        exact ⟨_, _, rfl, rfl, a2, a1⟩
      · cases hv
    · cases hv
  · cases hv
end
end Mine
end

section
set_option tactic.hygienic false
namespace Mine
open PySem PyProof.Rows

theorem rangeSize_lt {a b c : Int} (hc : 0 < c) (i : Nat) : 0 < Builtin.Range.rangeSize a b c - i ↔ a + c * i < b := by
  unfold Builtin.Range.rangeSize
  rw [if_pos hc]
  by_cases hab : a < b
  · rw [if_pos hab]
    have h1 : (0 : Int) < (b - a - 1) / c + 1 - i ↔ (i : Int) ≤ (b - a - 1) / c := by omega
    rw [h1, Int.le_ediv_iff_mul_le hc]
    have : (i : Int) * c = c * i := Int.mul_comm _ _
    rw [this]; omega
  · rw [if_neg hab]
    have : 0 ≤ c * (i : Int) := Int.mul_nonneg (by omega) (by omega)
    constructor <;> intro h <;> omega

inductive IterAt (φ : Phi) (h : Heap) : PV → Addr → Nat → Prop where
  | str {x : Str} {t : Tok} {it : Addr} {i : Nat} {kind : String} : h.IsStrIter it kind x t i → kind = "str_ascii_iterator" ∨ kind = "str_iterator" → fits x = true → IterAt φ h (.str x) it i
  | tup {xs : List PV} {us : List Value} {t it : Addr} {i n : Nat} : h.IsTupleIter it t i → h.get? t = some { cls := .type "tuple", dict := none, data := .seq us.toArray n, slots := #[] } → (∀ p ∈ φ, p.2 ≠ t) → RVs φ h xs us →
      IterAt φ h (.tup xs) it i
  | lst {n : Nat} {a it : Addr} {i : Nat} : h.IsListIter it a i → φ[n]? = some (a, a) → IterAt φ h (.obj n) it i
  | range {a b c : Int} {it : Addr} {i : Nat} : IsRangeIter h it (a + c * i) (Builtin.Range.rangeSize a b c - i) c → 0 < c → IterAt φ h (.range a b c) it i

theorem imm_fields {o : Obj} {vs : Array Value} (h : o.data = .fields vs) (hc : o.cls ≠ .type "range") : ¬ Imm o := by unfold Imm; rw [h]; exact hc

theorem IterAt.there {φ : Phi} {h : Heap} {v : PV} {it : Addr} {i : Nat} (x : IterAt φ h v it i) : ∃ o, h.get? it = some o ∧ ¬ Imm o := by
  cases x with
  | str e hk _ =>
    obtain ⟨o, g, c, d⟩ := e
    refine ⟨o, g, imm_fields d ?_⟩
    rw [c]; rcases hk with rfl | rfl <;> simp
  | tup e => obtain ⟨o, g, c, d⟩ := e; exact ⟨o, g, imm_fields d (by rw [c]; simp)⟩
  | lst e => obtain ⟨o, g, c, d⟩ := e; exact ⟨o, g, imm_fields d (by rw [c]; simp)⟩
  | range e => exact ⟨_, e, imm_fields rfl (by simp)⟩

theorem IterAt.grow {φ φ' : Phi} {h h' : Heap} {v : PV} {it : Addr} {i : Nat} (x : IterAt φ h v it i) (g : Grow φ φ' h h') (hk : ∀ o, h.get? it = some o → h'.get? it = some o) : IterAt φ' h' v it i := by
  cases x with
  | str e hk' hs => obtain ⟨o, g1, c, d⟩ := e; exact .str ⟨o, hk _ g1, c, d⟩ hk' hs
  | tup e e2 ho r => obtain ⟨o, g1, c, d⟩ := e; exact .tup ⟨o, hk _ g1, c, d⟩ (g.imm _ _ e2 imm_tuple fun _ => ho) (g.off e2 ho) (r.mono g)
  | lst e e2 =>
    obtain ⟨o, g1, c, d⟩ := e
    refine .lst ⟨o, hk _ g1, c, d⟩ ?_
    obtain ⟨ψ, rfl⟩ := g.ext
    rw [List.getElem?_append_left (List.getElem?_eq_some_iff.mp e2).1]; exact e2
  | range e hc => exact .range (hk _ e) hc
theorem IterAt.step {φ φ' : Phi} {h h' : Heap} {v : PV} {it : Addr} {i : Nat} {X : List Addr} (x : IterAt φ h v it i) (S : Step X φ φ' h h') (hX : it ∉ X) (ho : ∀ p ∈ φ, p.2 ≠ it) : IterAt φ' h' v it i :=
  x.grow S.toGrow fun o e => S.keep _ o e hX ho

section
variable {prog : Program} {w : World} {A : Around} {s : Shared} {h₀ : Heap} {φ : Phi} {σ : St}

theorem range_small {a b c : Int} (h1 : small a = true) (h2 : small b = true) (h3 : small c = true) (hc : 0 < c) : Builtin.Range.small a b c = true := by
  have a1 := small_iff h1
  have a2 := small_iff h2
  have a3 := small_iff h3
  have hz : Builtin.Range.rangeSize a b c ≤ 9223372036854775806 ∧ 0 ≤ Builtin.Range.rangeSize a b c := by
    unfold Builtin.Range.rangeSize
    rw [if_pos hc]
    split
    · have := Int.ediv_le_self c (show 0 ≤ b - a - 1 by omega)
      have := Int.ediv_nonneg (show 0 ≤ b - a - 1 by omega) (show 0 ≤ c by omega)
      omega
    · omega
  unfold Builtin.Range.small Builtin.Range.rangeFitsLong
  rw [if_pos hc]
  simp only [Bool.and_eq_true, decide_eq_true_eq, Bool.or_eq_true]
  exact ⟨⟨⟨⟨by omega, by omega⟩, by omega⟩, by omega⟩, .inr (by omega)⟩

set_option tactic.hygienic true in
theorem pyIter_sound {v : PV} {u : Value} {r : Option PV} (hv : nth1 σ v 0 = some r) (I : Inv h₀ φ σ s.heap) (q : RV φ s.heap v u) :
    W prog w A (pyIter u) s fun it h' => it = .ref s.heap.objs.size ∧ Ext [] s.heap h' ∧ IterAt φ h' v s.heap.objs.size 0 ∧ h'.objs.size = s.heap.objs.size + 1 := by
  unfold nth1 at hv
  split at hv
  · cases q with | str hs t =>
    refine wpAny_pyIter_strU ⟨_, _, rfl, rfl, Ext.push _ _, .str (kind := strIterType _) ⟨_, Heap.get?_push_size _ rfl, rfl, rfl⟩ ?_ hs, by simp⟩
    unfold strIterType; split <;> simp
  · cases q with | tup g ho r =>
    refine wpAny_pyIter_tuple (items := _) ⟨_, g, rfl, _, rfl⟩ ⟨_, _, rfl, rfl, Ext.push _ _, .tup ⟨_, Heap.get?_push_size _ rfl, rfl, rfl⟩ (Heap.get?_push_of_some _ g) ho (r.mono (Ext.push _ _).grow), by simp⟩
  · split at hv
    · rename_i xs hl
      obtain ⟨a, us, k', rfl, hi, hz, g, r⟩ := list_at hl I q
      exact wpAny_pyIter_list (items := _) ⟨_, g, rfl, _, rfl⟩ ⟨_, _, rfl, rfl, Ext.push _ _, .lst ⟨_, Heap.get?_push_size _ rfl, rfl, rfl⟩ hi, by simp⟩
    · cases hv
  · cases q with | range e h1 h2 h3 h4 =>
    refine wpAny_pyIter_range e (range_small h1 h2 h3 h4) ⟨_, _, rfl, rfl, Ext.push _ _, .range ?_ h4, by simp⟩
    rw [IsRangeIter, Heap.get?_push_size _ rfl]
    simp
  · cases hv

/-- an iterator is its own iterator -/
theorem pyIter_iter {v : PV} {it : Addr} {i : Nat} (x : IterAt φ s.heap v it i) : W prog w A (pyIter (.ref it)) s fun u h' => u = .ref it ∧ h' = s.heap := by
  cases x with
  | str e hk hs => rcases hk with rfl | rfl
                   · exact wpAny_pyIter_striter_ascii e ⟨_, _, rfl, rfl, rfl⟩
                   · exact wpAny_pyIter_striter_wide e ⟨_, _, rfl, rfl, rfl⟩
  | tup e => exact wpAny_pyIter_tupleiter e ⟨_, _, rfl, rfl, rfl⟩
  | lst e => exact wpAny_pyIter_listiter e ⟨_, _, rfl, rfl, rfl⟩
  | range e => exact wpAny_pyIter_rangeiter e ⟨_, _, rfl, rfl, rfl⟩

set_option tactic.hygienic true in
theorem pyNext_some {v x : PV} {it : Addr} {i : Nat} (hv : nth1 σ v i = some (some x)) (I : Inv h₀ φ σ s.heap) (y : IterAt φ s.heap v it i) (ho : ∀ p ∈ φ, p.2 ≠ it) :
    W prog w A (pyNext (.ref it)) s fun r h' => ∃ u, r = some u ∧ RV φ h' x u ∧ Heap.SameBut it s.heap h' ∧ IterAt φ h' v it (i + 1) := by
  obtain ⟨oi, gi, ni⟩ := y.there
  have G : ∀ h', Heap.SameBut it s.heap h' → Grow φ φ s.heap h' := fun h' hs => (Ext.same hs (fun o e => by rw [gi] at e; cases e; exact ni)).grow
  cases y with
  | @str xx t _ _ kind e hk hs =>
    simp only [nth1, Option.some.injEq, Option.map_eq_some_iff] at hv
    obtain ⟨c, hc, rfl⟩ := hv
    rcases hk with rfl | rfl
    · exact wpAny_pyNext_ascii_item e hc fun h' e' hsb => ⟨_, _, rfl, _, rfl, .str (fits_sign hs hc) _, hsb, .str e' (.inl rfl) hs⟩
    · exact wpAny_pyNext_wide_item e hc fun h' e' hsb => ⟨_, _, rfl, _, rfl, .str (fits_sign hs hc) _, hsb, .str e' (.inr rfl) hs⟩
  | @tup xs us t _ _ n e g hn r =>
    simp only [nth1, Option.some.injEq] at hv
    obtain ⟨u, hu, q⟩ := r.get hv
    refine wpAny_pyNext_tuple_item (items := us.toArray) e ⟨_, g, rfl, _, rfl⟩ (by simpa using hu) fun h' e' hsb => ⟨_, _, rfl, _, rfl, q.mono (G h' hsb), hsb, ?_⟩
    exact .tup e' ((G h' hsb).imm _ _ g imm_tuple fun _ => hn) hn (r.mono (G h' hsb))
  | @lst n a _ _ e hi =>
    simp only [nth1] at hv
    split at hv
    · rename_i xs hl
      simp only [Option.some.injEq] at hv
      obtain ⟨a', us, k', hu', hi', hz, g, r⟩ := list_at hl I (.obj hi)
      cases hu'
      obtain ⟨u, hu, q⟩ := r.get hv
      exact wpAny_pyNext_list_item (items := us.toArray) e ⟨_, g, rfl, _, rfl⟩ (by simpa using hu) fun h' e' hsb => ⟨_, _, rfl, _, rfl, q.mono (G h' hsb), hsb, .lst e' hi⟩
    · cases hv
  | @range a b c _ _ e hc =>
    simp only [nth1, Option.some.injEq] at hv
    split at hv
    · rename_i hlt
      cases hv
      refine wpAny_pyNext_range_item e ((rangeSize_lt hc i).mpr hlt) fun h' e' hsb => ⟨_, _, rfl, _, rfl, .int _ _, hsb, .range ?_ hc⟩
      have h1 : a + c * ((i + 1 : Nat) : Int) = a + c * i + c := by rw [Int.natCast_succ, Int.mul_add, Int.mul_one, Int.add_assoc]
      have h2 : Builtin.Range.rangeSize a b c - ((i + 1 : Nat) : Int) = Builtin.Range.rangeSize a b c - i - 1 := by omega
      rw [h1, h2]; exact e'
    · cases hv

theorem Ext.butS {a : Addr} {h h' : Heap} (hs : Heap.ExtBut a h h') (hz : h.objs.size ≤ h'.objs.size) {o₀ : Obj} (e₀ : h.get? a = some o₀) (n₀ : ¬ Imm o₀) : Ext [a] h h' :=
  Ext.but hs hz fun o e => by rw [e₀] at e; cases e; exact n₀

set_option tactic.hygienic true in
theorem pyNext_none {v : PV} {it : Addr} {i : Nat} (hA : A.handled = none) (hv : nth1 σ v i = some none) (I : Inv h₀ φ σ s.heap) (y : IterAt φ s.heap v it i) :
    W prog w A (pyNext (.ref it)) s fun r h' => r = none ∧ Ext [it] s.heap h' := by
  obtain ⟨oi, gi, ni⟩ := y.there
  have G : ∀ h', Heap.ExtBut it s.heap h' → ∀ r, r = (none : Option Value) → (s.heap.objs.size ≤ h'.objs.size → ∃ h'' tk, ({ s with heap := h' } : Shared) = { s with heap := h'', toks := tk } ∧ r = none ∧ Ext [it] s.heap h'') :=
    fun h' hs r hr hz => ⟨_, _, rfl, hr, Ext.butS hs hz gi ni⟩
  refine sized ?_
  cases y with
  | @str xx t _ _ kind e hk hs =>
    simp only [nth1, Option.some.injEq, Option.map_eq_none_iff] at hv
    rcases hk with rfl | rfl
    · exact wpAny_pyNext_ascii_end hA e hv fun h' hs => G h' hs _ rfl
    · exact wpAny_pyNext_wide_end hA e hv fun h' hs => G h' hs _ rfl
  | @tup xs us t _ _ n e g hn r =>
    simp only [nth1, Option.some.injEq] at hv
    have hu : us[i]? = none := by
      rw [List.getElem?_eq_none_iff] at hv ⊢
      rw [← r.length]; exact hv
    exact wpAny_pyNext_tuple_end (items := us.toArray) hA e ⟨_, g, rfl, _, rfl⟩ (by simpa using hu) fun h' hs => G h' hs _ rfl
  | @lst n a _ _ e hi =>
    simp only [nth1] at hv
    split at hv
    · rename_i xs hl
      simp only [Option.some.injEq] at hv
      obtain ⟨a', us, k', hu', hi', hz, g, r⟩ := list_at hl I (.obj hi)
      cases hu'
      have hu : us[i]? = none := by
        rw [List.getElem?_eq_none_iff] at hv ⊢
        rw [← r.length]; exact hv
      exact wpAny_pyNext_list_end (items := us.toArray) hA e ⟨_, g, rfl, _, rfl⟩ (by simpa using hu) fun h' hs => G h' hs _ rfl
    · cases hv
  | @range a b c _ _ e hc =>
    simp only [nth1, Option.some.injEq] at hv
    split at hv
    · cases hv
    · rename_i hlt
      have := (rangeSize_lt (a := a) (b := b) hc i)
      exact wpAny_pyNext_range_end hA e (by omega) fun h' hs => G h' hs _ rfl
end
end Mine
end

section
set_option tactic.hygienic false
namespace Mine
open PySem PyProof.Rows

noncomputable abbrev Tup (h : Heap) (a : Addr) (us : Array Value) (n : Nat) : Prop := h.get? a = some { cls := .type "tuple", dict := none, data := .seq us n, slots := #[] }

structure Its (φ : Phi) (h₀ h : Heap) (i : Nat) (v : PV) (it : Addr) : Prop where
  at_ : IterAt φ h v it i
  ok : zipable v = true
  off : ∀ p ∈ φ, p.2 ≠ it
  low : h₀.objs.size ≤ it

theorem Its.grow {φ φ' : Phi} {h₀ h h' : Heap} {i : Nat} {v : PV} {it : Addr} (x : Its φ h₀ h i v it) (g : Grow φ φ' h h') (hk : ∀ o, h.get? it = some o → h'.get? it = some o) : Its φ' h₀ h' i v it :=
  let ⟨_, e, _⟩ := x.at_.there; ⟨x.at_.grow g hk, x.ok, g.off e x.off, x.low⟩

section
variable {prog : Program} {w : World} {A : Around} {s : Shared} {h₀ : Heap} {φ : Phi} {σ : St}

set_option tactic.hygienic true in
theorem nextOf_some {v x : PV} {it : Addr} {i : Nat} {E : Value → Shared → Prop} {Q : Value → Shared → Prop} (y : Its φ h₀ s.heap i v it) (hv : nth1 σ v i = some (some x)) (I : Inv h₀ φ σ s.heap)
    (k : ∀ u h' tk, RV φ h' x u → Heap.SameBut it s.heap h' → IterAt φ h' v it (i + 1) → Q u { s with heap := h', toks := tk }) :
    wpAny (model prog w) A (Builtin.SmallTypes.nextOf (.ref it)) Q E s := by
  obtain ⟨y, hz, ho, _⟩ := y
  obtain ⟨oi, gi, ni⟩ := y.there
  have G : ∀ h', Heap.SameBut it s.heap h' → Grow φ φ s.heap h' := fun h' hs => (Ext.same hs (fun o e => by rw [gi] at e; cases e; exact ni)).grow
  cases y with
  | @str xx t _ _ kind e hk hs =>
    simp only [nth1, Option.some.injEq, Option.map_eq_some_iff] at hv
    obtain ⟨c, hc, rfl⟩ := hv
    rcases hk with rfl | rfl
    · exact wpAny_nextOf_ascii_item e hc fun h' e' hsb => k _ _ _ (.str (fits_sign hs hc) _) hsb (.str e' (.inl rfl) hs)
    · exact wpAny_nextOf_wide_item e hc fun h' e' hsb => k _ _ _ (.str (fits_sign hs hc) _) hsb (.str e' (.inr rfl) hs)
  | tup => cases hz
  | @lst n a _ _ e hi =>
    simp only [nth1] at hv
    split at hv
    · rename_i xs hl
      simp only [Option.some.injEq] at hv
      obtain ⟨a', us, k', hu', hi', hz, g, r⟩ := list_at hl I (.obj hi)
      cases hu'
      obtain ⟨u, hu, q⟩ := r.get hv
      exact wpAny_nextOf_list_item (items := us.toArray) e ⟨_, g, rfl, _, rfl⟩ (by simpa using hu) fun h' e' hsb => k _ _ s.toks (q.mono (G h' hsb)) hsb (.lst e' hi)
    · cases hv
  | range => cases hz

theorem sizedE {α : Type} {t : Sem α} {Q : α → Shared → Prop} {E : Value → Shared → Prop} (h : wpAny (model prog w) A t Q (fun e s' => s.heap.objs.size ≤ s'.heap.objs.size → E e s') s) :
    wpAny (model prog w) A t Q E s :=
  wpAny_mono (Q := fun a s' => s.heap.objs.size ≤ s'.heap.objs.size ∧ Q a s') (E := fun e s' => s.heap.objs.size ≤ s'.heap.objs.size ∧ (s.heap.objs.size ≤ s'.heap.objs.size → E e s'))
    (fun Γ p hΓ => wp_size _ Γ _ t _ _ p s (Nat.le_refl _) (h Γ p hΓ)) (fun _ _ x => x.2) (fun _ _ x => x.2 x.1)

set_option tactic.hygienic true in
theorem nextOf_none {v : PV} {it : Addr} {i : Nat} {E : Value → Shared → Prop} {Q : Value → Shared → Prop} (hA : A.handled = none) (y : Its φ h₀ s.heap i v it) (hv : nth1 σ v i = some none) (I : Inv h₀ φ σ s.heap)
    (k : ∀ h' e, Ext [it] s.heap h' → (∃ o, h'.get? e = some o ∧ o.cls = .type "StopIteration") → E (.ref e) { s with heap := h' }) :
    wpAny (model prog w) A (Builtin.SmallTypes.nextOf (.ref it)) Q E s := by
  obtain ⟨y, hz, ho, _⟩ := y
  obtain ⟨oi, gi, ni⟩ := y.there
  refine sizedE ?_
  have K : ∀ h' e, Heap.ExtBut it s.heap h' → (∃ o, h'.get? e = some o ∧ o.cls = .type "StopIteration") → s.heap.objs.size ≤ h'.objs.size → E (.ref e) { s with heap := h' } :=
    fun h' e hs ho hz => k h' e (Ext.butS hs hz gi ni) ho
  cases y with
  | @str xx t _ _ kind e hk hs =>
    simp only [nth1, Option.some.injEq, Option.map_eq_none_iff] at hv
    rcases hk with rfl | rfl
    · exact wpAny_nextOf_ascii_end hA e hv fun h' e' hs he => K h' e' hs he
    · exact wpAny_nextOf_wide_end hA e hv fun h' e' hs he => K h' e' hs he
  | tup => cases hz
  | @lst n a _ _ e hi =>
    simp only [nth1] at hv
    split at hv
    · rename_i xs hl
      simp only [Option.some.injEq] at hv
      obtain ⟨a', us, k', hu', hi', hz, g, r⟩ := list_at hl I (.obj hi)
      cases hu'
      have hu : us[i]? = none := by
        rw [List.getElem?_eq_none_iff] at hv ⊢
        rw [← r.length]; exact hv
      exact wpAny_nextOf_list_end (items := us.toArray) hA e ⟨_, g, rfl, _, rfl⟩ (by simpa using hu) fun h' e' hs he => K h' e' hs he
    · cases hv
  | range => cases hz

theorem draw_facts {v x : PV} {u : Value} {it TO : Addr} {i kk n m j : Nat} {us : Array Value} {h h₂ : Heap} (I : Inv h₀ φ σ h) (hk : φ[kk]? = some (TO, TO)) (hσ : σ[kk]? = some (.own n)) (y : Its φ h₀ h i v it)
    (hs : Heap.SameBut it h h₂) (y' : IterAt φ h₂ v it (i + 1)) (q : RV φ h₂ x u) (hTO : Tup h TO us m) (hn : us.size = n) :
    Tup h₂ TO us m ∧
    Inv h₀ φ σ (h₂.update TO (Obj.mapSeq (·.setIfInBounds j u))) ∧ Grow φ φ h (h₂.update TO (Obj.mapSeq (·.setIfInBounds j u))) ∧ RV φ (h₂.update TO (Obj.mapSeq (·.setIfInBounds j u))) x u ∧
    Its φ h₀ (h₂.update TO (Obj.mapSeq (·.setIfInBounds j u))) (i + 1) v it ∧ Tup (h₂.update TO (Obj.mapSeq (·.setIfInBounds j u))) TO (us.setIfInBounds j u) m ∧
    (h₂.update TO (Obj.mapSeq (·.setIfInBounds j u))).objs.size = h.objs.size ∧ ∀ b o, b ≠ it → b ≠ TO → h.get? b = some o → (h₂.update TO (Obj.mapSeq (·.setIfInBounds j u))).get? b = some o := by
  have hm := List.mem_of_getElem? hk
  have hne : TO ≠ it := y.off _ hm
  obtain ⟨oi, gi, ni⟩ := y.at_.there
  have x1 : Ext [it] h h₂ := Ext.same hs fun o e => by rw [gi] at e; cases e; exact ni
  have I2 : Inv h₀ φ σ h₂ := I.ext x1 (by simpa using y.low) (by simpa using y.off)
  have hTO₂ : Tup h₂ TO us m := hs.extBut _ _ hne hTO
  have hs3 : Heap.SameBut TO h₂ (h₂.update TO (Obj.mapSeq (·.setIfInBounds j u))) := Heap.SameBut.update ..
  have hTO₃ : Tup (h₂.update TO (Obj.mapSeq (·.setIfInBounds j u))) TO (us.setIfInBounds j u) m := by
    unfold Tup
    rw [Heap.get?_update_self _ hTO₂ rfl]
    simp [Obj.mapSeq]
  obtain ⟨I3, S3⟩ := I2.turn (p := (TO, TO)) hk hσ rfl hs3 ⟨rfl, _, _, hTO₃, by simpa using hn⟩
  have y2 : Its φ h₀ h₂ (i + 1) v it := ⟨y', y.ok, y.off, y.low⟩
  have g3 : Grow φ φ h (h₂.update TO (Obj.mapSeq (·.setIfInBounds j u))) := (x1.step.trans (S3.more (Y := [it]) (by simp))).toGrow
  refine ⟨hTO₂, I3, g3, q.mono S3.toGrow, y2.grow S3.toGrow fun o e => hs3.extBut _ o hne.symm e, hTO₃, ?_, fun b o h1 h2 e => hs3.extBut b o h2 (hs.extBut b o h1 e)⟩
  rw [hs3.1, hs.1]

/-- a zip that stands ready -/
inductive Zits (φ : Phi) (h₀ h : Heap) (i : Nat) : List PV → List Addr → Prop where
  | nil : Zits φ h₀ h i [] []
  | cons {v : PV} {it : Addr} {vs its} : Its φ h₀ h i v it → Zits φ h₀ h i vs its → Zits φ h₀ h i (v :: vs) (it :: its)
theorem Zits.grow {φ φ' : Phi} {h₀ h h' : Heap} {i : Nat} {vs : List PV} {its : List Addr} (x : Zits φ h₀ h i vs its) (g : Grow φ φ' h h') (hk : ∀ it ∈ its, ∀ o, h.get? it = some o → h'.get? it = some o) : Zits φ' h₀ h' i vs its := by
  induction x with
  | nil => exact .nil
  | cons y _ ih => exact .cons (y.grow g (hk _ (by simp))) (ih fun it hi => hk it (by simp [hi]))
theorem Zits.mem {φ : Phi} {h₀ h : Heap} {i : Nat} {vs : List PV} {its : List Addr} (x : Zits φ h₀ h i vs its) {it : Addr} (hi : it ∈ its) : ∃ v, Its φ h₀ h i v it := by
  induction x with
  | nil => simp at hi
  | cons y _ ih =>
    rcases List.mem_cons.mp hi with rfl | hi
    · exact ⟨_, y⟩
    · exact ih hi
theorem Zits.length {φ : Phi} {h₀ h : Heap} {i : Nat} {vs : List PV} {its : List Addr} (x : Zits φ h₀ h i vs its) : its.length = vs.length := by
  induction x with
  | nil => rfl
  | cons _ _ ih => exact congrArg (· + 1) ih
theorem Zits.snoc {φ : Phi} {h₀ h : Heap} {i : Nat} {vs : List PV} {its : List Addr} {v : PV} {it : Addr} (x : Zits φ h₀ h i vs its) (y : Its φ h₀ h i v it) : Zits φ h₀ h i (vs ++ [v]) (its ++ [it]) := by
  induction x with
  | nil => exact .cons y .nil
  | cons z _ ih => exact .cons z ih
structure ZipAt (φ : Phi) (h₀ h : Heap) (vs : List PV) (k : Nat) (z : Addr) (f0 : Value) (TI TO : Addr) (its : List Addr) (i : Nat) : Prop where
  own : φ[k]? = some (TO, TO)
  rec_ : IsZip h z TI TO f0
  ti : ∃ n, Tup h TI (its.map Value.ref).toArray n
  tiOff : ∀ p ∈ φ, p.2 ≠ TI
  zs : Zits φ h₀ h i vs its
  nd : its.Nodup
  zoff : ∀ p ∈ φ, p.2 ≠ z
  zlow : h₀.objs.size ≤ z

theorem zip_imm {h : Heap} {z TI TO : Addr} {f0 : Value} (e : IsZip h z TI TO f0) : ∀ o, h.get? z = some o → ¬ Imm o := fun o e' => by
  rw [e] at e'; cases e'; exact imm_fields rfl (by simp)

theorem ZipAt.grow {φ φ' : Phi} {h₀ h h' : Heap} {vs : List PV} {k i : Nat} {z TI TO : Addr} {f0 : Value} {its : List Addr} (x : ZipAt φ h₀ h vs k z f0 TI TO its i) (g : Grow φ φ' h h') (hk : ∀ b ∈ z :: its, ∀ o, h.get? b = some o → h'.get? b = some o) :
    ZipAt φ' h₀ h' vs k z f0 TI TO its i := by
  obtain ⟨n, hn⟩ := x.ti
  refine ⟨?_, hk z (by simp) _ x.rec_, ⟨n, g.imm _ _ hn imm_tuple fun _ => x.tiOff⟩, g.off hn x.tiOff, x.zs.grow g fun it hi => hk it (by simp [hi]), x.nd, g.off x.rec_ x.zoff, x.zlow⟩
  obtain ⟨ψ, rfl⟩ := g.ext
  rw [List.getElem?_append_left (List.getElem?_eq_some_iff.mp x.own).1]; exact x.own
theorem ZipAt.step {φ φ' : Phi} {h₀ h h' : Heap} {vs : List PV} {k i : Nat} {z TI TO : Addr} {f0 : Value} {its : List Addr} {X : List Addr} (x : ZipAt φ h₀ h vs k z f0 TI TO its i) (S : Step X φ φ' h h') (hX : ∀ b ∈ z :: its, b ∉ X) :
    ZipAt φ' h₀ h' vs k z f0 TI TO its i :=
  x.grow S.toGrow fun b hb o e => S.keep b o e (hX b hb) (by
    rcases List.mem_cons.mp hb with rfl | hb
    · exact x.zoff
    · obtain ⟨_, y⟩ := x.zs.mem hb; exact y.off)
theorem ZipAt.apart {φ : Phi} {h₀ h : Heap} {vs : List PV} {k i : Nat} {z TI TO : Addr} {f0 : Value} {its : List Addr} (x : ZipAt φ h₀ h vs k z f0 TI TO its i) :
    TO ≠ z ∧ TI ≠ TO ∧ TI ≠ z ∧ ∀ it ∈ its, it ≠ z ∧ it ≠ TO ∧ it ≠ TI := by
  have hm := List.mem_of_getElem? x.own
  obtain ⟨n, hn⟩ := x.ti
  refine ⟨x.zoff _ hm, (x.tiOff _ hm).symm, ?_, ?_⟩
  · rintro rfl
    exact zip_imm x.rec_ _ hn imm_tuple
  · intro it hi
    obtain ⟨v, y⟩ := x.zs.mem hi
    refine ⟨?_, (y.off _ hm).symm, ?_⟩
    · rintro rfl
      have e := x.rec_
      cases y.at_ with
      | str q hk _ => obtain ⟨o, g, c, _⟩ := q; rw [e] at g; cases g; rcases hk with rfl | rfl <;> simp at c
      | tup => cases y.ok
      | lst q => obtain ⟨o, g, c, _⟩ := q; rw [e] at g; cases g; simp at c
      | range => cases y.ok
    · rintro rfl
      obtain ⟨o, g, ni⟩ := y.at_.there
      rw [hn] at g; cases g
      exact ni imm_tuple

/-- what one turn of zip leaves -/
noncomputable def ZipOut (h₀ : Heap) (φ : Phi) (σ : St) (h : Heap) (vs : List PV) (k : Nat) (z TI TO : Addr) (its : List Addr) (i : Nat) (xs : List PV) (r : Option Value) (h' : Heap) : Prop :=
  ∃ T : Addr, r = some (.ref T) ∧ RV φ h' (.tup xs) (.ref T) ∧ Inv h₀ φ σ h' ∧ Step (z :: its) φ φ h h' ∧ ZipAt φ h₀ h' vs k z (rawInt T) TI TO its (i + 1)

theorem nths_cons {σ : St} {i : Nat} {v : PV} {vs : List PV} {r : Option (List PV)} (h : nths σ i (v :: vs) = some r) : (∃ x rr, nth1 σ v i = some (some x) ∧ nths σ i vs = some rr ∧ r = rr.map (x :: ·)) ∨ (nth1 σ v i = some none ∧ r = none) := by
  revert h
  show (match nth1 σ v i with
    | some (some x) => match nths σ i vs with
      | some (some xs) => some (some (x :: xs))
      | some none => some none
      | none => none
    | some none => some none
    | none => none) = some r → _
  cases nth1 σ v i with
  | none => exact nofun
  | some o =>
    cases o with
    | none => exact fun h => .inr ⟨rfl, (Option.some.inj h).symm⟩
    | some x =>
      cases nths σ i vs with
      | none => exact nofun
      | some o =>
        cases o with
        | none => exact fun h => .inl ⟨x, none, rfl, rfl, (Option.some.inj h).symm⟩
        | some xs => exact fun h => .inl ⟨x, some xs, rfl, rfl, (Option.some.inj h).symm⟩
theorem take_set {us : Array Value} {j : Nat} {u : Value} (h : j < us.size) : (us.setIfInBounds j u).toList.take (j + 1) = us.toList.take j ++ [u] := by
  obtain ⟨l⟩ := us
  simp only [List.size_toArray] at h
  simp only [List.setIfInBounds_toArray]
  rw [List.take_add_one, List.getElem?_set_self h, List.take_set_of_le (Nat.le_refl _)]
  rfl

/-- where zip's own loop stands: `td` of its iterators are drawn, `tr` are not -/
inductive ZAt (h₀ : Heap) (φ : Phi) (σ : St) (h₁ : Heap) (vs : List PV) (TO : Addr) (m : Nat) (its : List Addr) (i : Nat) (r : Option (List PV)) (rest : List (Value × Nat)) (h : Heap) : Prop
  | mk (td tr : List Addr) (vd vr : List PV) (us : Array Value) (xs : List PV) (rr : Option (List PV)) (e1 : its = td ++ tr) (e2 : vs = vd ++ vr) (e3 : rest = (tr.map Value.ref).zipIdx td.length)
    (Zd : Zits φ h₀ h (i + 1) vd td) (Zr : Zits φ h₀ h i vr tr) (T : Tup h TO us m) (sz : us.size = its.length) (q : RVs φ h xs (us.toList.take td.length)) (I : Inv h₀ φ σ h) (g : Grow φ φ h₁ h) (z : h.objs.size = h₁.objs.size)
    (k : ∀ b o, b ∉ its → b ≠ TO → h₁.get? b = some o → h.get? b = some o) (n : nths σ i vr = some rr) (er : r = rr.map (xs ++ ·)) : ZAt h₀ φ σ h₁ vs TO m its i r rest h

noncomputable def ZRes (h₀ : Heap) (φ : Phi) (σ : St) (h : Heap) (vs : List PV) (k : Nat) (z TI TO : Addr) (its : List Addr) (i : Nat) : Option (List PV) → Option Value → Heap → Prop
  | some xs, u, h' => ZipOut h₀ φ σ h vs k z TI TO its i xs u h'
  | none, u, h' => u = none ∧ Inv h₀ φ σ h' ∧ Step (z :: its) φ φ h h'

set_option maxHeartbeats 2000000 in
theorem zip_next {vs : List PV} {k i : Nat} {z TI TO : Addr} {its : List Addr} {r : Option (List PV)} (hA : A.handled = none) (hne : vs ≠ []) (hlen : vs.length ≤ 3) (hσ : σ[k]? = some (.own vs.length)) (hr : nths σ i vs = some r) (I : Inv h₀ φ σ s.heap)
    (Z : ZipAt φ h₀ s.heap vs k z .none TI TO its i) : W prog w A (pyNext (.ref z)) s (ZRes h₀ φ σ s.heap vs k z TI TO its i r) := by
  obtain ⟨dTO, dTI, dTz, dits⟩ := Z.apart
  obtain ⟨own, hz, ⟨n, hTI⟩, tiOff, zits, nd, zoff, zlow⟩ := id Z
  have hm := List.mem_of_getElem? own
  have hzi : z ∉ its := fun hi => (dits z hi).1 rfl
  have hOi : TO ∉ its := fun hi => (dits TO hi).2.1 rfl
  have hIi : TI ∉ its := fun hi => (dits TI hi).2.2 rfl
  have hil := zits.length
  obtain ⟨p, hp, _, us, m, hTO, hsz⟩ := I.cell hσ
  obtain rfl := Option.some.inj (own.symm.trans hp)
  have hT : s.TypeIs (.ref z) "zip" := ⟨_, hz, rfl⟩
  unfold pyNext
  refine wpAny_bind (wpAny_attempt (wpAny_callSpecial?_slot (name := Str.ofString "__next__") hT PySem.F.slot_zip_next
    (wpAny_call_entry PySem.F.slot_zip_next hT PySem.F.entry_zip_next ?_ (PySem.F.args_zip_next_1 _))))
  show wpAny _ _ (field (.ref z) 2 >>= _) _ _ _
  refine wpAny_bind (wpAny_field hz rfl (x := .bool false) rfl ?_)
  show wpAny _ _ (field (.ref z) 3 >>= _) _ _ _
  refine wpAny_bind (wpAny_field hz rfl (x := .ref TI) rfl ?_)
  refine wpAny_bind (wpAny_seqItems hTI rfl ?_)
  have hemp : (its.map Value.ref).toArray.isEmpty = false := by
    cases its with
    | nil => exact absurd (List.length_eq_zero_iff.mp hil.symm) hne
    | cons => rfl
  dsimp only
  rw [hemp]
  show wpAny _ _ (Builtin.SmallTypes.ownedTupleIsFree (.ref z) >>= _) _ _ _
  refine wpAny_bind ?_
  unfold Builtin.SmallTypes.ownedTupleIsFree
  refine wpAny_bind (wpAny_field hz rfl (x := .none) rfl (wpAny_pure ?_))
  simp only [if_true]
  refine wpAny_bind (wpAny_rule ?_)
  refine wpAny_bind (wpAny_field hz rfl (x := .ref TO) rfl ?_)
  refine wpAny_bind (wpAny_setField_rec hz (by simp) fun h₁ hz₁ hs₁ => ?_)
  replace hz₁ : IsZip h₁ z TI TO .ellipsis := hz₁
  have x1 : Ext [z] s.heap h₁ := Ext.same hs₁ (zip_imm hz)
  have I1 : Inv h₀ φ σ h₁ := I.ext x1 (by simpa using zlow) (by simpa using zoff)
  refine wpAny_bind ?_
  refine wpAny_forIn_list _ (fun l b s' => b = _ ∧ ∃ h tk, s' = { s with heap := h, toks := tk } ∧ ZAt h₀ φ σ h₁ vs TO m its i r l h) _ (fun x rest b s' J => ?_) (fun b s' J => ?_) _ _
    ⟨rfl, h₁, s.toks, rfl, ⟨[], its, [], vs, us, [], r, rfl, rfl, rfl, .nil, zits.grow x1.grow fun it hi o e => hs₁.extBut it o (dits it hi).1 e, hs₁.extBut _ _ dTO hTO, hsz.trans hil.symm, .nil, I1, (Step.refl [] _ _).toGrow, rfl, fun _ _ _ _ e => e, hr, by cases r <;> rfl⟩⟩
  · obtain ⟨rfl, h, tk, rfl, td, tr, vd, vr, us', xs, rr, e1, e2, e3, Zd, Zr, T, sz, q, I2, g, hzz, kk, hn, er⟩ := J
    cases Zr with
    | nil => exact nomatch e3
    | @cons v it vr tr y Zr =>
    obtain ⟨hx, hrest⟩ := List.cons.inj e3
    subst hx
    have hit : it ∈ its := by rw [e1]; simp
    obtain ⟨diz, diO, diI⟩ := dits it hit
    have hus : us'.size = vs.length := sz.trans hil
    have h3 : us'.size ≤ 3 := hus ▸ hlen
    have hj : td.length < us'.size := by rw [sz, e1]; simp
    have ndl : ∀ b ∈ td, b ≠ it := fun b hb z => by
      rw [e1, List.nodup_append] at nd
      exact nd.2.2 b hb it (by simp) z
    have ndr : ∀ b ∈ tr, b ≠ it := fun b hb z => by
      rw [e1, List.nodup_append] at nd
      exact (List.nodup_cons.mp nd.2.1).1 (z ▸ hb)
    have inl : ∀ b ∈ td, b ∈ its := fun b hb => by rw [e1]; simp [hb]
    have inr : ∀ b ∈ tr, b ∈ its := fun b hb => by rw [e1]; simp [hb]
    refine wpAny_bind (wpAny_onRaise ?_)
    show wpAny _ _ (Builtin.SmallTypes.nextOf (.ref it) >>= _) _ _ _
    rcases nths_cons hn with ⟨x, rr', hx, hn', rfl⟩ | ⟨hx, rfl⟩
    · refine wpAny_bind (nextOf_some y hx I2 fun u k1h tk1 q1 s1h y1n => wpAny_pure ?_)
      obtain ⟨hTOm1, I3, g3, q1', y1h, hTO3, sz3, k3⟩ := draw_facts (j := td.length) I2 own hσ y s1h y1n q1 T hus
      refine wpAny_bind (wpAny_seqItems hTOm1 rfl ?_)
      refine wpAny_bind (wpAny_updateSeq hTOm1 rfl ?_ (Nat.le_trans h3 (by rw [sizeLine_eq]; decide)) (by rw [Array.size_setIfInBounds]; exact Nat.le_trans h3 (by rw [sizeLine_eq]; decide)))
      refine wpAny_bind (wpAny_letGo (wpAny_pure ?_))
      refine ⟨rfl, _, _, rfl, td ++ [it], tr, vd ++ [v], vr, _, xs ++ [x], rr', by rw [e1, List.append_assoc]; rfl, by rw [e2, List.append_assoc]; rfl, by rw [hrest, List.length_append]; rfl, ?_, ?_, hTO3, (Array.size_setIfInBounds ..).trans sz, ?_, I3, ?_, sz3.trans hzz,
        fun b o h1 h2 e => k3 b o (fun z => h1 (z ▸ hit)) h2 (kk b o h1 h2 e), hn', ?_⟩
      · exact (Zd.grow g3 fun b hb o e => k3 b o (ndl b hb) (fun z => hOi (z ▸ inl b hb)) e).snoc y1h
      · exact Zr.grow g3 fun b hb o e => k3 b o (ndr b hb) (fun z => hOi (z ▸ inr b hb)) e
      · rw [List.length_append]
        show RVs _ _ _ (List.take (td.length + 1) _)
        rw [take_set hj]
        exact (q.mono g3).append (.cons q1' .nil)
      · exact g.trans (Nat.le_of_eq hzz.symm) g3
      · rw [er]
        cases rr' with
        | none => rfl
        | some ys => exact congrArg some (List.append_cons xs x ys)
    · refine wpAny_bind (nextOf_none hA y hx I2 fun k9 e x9 he => ?_)
      obtain ⟨oe, hoe, hce⟩ := he
      have hz9 : IsZip k9 z TI TO .ellipsis := x9.keep _ _ (kk _ _ hzi dTO.symm hz₁) (by simpa using diz.symm)
      have hez : e ≠ z := fun q => by subst q; rw [hz9] at hoe; cases hoe; simp at hce
      refine wpAny_setField_rec hz9 (by simp) fun k10 _ hs10 => ?_
      have x10 : Ext [z] k9 k10 := Ext.same hs10 (zip_imm hz9)
      have I10 : Inv h₀ φ σ k10 := (I2.ext x9 (by simpa using y.low) (by simpa using y.off)).ext x10 (by simpa using zlow) (by simpa using zoff)
      have hsz' := Nat.le_trans x1.size (Nat.le_of_eq hzz.symm)
      have S10 : Step (z :: its) φ φ s.heap k10 :=
        ⟨((x1.grow.trans x1.size g).trans hsz' x9.grow).trans (Nat.le_trans hsz' x9.size) x10.grow, Nat.le_trans (Nat.le_trans hsz' x9.size) x10.size, fun b o e hb ho => by
          simp only [List.mem_cons, not_or] at hb
          exact x10.keep b o (x9.keep b o (kk b o hb.2 (fun q => ho _ hm q.symm) (hs₁.extBut b o hb.1 e)) (by simpa using fun z : b = it => hb.2 (z ▸ hit))) (by simpa using hb.1)⟩
      refine wpAny_bind (wpAny_isInstance (T := "StopIteration") (b := true) ⟨oe, hs10.extBut _ _ hez hoe, hce⟩ isSubtype_stop ?_)
      obtain rfl : r = none := er
      exact wpAny_pure ⟨_, _, rfl, rfl, I10, S10⟩
  · obtain ⟨rfl, H, tk, rfl, td, tr, vd, vr, us', xs, rr, e1, e2, e3, Zd, Zr, T, sz, q, I3, g, hzz, kk, hn, er⟩ := J
    cases Zr with
    | cons => exact nomatch e3
    | nil =>
    obtain rfl : rr = some [] := (Option.some.inj hn).symm
    rw [List.append_nil] at e1 e2
    subst e1 e2
    obtain rfl : r = some xs := er.trans (congrArg some (List.append_nil xs))
    rw [← sz, List.take_of_length_le (Nat.le_of_eq (Array.length_toList ..))] at q
    have h3 : us'.size ≤ 3 := (sz.trans hil) ▸ hlen
    dsimp only
    refine wpAny_bind (wpAny_seqItems T rfl ?_)
    refine wpAny_bind (wpAny_newTuple ?_ (by rw [Array.length_toList]; exact Nat.le_trans h3 (by rw [sizeLine_eq]; decide)))
    have hzs : s.heap.objs.size ≤ H.objs.size := Nat.le_trans x1.size (Nat.le_of_eq hzz.symm)
    have g0 : Grow φ φ s.heap H := x1.grow.trans x1.size g
    have hz₅ : IsZip H z TI TO .ellipsis := kk _ _ hzi dTO.symm hz₁
    have hTI₅ : Tup H TI _ n := kk _ _ hIi dTI (hs₁.extBut _ _ dTz hTI)
    show wpAny _ _ (Builtin.SmallTypes.ownedTupleHandOut (.ref z) (.ref H.objs.size) >>= _) _ _ _
    refine wpAny_bind ?_
    unfold Builtin.SmallTypes.ownedTupleHandOut
    have hz₆ : IsZip (H.push { cls := .type "tuple", data := .seq us'.toList.toArray }) z TI TO .ellipsis := Heap.get?_push_of_some _ hz₅
    refine wpAny_bind (wpAny_setField_rec hz₆ (by simp) fun h₇ hz₇ hs₇ => ?_)
    replace hz₇ : IsZip h₇ z TI TO (rawInt H.objs.size) := hz₇
    refine wpAny_setField_rec hz₇ (by simp) fun h₈ hz₈ hs₈ => ?_
    replace hz₈ : IsZip h₈ z TI TO (rawInt H.objs.size) := hz₈
    have x6 := Ext.push H { cls := .type "tuple", data := .seq us'.toList.toArray }
    have x7 : Ext [z] _ h₇ := Ext.same hs₇ (zip_imm hz₆)
    have x8 : Ext [z] h₇ h₈ := Ext.same hs₈ (zip_imm hz₇)
    have x58 : Ext [z] H h₈ := (x6.nil.trans x7).trans x8
    have hzlt : z < H.objs.size := Heap.lt_size hz₅
    have hT₈ : Tup h₈ H.objs.size us'.toList.toArray 0 := hs₈.extBut _ _ (Nat.ne_of_gt hzlt) (hs₇.extBut _ _ (Nat.ne_of_gt hzlt) (Heap.get?_push_size _ rfl))
    have I8 : Inv h₀ φ σ h₈ := I3.ext x58 (by simpa using zlow) (by simpa using zoff)
    have S08 : Step (z :: its) φ φ s.heap h₈ :=
      ⟨g0.trans hzs x58.grow, Nat.le_trans hzs x58.size, fun b o e hb ho => by
        simp only [List.mem_cons, not_or] at hb
        exact x58.keep b o (kk b o hb.2 (fun q => ho _ hm q.symm) (hs₁.extBut b o hb.1 e)) (by simpa using hb.1)⟩
    exact wpAny_pure ⟨_, rfl, wpAny_pure ⟨h₈, _, rfl, _, rfl, .tup hT₈ (I3.fresh (Nat.le_refl _)) (q.mono x58.grow), I8, S08, own, hz₈, ⟨n, x58.keep _ _ hTI₅ (by simpa using dTz)⟩, tiOff,
      Zd.grow x58.grow fun b hb o e => x58.keep b o e (by simpa using (dits b hb).1), nd, zoff, zlow⟩⟩
end
end Mine
end

section
set_option tactic.hygienic false
namespace Mine
open PySem PyProof.Rows

/-- a source of values under way -/
inductive SrcAt (φ : Phi) (h₀ h : Heap) (z : Addr) (i : Nat) : PI → List Addr → Prop where
  | one {v : PV} : IterAt φ h v z i → (∀ p ∈ φ, p.2 ≠ z) → h₀.objs.size ≤ z → SrcAt φ h₀ h z i (.one v) [z]
  | zip {vs : List PV} {k : Nat} {TI TO : Addr} {its : List Addr} : ZipAt φ h₀ h vs k z .none TI TO its i → vs.length = 2 ∨ vs.length = 3 → SrcAt φ h₀ h z i (.zip vs k) (z :: its)
/-- between a value's coming and the owned tuple's going -/
inductive MidAt (φ : Phi) (h₀ h : Heap) (z : Addr) (i : Nat) (u : Value) : PI → List Addr → Prop where
  | one {v : PV} : IterAt φ h v z i → (∀ p ∈ φ, p.2 ≠ z) → h₀.objs.size ≤ z → MidAt φ h₀ h z i u (.one v) [z]
  | zip {vs : List PV} {k : Nat} {TI TO : Addr} {its : List Addr} {T : Addr} : u = .ref T → ZipAt φ h₀ h vs k z (rawInt T) TI TO its i → vs.length = 2 ∨ vs.length = 3 → MidAt φ h₀ h z i u (.zip vs k) (z :: its)

theorem SrcAt.off {φ : Phi} {h₀ h : Heap} {z : Addr} {i : Nat} {src : PI} {X : List Addr} (x : SrcAt φ h₀ h z i src X) : ∀ a ∈ X, (∀ p ∈ φ, p.2 ≠ a) ∧ h₀.objs.size ≤ a := by
  cases x with
  | one _ h1 h2 => intro a ha; simp at ha; subst ha; exact ⟨h1, h2⟩
  | zip Z _ =>
    intro a ha
    rcases List.mem_cons.mp ha with rfl | ha
    · exact ⟨Z.zoff, Z.zlow⟩
    · obtain ⟨v, y⟩ := Z.zs.mem ha; exact ⟨y.off, y.low⟩
theorem SrcAt.step {φ φ' : Phi} {h₀ h h' : Heap} {z : Addr} {i : Nat} {src : PI} {X Y : List Addr} (x : SrcAt φ h₀ h z i src X) (S : Step Y φ φ' h h') (hX : ∀ b ∈ X, b ∉ Y) : SrcAt φ' h₀ h' z i src X := by
  cases x with
  | one h1 h2 h3 =>
    obtain ⟨o, e, _⟩ := h1.there
    exact .one (h1.step S (hX _ (by simp)) h2) (S.toGrow.off e h2) h3
  | zip Z hl => exact .zip (Z.step S hX) hl

set_option tactic.hygienic true in
theorem isOwn_get {σ : St} {k n : Nat} (h : isOwn σ k n = true) : σ[k]? = some (.own n) := by
  unfold isOwn at h
  split at h
  · rename_i m e; rw [e]; rw [beq_iff_eq.mp h]
  · cases h

noncomputable def isPair : Expr → Bool
  | .Tuple .. => true
  | _ => false
noncomputable def pairFor : PI → Expr → Bool
  | .one _, _ => true
  | .zip _ _, e => isPair e

section
variable {prog : Program} {w : World} {A : Around} {s : Shared} {h₀ : Heap} {φ : Phi} {σ : St}

theorem zips_ne {vs : List PV} (h : vs.length = 2 ∨ vs.length = 3) : vs ≠ [] := by
  rintro rfl
  exact absurd h (by decide)
theorem zips_le {vs : List PV} (h : vs.length = 2 ∨ vs.length = 3) : vs.length ≤ 3 := by omega
theorem next_some {src : PI} {x : PV} {z : Addr} {i : Nat} {X : List Addr} (hA : A.handled = none) (hv : nth σ src i = some (some x)) (I : Inv h₀ φ σ s.heap) (y : SrcAt φ h₀ s.heap z i src X) :
    W prog w A (pyNext (.ref z)) s fun r h' => ∃ u, r = some u ∧ RV φ h' x u ∧ Inv h₀ φ σ h' ∧ Step X φ φ s.heap h' ∧ MidAt φ h₀ h' z (i + 1) u src X := by
  cases y with
  | one h1 h2 h3 =>
    obtain ⟨o, e, ni⟩ := h1.there
    refine (pyNext_some hv I h1 h2).mono ?_
    rintro r h' ⟨u, hr, q, hs, y'⟩
    have x1 : Ext [z] s.heap h' := Ext.same hs fun o' e' => by rw [e] at e'; cases e'; exact ni
    exact ⟨u, hr, q, I.ext x1 (by simpa using h3) (by simpa using h2), x1.step, .one y' h2 h3⟩
  | @zip vs k TI TO its Z hl =>
    simp only [nth] at hv
    split at hv
    · rename_i ho
      have hσ := isOwn_get ho
      cases e : nths σ i vs with
      | none => rw [e] at hv; exact nomatch hv
      | some o =>
        rw [e] at hv
        cases o with
        | none => exact nomatch hv
        | some xs =>
          obtain rfl := Option.some.inj (Option.some.inj hv)
          refine (zip_next hA (zips_ne hl) (zips_le hl) hσ e I Z).mono fun r h' x => ?_
          obtain ⟨T, rfl, q, I', S', Z'⟩ := x
          exact ⟨_, rfl, q, I', S', .zip rfl Z' hl⟩
    · exact nomatch hv

theorem next_none {src : PI} {z : Addr} {i : Nat} {X : List Addr} (hA : A.handled = none) (hv : nth σ src i = some none) (I : Inv h₀ φ σ s.heap) (y : SrcAt φ h₀ s.heap z i src X) :
    W prog w A (pyNext (.ref z)) s fun r h' => r = none ∧ Inv h₀ φ σ h' ∧ Step X φ φ s.heap h' := by
  cases y with
  | one h1 h2 h3 =>
    refine (pyNext_none hA hv I h1).mono ?_
    rintro r h' ⟨hr, x1⟩
    exact ⟨hr, I.ext x1 (by simpa using h3) (by simpa using h2), x1.step⟩
  | @zip vs k TI TO its Z hl =>
    simp only [nth] at hv
    split at hv
    · rename_i ho
      have hσ := isOwn_get ho
      cases e : nths σ i vs with
      | none => rw [e] at hv; exact nomatch hv
      | some o =>
        rw [e] at hv
        cases o with
        | none => exact zip_next hA (zips_ne hl) (zips_le hl) hσ e I Z
        | some xs => exact nomatch hv
    · exact nomatch hv

theorem go_iter {target : Expr} {v : PV} {z : Addr} {i : Nat} {u : Value} (y : IterAt φ s.heap v z i) : W prog w A (letOwnedTupleGo target (.ref z) u) s fun _ h' => h' = s.heap := by
  obtain ⟨o, e, vs, hd, n, hc, hn⟩ : ∃ o, s.heap.get? z = some o ∧ ∃ vs, o.data = .fields vs ∧ ∃ n, o.cls = .type n ∧ (["enumerate", "zip", "dict_itemiterator", "dict_reverseitemiterator", "odict_iterator", "itertools.zip_longest", "itertools.pairwise"].contains n) = false := by
    cases y with
    | str q hk _ =>
      obtain ⟨o, g, c, d⟩ := q
      refine ⟨o, g, _, d, _, c, ?_⟩
      rcases hk with rfl | rfl <;> decide +kernel
    | tup q => obtain ⟨o, g, c, d⟩ := q; exact ⟨o, g, _, d, _, c, by decide +kernel⟩
    | lst q => obtain ⟨o, g, c, d⟩ := q; exact ⟨o, g, _, d, _, c, by decide +kernel⟩
    | range q => exact ⟨_, q, _, rfl, _, rfl, by decide +kernel⟩
  have tail : ∀ a : Addr, W prog w A (load z >>= fun o => match o.cls, o.data with
      | .type n, .fields vs =>
        if ["enumerate", "zip", "dict_itemiterator", "dict_reverseitemiterator", "odict_iterator", "itertools.zip_longest", "itertools.pairwise"].contains n && vs[0]? == some (rawInt a) then
          (rule "for.unpacks-the-owned-tuple" >>= fun _ => updateField z 0 .none)
        else pure ()
      | _, _ => pure ()) s fun _ h' => h' = s.heap := fun a => by
    refine wpAny_bind (wpAny_load e ?_)
    rw [hc, hd]
    dsimp only
    rw [hn, Bool.false_and]
    exact wpAny_pure ⟨_, _, rfl, rfl⟩
  cases target with
  | Tuple =>
    cases u with
    | ref a => exact tail a
    | _ => exact wpAny_pure ⟨_, _, rfl, rfl⟩
  | List =>
    cases u with
    | ref a => exact tail a
    | _ => exact wpAny_pure ⟨_, _, rfl, rfl⟩
  | _ => exact wpAny_pure ⟨_, _, rfl, rfl⟩

theorem go_sound {target : Expr} {src : PI} {z : Addr} {i : Nat} {u : Value} {X : List Addr} (y : MidAt φ h₀ s.heap z i u src X) (ht : pairFor src target = true) (I : Inv h₀ φ σ s.heap) :
    W prog w A (letOwnedTupleGo target (.ref z) u) s fun _ h' => Inv h₀ φ σ h' ∧ Step X φ φ s.heap h' ∧ SrcAt φ h₀ h' z i src X := by
  cases y with
  | one h1 h2 h3 => exact (go_iter h1).mono fun _ h' e => by subst e; exact ⟨I, Step.refl _ _ _, .one h1 h2 h3⟩
  | @zip vs k TI TO its T hu Z hl =>
    subst hu
    cases target with
    | Tuple elts c pos =>
      refine wpAny_letOwnedTupleGo_zip Z.rec_ fun h' hz' hs' => ⟨_, _, rfl, ?_⟩
      have x1 : Ext [z] s.heap h' := Ext.same hs' (zip_imm Z.rec_)
      obtain ⟨_, _, dz, dits⟩ := Z.apart
      obtain ⟨n, hn⟩ := Z.ti
      exact ⟨I.ext x1 (by simpa using Z.zlow) (by simpa using Z.zoff), (x1.more (by simp)).step,
        .zip ⟨Z.own, hz', ⟨n, x1.keep _ _ hn (by simpa using dz)⟩, Z.tiOff, Z.zs.grow x1.grow fun it hi o e => x1.keep _ o e (by simpa using (dits it hi).1), Z.nd, Z.zoff, Z.zlow⟩ hl⟩
    | _ => cases ht
end
end Mine
end

section
set_option tactic.hygienic false
namespace Mine
open PySem PyProof.Rows

/-- what iter makes of a value, at any later heap -/
noncomputable def IterObj (prog : Program) (w : World) (φ : Phi) (h : Heap) (v : PV) (u : Value) (o : Obj) : Prop :=
  o.isFreed = false ∧ 
  (∀ (A : Around) (E : Value → Shared → Prop) (s : Shared) (Q : Value → Shared → Prop), (∀ b ob, h.get? b = some ob → s.heap.get? b = some ob) → Q (.ref s.heap.objs.size) { s with heap := s.heap.push o } → wpAny (model prog w) A (pyIter u) Q E s) ∧
  ∀ φ' h' it, φ <+: φ' → h'.get? it = some o → IterAt φ' h' v it 0

section
variable {prog : Program} {w : World} {A : Around} {s : Shared} {h₀ : Heap} {φ : Phi} {σ : St}

set_option tactic.hygienic true in
theorem iterObj {h : Heap} {v : PV} {u : Value} (hz : zipable v = true) (hv : (nth1 σ v 0).isSome = true) (I : Inv h₀ φ σ h) (q : RV φ h v u) : ∃ o, IterObj prog w φ h v u o := by
  cases q with
  | str hs t =>
    refine ⟨_, rfl, fun A E s Q _ hq => wpAny_pyIter_strU hq, fun φ' h' it _ e => .str (kind := strIterType _) ⟨_, e, rfl, rfl⟩ ?_ hs⟩
    unfold strIterType; split <;> simp
  | obj e =>
    simp only [nth1] at hv
    split at hv
    · rename_i xs hl
      obtain ⟨a, us, k', hu, hi, hz', g, r⟩ := list_at hl I (.obj e)
      rw [hu]
      exact ⟨_, rfl, fun A E s Q k hq => wpAny_pyIter_list (items := us.toArray) ⟨_, k _ _ g, rfl, _, rfl⟩ hq, fun φ' h' it he e => .lst ⟨_, e, rfl, rfl⟩ (by
        obtain ⟨ψ, rfl⟩ := he
        rw [List.getElem?_append_left (List.getElem?_eq_some_iff.mp hi).1]; exact hi)⟩
    · cases hv
  | _ => cases hz

theorem typeCall_zip_3 (a b c : Value) : checkTypeCall "zip" ⟨[a, b, c], []⟩ = pure () := by kernel_rfl
theorem newCall_zip_3 (a b c : Value) : checkBuiltinCall "zip.__new__" ⟨[.type "zip", a, b, c], []⟩ = pure () := by kernel_rfl
theorem args_object_init_4 (a b c d : Value) : argsOk "object.__init__" ⟨[a, b, c, d], []⟩ := by
  unfold argsOk; rw [signature?_of (id := "object.__init__") (n := ['_', '_', 't', 'i', 'n', 'i', '_', '_']) (o := ['t', 'c', 'e', 'j', 'b', 'o']) (by kernel_rfl) PySem.F.owner_object]; kernel_rfl

noncomputable abbrev zh2 (h : Heap) (o1 o2 : Obj) : Heap := ((((h.push o1).push o2).push { cls := .type "tuple", data := .seq #[.ref h.objs.size, .ref (h.push o1).objs.size] }).push { cls := .type "tuple", data := .seq #[.none, .none] })
noncomputable abbrev zh3 (h : Heap) (o1 o2 o3 : Obj) : Heap := (((((h.push o1).push o2).push o3).push { cls := .type "tuple", data := .seq #[.ref h.objs.size, .ref (h.push o1).objs.size, .ref ((h.push o1).push o2).objs.size] }).push { cls := .type "tuple", data := .seq #[.none, .none, .none] })

theorem push_keep (h : Heap) (o : Obj) : ∀ b ob, h.get? b = some ob → (h.push o).get? b = some ob := fun _ _ e => Heap.get?_push_of_some _ e

theorem meets_zip2 {h : Heap} {v1 v2 : PV} {u1 u2 : Value} {o1 o2 : Obj} (H1 : IterObj prog w φ h v1 u1 o1) (H2 : IterObj prog w φ h v2 u2 o2) :
    MeetsIn prog w (Builtin.«zip.__new__» ⟨[.type "zip", u1, u2], []⟩) (fun _ R s => s.heap = h ∧
      R (.ok (.ret (.ref (zh2 h o1 o2).objs.size))) { s with heap := (zh2 h o1 o2).push { cls := .type "zip", data := .fields #[.none, .bool false, .bool false, .ref ((h.push o1).push o2).objs.size, .ref (((h.push o1).push o2).push { cls := .type "tuple", data := .seq #[.ref h.objs.size, .ref (h.push o1).objs.size] }).objs.size] } }) :=
  .of_wp fun A R s hh => by
    obtain ⟨hp, g, d, tk, os⟩ := s; obtain ⟨e, hh⟩ := hh
    dsimp only at e hh
    subst e
    have hsub := PySem.sub_zip
    have P1 : ∀ {A : Around} {E : Value → Shared → Prop} {Q : Value → Shared → Prop}, Q (.ref hp.objs.size) ⟨hp.push o1, g, d, tk, os⟩ → wpAny (model prog w) A (pyIter u1) Q E ⟨hp, g, d, tk, os⟩ :=
      fun {A E Q} hq => H1.2.1 A E ⟨hp, g, d, tk, os⟩ Q (fun _ _ e => e) hq
    have P2 : ∀ {A : Around} {E : Value → Shared → Prop} {Q : Value → Shared → Prop}, Q (.ref (hp.push o1).objs.size) ⟨(hp.push o1).push o2, g, d, tk, os⟩ → wpAny (model prog w) A (pyIter u2) Q E ⟨hp.push o1, g, d, tk, os⟩ :=
      fun {A E Q} hq => H2.2.1 A E ⟨hp.push o1, g, d, tk, os⟩ Q (push_keep _ _) hq
    wp_walk using P1, P2
    exact ⟨_, rfl, hh⟩
theorem meets_zip3 {h : Heap} {v1 v2 v3 : PV} {u1 u2 u3 : Value} {o1 o2 o3 : Obj} (H1 : IterObj prog w φ h v1 u1 o1) (H2 : IterObj prog w φ h v2 u2 o2) (H3 : IterObj prog w φ h v3 u3 o3) :
    MeetsIn prog w (Builtin.«zip.__new__» ⟨[.type "zip", u1, u2, u3], []⟩) (fun _ R s => s.heap = h ∧
      R (.ok (.ret (.ref (zh3 h o1 o2 o3).objs.size))) { s with heap := (zh3 h o1 o2 o3).push { cls := .type "zip", data := .fields #[.none, .bool false, .bool false, .ref (((h.push o1).push o2).push o3).objs.size, .ref ((((h.push o1).push o2).push o3).push { cls := .type "tuple", data := .seq #[.ref h.objs.size, .ref (h.push o1).objs.size, .ref ((h.push o1).push o2).objs.size] }).objs.size] } }) :=
  .of_wp fun A R s hh => by
    obtain ⟨hp, g, d, tk, os⟩ := s; obtain ⟨e, hh⟩ := hh
    dsimp only at e hh
    subst e
    have hsub := PySem.sub_zip
    have P1 : ∀ {A : Around} {E : Value → Shared → Prop} {Q : Value → Shared → Prop}, Q (.ref hp.objs.size) ⟨hp.push o1, g, d, tk, os⟩ → wpAny (model prog w) A (pyIter u1) Q E ⟨hp, g, d, tk, os⟩ :=
      fun {A E Q} hq => H1.2.1 A E ⟨hp, g, d, tk, os⟩ Q (fun _ _ e => e) hq
    have P2 : ∀ {A : Around} {E : Value → Shared → Prop} {Q : Value → Shared → Prop}, Q (.ref (hp.push o1).objs.size) ⟨(hp.push o1).push o2, g, d, tk, os⟩ → wpAny (model prog w) A (pyIter u2) Q E ⟨hp.push o1, g, d, tk, os⟩ :=
      fun {A E Q} hq => H2.2.1 A E ⟨hp.push o1, g, d, tk, os⟩ Q (push_keep _ _) hq
    have P3 : ∀ {A : Around} {E : Value → Shared → Prop} {Q : Value → Shared → Prop}, Q (.ref ((hp.push o1).push o2).objs.size) ⟨((hp.push o1).push o2).push o3, g, d, tk, os⟩ → wpAny (model prog w) A (pyIter u3) Q E ⟨(hp.push o1).push o2, g, d, tk, os⟩ :=
      fun {A E Q} hq => H3.2.1 A E ⟨(hp.push o1).push o2, g, d, tk, os⟩ Q (fun _ _ e => push_keep _ _ _ _ (push_keep _ _ _ _ e)) hq
    wp_walk using P1, P2, P3
    exact ⟨_, rfl, hh⟩

theorem nodup2 {a b : Nat} (h : a < b) : ([a, b] : List Addr).Nodup := by
  have : a ≠ b := by omega
  simp [this]
theorem nodup3 {a b c : Nat} (h : a < b) (h' : b < c) : ([a, b, c] : List Addr).Nodup := by
  have h1 : a ≠ b := by omega
  have h2 : a ≠ c := by omega
  have h3 : b ≠ c := by omega
  simp [h1, h2, h3]
theorem Ext.pushes {h h' : Heap} (x : Ext [] h h') (o : Obj) : Ext [] h (h'.push o) := x.trans (Ext.push h' o)

theorem zip2_make {v1 v2 : PV} {u1 u2 : Value} (z1 : zipable v1 = true) (n1 : (nth1 σ v1 0).isSome = true) (z2 : zipable v2 = true) (n2 : (nth1 σ v2 0).isSome = true) (I : Inv h₀ φ σ s.heap) (q1 : RV φ s.heap v1 u1) (q2 : RV φ s.heap v2 u2) :
    W prog w A (call (.type "zip") [u1, u2]) s fun u h' => ∃ z X φ', u = .ref z ∧ Step [] φ φ' s.heap h' ∧ Inv h₀ φ' (σ ++ [.own 2]) h' ∧ SrcAt φ' h₀ h' z 0 (.zip [v1, v2] σ.length) X ∧ ∀ a ∈ X, s.heap.objs.size ≤ a := by
  obtain ⟨o1, H1⟩ := iterObj (prog := prog) (w := w) z1 n1 I q1
  obtain ⟨o2, H2⟩ := iterObj (prog := prog) (w := w) z2 n2 I q2
  refine callType_newIn PySem.F.called_zip (by decide) (PySem.F.typeCall_zip_2 _ _) (PySem.F.newCall_zip_2 _ _) (fun obj => PySem.F.args_object_init_3 obj _ _) PySem.F.entry_zip_new (meets_zip2 H1 H2) ⟨rfl, ?_⟩
  have sz1 : (s.heap.push o1).objs.size = s.heap.objs.size + 1 := by rw [Heap.size_push]
  have sz2 : ((s.heap.push o1).push o2).objs.size = s.heap.objs.size + 2 := by rw [Heap.size_push, sz1]
  have szT : (((s.heap.push o1).push o2).push { cls := .type "tuple", data := .seq #[.ref s.heap.objs.size, .ref (s.heap.push o1).objs.size] }).objs.size = s.heap.objs.size + 3 := by rw [Heap.size_push, sz2]
  have szP : ((((s.heap.push o1).push o2).push { cls := .type "tuple", data := .seq #[.ref s.heap.objs.size, .ref (s.heap.push o1).objs.size] }).push { cls := .type "tuple", data := .seq #[.none, .none] }).objs.size = s.heap.objs.size + 4 := by rw [Heap.size_push, szT]
  have x5 : Ext [] s.heap (((((s.heap.push o1).push o2).push { cls := .type "tuple", data := .seq #[.ref s.heap.objs.size, .ref (s.heap.push o1).objs.size] }).push { cls := .type "tuple", data := .seq #[.none, .none] }).push { cls := .type "zip", data := .fields #[.none, .bool false, .bool false, .ref ((s.heap.push o1).push o2).objs.size, .ref (((s.heap.push o1).push o2).push { cls := .type "tuple", data := .seq #[.ref s.heap.objs.size, .ref (s.heap.push o1).objs.size] }).objs.size] }) := ((((Ext.push s.heap o1).pushes o2).pushes _).pushes _).pushes _
  have e1 : (((((s.heap.push o1).push o2).push { cls := .type "tuple", data := .seq #[.ref s.heap.objs.size, .ref (s.heap.push o1).objs.size] }).push { cls := .type "tuple", data := .seq #[.none, .none] }).push { cls := .type "zip", data := .fields #[.none, .bool false, .bool false, .ref ((s.heap.push o1).push o2).objs.size, .ref (((s.heap.push o1).push o2).push { cls := .type "tuple", data := .seq #[.ref s.heap.objs.size, .ref (s.heap.push o1).objs.size] }).objs.size] }).get? s.heap.objs.size = some o1 := push_keep _ _ _ _ (push_keep _ _ _ _ (push_keep _ _ _ _ (push_keep _ _ _ _ (Heap.get?_push_size _ H1.1))))
  have e2 : (((((s.heap.push o1).push o2).push { cls := .type "tuple", data := .seq #[.ref s.heap.objs.size, .ref (s.heap.push o1).objs.size] }).push { cls := .type "tuple", data := .seq #[.none, .none] }).push { cls := .type "zip", data := .fields #[.none, .bool false, .bool false, .ref ((s.heap.push o1).push o2).objs.size, .ref (((s.heap.push o1).push o2).push { cls := .type "tuple", data := .seq #[.ref s.heap.objs.size, .ref (s.heap.push o1).objs.size] }).objs.size] }).get? (s.heap.push o1).objs.size = some o2 := push_keep _ _ _ _ (push_keep _ _ _ _ (push_keep _ _ _ _ (Heap.get?_push_size _ H2.1)))
  have eT : Tup (((((s.heap.push o1).push o2).push { cls := .type "tuple", data := .seq #[.ref s.heap.objs.size, .ref (s.heap.push o1).objs.size] }).push { cls := .type "tuple", data := .seq #[.none, .none] }).push { cls := .type "zip", data := .fields #[.none, .bool false, .bool false, .ref ((s.heap.push o1).push o2).objs.size, .ref (((s.heap.push o1).push o2).push { cls := .type "tuple", data := .seq #[.ref s.heap.objs.size, .ref (s.heap.push o1).objs.size] }).objs.size] }) ((s.heap.push o1).push o2).objs.size #[.ref s.heap.objs.size, .ref (s.heap.push o1).objs.size] 0 := push_keep _ _ _ _ (push_keep _ _ _ _ (Heap.get?_push_size _ rfl))
  have eP : Tup (((((s.heap.push o1).push o2).push { cls := .type "tuple", data := .seq #[.ref s.heap.objs.size, .ref (s.heap.push o1).objs.size] }).push { cls := .type "tuple", data := .seq #[.none, .none] }).push { cls := .type "zip", data := .fields #[.none, .bool false, .bool false, .ref ((s.heap.push o1).push o2).objs.size, .ref (((s.heap.push o1).push o2).push { cls := .type "tuple", data := .seq #[.ref s.heap.objs.size, .ref (s.heap.push o1).objs.size] }).objs.size] }) (((s.heap.push o1).push o2).push { cls := .type "tuple", data := .seq #[.ref s.heap.objs.size, .ref (s.heap.push o1).objs.size] }).objs.size #[.none, .none] 0 := push_keep _ _ _ _ (Heap.get?_push_size _ rfl)
  have eZ : IsZip (((((s.heap.push o1).push o2).push { cls := .type "tuple", data := .seq #[.ref s.heap.objs.size, .ref (s.heap.push o1).objs.size] }).push { cls := .type "tuple", data := .seq #[.none, .none] }).push { cls := .type "zip", data := .fields #[.none, .bool false, .bool false, .ref ((s.heap.push o1).push o2).objs.size, .ref (((s.heap.push o1).push o2).push { cls := .type "tuple", data := .seq #[.ref s.heap.objs.size, .ref (s.heap.push o1).objs.size] }).objs.size] }) ((((s.heap.push o1).push o2).push { cls := .type "tuple", data := .seq #[.ref s.heap.objs.size, .ref (s.heap.push o1).objs.size] }).push { cls := .type "tuple", data := .seq #[.none, .none] }).objs.size ((s.heap.push o1).push o2).objs.size (((s.heap.push o1).push o2).push { cls := .type "tuple", data := .seq #[.ref s.heap.objs.size, .ref (s.heap.push o1).objs.size] }).objs.size .none := Heap.get?_push_size _ rfl
  obtain ⟨I', S'⟩ := I.alloc x5 (p := ((((s.heap.push o1).push o2).push { cls := .type "tuple", data := .seq #[.ref s.heap.objs.size, .ref (s.heap.push o1).objs.size] }).objs.size, (((s.heap.push o1).push o2).push { cls := .type "tuple", data := .seq #[.ref s.heap.objs.size, .ref (s.heap.push o1).objs.size] }).objs.size)) (by rw [szT]; exact Nat.le_add_right _ _) (c := .own 2) ⟨rfl, _, _, eP, rfl⟩
  have off : ∀ a, s.heap.objs.size ≤ a → a ≠ (((s.heap.push o1).push o2).push { cls := .type "tuple", data := .seq #[.ref s.heap.objs.size, .ref (s.heap.push o1).objs.size] }).objs.size → ∀ p ∈ φ ++ [((((s.heap.push o1).push o2).push { cls := .type "tuple", data := .seq #[.ref s.heap.objs.size, .ref (s.heap.push o1).objs.size] }).objs.size, (((s.heap.push o1).push o2).push { cls := .type "tuple", data := .seq #[.ref s.heap.objs.size, .ref (s.heap.push o1).objs.size] }).objs.size)], p.2 ≠ a := fun a ha hne p hp => by
    rcases List.mem_append.mp hp with q | q
    · exact I.fresh ha p q
    · simp only [List.mem_singleton] at q; subst q; exact Ne.symm hne
  have lo : h₀.objs.size ≤ s.heap.objs.size := I.sz
  have mk1 : Its (φ ++ [((((s.heap.push o1).push o2).push { cls := .type "tuple", data := .seq #[.ref s.heap.objs.size, .ref (s.heap.push o1).objs.size] }).objs.size, (((s.heap.push o1).push o2).push { cls := .type "tuple", data := .seq #[.ref s.heap.objs.size, .ref (s.heap.push o1).objs.size] }).objs.size)]) h₀ (((((s.heap.push o1).push o2).push { cls := .type "tuple", data := .seq #[.ref s.heap.objs.size, .ref (s.heap.push o1).objs.size] }).push { cls := .type "tuple", data := .seq #[.none, .none] }).push { cls := .type "zip", data := .fields #[.none, .bool false, .bool false, .ref ((s.heap.push o1).push o2).objs.size, .ref (((s.heap.push o1).push o2).push { cls := .type "tuple", data := .seq #[.ref s.heap.objs.size, .ref (s.heap.push o1).objs.size] }).objs.size] }) 0 v1 s.heap.objs.size := ⟨H1.2.2 _ _ _ ⟨_, rfl⟩ e1, z1, off _ (by omega) (by omega), by omega⟩
  have mk2 : Its (φ ++ [((((s.heap.push o1).push o2).push { cls := .type "tuple", data := .seq #[.ref s.heap.objs.size, .ref (s.heap.push o1).objs.size] }).objs.size, (((s.heap.push o1).push o2).push { cls := .type "tuple", data := .seq #[.ref s.heap.objs.size, .ref (s.heap.push o1).objs.size] }).objs.size)]) h₀ (((((s.heap.push o1).push o2).push { cls := .type "tuple", data := .seq #[.ref s.heap.objs.size, .ref (s.heap.push o1).objs.size] }).push { cls := .type "tuple", data := .seq #[.none, .none] }).push { cls := .type "zip", data := .fields #[.none, .bool false, .bool false, .ref ((s.heap.push o1).push o2).objs.size, .ref (((s.heap.push o1).push o2).push { cls := .type "tuple", data := .seq #[.ref s.heap.objs.size, .ref (s.heap.push o1).objs.size] }).objs.size] }) 0 v2 (s.heap.push o1).objs.size := ⟨H2.2.2 _ _ _ ⟨_, rfl⟩ e2, z2, off _ (by omega) (by omega), by omega⟩
  refine ⟨⟨_, eZ, rfl⟩, _, _, rfl, ((((s.heap.push o1).push o2).push { cls := .type "tuple", data := .seq #[.ref s.heap.objs.size, .ref (s.heap.push o1).objs.size] }).push { cls := .type "tuple", data := .seq #[.none, .none] }).objs.size, _, _, rfl, S', I', .zip (its := [s.heap.objs.size, (s.heap.push o1).objs.size]) ⟨?_, eZ, ⟨0, eT⟩, off _ (by omega) (by omega), .cons mk1 (.cons mk2 .nil), ?_, off _ (by omega) (by omega), by omega⟩ (.inl rfl), ?_⟩
  · rw [← I.len]; simp
  · exact nodup2 (by omega)
  · intro a ha
    simp only [List.mem_cons, List.not_mem_nil, or_false] at ha
    have ha' : ∀ b : Nat, a = b → s.heap.objs.size ≤ b → s.heap.objs.size ≤ a := fun b e hb => e ▸ hb
    rcases ha with q | q | q <;> exact ha' _ q (by omega)

theorem zip3_make {v1 v2 v3 : PV} {u1 u2 u3 : Value} (z1 : zipable v1 = true) (n1 : (nth1 σ v1 0).isSome = true) (z2 : zipable v2 = true) (n2 : (nth1 σ v2 0).isSome = true) (z3 : zipable v3 = true) (n3 : (nth1 σ v3 0).isSome = true) (I : Inv h₀ φ σ s.heap) (q1 : RV φ s.heap v1 u1) (q2 : RV φ s.heap v2 u2) (q3 : RV φ s.heap v3 u3) :
    W prog w A (call (.type "zip") [u1, u2, u3]) s fun u h' => ∃ z X φ', u = .ref z ∧ Step [] φ φ' s.heap h' ∧ Inv h₀ φ' (σ ++ [.own 3]) h' ∧ SrcAt φ' h₀ h' z 0 (.zip [v1, v2, v3] σ.length) X ∧ ∀ a ∈ X, s.heap.objs.size ≤ a := by
  obtain ⟨o1, H1⟩ := iterObj (prog := prog) (w := w) z1 n1 I q1
  obtain ⟨o2, H2⟩ := iterObj (prog := prog) (w := w) z2 n2 I q2
  obtain ⟨o3, H3⟩ := iterObj (prog := prog) (w := w) z3 n3 I q3
  refine callType_newIn PySem.F.called_zip (by decide) (typeCall_zip_3 _ _ _) (newCall_zip_3 _ _ _) (fun obj => args_object_init_4 obj _ _ _) PySem.F.entry_zip_new (meets_zip3 H1 H2 H3) ⟨rfl, ?_⟩
  have sz1 : (s.heap.push o1).objs.size = s.heap.objs.size + 1 := by rw [Heap.size_push]
  have sz2 : ((s.heap.push o1).push o2).objs.size = s.heap.objs.size + 2 := by rw [Heap.size_push, sz1]
  have sz3 : (((s.heap.push o1).push o2).push o3).objs.size = s.heap.objs.size + 3 := by rw [Heap.size_push, sz2]
  have szT : ((((s.heap.push o1).push o2).push o3).push { cls := .type "tuple", data := .seq #[.ref s.heap.objs.size, .ref (s.heap.push o1).objs.size, .ref ((s.heap.push o1).push o2).objs.size] }).objs.size = s.heap.objs.size + 4 := by rw [Heap.size_push, sz3]
  have szP : (((((s.heap.push o1).push o2).push o3).push { cls := .type "tuple", data := .seq #[.ref s.heap.objs.size, .ref (s.heap.push o1).objs.size, .ref ((s.heap.push o1).push o2).objs.size] }).push { cls := .type "tuple", data := .seq #[.none, .none, .none] }).objs.size = s.heap.objs.size + 5 := by rw [Heap.size_push, szT]
  have x5 : Ext [] s.heap ((((((s.heap.push o1).push o2).push o3).push { cls := .type "tuple", data := .seq #[.ref s.heap.objs.size, .ref (s.heap.push o1).objs.size, .ref ((s.heap.push o1).push o2).objs.size] }).push { cls := .type "tuple", data := .seq #[.none, .none, .none] }).push { cls := .type "zip", data := .fields #[.none, .bool false, .bool false, .ref (((s.heap.push o1).push o2).push o3).objs.size, .ref ((((s.heap.push o1).push o2).push o3).push { cls := .type "tuple", data := .seq #[.ref s.heap.objs.size, .ref (s.heap.push o1).objs.size, .ref ((s.heap.push o1).push o2).objs.size] }).objs.size] }) := (((((Ext.push s.heap o1).pushes o2).pushes o3).pushes _).pushes _).pushes _
  have e1 : ((((((s.heap.push o1).push o2).push o3).push { cls := .type "tuple", data := .seq #[.ref s.heap.objs.size, .ref (s.heap.push o1).objs.size, .ref ((s.heap.push o1).push o2).objs.size] }).push { cls := .type "tuple", data := .seq #[.none, .none, .none] }).push { cls := .type "zip", data := .fields #[.none, .bool false, .bool false, .ref (((s.heap.push o1).push o2).push o3).objs.size, .ref ((((s.heap.push o1).push o2).push o3).push { cls := .type "tuple", data := .seq #[.ref s.heap.objs.size, .ref (s.heap.push o1).objs.size, .ref ((s.heap.push o1).push o2).objs.size] }).objs.size] }).get? s.heap.objs.size = some o1 := push_keep _ _ _ _ (push_keep _ _ _ _ (push_keep _ _ _ _ (push_keep _ _ _ _ (push_keep _ _ _ _ (Heap.get?_push_size _ H1.1)))))
  have e2 : ((((((s.heap.push o1).push o2).push o3).push { cls := .type "tuple", data := .seq #[.ref s.heap.objs.size, .ref (s.heap.push o1).objs.size, .ref ((s.heap.push o1).push o2).objs.size] }).push { cls := .type "tuple", data := .seq #[.none, .none, .none] }).push { cls := .type "zip", data := .fields #[.none, .bool false, .bool false, .ref (((s.heap.push o1).push o2).push o3).objs.size, .ref ((((s.heap.push o1).push o2).push o3).push { cls := .type "tuple", data := .seq #[.ref s.heap.objs.size, .ref (s.heap.push o1).objs.size, .ref ((s.heap.push o1).push o2).objs.size] }).objs.size] }).get? (s.heap.push o1).objs.size = some o2 := push_keep _ _ _ _ (push_keep _ _ _ _ (push_keep _ _ _ _ (push_keep _ _ _ _ (Heap.get?_push_size _ H2.1))))
  have e3 : ((((((s.heap.push o1).push o2).push o3).push { cls := .type "tuple", data := .seq #[.ref s.heap.objs.size, .ref (s.heap.push o1).objs.size, .ref ((s.heap.push o1).push o2).objs.size] }).push { cls := .type "tuple", data := .seq #[.none, .none, .none] }).push { cls := .type "zip", data := .fields #[.none, .bool false, .bool false, .ref (((s.heap.push o1).push o2).push o3).objs.size, .ref ((((s.heap.push o1).push o2).push o3).push { cls := .type "tuple", data := .seq #[.ref s.heap.objs.size, .ref (s.heap.push o1).objs.size, .ref ((s.heap.push o1).push o2).objs.size] }).objs.size] }).get? ((s.heap.push o1).push o2).objs.size = some o3 := push_keep _ _ _ _ (push_keep _ _ _ _ (push_keep _ _ _ _ (Heap.get?_push_size _ H3.1)))
  have eT : Tup ((((((s.heap.push o1).push o2).push o3).push { cls := .type "tuple", data := .seq #[.ref s.heap.objs.size, .ref (s.heap.push o1).objs.size, .ref ((s.heap.push o1).push o2).objs.size] }).push { cls := .type "tuple", data := .seq #[.none, .none, .none] }).push { cls := .type "zip", data := .fields #[.none, .bool false, .bool false, .ref (((s.heap.push o1).push o2).push o3).objs.size, .ref ((((s.heap.push o1).push o2).push o3).push { cls := .type "tuple", data := .seq #[.ref s.heap.objs.size, .ref (s.heap.push o1).objs.size, .ref ((s.heap.push o1).push o2).objs.size] }).objs.size] }) (((s.heap.push o1).push o2).push o3).objs.size #[.ref s.heap.objs.size, .ref (s.heap.push o1).objs.size, .ref ((s.heap.push o1).push o2).objs.size] 0 := push_keep _ _ _ _ (push_keep _ _ _ _ (Heap.get?_push_size _ rfl))
  have eP : Tup ((((((s.heap.push o1).push o2).push o3).push { cls := .type "tuple", data := .seq #[.ref s.heap.objs.size, .ref (s.heap.push o1).objs.size, .ref ((s.heap.push o1).push o2).objs.size] }).push { cls := .type "tuple", data := .seq #[.none, .none, .none] }).push { cls := .type "zip", data := .fields #[.none, .bool false, .bool false, .ref (((s.heap.push o1).push o2).push o3).objs.size, .ref ((((s.heap.push o1).push o2).push o3).push { cls := .type "tuple", data := .seq #[.ref s.heap.objs.size, .ref (s.heap.push o1).objs.size, .ref ((s.heap.push o1).push o2).objs.size] }).objs.size] }) ((((s.heap.push o1).push o2).push o3).push { cls := .type "tuple", data := .seq #[.ref s.heap.objs.size, .ref (s.heap.push o1).objs.size, .ref ((s.heap.push o1).push o2).objs.size] }).objs.size #[.none, .none, .none] 0 := push_keep _ _ _ _ (Heap.get?_push_size _ rfl)
  have eZ : IsZip ((((((s.heap.push o1).push o2).push o3).push { cls := .type "tuple", data := .seq #[.ref s.heap.objs.size, .ref (s.heap.push o1).objs.size, .ref ((s.heap.push o1).push o2).objs.size] }).push { cls := .type "tuple", data := .seq #[.none, .none, .none] }).push { cls := .type "zip", data := .fields #[.none, .bool false, .bool false, .ref (((s.heap.push o1).push o2).push o3).objs.size, .ref ((((s.heap.push o1).push o2).push o3).push { cls := .type "tuple", data := .seq #[.ref s.heap.objs.size, .ref (s.heap.push o1).objs.size, .ref ((s.heap.push o1).push o2).objs.size] }).objs.size] }) (((((s.heap.push o1).push o2).push o3).push { cls := .type "tuple", data := .seq #[.ref s.heap.objs.size, .ref (s.heap.push o1).objs.size, .ref ((s.heap.push o1).push o2).objs.size] }).push { cls := .type "tuple", data := .seq #[.none, .none, .none] }).objs.size (((s.heap.push o1).push o2).push o3).objs.size ((((s.heap.push o1).push o2).push o3).push { cls := .type "tuple", data := .seq #[.ref s.heap.objs.size, .ref (s.heap.push o1).objs.size, .ref ((s.heap.push o1).push o2).objs.size] }).objs.size .none := Heap.get?_push_size _ rfl
  obtain ⟨I', S'⟩ := I.alloc x5 (p := (((((s.heap.push o1).push o2).push o3).push { cls := .type "tuple", data := .seq #[.ref s.heap.objs.size, .ref (s.heap.push o1).objs.size, .ref ((s.heap.push o1).push o2).objs.size] }).objs.size, ((((s.heap.push o1).push o2).push o3).push { cls := .type "tuple", data := .seq #[.ref s.heap.objs.size, .ref (s.heap.push o1).objs.size, .ref ((s.heap.push o1).push o2).objs.size] }).objs.size)) (by rw [szT]; exact Nat.le_add_right _ _) (c := .own 3) ⟨rfl, _, _, eP, rfl⟩
  have off : ∀ a, s.heap.objs.size ≤ a → a ≠ ((((s.heap.push o1).push o2).push o3).push { cls := .type "tuple", data := .seq #[.ref s.heap.objs.size, .ref (s.heap.push o1).objs.size, .ref ((s.heap.push o1).push o2).objs.size] }).objs.size → ∀ p ∈ φ ++ [(((((s.heap.push o1).push o2).push o3).push { cls := .type "tuple", data := .seq #[.ref s.heap.objs.size, .ref (s.heap.push o1).objs.size, .ref ((s.heap.push o1).push o2).objs.size] }).objs.size, ((((s.heap.push o1).push o2).push o3).push { cls := .type "tuple", data := .seq #[.ref s.heap.objs.size, .ref (s.heap.push o1).objs.size, .ref ((s.heap.push o1).push o2).objs.size] }).objs.size)], p.2 ≠ a := fun a ha hne p hp => by
    rcases List.mem_append.mp hp with q | q
    · exact I.fresh ha p q
    · simp only [List.mem_singleton] at q; subst q; exact Ne.symm hne
  have lo : h₀.objs.size ≤ s.heap.objs.size := I.sz
  have mk1 : Its (φ ++ [(((((s.heap.push o1).push o2).push o3).push { cls := .type "tuple", data := .seq #[.ref s.heap.objs.size, .ref (s.heap.push o1).objs.size, .ref ((s.heap.push o1).push o2).objs.size] }).objs.size, ((((s.heap.push o1).push o2).push o3).push { cls := .type "tuple", data := .seq #[.ref s.heap.objs.size, .ref (s.heap.push o1).objs.size, .ref ((s.heap.push o1).push o2).objs.size] }).objs.size)]) h₀ ((((((s.heap.push o1).push o2).push o3).push { cls := .type "tuple", data := .seq #[.ref s.heap.objs.size, .ref (s.heap.push o1).objs.size, .ref ((s.heap.push o1).push o2).objs.size] }).push { cls := .type "tuple", data := .seq #[.none, .none, .none] }).push { cls := .type "zip", data := .fields #[.none, .bool false, .bool false, .ref (((s.heap.push o1).push o2).push o3).objs.size, .ref ((((s.heap.push o1).push o2).push o3).push { cls := .type "tuple", data := .seq #[.ref s.heap.objs.size, .ref (s.heap.push o1).objs.size, .ref ((s.heap.push o1).push o2).objs.size] }).objs.size] }) 0 v1 s.heap.objs.size := ⟨H1.2.2 _ _ _ ⟨_, rfl⟩ e1, z1, off _ (by omega) (by omega), by omega⟩
  have mk2 : Its (φ ++ [(((((s.heap.push o1).push o2).push o3).push { cls := .type "tuple", data := .seq #[.ref s.heap.objs.size, .ref (s.heap.push o1).objs.size, .ref ((s.heap.push o1).push o2).objs.size] }).objs.size, ((((s.heap.push o1).push o2).push o3).push { cls := .type "tuple", data := .seq #[.ref s.heap.objs.size, .ref (s.heap.push o1).objs.size, .ref ((s.heap.push o1).push o2).objs.size] }).objs.size)]) h₀ ((((((s.heap.push o1).push o2).push o3).push { cls := .type "tuple", data := .seq #[.ref s.heap.objs.size, .ref (s.heap.push o1).objs.size, .ref ((s.heap.push o1).push o2).objs.size] }).push { cls := .type "tuple", data := .seq #[.none, .none, .none] }).push { cls := .type "zip", data := .fields #[.none, .bool false, .bool false, .ref (((s.heap.push o1).push o2).push o3).objs.size, .ref ((((s.heap.push o1).push o2).push o3).push { cls := .type "tuple", data := .seq #[.ref s.heap.objs.size, .ref (s.heap.push o1).objs.size, .ref ((s.heap.push o1).push o2).objs.size] }).objs.size] }) 0 v2 (s.heap.push o1).objs.size := ⟨H2.2.2 _ _ _ ⟨_, rfl⟩ e2, z2, off _ (by omega) (by omega), by omega⟩
  have mk3 : Its (φ ++ [(((((s.heap.push o1).push o2).push o3).push { cls := .type "tuple", data := .seq #[.ref s.heap.objs.size, .ref (s.heap.push o1).objs.size, .ref ((s.heap.push o1).push o2).objs.size] }).objs.size, ((((s.heap.push o1).push o2).push o3).push { cls := .type "tuple", data := .seq #[.ref s.heap.objs.size, .ref (s.heap.push o1).objs.size, .ref ((s.heap.push o1).push o2).objs.size] }).objs.size)]) h₀ ((((((s.heap.push o1).push o2).push o3).push { cls := .type "tuple", data := .seq #[.ref s.heap.objs.size, .ref (s.heap.push o1).objs.size, .ref ((s.heap.push o1).push o2).objs.size] }).push { cls := .type "tuple", data := .seq #[.none, .none, .none] }).push { cls := .type "zip", data := .fields #[.none, .bool false, .bool false, .ref (((s.heap.push o1).push o2).push o3).objs.size, .ref ((((s.heap.push o1).push o2).push o3).push { cls := .type "tuple", data := .seq #[.ref s.heap.objs.size, .ref (s.heap.push o1).objs.size, .ref ((s.heap.push o1).push o2).objs.size] }).objs.size] }) 0 v3 ((s.heap.push o1).push o2).objs.size := ⟨H3.2.2 _ _ _ ⟨_, rfl⟩ e3, z3, off _ (by omega) (by omega), by omega⟩
  refine ⟨⟨_, eZ, rfl⟩, _, _, rfl, (((((s.heap.push o1).push o2).push o3).push { cls := .type "tuple", data := .seq #[.ref s.heap.objs.size, .ref (s.heap.push o1).objs.size, .ref ((s.heap.push o1).push o2).objs.size] }).push { cls := .type "tuple", data := .seq #[.none, .none, .none] }).objs.size, _, _, rfl, S', I', .zip (its := [s.heap.objs.size, (s.heap.push o1).objs.size, ((s.heap.push o1).push o2).objs.size]) ⟨?_, eZ, ⟨0, eT⟩, off _ (by omega) (by omega), .cons mk1 (.cons mk2 (.cons mk3 .nil)), ?_, off _ (by omega) (by omega), by omega⟩ (.inr rfl), ?_⟩
  · rw [← I.len]; simp
  · exact nodup3 (by omega) (by omega)
  · intro a ha
    simp only [List.mem_cons, List.not_mem_nil, or_false] at ha
    have ha' : ∀ b : Nat, a = b → s.heap.objs.size ≤ b → s.heap.objs.size ≤ a := fun b e hb => e ▸ hb
    rcases ha with q | q | q | q <;> exact ha' _ q (by omega)

end
end Mine
end

section
set_option tactic.hygienic false
namespace Mine
open PySem PyProof.Rows

/-- a field that lies in the object's own dict -/
structure ClsOk (h₀ : Heap) (C : Addr) (x : Str) : Prop where
  cls : ∃ N mN, ClsAt h₀ C N mN ∧ mN "__getattribute__" = none ∧ mN "__setattr__" = none ∧ mN x = none
  obj : typeLookup (.type "object") x = pure none

noncomputable def Kept (prog : Program) (w : World) (h₀ : Heap) (u : Value) : Prop :=
  ∀ h, (∀ b o, h₀.get? b = some o → h.get? b = some o) → ∃ k, (k = Keeper.frame ∨ k = Keeper.machine ∨ k = Keeper.boundFrame) ∧ W.Looks (model prog w) h (keeperOf u) k

inductive RKs (φ : Phi) (h : Heap) : List (Str × PV) → List (Str × Value) → Prop where
  | nil : RKs φ h [] []
  | cons {x : Str} {v : PV} {u : Value} {kvs kus} : RV φ h v u → RKs φ h kvs kus → RKs φ h ((x, v) :: kvs) ((x, u) :: kus)
theorem RKs.mono {φ φ' : Phi} {h h' : Heap} (g : Grow φ φ' h h') {kvs kus} (r : RKs φ h kvs kus) : RKs φ' h' kvs kus := by
  induction r with
  | nil => exact .nil
  | cons q _ ih => exact .cons (q.mono g) ih

/-- what the evaluator's table promises -/
structure Wd (prog : Program) (w : World) (h₀ : Heap) (G : List (Str × PV)) (T : Tab) (d : Nat) : Prop where
  globs : Globs h₀ G
  ap : ∀ fv vs kvs σ v σ', T.ap fv vs kvs σ = some (v, σ') → ∃ uf, fv = .top uf ∧ Kept prog w h₀ uf ∧ ∀ (A : Around) (s : Shared) φ us kus, Room d A → Inv h₀ φ σ s.heap → RVs φ s.heap vs us → RKs φ s.heap kvs kus →
    W prog w A (call uf us kus) s (Ret h₀ [] φ s.heap v σ')
  mt : ∀ σ ov x fv, T.mt σ ov x = some fv → ∀ (A : Around) (s : Shared) φ uo pl, Room d A → Inv h₀ φ σ s.heap → RV φ s.heap ov uo → W prog w A (getMethod uo x pl) s fun r h' => h' = s.heap ∧ r = (fv, [uo])
  at_ : ∀ C x, T.at_ C x = true → ClsOk h₀ C x

section
variable {prog : Program} {w : World} {A : Around} {s : Shared} {h₀ : Heap} {φ : Phi} {σ : St}

theorem handed_sound {h : Heap} {v : PV} {u : Value} (q : RV φ h v u) (hn : ∀ x, v ≠ .top x) : handedOut u = pure u := by
  cases q with
  | top => exact absurd rfl (hn _)
  | _ => rfl

theorem getattr_sound {n : Nat} {C : Addr} {as : List (Str × PV)} {x : Str} {v : PV} {uo : Value} (K : ClsOk h₀ C x) (hσ : σ[n]? = some (.inst C as)) (hv : as.lookup x = some v) (hn : ∀ y, v ≠ .top y) (I : Inv h₀ φ σ s.heap) (q : RV φ s.heap (.obj n) uo) :
    W prog w A (getAttr uo x true) s fun u h' => h' = s.heap ∧ RV φ s.heap v u := by
  cases q with | @obj _ p e =>
  obtain ⟨p', hp, c⟩ := I.cell hσ
  rw [e] at hp; cases hp
  obtain ⟨⟨o, g, hc, hd, hdx⟩, hne, _, m, hm, ha⟩ := c
  obtain ⟨N, mN, X, h1, h2, h3⟩ := K.cls
  have X' := X.keeps I.base
  obtain ⟨nm, q, bs, sn, sub, col, dd, k0, k1, k2, k3, k5, hC⟩ := X'.obj
  have hx := ha x
  rw [hv] at hx
  obtain ⟨u, hu, r⟩ := hx
  obtain ⟨hh, gg, d, t, os⟩ := s
  exact load_attr hC X'.ns h1 h3 K.obj ⟨o, g, hc, fun c e => (by rw [hd] at e; cases e), .inr ⟨_, hdx, Ne.symm hne, hm⟩⟩ hu (handed_sound r hn) ⟨_, _, rfl, rfl, r⟩

theorem ext_obj {o o' : Obj} (h1 : o'.cls = o.cls) (h2 : o'.data = o.data) (h3 : o'.slots = o.slots) (h4 : o'.dict = o.dict) : o' = o := by
  cases o; cases o'; simp at *; exact ⟨h1, h4, h2, h3⟩

theorem putA_lookup (x : Str) (v : PV) (y : Str) : ∀ as : List (Str × PV), (putA x v as).lookup y = if y = x then some v else as.lookup y
  | [] => by
    by_cases h : y = x
    · subst h; simp [putA, List.lookup_cons]
    · have : (y == x) = false := by simpa using h
      simp [putA, List.lookup_cons, h, this]
  | (z, u) :: r => by
    have ih := putA_lookup x v y r
    unfold putA
    by_cases hz : x = z
    · subst hz
      simp only [beq_self_eq_true, if_true]
      by_cases h : y = x
      · subst h; simp [List.lookup_cons]
      · have : (y == x) = false := by simpa using h
        simp [List.lookup_cons, h, this]
    · have hz' : (x == z) = false := by simpa using hz
      rw [hz']
      simp only [Bool.false_eq_true, if_false]
      by_cases h : y = z
      · subst h
        have : ¬ y = x := fun e => hz e.symm
        simp [List.lookup_cons, this]
      · have : (y == z) = false := by simpa using h
        rw [List.lookup_cons, this, List.lookup_cons, this]; exact ih

theorem grow_but {h h' : Heap} {p : Addr × Addr} (I : Inv h₀ φ σ h) (hm : p ∈ φ) (hs : Heap.ExtBut p.2 h h') : Grow φ φ h h' := by
  obtain ⟨o₀, e₀, n₀⟩ := I.there hm
  refine ⟨List.prefix_refl _, fun _ hq => .inl hq, fun b o e i ht => hs b o ?_ e⟩
  rintro rfl
  rw [e₀] at e; cases e
  exact ht (n₀ i) p hm rfl

theorem Inv.putE {h h' : Heap} {c : Cell} {p : Addr × Addr} {i : Nat} (I : Inv h₀ φ σ h) (hi : φ[i]? = some p) {c₁ : Cell} (hσ₁ : σ[i]? = some c₁) (hn₁ : isConst c₁ = false)
    (hs : Heap.ExtBut p.2 h h') (sz : h.objs.size ≤ h'.objs.size) (hc : CellAt φ h' p c) : Inv h₀ φ (σ.set i c) h' ∧ Step [] φ φ h h' := by
  obtain ⟨c₀, hc₀, _⟩ := I.cell' hi
  have hm := List.mem_of_getElem? hi
  have gr : Grow φ φ h h' := grow_but I hm hs
  refine ⟨⟨?_, Nat.le_trans I.sz sz, low_set I hi hσ₁ hn₁, by simp [I.len], I.nd, ?_⟩, ⟨gr, sz, fun b o e _ hb => hs b o (Ne.symm (hb p hm)) e⟩⟩
  · intro b o e
    refine hs b o ?_ (I.base b o e)
    exact Nat.ne_of_lt (Nat.lt_of_lt_of_le (Heap.lt_size e) (I.low i p c₁ hi hσ₁ hn₁))
  · intro j c' q hc' hq
    by_cases hj : j = i
    · subst hj
      rw [hi] at hq; cases hq
      rw [List.getElem?_set_self (List.getElem?_eq_some_iff.mp hc₀).1] at hc'
      cases hc'; exact hc
    · rw [List.getElem?_set_ne (Ne.symm hj)] at hc'
      refine (I.at_ j c' q hc' hq).mono gr fun o e => hs _ o ?_ e
      intro z
      apply hj
      have h1 : (φ.map (·.2))[j]? = some q.2 := by rw [List.getElem?_map, hq]; rfl
      have h2 : (φ.map (·.2))[i]? = some p.2 := by rw [List.getElem?_map, hi]; rfl
      have hjl : j < (φ.map (·.2)).length := (List.getElem?_eq_some_iff.mp h1).1
      exact (List.getElem?_inj hjl I.nd).mp (by rw [h1, h2, z])

theorem lookup_mem {x : Str} : ∀ {as : List (Str × PV)}, x ∉ as.map (·.1) → as.lookup x = none
  | [], _ => rfl
  | (y, v) :: r, h => by
    simp only [List.map_cons, List.mem_cons, not_or] at h
    have : (x == y) = false := by simpa using h.1
    rw [List.lookup_cons, this]
    exact lookup_mem h.2

set_option tactic.hygienic true in
theorem setattr_sound {T : Tab} {o v : PV} {x : Str} {uo u : Value} {y : Unit} {σ' : St} (K : ∀ C x, T.at_ C x = true → ClsOk h₀ C x) (hv : seta T o x v σ = some (y, σ')) (I : Inv h₀ φ σ s.heap) (qo : RV φ s.heap o uo) (q : RV φ s.heap v u) :
    W prog w A (setAttr uo x u) s fun _ h' => Step [] φ φ s.heap h' ∧ Inv h₀ φ σ' h' := by
  unfold seta at hv
  split at hv
  · split at hv
    · rename_i n _ C as hσ
      split at hv
      · rename_i hc
        cases hv
        simp only [Bool.and_eq_true, decide_eq_true_eq] at hc
        obtain ⟨hat, hlen⟩ := hc
        cases qo with | @obj _ p e =>
        obtain ⟨p', hp, c⟩ := I.cell hσ
        rw [e] at hp; cases hp
        obtain ⟨⟨o, g, hcl, hd, hdx⟩, hne, ⟨od, god, _⟩, m, hm, ha⟩ := c
        obtain ⟨N, mN, X, h1, h2, h3⟩ := (K _ _ hat).cls
        have X' := X.keeps I.base
        obtain ⟨nm, qq, bs, sn, sub, col, dd, k0, k1, k2, k3, k5, hC⟩ := X'.obj
        have hxC : p.1 ≠ C := by
          intro z; rw [z] at g; rw [hC] at g; cases g; cases hd
        have hw : Within m (as.map (·.1)) := fun z hz => by
          by_cases hmem : z ∈ as.map (·.1)
          · exact hmem
          · have hz' := ha z
            rw [lookup_mem hmem] at hz'
            exact absurd hz' hz
        refine sized ?_
        obtain ⟨hh, gg, d, t, os⟩ := s
        refine store_attr PySem.F.store_object hC X'.ns h2 h3 (K _ _ hat).obj hxC ⟨o, g, hcl, fun c e => (by rw [hd] at e; cases e), .inr ⟨_, hdx, Ne.symm hne, hm⟩⟩ (fun h' tk' I' hk hsame hsz => ?_) hw (by simp; rw [sizeLine_eq]; omega)
        dsimp only at g e hσ ha hm god hsz I ⊢
        obtain ⟨o₁, e₁, c1, c2, c3, c4⟩ := hsame o g
        have ho₁ : o₁ = o := ext_obj c1 c2 c3 ((c4 _ hdx).trans hdx.symm)
        rw [ho₁] at e₁
        obtain ⟨o', e', _, _, hd'⟩ := I'
        rw [e₁] at e'; cases e'
        rcases hd' with ⟨hn0, _⟩ | ⟨d', hd', _, hns'⟩
        · rw [hdx] at hn0; cases hn0
        · rw [hdx] at hd'; cases hd'
          have hs : Heap.ExtBut p.2 hh h' := fun b ob hb eb => by
            by_cases hbx : b = p.1
            · subst hbx
              rw [g] at eb; cases eb; exact e₁
            · exact hk b ob hbx (fun o₀ dx h₀' hdx' => by rw [g] at h₀'; cases h₀'; rw [hdx] at hdx'; cases hdx'; exact hb) eb
          have gr := grow_but I (List.mem_of_getElem? e) hs
          have hns1 := hns'
          obtain ⟨od', es', ep', ed', dd', _⟩ := hns1
          obtain ⟨a1, a2⟩ := I.putE (c := .inst C (putA x v as)) e hσ rfl hs hsz ⟨⟨o, e₁, hcl, hd, hdx⟩, hne, ⟨od', ed', es', ep', dd'⟩, _, hns', fun z => by
            rw [putA_lookup]
            by_cases hz : z = x
            · rw [if_pos hz]; exact ⟨u, by simp [hz], q.mono gr⟩
            · rw [if_neg hz]
              have := ha z
              split <;> rename_i e2 <;> rw [e2] at this
              · obtain ⟨u', hu', r'⟩ := this; exact ⟨u', by simp [hz, hu'], r'.mono gr⟩
              · simp [hz, this]⟩
          exact ⟨h', tk', rfl, a2, a1⟩
      · cases hv
    · cases hv
  · cases hv
end
end Mine
end

section
set_option tactic.hygienic false
namespace Mine
open PySem PyProof.Rows

inductive BndS {α β : Type} (m : M α) (f : α → M β) (σ : St) (r : β × St) : Prop where
  | mk (a : α) (σ₁ : St) (h1 : m σ = some (a, σ₁)) (h2 : f a σ₁ = some r) : BndS m f σ r
theorem bnd_some {α β : Type} {m : M α} {f : α → M β} {σ : St} {r : β × St} (h : bnd m f σ = some r) : BndS m f σ r := by
  unfold bnd at h
  split at h
  · exact ⟨_, _, by assumption, h⟩
  · cases h
theorem look_some {α : Type} {f : St → Option α} {σ σ' : St} {b : α} (h : look f σ = some (b, σ')) : f σ = some b ∧ σ' = σ := by
  unfold look at h
  split at h
  · rename_i e; cases h; exact ⟨e, rfl⟩
  · cases h
theorem lift_some {α : Type} {f : Option α} {σ σ' : St} {b : α} (h : lift f σ = some (b, σ')) : f = some b ∧ σ' = σ := by
  unfold lift at h
  split at h
  · cases h; exact ⟨rfl, rfl⟩
  · cases h

/-- what an expression's evaluation leaves -/
inductive RetX {α : Type} (h₀ : Heap) (φ : Phi) (h : Heap) (σ' : St) (P : Phi → Heap → α → Prop) (a : α) (h' : Heap) : Prop where
  | mk (φ' : Phi) (S : Step [] φ φ' h h') (I : Inv h₀ φ' σ' h') (q : P φ' h' a) : RetX h₀ φ h σ' P a h'
theorem RetX.before {α : Type} {h₀ : Heap} {φ φ₁ : Phi} {h h₁ : Heap} {σ' : St} {P : Phi → Heap → α → Prop} {a : α} {h' : Heap} (S : Step [] φ φ₁ h h₁) (r : RetX h₀ φ₁ h₁ σ' P a h') : RetX h₀ φ h σ' P a h' :=
  by obtain ⟨φ', S', I, q⟩ := r; exact ⟨φ', S.trans S', I, q⟩

noncomputable def isB (b : Bool) : Phi → Heap → Bool → Prop := fun _ _ c => c = b

section
variable (prog : Program) (w : World) (h₀ : Heap) (G : List (Str × PV)) (T : Tab) (d : Nat)
/-- expressions of this depth are served rightly -/
noncomputable def EvSnd (n : Nat) : Prop := ∀ γ e me, cE G n γ e = some me → ∀ fm σ v σ', ev T me fm σ = some (v, σ') → ∀ (A : Around) (s : Shared) φ env, Room d A → EnvOk γ env → Inv h₀ φ σ s.heap → FrAt h₀ γ env fm φ s.heap →
  W prog w A (eval e env) s (Ret h₀ [] φ s.heap v σ')
noncomputable def TrSnd (n : Nat) : Prop := ∀ γ e me, cE G n γ e = some me → ∀ fm σ v σ' b, ev T me fm σ = some (v, σ') → truth σ' v = some b → ∀ (A : Around) (s : Shared) φ env, Room d A → EnvOk γ env → Inv h₀ φ σ s.heap → FrAt h₀ γ env fm φ s.heap →
  W prog w A (isTrue e env (eval e env)) s (RetX h₀ φ s.heap σ' (isB b))
end

theorem not_starred {G : List (Str × PV)} {n : Nat} {γ : Gm} {e : Expr} {me : ME} (h : cE G n γ e = some me) {es : List Expr} {env : Env} : starEach (e :: es) env = (false, eval e env) :: starEach es env := by
  cases n with
  | zero => cases (show (Option.none : Option ME) = some _ from h)
  | succ n => cases e <;> first | rfl | (cases (show (Option.none : Option ME) = some _ from h); done)

section
variable {prog : Program} {w : World} {h₀ : Heap} {G : List (Str × PV)} {T : Tab} {d n : Nat} {γ : Gm} {env : Env} {fm : Fm} {A : Around}

theorem seqL_cons {o : Option ME} {r : List (Option ME)} {me : MEs} (h : seqL (o :: r) = some me) : ∃ e me', o = some e ∧ seqL r = some me' ∧ me = .cons e me' := by
  cases o with
  | none => cases h
  | some e =>
    simp only [seqL, Option.map_eq_some_iff] at h
    obtain ⟨me', h1, h2⟩ := h
    exact ⟨e, me', rfl, h1, h2.symm⟩

theorem evs_sound (S : EvSnd prog w h₀ G T d n) (R : Room d A) (E : EnvOk γ env) (pos : Pos) : ∀ es mes, seqL (es.map (cE G n γ)) = some mes → ∀ σ vs σ', evs T mes fm σ = some (vs, σ') → ∀ (s : Shared) φ, Inv h₀ φ σ s.heap → FrAt h₀ γ env fm φ s.heap →
    W prog w A (spliced (backTo pos (starEach es env))) s (RetX h₀ φ s.heap σ' fun φ' h' us => RVs φ' h' vs us) := by
  intro es
  induction es with
  | nil =>
    intro mes hm σ vs σ' hv s φ I F
    cases hm
    cases hv
    exact W.pure ⟨φ, Step.refl _ _ _, I, .nil⟩
  | cons e es ih =>
    intro mes hm σ vs σ' hv s φ I F
    obtain ⟨me, mes', h1, h2, rfl⟩ := seqL_cons hm
    change bnd _ _ _ = _ at hv
    obtain ⟨v, σ₁, hv1, hv⟩ := bnd_some hv
    obtain ⟨vs', σ₂, hv2, hv⟩ := bnd_some hv
    cases hv
    rw [not_starred h1]
    show W prog w A (do
      let v ← eval e env
      let here ← pure [v]
      return here ++ (← holding here (spliced (backTo pos (starEach es env))))) s _
    refine W.bind (S _ _ _ h1 _ _ _ _ hv1 A s φ env R E I F) fun u h' tk r => ?_
    obtain ⟨φ₁, S₁, I₁, q⟩ := r
    show wpAny _ _ _ _ _ _
    refine wpAny_bind (wpAny_pure (wpAny_bind (wpAny_holding ?_)))
    refine (ih _ h2 _ _ _ hv2 { s with heap := h', toks := tk } φ₁ I₁ (F.step0 S₁)).go fun us h'' tk' r' => ?_
    obtain ⟨φ₂, S₂, I₂, qs⟩ := r'
    exact wpAny_pure ⟨h'', tk', rfl, φ₂, S₁.trans S₂, I₂, .cons (S₂.rv q) qs⟩

theorem seqK_cons {c : Expr → Option ME} {k : Keyword} {r : List Keyword} {mk : MK} (h : cE.seqK c (k :: r) = some mk) : ∃ x e p me mk', k = ⟨some x, e, p⟩ ∧ c e = some me ∧ cE.seqK c r = some mk' ∧ mk = .cons x me mk' := by
  obtain ⟨x, e, p⟩ := k
  cases x with
  | none => cases h
  | some x =>
    simp only [cE.seqK] at h
    split at h
    · rename_i h1 h2; cases h; exact ⟨_, _, _, _, _, rfl, h1, h2, rfl⟩
    · cases h

theorem evK_sound (S : EvSnd prog w h₀ G T d n) (R : Room d A) (E : EnvOk γ env) (pos : Pos) : ∀ ks mk, cE.seqK (cE G n γ) ks = some mk → ∀ σ vs σ', evK T mk fm σ = some (vs, σ') → ∀ (s : Shared) φ, Inv h₀ φ σ s.heap → FrAt h₀ γ env fm φ s.heap →
    (backToKw pos (keywordEach ks env)).all (·.1.isSome) = true ∧
    W prog w A (evalAll ((backToKw pos (keywordEach ks env)).map (·.2))) s (RetX h₀ φ s.heap σ' fun φ' h' us => RKs φ' h' vs (((backToKw pos (keywordEach ks env)).filterMap (·.1)).zip us)) := by
  intro ks
  induction ks with
  | nil =>
    intro mk hm σ vs σ' hv s φ I F
    cases hm
    cases hv
    exact ⟨rfl, W.pure ⟨φ, Step.refl _ _ _, I, .nil⟩⟩
  | cons k ks ih =>
    intro mk hm σ vs σ' hv s φ I F
    obtain ⟨x, e, p, me, mk', rfl, h1, h2, rfl⟩ := seqK_cons hm
    change bnd _ _ _ = _ at hv
    obtain ⟨v, σ₁, hv1, hv⟩ := bnd_some hv
    obtain ⟨vs', σ₂, hv2, hv⟩ := bnd_some hv
    cases hv
    constructor
    · show (true && (backToKw pos (keywordEach ks env)).all (·.1.isSome)) = true
      rw [Bool.true_and]
      have : ∀ ks mk, cE.seqK (cE G n γ) ks = some mk → (backToKw pos (keywordEach ks env)).all (·.1.isSome) = true := by
        intro ks
        induction ks with
        | nil => intro _ _; rfl
        | cons k ks ih =>
          intro mk hm
          obtain ⟨x, e, p, me, mk', rfl, _, h2, _⟩ := seqK_cons hm
          show (true && _) = true
          rw [Bool.true_and]; exact ih _ h2
      exact this _ _ h2
    · show W prog w A (do
        let v ← (do let v ← eval e env; standAt pos; pure v)
        return v :: (← holding [v] (evalAll ((backToKw pos (keywordEach ks env)).map (·.2))))) s _
      show wpAny _ _ _ _ _ _
      refine wpAny_bind (wpAny_bind ((S _ _ _ h1 _ _ _ _ hv1 A s φ env R E I F).go fun u h' tk r => ?_))
      obtain ⟨φ₁, S₁, I₁, q⟩ := r
      refine wpAny_bind (wpAny_standAt (wpAny_pure (wpAny_bind (wpAny_holding ?_))))
      refine ((ih _ h2 _ _ _ hv2 { s with heap := h', toks := tk } φ₁ I₁ (F.step0 S₁)).2).go fun us h'' tk' r' => ?_
      obtain ⟨φ₂, S₂, I₂, qs⟩ := r'
      exact wpAny_pure ⟨h'', tk', rfl, φ₂, S₁.trans S₂, I₂, .cons (S₂.rv q) qs⟩
end
end Mine
end

section
set_option tactic.hygienic false
namespace Mine
open PySem PyProof.Rows

section
variable {prog : Program} {w : World} {h₀ : Heap} {G : List (Str × PV)} {T : Tab} {d n : Nat} {γ : Gm} {env : Env} {fm : Fm} {A : Around}

theorem orL_cons {op : BoolOp} {o : Option ME} {o2 : Option ME} {r : List (Option ME)} {me : ME} (h : orL op (o :: o2 :: r) = some me) : ∃ a b, o = some a ∧ orL op (o2 :: r) = some b ∧ me = opA op a b := by
  cases o with
  | none => cases h
  | some a =>
    simp only [orL, Option.map_eq_some_iff] at h
    obtain ⟨b, h1, h2⟩ := h
    exact ⟨a, b, rfl, h1, h2.symm⟩

noncomputable def goOn (op : BoolOp) : Bool := match op with
  | .And => true
  | .Or => false
theorem boolOp_sound (S : EvSnd prog w h₀ G T d n) (R : Room d A) (E : EnvOk γ env) (pos : Pos) (op : BoolOp) : ∀ vs me, orL op (vs.map (cE G n γ)) = some me → ∀ σ v σ', ev T me fm σ = some (v, σ') → ∀ (s : Shared) φ, Inv h₀ φ σ s.heap → FrAt h₀ γ env fm φ s.heap →
    W prog w A (boolOp pos op (evalEach vs env)) s (Ret h₀ [] φ s.heap v σ') := by
  intro vs
  induction vs with
  | nil => intro me hm; cases hm
  | cons e vs ih =>
    intro me hm σ v σ' hv s φ I F
    cases vs with
    | nil => exact S _ _ _ hm _ _ _ _ hv A s φ env R E I F
    | cons e2 vs =>
      obtain ⟨a, b, h1, h2, rfl⟩ := orL_cons hm
      have step : ∀ x σ₁ t, ev T a fm σ = some (x, σ₁) → truth σ₁ x = some t → ((t = goOn op ∧ ev T b fm σ₁ = some (v, σ')) ∨ (t = !goOn op ∧ v = x ∧ σ' = σ₁)) →
          W prog w A (boolOp pos op (evalEach (e :: e2 :: vs) env)) s (Ret h₀ [] φ s.heap v σ') := fun x σ₁ t hx ht hc => by
        show W prog w A (do
          let v ← eval e env
          standAt pos
          let t ← holding [v] (truthy v)
          match op, t with
          | .And, false | .Or, true => pure v
          | _, _ => boolOp pos op (evalEach (e2 :: vs) env)) s _
        refine W.bind (S _ _ _ h1 _ _ _ _ hx A s φ env R E I F) fun u h' tk r => ?_
        obtain ⟨φ₁, S₁, I₁, q⟩ := r
        show wpAny _ _ _ _ _ _
        refine wpAny_bind (wpAny_standAt (wpAny_bind (wpAny_holding ?_)))
        refine (truth_sound (s := { s with heap := h', toks := tk }) ht I₁ q).go fun c h'' tk' hc' => ?_
        obtain ⟨rfl, rfl⟩ := hc'
        rcases hc with ⟨rfl, hb⟩ | ⟨rfl, rfl, rfl⟩
        · have := (ih _ h2 _ _ _ hb { s with heap := h'', toks := tk' } φ₁ I₁ (F.step0 S₁)).mono fun u h'' r => Ret.before S₁ r
          cases op <;> exact this.go fun u h'' tk'' r => ⟨h'', tk'', rfl, r⟩
        · cases op <;> exact wpAny_pure ⟨h'', tk', rfl, φ₁, S₁, I₁, q⟩
      cases op with
      | And =>
        simp only [opA, ev] at hv
        obtain ⟨x, σ₁, hx, hv⟩ := bnd_some hv
        obtain ⟨t, σ₂, ht, hv⟩ := bnd_some hv
        obtain ⟨ht, rfl⟩ := look_some ht
        cases t with
        | true => exact step x _ _ hx ht (.inl ⟨rfl, hv⟩)
        | false => obtain ⟨rfl, rfl⟩ := rt_eq hv; exact step _ _ _ hx ht (.inr ⟨rfl, rfl, rfl⟩)
      | Or =>
        simp only [opA, ev] at hv
        obtain ⟨x, σ₁, hx, hv⟩ := bnd_some hv
        obtain ⟨t, σ₂, ht, hv⟩ := bnd_some hv
        obtain ⟨ht, rfl⟩ := look_some ht
        cases t with
        | false => exact step x _ _ hx ht (.inl ⟨rfl, hv⟩)
        | true => obtain ⟨rfl, rfl⟩ := rt_eq hv; exact step _ _ _ hx ht (.inr ⟨rfl, rfl, rfl⟩)

theorem allTrue_sound (S : TrSnd prog w h₀ G T d n) (R : Room d A) (E : EnvOk γ env) (op : BoolOp) : ∀ vs me, orL op (vs.map (cE G n γ)) = some me → ∀ σ v σ' b, ev T me fm σ = some (v, σ') → truth σ' v = some b → ∀ (s : Shared) φ, Inv h₀ φ σ s.heap → FrAt h₀ γ env fm φ s.heap →
    W prog w A (allTrue op vs env) s (RetX h₀ φ s.heap σ' (isB b)) := by
  intro vs
  induction vs with
  | nil => intro me hm; cases hm
  | cons e vs ih =>
    intro me hm σ v σ' b hv hb s φ I F
    show W prog w A (do
      match op, ← isTrue e env (eval e env) with
      | .And, false => pure false
      | .Or, true => pure true
      | _, _ => allTrue op vs env) s _
    cases vs with
    | nil =>
      refine W.bind (S _ _ _ hm _ _ _ _ _ hv hb A s φ env R E I F) fun c h' tk r => ?_
      obtain ⟨φ₁, S₁, I₁, q⟩ := r
      obtain rfl : c = b := q
      cases op <;> cases c <;> exact wpAny_pure ⟨h', tk, rfl, φ₁, S₁, I₁, rfl⟩
    | cons e2 vs =>
      obtain ⟨a, bb, h1, h2, rfl⟩ := orL_cons hm
      have step : ∀ x σ₁ t, ev T a fm σ = some (x, σ₁) → truth σ₁ x = some t → ((t = goOn op ∧ ev T bb fm σ₁ = some (v, σ')) ∨ (t = !goOn op ∧ v = x ∧ σ' = σ₁)) →
          W prog w A (do
      match op, ← isTrue e env (eval e env) with
      | .And, false => pure false
      | .Or, true => pure true
      | _, _ => allTrue op (e2 :: vs) env) s (RetX h₀ φ s.heap σ' (isB b)) := fun x σ₁ t hx ht hc => by
        refine W.bind (S _ _ _ h1 _ _ _ _ _ hx ht A s φ env R E I F) fun c h' tk r => ?_
        obtain ⟨φ₁, S₁, I₁, q⟩ := r
        obtain rfl : c = t := q
        rcases hc with ⟨rfl, hb'⟩ | ⟨rfl, rfl, rfl⟩
        · have := (ih _ h2 _ _ _ _ hb' hb { s with heap := h', toks := tk } φ₁ I₁ (F.step0 S₁)).mono fun u h'' r => RetX.before S₁ r
          cases op <;> exact this.go fun u h'' tk'' r => ⟨h'', tk'', rfl, r⟩
        · rw [ht] at hb; cases hb
          cases op <;> exact wpAny_pure ⟨h', tk, rfl, φ₁, S₁, I₁, rfl⟩
      cases op with
      | And =>
        simp only [opA, ev] at hv
        obtain ⟨x, σ₁, hx, hv⟩ := bnd_some hv
        obtain ⟨t, σ₂, ht, hv⟩ := bnd_some hv
        obtain ⟨ht, rfl⟩ := look_some ht
        cases t with
        | true => exact step x _ _ hx ht (.inl ⟨rfl, hv⟩)
        | false => obtain ⟨rfl, rfl⟩ := rt_eq hv; exact step _ _ _ hx ht (.inr ⟨rfl, rfl, rfl⟩)
      | Or =>
        simp only [opA, ev] at hv
        obtain ⟨x, σ₁, hx, hv⟩ := bnd_some hv
        obtain ⟨t, σ₂, ht, hv⟩ := bnd_some hv
        obtain ⟨ht, rfl⟩ := look_some ht
        cases t with
        | false => exact step x _ _ hx ht (.inl ⟨rfl, hv⟩)
        | true => obtain ⟨rfl, rfl⟩ := rt_eq hv; exact step _ _ _ hx ht (.inr ⟨rfl, rfl, rfl⟩)

theorem no_marks {G : List (Str × PV)} {n : Nat} {γ : Gm} {e : Expr} {me : ME} (h : cE G n γ e = some me) (op : CmpOp) : behindInMarks op e = false := by
  cases n with
  | zero => cases (show (Option.none : Option ME) = some _ from h)
  | succ n => cases e <;> first | rfl | (cases (show (Option.none : Option ME) = some _ from h); done)

theorem seqC_cons {op : CmpOp} {ops : List CmpOp} {o : Option ME} {r : List (Option ME)} {mc : MC} (h : seqC (op :: ops) (o :: r) = some mc) : ∃ e mc', o = some e ∧ seqC ops r = some mc' ∧ mc = .cons op e mc' := by
  cases o with
  | none => cases h
  | some e =>
    simp only [seqC, Option.map_eq_some_iff] at h
    obtain ⟨mc', h1, h2⟩ := h
    exact ⟨e, mc', rfl, h1, h2.symm⟩
theorem seqC_nil {ops : List CmpOp} {mc : MC} (h : seqC ops [] = some mc) : ops = [] ∧ mc = .nil := by
  cases ops with
  | nil => cases h; exact ⟨rfl, rfl⟩
  | cons => cases h

theorem marked_same : ∀ (ops : List CmpOp) (cs : List Expr) mc, seqC ops (cs.map (cE G n γ)) = some mc → markedEach ops cs (evalEach cs env) = evalEach cs env
  | [], [], _, _ => rfl
  | [], _ :: _, _, h => by simp [seqC] at h
  | _ :: _, [], _, h => by simp [seqC] at h
  | [op], [e], _, h => by
    obtain ⟨me, _, h1, _⟩ := seqC_cons h
    show [markedBehindIn op e (eval e env)] = _
    unfold markedBehindIn
    rw [no_marks h1]; rfl
  | op :: op2 :: ops, e :: e2 :: cs, mc, h => by
    obtain ⟨me, mc', h1, h2, _⟩ := seqC_cons h
    show eval e env :: markedEach (op2 :: ops) (e2 :: cs) (evalEach (e2 :: cs) env) = _
    rw [marked_same (op2 :: ops) (e2 :: cs) mc' h2]; rfl
  | op :: op2 :: ops, [e], _, h => by
    obtain ⟨me, mc', h1, h2, _⟩ := seqC_cons h
    simp [seqC] at h2
  | [op], e :: e2 :: cs, _, h => by
    obtain ⟨me, mc', h1, h2, _⟩ := seqC_cons h
    simp [seqC] at h2

theorem chain_sound (S : EvSnd prog w h₀ G T d n) (R : Room d A) (E : EnvOk γ env) (pos : Pos) : ∀ cs ops mc, seqC ops (cs.map (cE G n γ)) = some mc → cs ≠ [] → ∀ σ a b σ', evC T mc a fm σ = some (b, σ') → ∀ (s : Shared) φ ua, Inv h₀ φ σ s.heap → FrAt h₀ γ env fm φ s.heap → RV φ s.heap a ua →
    (W prog w A (compareChain pos ua ops (evalEach cs env)) s (Ret h₀ [] φ s.heap (.bool b) σ')) ∧ W prog w A (testChain pos ua ops (evalEach cs env)) s (RetX h₀ φ s.heap σ' (isB b)) := by
  intro cs
  induction cs with
  | nil => intro ops mc _ h; exact absurd rfl h
  | cons e cs ih =>
    intro ops mc hm _ σ a b σ' hv s φ ua I F qa
    cases ops with
    | nil => simp [seqC] at hm
    | cons op ops =>
      obtain ⟨me, mc', h1, h2, rfl⟩ := seqC_cons hm
      change bnd _ _ _ = _ at hv
      obtain ⟨y, σ₁, hy, hv⟩ := bnd_some hv
      obtain ⟨c, σ₂, hc, hv⟩ := bnd_some hv
      obtain ⟨hc, rfl⟩ := look_some hc
      have R0 : Room 0 A := R.le (Nat.zero_le _)
      have HE := S _ _ _ h1 _ _ _ _ hy A s φ env R E I F
      cases cs with
      | nil =>
        obtain ⟨rfl, rfl⟩ := seqC_nil h2
        have hb : b = c ∧ σ' = σ₂ := by
          cases c with
          | true => simp only [evC] at hv; exact rt_eq hv
          | false => exact rt_eq hv
        obtain ⟨rfl, rfl⟩ := hb
        constructor
        · show W prog w A (do
            let rv ← holding [ua] (eval e env)
            standAt pos
            operate [ua, rv] (compareOp op ua rv)) s _
          show wpAny _ _ _ _ _ _
          refine wpAny_bind (wpAny_holding (HE.go fun ub h' tk r => ?_))
          obtain ⟨φ₁, S₁, I₁, q⟩ := r
          refine wpAny_bind (wpAny_standAt (wpAny_operating ?_))
          refine (cmpop_sound (s := { s with heap := h', toks := tk }) R0 hc I₁ (S₁.rv qa) q).go fun u h'' tk' x => ?_
          obtain ⟨rfl, rfl⟩ := x
          exact ⟨h'', tk', rfl, φ₁, S₁, I₁, .bool _⟩
        · show W prog w A (do
            let rv ← holding [ua] (eval e env)
            standAt pos
            let c ← operate [ua, rv] (compareOp op ua rv)
            holding [c] (truthy c)) s _
          show wpAny _ _ _ _ _ _
          refine wpAny_bind (wpAny_holding (HE.go fun ub h' tk r => ?_))
          obtain ⟨φ₁, S₁, I₁, q⟩ := r
          refine wpAny_bind (wpAny_standAt (wpAny_bind (wpAny_operating ?_)))
          refine (cmpop_sound (s := { s with heap := h', toks := tk }) R0 hc I₁ (S₁.rv qa) q).go fun u h'' tk' x => ?_
          obtain ⟨rfl, rfl⟩ := x
          exact wpAny_holding (wpAny_truthy_bool ⟨h'', tk', rfl, φ₁, S₁, I₁, rfl⟩)
      | cons e2 cs =>
        cases ops with
        | nil => simp [seqC] at h2
        | cons op2 ops =>
          constructor
          · show W prog w A (do
              let rv ← holding [ua] (eval e env)
              standAt pos
              let c ← holding [ua, rv] (compareOp op ua rv)
              release [ua, rv] [c]
              if ← holding [c, rv] (truthy c) then compareChain pos rv (op2 :: ops) (evalEach (e2 :: cs) env) else pure c) s _
            show wpAny _ _ _ _ _ _
            refine wpAny_bind (wpAny_holding (HE.go fun ub h' tk r => ?_))
            obtain ⟨φ₁, S₁, I₁, q⟩ := r
            refine wpAny_bind (wpAny_standAt (wpAny_bind (wpAny_holding ?_)))
            refine (cmpop_sound (s := { s with heap := h', toks := tk }) R0 hc I₁ (S₁.rv qa) q).go fun u h'' tk' x => ?_
            obtain ⟨rfl, rfl⟩ := x
            refine wpAny_bind (wpAny_release (wpAny_bind (wpAny_holding (wpAny_truthy_bool ?_))))
            cases c with
            | true => exact ((ih _ _ h2 (by simp) _ _ _ _ hv { s with heap := h'', toks := tk' } φ₁ ub I₁ (F.step0 S₁) q).1).go fun u h'' tk'' r => ⟨h'', tk'', rfl, Ret.before S₁ r⟩
            | false =>
              obtain ⟨rfl, rfl⟩ := rt_eq hv
              exact wpAny_pure ⟨h'', tk', rfl, φ₁, S₁, I₁, .bool _⟩
          · show W prog w A (do
              let rv ← holding [ua] (eval e env)
              standAt pos
              let c ← holding [ua, rv] (compareOp op ua rv)
              release [ua, rv] [c]
              if ← holding [c, rv] (truthy c) then testChain pos rv (op2 :: ops) (evalEach (e2 :: cs) env) else pure false) s _
            show wpAny _ _ _ _ _ _
            refine wpAny_bind (wpAny_holding (HE.go fun ub h' tk r => ?_))
            obtain ⟨φ₁, S₁, I₁, q⟩ := r
            refine wpAny_bind (wpAny_standAt (wpAny_bind (wpAny_holding ?_)))
            refine (cmpop_sound (s := { s with heap := h', toks := tk }) R0 hc I₁ (S₁.rv qa) q).go fun u h'' tk' x => ?_
            obtain ⟨rfl, rfl⟩ := x
            refine wpAny_bind (wpAny_release (wpAny_bind (wpAny_holding (wpAny_truthy_bool ?_))))
            cases c with
            | true => exact ((ih _ _ h2 (by simp) _ _ _ _ hv { s with heap := h'', toks := tk' } φ₁ ub I₁ (F.step0 S₁) q).2).go fun u h'' tk'' r => ⟨h'', tk'', rfl, RetX.before S₁ r⟩
            | false =>
              obtain ⟨rfl, rfl⟩ := rt_eq hv
              exact wpAny_pure ⟨h'', tk', rfl, φ₁, S₁, I₁, rfl⟩
end
end Mine
end

section
set_option tactic.hygienic false
namespace Mine
open PySem PyProof.Rows

theorem bnd_eq {α β : Type} {m : M α} {f : α → M β} {σ σ₁ : St} {a : α} (h : m σ = some (a, σ₁)) : bnd m f σ = f a σ₁ := by simp [bnd, h]

section
variable {prog : Program} {w : World} {h₀ : Heap} {G : List (Str × PV)} {T : Tab} {d n : Nat} {γ : Gm} {env : Env} {fm : Fm} {A : Around}

theorem stars_plain (pos : Pos) : ∀ es mes, seqL (es.map (cE G n γ)) = some mes → (backTo pos (starEach es env)).any (·.1) = false ∧ (backTo pos (starEach es env)).all (fun x => !x.1) = true := by
  intro es
  induction es with
  | nil => intro _ _; exact ⟨rfl, rfl⟩
  | cons e es ih =>
    intro mes h
    obtain ⟨me, mes', h1, h2, rfl⟩ := seqL_cons h
    obtain ⟨a, b⟩ := ih _ h2
    rw [not_starred h1]
    constructor
    · show (false || (backTo pos (starEach es env)).any (·.1)) = false
      rw [a]; rfl
    · show (!false && (backTo pos (starEach es env)).all (fun x => !x.1)) = true
      rw [b]; rfl

theorem kws_plain (pos : Pos) : ∀ ks mk, cE.seqK (cE G n γ) ks = some mk → (backToKw pos (keywordEach ks env)).all (·.1.isSome) = true ∧ (backToKw pos (keywordEach ks env)).any (·.1.isNone) = false := by
  intro ks
  induction ks with
  | nil => intro _ _; exact ⟨rfl, rfl⟩
  | cons k ks ih =>
    intro mk hm
    obtain ⟨x, e, p, me, mk', rfl, _, h2, _⟩ := seqK_cons hm
    obtain ⟨a, b⟩ := ih _ h2
    constructor
    · show (true && _) = true
      rw [Bool.true_and]; exact a
    · show (false || _) = false
      rw [Bool.false_or]; exact b

/-- the arguments of a call -/
theorem args_sound (S : EvSnd prog w h₀ G T d n) (R : Room d A) (E : EnvOk γ env) (pos : Pos) {f : Value} {es : List Expr} {ks : List Keyword} {mes : MEs} {mk : MK} (h1 : seqL (es.map (cE G n γ)) = some mes) (h2 : cE.seqK (cE G n γ) ks = some mk)
    {σ σ₁ σ₂ : St} {vs : List PV} {kvs : List (Str × PV)} (hv : evs T mes fm σ = some (vs, σ₁)) (hk : evK T mk fm σ₁ = some (kvs, σ₂)) {s : Shared} {φ : Phi} (I : Inv h₀ φ σ s.heap) (F : FrAt h₀ γ env fm φ s.heap) :
    W prog w A (evalArgs f true (backTo pos (starEach es env)) (backToKw pos (keywordEach ks env))) s (RetX h₀ φ s.heap σ₂ fun φ' h' a => RVs φ' h' vs a.pos ∧ RKs φ' h' kvs a.kw) := by
  obtain ⟨hall, _⟩ := kws_plain (env := env) pos ks mk h2
  cases es with
  | nil =>
    cases h1
    cases hv
    refine evalArgs_kw_nil hall ?_
    refine ((evK_sound S R E pos ks mk h2 _ _ _ hk s φ I F).2).go fun us h' tk r => ?_
    obtain ⟨φ₁, S₁, I₁, q⟩ := r
    exact ⟨h', tk, rfl, φ₁, S₁, I₁, .nil, q⟩
  | cons e es =>
    have H := evs_sound S R E pos (e :: es) mes h1 σ vs σ₁ hv s φ I F
    obtain ⟨me, mes', g1, _, _⟩ := seqL_cons h1
    rw [not_starred g1] at H ⊢
    refine evalArgs_kw hall ?_
    refine H.go fun us h' tk r => ?_
    obtain ⟨φ₁, S₁, I₁, q⟩ := r
    refine ((evK_sound S R E pos ks mk h2 _ _ _ hk { s with heap := h', toks := tk } φ₁ I₁ (F.step0 S₁)).2).go fun ks h'' tk' r => ?_
    obtain ⟨φ₂, S₂, I₂, q'⟩ := r
    exact ⟨h'', tk', rfl, φ₂, S₁.trans S₂, I₂, S₂.rvs q, q'⟩

theorem callWith_sound (D : Wd prog w h₀ G T d) (S : EvSnd prog w h₀ G T d n) (R : Room d A) (E : EnvOk γ env) (pos : Pos) {fv : PV} {uf : Value} {first : List PV} {ufirst : List Value} {es : List Expr} {ks : List Keyword} {mes : MEs} {mk : MK}
    (h1 : seqL (es.map (cE G n γ)) = some mes) (h2 : cE.seqK (cE G n γ) ks = some mk) {σ σ₁ σ₂ σ' : St} {vs : List PV} {kvs : List (Str × PV)} {v : PV} (hv : evs T mes fm σ = some (vs, σ₁)) (hk : evK T mk fm σ₁ = some (kvs, σ₂))
    (ha : T.ap fv (first ++ vs) kvs σ₂ = some (v, σ')) {s : Shared} {φ : Phi} (I : Inv h₀ φ σ s.heap) (F : FrAt h₀ γ env fm φ s.heap) (qf : RV φ s.heap fv uf) (q1 : RVs φ s.heap first ufirst) :
    W prog w A (callWith pos uf ufirst (backTo pos (starEach es env)) (backToKw pos (keywordEach ks env))) s (Ret h₀ [] φ s.heap v σ') := by
  obtain ⟨uf', rfl, K, H⟩ := D.ap _ _ _ _ _ _ ha
  have : uf = uf' := by cases qf; rfl
  subst this
  obtain ⟨ha1, _⟩ := stars_plain (env := env) pos es mes h1
  obtain ⟨_, hk1⟩ := kws_plain (env := env) pos ks mk h2
  refine W.callWith_of (P := fun h => ∀ b o, h₀.get? b = some o → h.get? b = some o) (by rw [ha1, hk1]; rfl) K ?_
  refine (args_sound S R E pos h1 h2 hv hk I F).go fun a h' tk r => ?_
  obtain ⟨φ₁, S₁, I₁, q, q'⟩ := r
  refine ⟨I₁.base, ?_⟩
  refine (H A { s with heap := h', toks := tk } φ₁ _ _ R I₁ ((S₁.rvs q1).append q) q').go fun u h'' tk' r => ⟨h'', tk', rfl, Ret.before S₁ r⟩

theorem base_plain {o : Expr} (h : notSuper o = true) (x : Str) (env : Env) (whole : Sem Value) : attributeBase o x env whole = whole := by
  cases o with
  | Call f es ks p =>
    cases f with
    | Name y q =>
      cases es with
      | nil =>
        cases ks with
        | nil => cases h
        | cons => rfl
      | cons => rfl
    | _ => rfl
  | _ => rfl

theorem meth_sound (D : Wd prog w h₀ G T d) (S : EvSnd prog w h₀ G T d n) (R : Room d A) (E : EnvOk γ env) {o : Expr} {x : Str} {apos pos : Pos} {es : List Expr} {ks : List Keyword} {mo : ME} {mes : MEs} {mk : MK}
    (hn : notSuper o = true) (hl : (apos.endLine == pos.line) = true) (hlen : es.length + ks.length < 20) (h0 : cE G n γ o = some mo) (h1 : seqL (es.map (cE G n γ)) = some mes) (h2 : cE.seqK (cE G n γ) ks = some mk)
    {σ σ' : St} {v : PV} (hv : ev T (.meth mo x mes mk) fm σ = some (v, σ')) {s : Shared} {φ : Phi} (I : Inv h₀ φ σ s.heap) (F : FrAt h₀ γ env fm φ s.heap) :
    W prog w A (eval (.Call (.Attribute o x apos) es ks pos) env) s (Ret h₀ [] φ s.heap v σ') := by
  change bnd _ _ _ = _ at hv
  obtain ⟨ov, σ₁, e1, hv⟩ := bnd_some hv
  obtain ⟨fv, σ₂, e2', hv'⟩ := bnd_some hv
  clear hv
  obtain ⟨e2, rfl⟩ := look_some e2'
  obtain ⟨vs, σ₃, e3, hv⟩ := bnd_some hv'
  obtain ⟨kvs, σ₄, e4, hv⟩ := bnd_some hv
  obtain ⟨_, hs1⟩ := stars_plain (env := env) pos es mes h1
  obtain ⟨hk1, _⟩ := kws_plain (env := env) pos ks mk h2
  have hform : methodCallForm (es.length + ks.length) (backTo pos (starEach es env)) (backToKw pos (keywordEach ks env)) = true := by
    unfold methodCallForm
    rw [hs1, hk1]
    simp only [Bool.true_and, decide_eq_true_eq]
    split <;> omega
  rw [arm_eval_Call, base_plain hn]
  refine W.bind (S _ _ _ h0 _ _ _ _ e1 A s φ env R E I F) fun uo h' tk r => ?_
  obtain ⟨φ₁, S₁, I₁, q⟩ := r
  show wpAny _ _ _ _ _ _
  refine wpAny_bind (wpAny_standAt ?_)
  unfold methodCall
  rw [hform]
  refine wpAny_bind (wpAny_holding ?_)
  show wpAny _ _ (getMethod uo x _) _ _ _
  refine (D.mt _ _ _ _ e2 A { s with heap := h', toks := tk } φ₁ uo _ R I₁ q).go fun r h'' tk' hr => ?_
  obtain ⟨rfl, rfl⟩ := hr
  refine wpAny_bind ?_
  show wpAny _ _ (if (!true || apos.endLine == pos.line) = true then pure pos else _) _ _ _
  rw [if_pos (by rw [hl]; rfl)]
  refine wpAny_pure ?_
  refine (callWith_sound D S R E pos h1 h2 e3 e4 (first := [ov]) hv (s := { s with heap := h'', toks := tk' }) I₁ (F.step0 S₁) (.top fv) (.cons q .nil)).go fun u h3 tk3 r => ⟨h3, tk3, rfl, Ret.before S₁ r⟩

theorem call_sound (D : Wd prog w h₀ G T d) (S : EvSnd prog w h₀ G T d n) (R : Room d A) (E : EnvOk γ env) {f : Expr} {pos : Pos} {es : List Expr} {ks : List Keyword} {mf : ME} {mes : MEs} {mk : MK}
    (hf : ∀ o x p, f ≠ .Attribute o x p) (h0 : cE G n γ f = some mf) (h1 : seqL (es.map (cE G n γ)) = some mes) (h2 : cE.seqK (cE G n γ) ks = some mk)
    {σ σ' : St} {v : PV} (hv : ev T (.call mf mes mk) fm σ = some (v, σ')) {s : Shared} {φ : Phi} (I : Inv h₀ φ σ s.heap) (F : FrAt h₀ γ env fm φ s.heap) :
    W prog w A (eval (.Call f es ks pos) env) s (Ret h₀ [] φ s.heap v σ') := by
  change bnd _ _ _ = _ at hv
  obtain ⟨fv, σ₁, e1, hv⟩ := bnd_some hv
  obtain ⟨vs, σ₃, e3, hv⟩ := bnd_some hv
  obtain ⟨kvs, σ₄, e4, hv⟩ := bnd_some hv
  have he : eval (.Call f es ks pos) env = (eval f env >>= fun u => callWith pos u [] (backTo pos (starEach es env)) (backToKw pos (keywordEach ks env))) := by
    cases f with
    | Attribute o x p => exact absurd rfl (hf o x p)
    | _ => rfl
  rw [he]
  refine W.bind (S _ _ _ h0 _ _ _ _ e1 A s φ env R E I F) fun uf h' tk r => ?_
  obtain ⟨φ₁, S₁, I₁, q⟩ := r
  refine (callWith_sound D S R E pos h1 h2 e3 e4 (first := []) hv (s := { s with heap := h', toks := tk }) I₁ (F.step0 S₁) q .nil).mono fun u h3 r => Ret.before S₁ r

theorem subscript_item (S : EvSnd prog w h₀ G T d n) (R : Room d A) (E : EnvOk γ env) {o i : Expr} {pos : Pos} {mo mi : ME} (h0 : cE G n γ o = some mo) (h1 : cE G n γ i = some mi)
    {σ σ' : St} {v : PV} (hv : ev T (.idx mo mi) fm σ = some (v, σ')) {s : Shared} {φ : Phi} (I : Inv h₀ φ σ s.heap) (F : FrAt h₀ γ env fm φ s.heap) :
    W prog w A (eval (.Subscript o i pos) env) s (Ret h₀ [] φ s.heap v σ') := by
  change bnd _ _ _ = _ at hv
  obtain ⟨ov, σ₁, e1, hv⟩ := bnd_some hv
  obtain ⟨iv, σ₂, e2, hv⟩ := bnd_some hv
  obtain ⟨e3, rfl⟩ := look_some hv
  refine Subscript_ ?_
  refine (S _ _ _ h0 _ _ _ _ e1 A s φ env R E I F).go fun uo h' tk r => ?_
  obtain ⟨φ₁, S₁, I₁, q⟩ := r
  refine (S _ _ _ h1 _ _ _ _ e2 A { s with heap := h', toks := tk } φ₁ env R E I₁ (F.step0 S₁)).go fun ui h'' tk' r => ?_
  obtain ⟨φ₂, S₂, I₂, q2⟩ := r
  refine (tail_item (s := { s with heap := h'', toks := tk' }) e3 I₂ (S₂.rv q) q2).go fun u h3 tk3 r => ?_
  obtain ⟨rfl, q3⟩ := r
  exact ⟨_, tk3, rfl, φ₂, S₁.trans S₂, I₂, q3⟩

theorem part_sound (S : EvSnd prog w h₀ G T d n) (R : Room d A) (E : EnvOk γ env) {o : Option Expr} {me : ME} (h : optE (cE G n γ) o = some me) {σ σ' : St} {v : PV} (hv : ev T me fm σ = some (v, σ')) {s : Shared} {φ : Phi}
    (I : Inv h₀ φ σ s.heap) (F : FrAt h₀ γ env fm φ s.heap) : W prog w A (evalPart o env) s (Ret h₀ [] φ s.heap v σ') := by
  cases o with
  | none =>
    cases h
    simp only [ev] at hv
    obtain ⟨rfl, rfl⟩ := rt_eq hv
    exact W.pure (Ret.here I .none)
  | some e => exact S _ _ _ h _ _ _ _ hv A s φ env R E I F

theorem subscript_slice (S : EvSnd prog w h₀ G T d n) (R : Room d A) (E : EnvOk γ env) {o : Expr} {l u t : Option Expr} {pos p : Pos} {mo ml mu mt : ME} (h0 : cE G n γ o = some mo) (h1 : optE (cE G n γ) l = some ml) (h2 : optE (cE G n γ) u = some mu) (hst : optE (cE G n γ) t = some mt)
    {σ σ' : St} {v : PV} (hv : ev T (.slc mo ml mu mt) fm σ = some (v, σ')) {s : Shared} {φ : Phi} (I : Inv h₀ φ σ s.heap) (F : FrAt h₀ γ env fm φ s.heap) :
    W prog w A (eval (.Subscript o (.Slice l u t p) pos) env) s (Ret h₀ [] φ s.heap v σ') := by
  change bnd _ _ _ = _ at hv
  obtain ⟨ov, σ₁, e1, hv⟩ := bnd_some hv
  obtain ⟨lv, σ₂, e2, hv⟩ := bnd_some hv
  obtain ⟨uv, σ₃, e3, hv⟩ := bnd_some hv
  obtain ⟨tv, σ₄, e4, hv⟩ := bnd_some hv
  refine Subscript_ ?_
  refine (S _ _ _ h0 _ _ _ _ e1 A s φ env R E I F).go fun uo h' tk r => ?_
  obtain ⟨φ₁, S₁, I₁, q⟩ := r
  refine wpAny_Slice ?_
  refine (part_sound S R E h1 e2 (s := { s with heap := h', toks := tk }) I₁ (F.step0 S₁)).go fun ul h'' tk' r => ?_
  obtain ⟨φ₂, S₂, I₂, q2⟩ := r
  have S12 := S₁.trans S₂
  refine (part_sound S R E h2 e3 (s := { s with heap := h'', toks := tk' }) I₂ (F.step0 S12)).go fun uu h3 tk3 r => ?_
  obtain ⟨φ₃, S₃, I₃, q3⟩ := r
  have S13 := S12.trans S₃
  refine (part_sound S R E hst e4 (s := { s with heap := h3, toks := tk3 }) I₃ (F.step0 S13)).go fun ut h4 tk4 r => ?_
  obtain ⟨φ₄, S₄, I₄, q4⟩ := r
  refine (tail_slice (s := { s with heap := h4, toks := tk4 }) hv I₄ (S₄.rv (S₃.rv (S₂.rv q))) (S₄.rv (S₃.rv q2)) (S₄.rv q3) q4).go fun r h5 tk5 x => ⟨h5, tk5, rfl, Ret.before (S13.trans S₄) x⟩

set_option tactic.hygienic true in
theorem attr_sound (D : Wd prog w h₀ G T d) (S : EvSnd prog w h₀ G T d n) (R : Room d A) (E : EnvOk γ env) {o : Expr} {x : Str} {pos : Pos} {mo : ME} (hn : notSuper o = true) (h0 : cE G n γ o = some mo)
    {σ σ' : St} {v : PV} (hv : ev T (.attr mo x) fm σ = some (v, σ')) {s : Shared} {φ : Phi} (I : Inv h₀ φ σ s.heap) (F : FrAt h₀ γ env fm φ s.heap) :
    W prog w A (eval (.Attribute o x pos) env) s (Ret h₀ [] φ s.heap v σ') := by
  change bnd _ _ _ = _ at hv
  obtain ⟨ov, σ₁, e1, hv⟩ := bnd_some hv
  refine Attribute_any_ ?_ (by
    show (do let o ← attributeBase o x env (eval o env); standAt pos.atName; let r ← holding [o] (getAttr o x true); letTemporaryGo _ o r; pure r : Sem Value) = _
    rw [base_plain hn])
  refine (S _ _ _ h0 _ _ _ _ e1 A s φ env R E I F).go fun uo h' tk r => ?_
  obtain ⟨φ₁, S₁, I₁, q⟩ := r
  split at hv
  · obtain ⟨hv, rfl⟩ := look_some hv
    split at hv
    · rename_i C as hσ
      split at hv
      · rename_i hat
        have hl : ∃ v', as.lookup x = some v' ∧ v' = v ∧ ∀ y, v ≠ .top y := by
          unfold noTop at hv
          split at hv
          · cases hv
          · rename_i hnt
            exact ⟨v, hv, rfl, fun y e => hnt y (by rw [hv, e])⟩
        obtain ⟨_, h1, rfl, h2⟩ := hl
        refine (getattr_sound (s := { s with heap := h', toks := tk }) (D.at_ _ _ hat) hσ h1 h2 I₁ q).go fun u h'' tk' r => ?_
        obtain ⟨rfl, q'⟩ := r
        exact ⟨_, tk', rfl, φ₁, S₁, I₁, q'⟩
      · cases hv
    · cases hv
  · cases hv
end
end Mine
end

section
set_option tactic.hygienic false
namespace Mine
open PySem PyProof.Rows

inductive MapMS {α β : Type} (f : α → Option β) (a : α) (l : List α) (r : List β) : Prop where
  | mk (b : β) (r' : List β) (h1 : f a = some b) (h2 : l.mapM f = some r') (h3 : r = b :: r') : MapMS f a l r
theorem mapM_cons_some {α β : Type} {f : α → Option β} {a : α} {l : List α} {r : List β} (h : (a :: l).mapM f = some r) : MapMS f a l r := by
  rw [List.mapM_cons] at h
  cases e : f a with
  | none => rw [e] at h; cases h
  | some b =>
    cases e' : l.mapM f with
    | none => rw [e, e'] at h; cases h
    | some r' => rw [e, e'] at h; cases h; exact ⟨b, r', e, e', rfl⟩

section
variable {prog : Program} {w : World} {h₀ : Heap} {G : List (Str × PV)} {T : Tab} {d n : Nat} {γ : Gm} {env : Env} {fm : Fm} {A : Around} {s : Shared} {φ : Phi} {σ : St}

/-- what a store into the frame leaves -/
noncomputable def Stored (h₀ : Heap) (γ : Gm) (env : Env) (φ : Phi) (h : Heap) (fm' : Fm) (σ' : St) (h' : Heap) : Prop :=
  Step [env.locals] φ φ h h' ∧ Inv h₀ φ σ' h' ∧ FrAt h₀ γ env fm' φ h'
theorem Stored.before {h h₁ h' : Heap} {fm' : Fm} {σ' : St} (S : Step [env.locals] φ φ h h₁) (r : Stored h₀ γ env φ h₁ fm' σ' h') : Stored h₀ γ env φ h fm' σ' h' :=
  ⟨S.trans r.1, r.2⟩

theorem name_sound {x : Str} {p : Pos} {mx : MV} {v : PV} {u : Value} {fm' : Fm} {σ' : St} (E : EnvOk γ env) (hx : mv γ x = some mx) (hv : setV fm v mx σ = some (fm', σ')) (I : Inv h₀ φ σ s.heap) (F : FrAt h₀ γ env fm φ s.heap) (q : RV φ s.heap v u) :
    W prog w A (assign (.Name x p) env u) s fun _ h' => Stored h₀ γ env φ s.heap fm' σ' h' :=
  wpAny_assign_Name (setV_sound E hx hv I F q)

theorem nameT_some {e : Expr} {mx : MV} (h : nameTarget γ e = some mx) : ∃ x p, e = .Name x p ∧ mv γ x = some mx := by
  cases e with
  | Name x p => exact ⟨x, p, rfl, h⟩
  | _ => exact nomatch (show (Option.none : Option MV) = some _ from h)
theorem target_some {e : Expr} {mt : MT} (h : target γ e = some mt) : (∃ x p mx, e = .Name x p ∧ mv γ x = some mx ∧ mt = .one mx) ∨ ∃ es c p xs, e = .Tuple es c p ∧ es.mapM (nameTarget γ) = some xs ∧ mt = .tup xs := by
  cases e with
  | Name x p =>
    obtain ⟨mx, h1, h2⟩ := Option.map_eq_some_iff.mp h
    exact .inl ⟨x, p, mx, rfl, h1, h2.symm⟩
  | Tuple es c p =>
    obtain ⟨xs, h1, h2⟩ := Option.map_eq_some_iff.mp h
    exact .inr ⟨es, c, p, xs, rfl, h1, h2.symm⟩
  | _ => exact nomatch (show (Option.none : Option MT) = some _ from h)
theorem each_target {e : Expr} {mt : MT} (h : target γ e = some mt) (es : List Expr) : assignEach (e :: es) env = (false, assign e env) :: assignEach es env := by
  rcases target_some h with ⟨_, _, _, rfl, _⟩ | ⟨_, _, _, _, rfl, _⟩
  · rfl
  · rfl
theorem each_names : ∀ (es : List Expr) (xs : List MV), es.mapM (nameTarget γ) = some xs → (assignEach es env).length = xs.length ∧ (assignEach es env).findIdx? (·.1) = none := by
  intro es
  induction es with
  | nil => intro xs hx; cases hx; exact ⟨rfl, rfl⟩
  | cons e es ih =>
    intro xs hx
    obtain ⟨mx, xs', h1, h2, rfl⟩ := mapM_cons_some hx
    obtain ⟨x, p, rfl, _⟩ := nameT_some h1
    obtain ⟨a, b⟩ := ih _ h2
    refine ⟨congrArg (· + 1) a, ?_⟩
    show List.findIdx? _ ((false, assign (.Name x p) env) :: assignEach es env) = none
    rw [List.findIdx?_cons, b]
    rfl
theorem setVs_len : ∀ (xs : List MV) (vs : List PV) (fm : Fm) (σ : St) (r : Fm × St), setVs fm xs vs σ = some r → xs.length = vs.length
  | [], [], _, _, _, _ => rfl
  | _ :: xs, _ :: vs, _, _, _, h => by
    obtain ⟨_, _, _, h2⟩ := bnd_some h
    exact congrArg (· + 1) (setVs_len xs vs _ _ _ h2)
  | [], _ :: _, _, _, _, h => nomatch h
  | _ :: _, [], _, _, _, h => nomatch h

theorem setVs_sound (E : EnvOk γ env) : ∀ (elts : List Expr) (xs : List MV) (vs : List PV) (us : List Value) (fm : Fm) (σ : St) (fm' : Fm) (σ' : St), elts.mapM (nameTarget γ) = some xs → setVs fm xs vs σ = some (fm', σ') →
    ∀ s : Shared, Inv h₀ φ σ s.heap → FrAt h₀ γ env fm φ s.heap → RVs φ s.heap vs us →
    W prog w A (assignInOrder ((assignEach elts env).map (·.2)) us) s fun _ h' => Stored h₀ γ env φ s.heap fm' σ' h' := by
  intro elts
  induction elts with
  | nil =>
    intro xs vs us fm σ fm' σ' hx hv s I F r
    cases hx
    cases r with
    | nil => cases hv; exact W.pure ⟨Step.refl _ _ _, I, F⟩
    | cons => exact nomatch hv
  | cons e elts ih =>
    intro xs vs us fm σ fm' σ' hx hv s I F r
    obtain ⟨mx, xs', h1, h2, rfl⟩ := mapM_cons_some hx
    obtain ⟨x, p, rfl, h1⟩ := nameT_some h1
    cases r with
    | nil => exact nomatch hv
    | @cons v vs u us q r =>
      obtain ⟨fm₁, σ₁, hv1, hv2⟩ := bnd_some hv
      show W prog w A (do holding us (assign (.Name x p) env u); assignInOrder ((assignEach elts env).map (·.2)) us) s _
      show wpAny _ _ _ _ _ _
      refine wpAny_bind (wpAny_holding ?_)
      refine (name_sound E h1 hv1 I F q).go fun _ h' tk st => ?_
      exact (ih _ _ _ _ _ _ _ h2 hv2 { s with heap := h', toks := tk } st.2.1 st.2.2 (st.1.rvs r)).go fun _ h'' tk' st' => ⟨h'', tk', rfl, st'.before st.1⟩

theorem extS {h h' : Heap} (hs : Heap.ExtBut h.objs.size h h') (hz : h.objs.size ≤ h'.objs.size) : Ext [] h h' :=
  ⟨hz, fun b o e _ => hs b o (Nat.ne_of_lt (Heap.lt_size e)) e, fun b o e _ => hs b o (Nat.ne_of_lt (Heap.lt_size e)) e⟩

theorem setT_sound {e : Expr} {mt : MT} {v : PV} {u : Value} {fm' : Fm} {σ' : St} (hA : A.handled = none) (E : EnvOk γ env) (ht : target γ e = some mt) (hv : setT fm v mt σ = some (fm', σ')) (I : Inv h₀ φ σ s.heap) (F : FrAt h₀ γ env fm φ s.heap) (q : RV φ s.heap v u) :
    W prog w A (assign e env u) s fun _ h' => Stored h₀ γ env φ s.heap fm' σ' h' := by
  rcases target_some ht with ⟨x, p, mx, rfl, h1, rfl⟩ | ⟨es, c, p, xs, rfl, h1, rfl⟩
  · exact name_sound E h1 hv I F q
  · cases q with
    | @tup vs us a k g ho r =>
      obtain ⟨a1, a2⟩ := each_names (env := env) _ _ h1
      have hU : W prog w A (unpackItems (.ref a) (assignEach es env).length none) s fun l h' => l = us ∧ Ext [] s.heap h' := by
        rw [a1, setVs_len _ _ _ _ _ hv, r.length]
        have := sized (prog := prog) (w := w) (A := A) (s := s) (t := unpackItems (.ref a) us.toArray.size none) (Q := fun l s' => ∃ h' tk, s' = { s with heap := h', toks := tk } ∧ l = us ∧ Ext [] s.heap h')
          (wpAny_unpackItems_tuple hA ⟨_, g, rfl, _, rfl⟩ fun h' hs hz => ⟨h', s.toks, rfl, rfl, extS hs hz⟩)
        exact this
      show W prog w A (do standAt p; unpack (.ref a) (assignEach es env)) s _
      show wpAny _ _ _ _ _ _
      refine wpAny_bind (wpAny_standAt ?_)
      unfold unpack
      rw [a2]
      refine wpAny_bind (wpAny_holding (hU.go fun l h' tk x => ?_))
      obtain ⟨rfl, x⟩ := x
      exact (setVs_sound E _ _ _ _ _ _ _ _ h1 hv { s with heap := h', toks := tk } (I.ext0 x) (F.step0 x.step) (r.mono x.grow)).go fun _ h'' tk' st => ⟨h'', tk', rfl, st.before x.nil.step⟩
    | _ => exact nomatch hv

theorem setTs_sound (hA : A.handled = none) (E : EnvOk γ env) : ∀ (ts : List Expr) (mts : List MT) (v : PV) (u : Value) (fm : Fm) (σ : St) (fm' : Fm) (σ' : St), ts.mapM (target γ) = some mts → setTs v mts fm σ = some (fm', σ') →
    ∀ s : Shared, Inv h₀ φ σ s.heap → FrAt h₀ γ env fm φ s.heap → RV φ s.heap v u → W prog w A (assignAll u ((assignEach ts env).map (·.2))) s fun _ h' => Stored h₀ γ env φ s.heap fm' σ' h' := by
  intro ts
  induction ts with
  | nil =>
    intro mts v u fm σ fm' σ' hx hv s I F q
    cases hx; cases hv
    exact W.pure ⟨Step.refl _ _ _, I, F⟩
  | cons t ts ih =>
    intro mts v u fm σ fm' σ' hx hv s I F q
    obtain ⟨mt, mts', h1, h2, rfl⟩ := mapM_cons_some hx
    obtain ⟨fm₁, σ₁, hv1, hv2⟩ := bnd_some hv
    rw [each_target h1]
    cases ts with
    | nil =>
      cases h2; cases hv2
      exact setT_sound hA E h1 hv1 I F q
    | cons t2 ts =>
      have ih' := ih _ v u _ _ _ _ h2 hv2
      obtain ⟨mt2, _, h3, _⟩ := mapM_cons_some h2
      rw [each_target h3] at ih' ⊢
      show W prog w A (do holding [u] (assign t env u); assignAll u (assign t2 env :: (assignEach ts env).map (·.2))) s _
      show wpAny _ _ _ _ _ _
      refine wpAny_bind (wpAny_holding ?_)
      refine (setT_sound hA E h1 hv1 I F q).go fun _ h' tk st => ?_
      exact (ih' { s with heap := h', toks := tk } st.2.1 st.2.2 (st.1.rv q)).go fun _ h'' tk' st' => ⟨h'', tk', rfl, st'.before st.1⟩
end
end Mine
end

section
set_option tactic.hygienic false
namespace Mine
open PySem PyProof.Rows

section
variable {prog : Program} {w : World} {h₀ : Heap} {G : List (Str × PV)} {T : Tab} {d n : Nat} {γ : Gm} {env : Env} {fm : Fm} {A : Around}

/-- a source laid -/
noncomputable def Made (h₀ : Heap) (φ : Phi) (h : Heap) (src : PI) (σ' : St) (u : Value) (h' : Heap) : Prop :=
  ∃ z X φ', u = .ref z ∧ Step [] φ φ' h h' ∧ Inv h₀ φ' σ' h' ∧ SrcAt φ' h₀ h' z 0 src X ∧ ∀ a ∈ X, h.objs.size ≤ a

set_option tactic.hygienic true in
theorem cI_cases {c : Expr → Option ME} {it : Expr} {mi : MI} (h : cI G c γ it = some mi) :
    (∃ me, c it = some me ∧ mi = .val me) ∨ ∃ f es p mes, it = .Call f es [] p ∧ isZip G γ f = true ∧ seqL (es.map c) = some mes ∧ mi = .zip mes := by
  unfold cI at h
  split at h
  · rename_i f es ks p
    split at h
    · rename_i hz
      simp only [Bool.and_eq_true, List.isEmpty_iff] at hz
      obtain ⟨hz, rfl⟩ := hz
      rw [Option.map_eq_some_iff] at h
      obtain ⟨mes, h1, rfl⟩ := h
      exact .inr ⟨f, es, p, mes, rfl, hz, h1, rfl⟩
    · rw [Option.map_eq_some_iff] at h
      obtain ⟨me, h1, rfl⟩ := h
      exact .inl ⟨me, h1, rfl⟩
  · rw [Option.map_eq_some_iff] at h
    obtain ⟨me, h1, rfl⟩ := h
    exact .inl ⟨me, h1, rfl⟩

theorem not_set {G : List (Str × PV)} {n : Nat} {γ : Gm} {it : Expr} {mi : MI} (h : cI G (cE G n γ) γ it = some mi) (env : Env) (x : Value) : foldedSetIterable it env x = pure x := by
  rcases cI_cases h with ⟨me, h1, _⟩ | ⟨f, es, p, mes, rfl, _⟩
  · cases n with
    | zero => cases (show (Option.none : Option ME) = some _ from h1)
    | succ n => cases it <;> first | rfl | (cases (show (Option.none : Option ME) = some _ from h1); done)
  · rfl

set_option tactic.hygienic true in
theorem isZip_name {f : Expr} (h : isZip G γ f = true) : ∃ x p, f = .Name x p ∧ γ.names.lookup x = some .globalImplicit ∧ G.lookup x = some (.top (.type "zip")) := by
  unfold isZip at h
  split at h
  · rename_i z p
    simp only [Bool.and_eq_true] at h
    obtain ⟨⟨_, h2⟩, h3⟩ := h
    refine ⟨z, p, rfl, by simpa using h2, ?_⟩
    split at h3
    · rename_i m e; rw [e]; rw [beq_iff_eq.mp h3]
    · cases h3
  · cases h

theorem kept_type (t : String) : Kept prog w h₀ (.type t) := fun h _ => ⟨.machine, .inr (.inl rfl), W.Looks.of_pure rfl⟩

theorem zip_call {vs : List PV} {us : List Value} {σ : St} {s : Shared} {φ : Phi} (hz : ((vs.length == 2 || vs.length == 3) && vs.all (fun v => zipable v && (nth1 σ v 0).isSome)) = true) (I : Inv h₀ φ σ s.heap) (r : RVs φ s.heap vs us) :
    W prog w A (call (.type "zip") us) s (Made h₀ φ s.heap (.zip vs σ.length) (σ ++ [.own vs.length])) := by
  simp only [Bool.and_eq_true, Bool.or_eq_true, beq_iff_eq, List.all_eq_true] at hz
  obtain ⟨hl, ha⟩ := hz
  rcases hl with hl | hl
  · match vs, hl with
    | [a, b], _ =>
      cases r with | cons q1 r => cases r with | cons q2 r => cases r with | nil =>
      obtain ⟨a1, a2⟩ := ha a (by simp)
      obtain ⟨b1, b2⟩ := ha b (by simp)
      exact zip2_make a1 a2 b1 b2 I q1 q2
  · match vs, hl with
    | [a, b, c], _ =>
      cases r with | cons q1 r => cases r with | cons q2 r => cases r with | cons q3 r => cases r with | nil =>
      obtain ⟨a1, a2⟩ := ha a (by simp)
      obtain ⟨b1, b2⟩ := ha b (by simp)
      obtain ⟨c1, c2⟩ := ha c (by simp)
      exact zip3_make a1 a2 b1 b2 c1 c2 I q1 q2 q3

theorem iter_sound (D : Wd prog w h₀ G T d) (S : EvSnd prog w h₀ G T d n) (R : Room d A) (E : EnvOk γ env) {it : Expr} {mi : MI} {src : PI} {σ σ' : St} (hm : cI G (cE G n γ) γ it = some mi) (hv : evI T mi fm σ = some (src, σ'))
    {s : Shared} {φ : Phi} (I : Inv h₀ φ σ s.heap) (F : FrAt h₀ γ env fm φ s.heap) :
    wpAny (model prog w) A (eval it env) (fun x s₁ => wpAny (model prog w) A (pyIter x) (fun u s₂ => ∃ h' tk, s₂ = { s with heap := h', toks := tk } ∧ Made h₀ φ s.heap src σ' u h') bot s₁) bot s := by
  rcases cI_cases hm with ⟨me, h1, rfl⟩ | ⟨f, es, p, mes, rfl, hz, h1, rfl⟩
  · change bnd _ _ _ = _ at hv
    obtain ⟨v, σ₁, hv, he⟩ := bnd_some hv
    split at he
    case isFalse => cases he
    rename_i hsome
    cases he
    refine (S _ _ _ h1 _ _ _ _ hv A s φ env R E I F).go fun u h' tk r => ?_
    obtain ⟨φ₁, S₁, I₁, q⟩ := r
    have hn := Option.isSome_iff_exists.mp hsome
    obtain ⟨r, hn⟩ := hn
    refine (pyIter_sound (s := { s with heap := h', toks := tk }) hn I₁ q).go fun u h'' tk' x => ?_
    obtain ⟨hu, x1, x2, _⟩ := x
    refine ⟨h'', tk', rfl, h'.objs.size, _, φ₁, hu, S₁.trans x1.step, I₁.ext0 x1, .one x2 (I₁.fresh (Nat.le_refl _)) (Nat.le_trans I.sz S₁.size), ?_⟩
    intro a ha; simp at ha; subst ha; exact S₁.size
  · change bnd _ _ _ = _ at hv
    obtain ⟨vs, σ₁, hv1, he⟩ := bnd_some hv
    split at he
    · rename_i hc
      cases he
      obtain ⟨x, px, rfl, k1, k2⟩ := isZip_name hz
      have he : eval (.Call (.Name x px) es [] p) env = (eval (.Name x px) env >>= fun u => callWith p u [] (backTo p (starEach es env)) (backToKw p (keywordEach [] env))) := rfl
      rw [he]
      refine wpAny_bind ?_
      have hdbg : (x == ("__debug__" : Str)) = false ∨ True := .inr trivial
      have hN : W prog w A (eval (.Name x px) env) s fun u h' => h' = s.heap ∧ u = .type "zip" := by
        have hne : (x == ("__debug__" : Str)) = false := by
          unfold isZip at hz
          simp only [Bool.and_eq_true] at hz
          have : x = ("zip" : Str) := by simpa using hz.1.1
          subst this; decide
        show W prog w A (do standAt px; if x == ("__debug__" : Str) then debugConstant else loadName env x) s _
        show wpAny _ _ _ _ _ _
        refine wpAny_bind (wpAny_standAt ?_)
        rw [hne]
        refine (glob_sound D.globs E k1 k2 I).go fun u h' tk r => ?_
        obtain ⟨rfl, q⟩ := r
        cases q
        exact ⟨_, tk, rfl, rfl, rfl⟩
      refine hN.go fun u h' tk r => ?_
      obtain ⟨rfl, rfl⟩ := r
      obtain ⟨ha1, _⟩ := stars_plain (env := env) p es mes h1
      refine W.callWith_of (P := fun _ => True) (by rw [ha1]; rfl) (fun h _ => ⟨.machine, .inr (.inl rfl), W.Looks.of_pure rfl⟩) ?_
      refine (args_sound (kvs := []) S R E p h1 (mk := .nil) rfl hv1 rfl (s := { s with toks := tk }) I F).go fun a h' tk' r => ?_
      obtain ⟨φ₁, S₁, I₁, q, q'⟩ := r
      refine ⟨trivial, ?_⟩
      obtain ⟨apos, akw⟩ := a
      cases q' with | nil =>
      refine (zip_call (s := { s with heap := h', toks := tk' }) hc I₁ q).go fun u h'' tk'' r => ?_
      obtain ⟨z, X, φ₂, rfl, S₂, I₂, sr, hX⟩ := r
      have S12 := S₁.trans S₂
      cases sr with
      | zip Z hl =>
        refine wpAny_pyIter_zip Z.rec_ ⟨h'', tk'', rfl, z, _, φ₂, rfl, S12, I₂, .zip Z hl, fun a ha => Nat.le_trans S₁.size (hX a ha)⟩
    · cases he
end
end Mine
end

section
set_option tactic.hygienic false
namespace Mine
open PySem PyProof.Rows

noncomputable abbrev tests (ifs : List Expr) (r : Bool) (env : Env) : Sem Bool := forIn ifs r fun c r => if r = true then do let ok ← isTrue c env (eval c env); pure (ForInStep.yield ok) else pure (ForInStep.yield r)

theorem tests_false (env : Env) : ∀ ifs, tests ifs false env = pure false := by
  intro ifs
  induction ifs with
  | nil => rfl
  | cons c ifs ih =>
    unfold tests at ih ⊢
    rw [List.forIn_cons]
    exact ih

section
variable {prog : Program} {w : World} {h₀ : Heap} {G : List (Str × PV)} {T : Tab} {d n : Nat} {γ : Gm} {env : Env} {fm : Fm} {A : Around}

theorem ifs_sound (S : TrSnd prog w h₀ G T d n) (R : Room d A) (E : EnvOk γ env) : ∀ ifs mes, seqL (ifs.map (cE G n γ)) = some mes → ∀ σ b σ', evIfs T mes fm σ = some (b, σ') → ∀ (s : Shared) φ, Inv h₀ φ σ s.heap → FrAt h₀ γ env fm φ s.heap →
    W prog w A (tests ifs true env) s (RetX h₀ φ s.heap σ' (isB b)) := by
  intro ifs
  induction ifs with
  | nil =>
    intro mes hm σ b σ' hv s φ I F
    cases hm; cases hv
    exact W.pure ⟨φ, Step.refl _ _ _, I, rfl⟩
  | cons c ifs ih =>
    intro mes hm σ b σ' hv s φ I F
    obtain ⟨me, mes', h1, h2, rfl⟩ := seqL_cons hm
    simp only [evIfs] at hv
    obtain ⟨v, σ₁, hv1, hv2⟩ := bnd_some hv
    obtain ⟨t, σ₂, ht', hv3⟩ := bnd_some hv2
    clear hv hv2
    obtain ⟨ht, rfl⟩ := look_some ht'
    unfold tests
    rw [List.forIn_cons]
    show W prog w A ((do let ok ← isTrue c env (eval c env); pure (ForInStep.yield ok)) >>= _) s _
    show wpAny _ _ _ _ _ _
    refine wpAny_bind (wpAny_bind ((S _ _ _ h1 _ _ _ _ _ hv1 ht A s φ env R E I F).go fun ok h' tk r => wpAny_pure ?_))
    obtain ⟨φ₁, S₁, I₁, q⟩ := r
    obtain rfl : ok = t := q
    show wpAny _ _ (tests ifs ok env) _ _ _
    cases ok with
    | true => exact (ih _ h2 _ _ _ hv3 { s with heap := h', toks := tk } φ₁ I₁ (F.step0 S₁)).go fun b h'' tk' r => ⟨h'', tk', rfl, r.before S₁⟩
    | false =>
      obtain ⟨rfl, rfl⟩ := rt_eq hv3
      rw [tests_false]
      exact wpAny_pure ⟨h', tk, rfl, φ₁, S₁, I₁, rfl⟩

theorem loopM_some {β δ : Type} {src : PI} {body : PV → β → M (β × Option δ)} {k i : Nat} {b : β} {σ : St} {r : (β × Option δ) × St} (h : loopM src body k i b σ = some r) : nth σ src i ≠ none ∧ ∃ k', k = k' + 1 := by
  cases k with
  | zero => cases h
  | succ k =>
    refine ⟨?_, k, rfl⟩
    intro e
    simp only [loopM, e] at h
    cases h

set_option tactic.hygienic true in
theorem loopM_turn {β δ : Type} {src : PI} {body : PV → β → M (β × Option δ)} {k i : Nat} {b b' : β} {σ σ' : St} {r : Option δ} (h : loopM src body (k + 1) i b σ = some ((b', r), σ')) :
    (nth σ src i = some none ∧ b' = b ∧ r = none ∧ σ' = σ) ∨ ∃ v, nth σ src i = some (some v) ∧ ((∃ x, r = some x ∧ body v b σ = some ((b', some x), σ')) ∨ ∃ b₁ σ₁, body v b σ = some ((b₁, none), σ₁) ∧ loopM src body k (i + 1) b₁ σ₁ = some ((b', r), σ')) := by
  simp only [loopM] at h
  split at h
  · cases h
  · rename_i e; cases h; exact .inl ⟨e, rfl, rfl, rfl⟩
  · rename_i v e
    refine .inr ⟨v, e, ?_⟩
    split at h
    · cases h
    · rename_i e2; cases h; exact .inl ⟨_, rfl, e2⟩
    · rename_i e2; exact .inr ⟨_, _, e2, h⟩

theorem pair_for {t : MT} {mi : MI} {e : Expr} {src : PI} {σ σ' : St} (hz : zipT t mi = true) (ht : target γ e = some t) (hv : evI T mi fm σ = some (src, σ')) : pairFor src e = true := by
  cases mi with
  | val me =>
    change bnd _ _ _ = _ at hv
    obtain ⟨v, σ₁, _, he⟩ := bnd_some hv
    split at he
    · cases he; rfl
    · cases he
  | zip mes =>
    change bnd _ _ _ = _ at hv
    obtain ⟨vs, σ₁, _, he⟩ := bnd_some hv
    split at he
    · cases he
      cases t with
      | one => cases hz
      | tup xs =>
        cases e with
        | Name => simp [target] at ht
        | Tuple => rfl
        | _ => cases ht
    · cases he

theorem made_off {φ : Phi} {h : Heap} {X : List Addr} (F : FrAt h₀ γ env fm φ h) (hX : ∀ a ∈ X, h.objs.size ≤ a) : env.locals ∉ X := fun hm => by
  obtain ⟨o, e, _⟩ := F.there
  exact Nat.lt_irrefl _ (Nat.lt_of_lt_of_le (Heap.lt_size e) (hX _ hm))

theorem pyIter_src {src : PI} {z : Addr} {i : Nat} {X : List Addr} {s : Shared} {φ : Phi} (y : SrcAt φ h₀ s.heap z i src X) : W prog w A (pyIter (.ref z)) s fun u h' => u = .ref z ∧ h' = s.heap := by
  cases y with
  | one h1 _ _ => exact pyIter_iter h1
  | zip Z _ => exact wpAny_pyIter_zip Z.rec_ ⟨_, _, rfl, rfl, rfl⟩

/-! ### the turn of a comprehension's loop -/
theorem compTurn_eq {elt target iter : Expr} {ifs : List Expr} {gens : List Comprehension} {sc : Scope} {pos : Pos} {k : Nat} {it acc : Value} {env : Env} (h : gens[k]? = some ⟨target, iter, ifs, 0⟩) :
    compTurn (.ListComp elt gens sc pos) k it acc env = (do
      standAt iter.pos
      match ← pyNext it with
      | none => pure (.done .next)
      | some v =>
        letOwnedTupleGo target it v
        assign target env v
        let ok ← tests ifs true env
        if ok then
          match gens[k + 1]? with
          | some g' =>
            let x ← eval g'.iter env
            standAt g'.iter.pos
            let x ← if g'.is_async != 0 then foldedIterable g'.iter x else foldedSetIterable g'.iter env x
            let _ ← runOwn (.compStart (.ListComp elt gens sc pos) (k + 1) (← holding [x] (if g'.is_async != 0 then asyncIter x else pyIter x)) acc env) env
          | none => (do let _ ← call (.builtin "list.append") [acc, ← eval elt env])
        again (.compLoop (.ListComp elt gens sc pos) k it acc env)) := by
  unfold compTurn
  simp only [h]
  rfl
end
end Mine
end

section
set_option tactic.hygienic false
namespace Mine
open PySem PyProof.Rows

section
variable {prog : Program} {w : World} {h₀ : Heap} {G : List (Str × PV)} {T : Tab} {d n : Nat} {γ : Gm} {env : Env} {fm : Fm} {A : Around}

theorem codeAny_compStart {elt target iter : Expr} {ifs : List Expr} {gens : List Comprehension} {sc : Scope} {pos : Pos} {k : Nat} {z : Addr} {acc : Value} {R : Result → Shared → Prop} {s : Shared} {src : PI} {i : Nat} {X : List Addr} {φ : Phi}
    (hg : gens[k]? = some ⟨target, iter, ifs, 0⟩) (y : SrcAt φ h₀ s.heap z i src X)
    (h : ∀ tk, codeAny (model prog w) A (.compLoop (.ListComp elt gens sc pos) k (.ref z) acc env) R { s with toks := tk }) :
    codeAny (model prog w) A (.compStart (.ListComp elt gens sc pos) k (.ref z) acc env) R s := by
  refine codeAny_of_tree ?_
  show wpAny _ A ((compStart (.ListComp elt gens sc pos) k (.ref z) acc env).onRaise (fun x => do noteFrame x env; standAt theWindowsPlace)) _ _ s
  refine wpAny_notedAt (bot_any ?_)
  unfold compStart
  have hc : (clausesOf (.ListComp elt gens sc pos))[k]? = some ⟨target, iter, ifs, 0⟩ := hg
  simp only [hc]
  show wpAny _ _ (ask >>= _) _ _ s
  refine wpAny_bind (wpAny_askSetting (wpAny_ite ?_))
  have hs : ∀ tk, codeAny (model prog w) A (.compLoop (.ListComp elt gens sc pos) k (.ref z) acc env) R { s with heap := s.heap, toks := tk } := h
  split
  · first
      | exact wpAny_bind (wpAny_pure (wpAny_pure (And.intro rfl (hs s.toks))))
      | exact wpAny_pure (And.intro rfl (hs s.toks))
  · have go : wpAny (model prog w) A (pyIter (.ref z)) (fun it' s' => codeAny (model prog w) A (.compLoop (.ListComp elt gens sc pos) k it' acc env) R s') bot s :=
      (pyIter_src y).go fun u h' tk x => by obtain ⟨rfl, rfl⟩ := x; exact hs tk
    first
      | exact wpAny_bind (wpAny_rule (wpAny_bind (wpAny_standAt (wpAny_bind (wpAny_mono go (fun it' s' h' => wpAny_pure (And.intro rfl h')) fun _ _ x => x)))))
      | (refine wpAny_bind (wpAny_rule ?_); show wpAny _ _ (standAt iter.pos >>= _) _ _ s; exact wpAny_bind (wpAny_standAt (wpAny_bind (wpAny_mono go (fun it' s' h' => wpAny_pure (And.intro rfl h')) fun _ _ x => x))))

noncomputable def lvlBody (T : Tab) (t : MT) (fs : MEs) (g : MG) (acc : PV) : PV → Fm → M (Fm × Option Unit) := fun v fm' => bnd (evG T (.lvl t fs g) acc (some v) fm') fun fm'' => rt (fm'', none)

/-- what a comprehension's loop leaves -/
inductive Looped (h₀ : Heap) (γ : Gm) (env : Env) (X : List Addr) (φ : Phi) (h : Heap) (fm' : Fm) (σ' : St) (h' : Heap) : Prop where
  | mk (φ' : Phi) (S : Step (env.locals :: X) φ φ' h h') (I : Inv h₀ φ' σ' h') (F : FrAt h₀ γ env fm' φ' h') : Looped h₀ γ env X φ h fm' σ' h'

theorem comp_loop (D : Wd prog w h₀ G T d) (S : EvSnd prog w h₀ G T d n) (S' : TrSnd prog w h₀ G T d n) (Rm : Room d A) (E : EnvOk γ env) {elt : Expr} {gens : List Comprehension} {sc : Scope} {pos : Pos} {acc : PV} :
    ∀ (rest : List Comprehension) (k : Nat) (tg iter : Expr) (ifs : List Expr) (t : MT) (fs : MEs) (g : MG), gens.drop k = ⟨tg, iter, ifs, 0⟩ :: rest → target γ tg = some t → seqL (ifs.map (cE G n γ)) = some fs → cG G (cE G n) γ elt rest = some g →
    ∀ (fuel i : Nat) (fm : Fm) (σ : St) (fm' : Fm) (r : Option Unit) (σ' : St) (src : PI), loopM src (lvlBody T t fs g acc) fuel i fm σ = some ((fm', r), σ') → ∀ (s : Shared) (φ : Phi) (z : Addr) (X : List Addr) (uacc : Value),
    Inv h₀ φ σ s.heap → FrAt h₀ γ env fm φ s.heap → SrcAt φ h₀ s.heap z i src X → env.locals ∉ X → pairFor src tg = true → RV φ s.heap acc uacc → ∀ R : Result → Shared → Prop,
    (∀ h' tk, Looped h₀ γ env X φ s.heap fm' σ' h' → R (.ok .next) { s with heap := h', toks := tk }) → codeAny (model prog w) A (.compLoop (.ListComp elt gens sc pos) k (.ref z) uacc env) R s := by
  intro rest
  induction rest with
  | nil =>
    intro k tg iter ifs t fs g hg ht hfs hcg fuel
    have hk : gens[k]? = some ⟨tg, iter, ifs, 0⟩ := by
      have := congrArg (·[0]?) hg
      simpa using this
    have hk1 : gens[k + 1]? = none := by
      have := congrArg (·[1]?) hg
      simpa using this
    simp only [cG, Option.map_eq_some_iff] at hcg
    obtain ⟨me, hme, rfl⟩ := hcg
    induction fuel with
    | zero => intro i fm σ fm' r σ' src hv; cases hv
    | succ fuel ih =>
      intro i fm σ fm' r σ' src hv s φ z X uacc I F y hX hp qa R hR
      refine codeAny_of_tree ?_
      show wpAny _ A ((compTurn (.ListComp elt gens sc pos) k (.ref z) uacc env).onRaise (fun x => do noteFrame x env; theTreesLotGoes x)) _ _ s
      refine wpAny_noted (bot_any ?_)
      rw [compTurn_eq hk, hk1]
      refine wpAny_bind (wpAny_standAt ?_)
      rcases loopM_turn hv with ⟨e0, rfl, rfl, rfl⟩ | ⟨v, e0, hb⟩
      · refine wpAny_bind ((next_none Rm.free e0 I y).go fun r h' tk x => ?_)
        obtain ⟨rfl, I', S₁⟩ := x
        exact wpAny_pure (hR _ _ ⟨φ, S₁.more (by intro a ha; exact List.mem_cons_of_mem _ ha), I', F.step S₁ hX⟩)
      · refine wpAny_bind ((next_some Rm.free e0 I y).go fun r h' tk x => ?_)
        obtain ⟨u, rfl, q, I₁, S₁, m₁⟩ := x
        have F₁ := F.step S₁ hX
        refine wpAny_bind ((go_sound (target := tg) (s := { s with heap := h', toks := tk }) m₁ hp I₁).go fun _ h₂ tk₂ x => ?_)
        obtain ⟨I₂, S₂, y₂⟩ := x
        have F₂ := F₁.step S₂ hX
        have S12 := S₁.trans S₂
        have hb' : ∃ fm₁ σ₁, evG T (.lvl t fs (.elt me)) acc (some v) fm σ = some (fm₁, σ₁) ∧ loopM src (lvlBody T t fs (.elt me) acc) fuel (i + 1) fm₁ σ₁ = some ((fm', r), σ') := by
          rcases hb with ⟨x, _, hb⟩ | ⟨fm₁, σ₁, hb, hl⟩
          · simp only [lvlBody] at hb
            obtain ⟨f, σ₁, _, hb⟩ := bnd_some hb
            cases hb
          · simp only [lvlBody] at hb
            obtain ⟨f, σ₂, hb1, hb2⟩ := bnd_some hb
            obtain ⟨hb2, rfl⟩ := rt_eq hb2
            cases hb2
            exact ⟨_, _, hb1, hl⟩
        obtain ⟨fm₁, σ₁, hg1, hl⟩ := hb'
        change bnd _ _ _ = _ at hg1
        obtain ⟨fm₂, σ₂, hset, hg2⟩ := bnd_some hg1
        obtain ⟨ok, σ₃, hok, hg3⟩ := bnd_some hg2
        refine wpAny_bind ((setT_sound (s := { s with heap := h₂, toks := tk₂ }) Rm.free E ht hset I₂ F₂ (S₂.rv q)).go fun _ h₃ tk₃ st => ?_)
        obtain ⟨S₃, I₃, F₃⟩ := st
        have y₃ := y₂.step S₃ (by intro b hb hm; simp at hm; subst hm; exact hX hb)
        refine wpAny_bind ((ifs_sound S' Rm E _ _ hfs _ _ _ hok { s with heap := h₃, toks := tk₃ } φ I₃ F₃).go fun ok' h₄ tk₄ x => ?_)
        obtain ⟨φ₄, S₄, I₄, e⟩ := x
        obtain rfl : ok' = ok := e
        have F₄ := F₃.step0 S₄
        have y₄ := y₃.step S₄ (by simp)
        have S14 : Step (env.locals :: X) φ φ₄ s.heap h₄ := ((S12.more (by intro a ha; exact List.mem_cons_of_mem _ ha)).trans (S₃.more (by simp))).trans (S₄.more (by simp))
        have cont : ∀ (s₅ : Shared) φ₅, Step (env.locals :: X) φ φ₅ s.heap s₅.heap → Inv h₀ φ₅ σ₁ s₅.heap → FrAt h₀ γ env fm₁ φ₅ s₅.heap → SrcAt φ₅ h₀ s₅.heap z (i + 1) src X → RV φ₅ s₅.heap acc uacc → s₅ = { s with heap := s₅.heap, toks := s₅.toks } →
            wpAny (model prog w) A (again (.compLoop (.ListComp elt gens sc pos) k (.ref z) uacc env)) (fun fin s' => match fin with | .done f => R (.ok f) s' | .again c' => c'.quiet = true ∧ codeAny (model prog w) A c' R s') bot s₅ :=
          fun s₅ φ₅ S₅ I₅ F₅ y₅ q₅ hs₅ => wpAny_pure ⟨rfl, ih _ _ _ _ _ _ _ hl s₅ φ₅ z X uacc I₅ F₅ y₅ hX hp q₅ R fun h' tk' x => by
            obtain ⟨φ₆, S₆, I₆, F₆⟩ := x
            rw [hs₅]
            exact hR h' tk' ⟨φ₆, S₅.trans S₆, I₆, F₆⟩⟩
        cases ok' with
        | false =>
          obtain ⟨rfl, rfl⟩ := rt_eq hg3
          exact cont { s with heap := h₄, toks := tk₄ } φ₄ S14 I₄ F₄ y₄ (S14.rv qa) rfl
        | true =>
          simp only [if_true, evG] at hg3
          obtain ⟨ev₁, σ₄, hev, hg4⟩ := bnd_some hg3
          obtain ⟨un, σ₅, hpush, hg5⟩ := bnd_some hg4
          obtain ⟨rfl, rfl⟩ := rt_eq hg5
          simp only [if_true]
          refine wpAny_bind (wpAny_bind ((S _ _ _ hme _ _ _ _ hev A { s with heap := h₄, toks := tk₄ } φ₄ env Rm E I₄ F₄).go fun x h₅ tk₅ rr => ?_))
          obtain ⟨φ₅, S₅, I₅, q₅⟩ := rr
          refine wpAny_bind ((push_sound (s := { s with heap := h₅, toks := tk₅ }) hpush I₅ (S₅.rv (S14.rv qa)) q₅).go fun rr h₆ tk₆ xx => ?_)
          obtain ⟨_, S₆, I₆⟩ := xx
          refine wpAny_pure ?_
          have S56 := S₅.trans S₆
          exact cont { s with heap := h₆, toks := tk₆ } φ₅ (S14.trans (S56.more (by simp))) I₆ (F₄.step0 S56) (y₄.step S56 (by simp)) (S56.rv (S14.rv qa)) rfl
  | cons c rest ihr =>
    intro k tg iter ifs t fs g hg ht hfs hcg
    exact nomatch (show (Option.none : Option MG) = some _ from hcg)

end
end Mine
end

section
set_option tactic.hygienic false
namespace Mine
open PySem PyProof.Rows

section
variable {prog : Program} {w : World} {h₀ : Heap} {G : List (Str × PV)} {T : Tab} {d n : Nat} {γ : Gm} {env : Env} {fm : Fm} {A : Around}

theorem namesOf_cons (k : NameKind) (x : Str × NameKind) (r : List (Str × NameKind)) : namesOf k (x :: r) = if x.2 == k then x.1 :: namesOf k r else namesOf k r := by
  unfold namesOf
  rw [List.filter_cons]
  split <;> rfl

set_option tactic.hygienic true in
/-- fresh cells -/
theorem lay_cells : ∀ (names : List (Str × NameKind)) (acc : List (Str × Addr)) (cs : List Str) (ks : List Nat) (φ : Phi) (σ : St) (h : Heap) (ks' : List Nat) (σ' : St), CellsAt φ cs acc ks → Inv h₀ φ σ h → allocCells (namesOf .cell names).length σ = some (ks', σ') →
    ∃ φ', Step [] φ φ' h (pushCells h names) ∧ Inv h₀ φ' σ' (pushCells h names) ∧ CellsAt φ' ((namesOf .cell names).reverse ++ cs) (cellsFrom h.objs.size names acc) (ks' ++ ks) ∧ Ext [] h (pushCells h names) := by
  intro names
  induction names with
  | nil =>
    intro acc cs ks φ σ h ks' σ' hc I ha
    cases ha
    exact ⟨φ, Step.refl _ _ _, I, hc, Ext.refl _ _⟩
  | cons x r ih =>
    intro acc cs ks φ σ h ks' σ' hc I ha
    obtain ⟨nm, kd⟩ := x
    rw [namesOf_cons] at ha
    unfold pushCells cellsFrom
    by_cases hk : (kd == NameKind.cell) = true
    · rw [if_pos hk] at ha
      rw [if_pos hk, if_pos hk]
      simp only [List.length_cons, allocCells] at ha
      split at ha
      · rename_i ks1 σ1 e
        cases ha
        have x1 := Ext.push h { cls := .type "cell", data := .cell none }
        obtain ⟨I', S'⟩ := I.alloc x1 (p := (h.objs.size, h.objs.size)) (Nat.le_refl _) (c := .cel none) ⟨rfl, _, none, Heap.get?_push_size _ rfl, rfl, trivial⟩
        have hc' : CellsAt (φ ++ [(h.objs.size, h.objs.size)]) (nm :: cs) ((nm, h.objs.size) :: acc) (σ.length :: ks) :=
          .cons (by rw [← I.len]; simp) (hc.mono ⟨_, rfl⟩)
        obtain ⟨φ', S2, I2, c2, x2⟩ := ih _ _ _ _ _ _ _ _ hc' I' e
        have sz : (h.push { cls := .type "cell", data := .cell none }).objs.size = h.objs.size + 1 := Heap.size_push ..
        rw [sz] at c2
        refine ⟨φ', S'.trans S2, I2, ?_, x1.trans x2⟩
        rw [namesOf_cons, if_pos hk]
        simpa using c2
      · cases ha
    · rw [if_neg hk] at ha
      rw [if_neg hk, if_neg hk, namesOf_cons, if_neg hk]
      exact ih _ _ _ _ _ _ _ _ hc I ha

/-- the closure's cells -/
theorem closure_at {φ : Phi} (hc : CellsAt φ γ.cells env.cells fm.cs) : ∀ (names : List (Str × NameKind)) (acc : List (Str × Addr)) (cs : List Str) (ks : List Nat) (frees : List Nat) (fs : List Nat), CellsAt φ cs acc ks →
    (namesOf .free names).mapM (place γ.cells) = some frees → (frees.mapM fun i => fm.cs[i]?) = some fs →
    ∀ f : Str × NameKind → List (Str × Addr) → Sem (ForInStep (List (Str × Addr))), (∀ name kind cells, f (name, kind) cells = if kind == .free then (do let a ← cellOf env name; pure (.yield ((name, a) :: cells))) else pure (.yield cells)) →
    ∃ cl, (forIn names acc f : Sem _) = pure cl ∧ CellsAt φ ((namesOf .free names).reverse ++ cs) cl (fs.reverse ++ ks) := by
  intro names
  induction names with
  | nil =>
    intro acc cs ks frees fs ha h1 h2 f hf
    cases h1; cases h2
    exact ⟨acc, rfl, ha⟩
  | cons x r ih =>
    intro acc cs ks frees fs ha h1 h2 f hf
    obtain ⟨nm, kd⟩ := x
    rw [namesOf_cons] at h1
    rw [List.forIn_cons, hf]
    by_cases hk : (kd == NameKind.free) = true
    · rw [if_pos hk] at h1
      rw [if_pos hk, namesOf_cons, if_pos hk]
      obtain ⟨i, frees', e1, e2, rfl⟩ := mapM_cons_some h1
      obtain ⟨k, fs', e3, e4, rfl⟩ := mapM_cons_some h2
      obtain ⟨a, k', g1, g2, g3⟩ := hc.get e1
      have hkk : k = k' := by rw [g2] at e3; cases e3; rfl
      subst hkk
      obtain ⟨cl, hcl, c2⟩ := ih ((nm, a) :: acc) (nm :: cs) (k :: ks) frees' fs' (.cons g3 ha) e2 e4 f hf
      refine ⟨cl, ?_, by simpa using c2⟩
      have : cellOf env nm = pure a := by unfold cellOf; rw [g1]
      rw [this]
      exact hcl
    · rw [if_neg hk] at h1
      rw [if_neg hk, namesOf_cons, if_neg hk]
      obtain ⟨cl, hcl, c2⟩ := ih acc cs ks frees fs ha h1 h2 f hf
      exact ⟨cl, hcl, c2⟩

theorem closureFor_at {φ : Phi} {sc : Scope} {frees fs : List Nat} (hc : CellsAt φ γ.cells env.cells fm.cs) (h1 : (namesOf .free sc.names).mapM (place γ.cells) = some frees) (h2 : (frees.mapM fun i => fm.cs[i]?) = some fs) :
    ∃ cl, closureFor sc env = pure cl ∧ CellsAt φ (namesOf .free sc.names).reverse cl fs.reverse := by
  obtain ⟨cl, e, c⟩ := closure_at hc sc.names [] [] [] frees fs .nil h1 h2 (fun x cells => if x.2 == .free then (do let a ← cellOf env x.1; pure (.yield ((x.1, a) :: cells))) else pure (.yield cells)) (fun _ _ _ => rfl)
  refine ⟨cl, ?_, by simpa using c⟩
  have h : closureFor sc env = ((forIn sc.names [] fun x cells => if x.2 == .free then (do let a ← cellOf env x.1; pure (.yield ((x.1, a) :: cells))) else pure (.yield cells) : Sem (List (Str × Addr))) >>= fun s => pure s) := rfl
  rw [h, e]
  rfl
end
end Mine
end

section
set_option tactic.hygienic false
namespace Mine
open PySem PyProof.Rows

section
variable {prog : Program} {w : World} {h₀ : Heap} {G : List (Str × PV)} {T : Tab} {d n : Nat} {γ : Gm} {env : Env} {fm : Fm} {A : Around}

theorem relab_eq (E : EnvOk γ env) (sc : Scope) : (relabel sc env).names = relab γ sc.names := by
  unfold relabel relab
  have : (env.scope.kind == ScopeKind.function) = true := by rw [E.kind]; rfl
  simp only [this, E.kindOf]

theorem wpAny_newFunctionEnv_around {M : Model} {E : Value → Shared → Prop} {s : Shared} {sc : Scope} {globals : Addr} {cl : List (Str × Addr)} {qual : Str} {outer : Env} {Q : Env → Shared → Prop}
    (hQ : Q { scope := sc, locals := s.heap.objs.size, globals := globals, cells := cellsFrom (s.heap.objs.size + 1) sc.names cl, qual := qual, func := none, code := outer.code, frame := outer.frame, builtins := outer.builtins }
      { s with heap := pushCells (s.heap.push { cls := .type "dict", data := .dict #[] }) sc.names }) :
    wpAny M A (newFunctionEnv sc globals cl [] qual none .none (some outer)) Q E s := by
  simp only [newFunctionEnv, Option.isSome_some, if_true]
  refine wpAny_bind (wpAny_alloc ?_)
  refine wpAny_bind (wpAny_layCells _ (fun name kind cells => by cases hkc : kind == NameKind.cell <;> simp [hkc]) _ _ _ _ ?_)
  rw [show ({ s with heap := s.heap.push { cls := .type "dict", data := .dict #[] } } : Shared).heap.objs.size = s.heap.objs.size + 1 from Heap.size_push ..]
  rw [List.forIn_nil]
  exact wpAny_bind (wpAny_pure (wpAny_pure hQ))

theorem blockOk_at {sc : Scope} (h : blockOk sc.names = true) : (namesOf .local sc.names).Nodup ∧ ∀ x ∈ sc.names, x.2 = .local → sc.names.lookup x.1 = some .local := by
  unfold blockOk at h
  simp only [Bool.and_eq_true, decide_eq_true_eq, List.all_eq_true, Bool.or_eq_true, bne_iff_ne, ne_eq, beq_iff_eq] at h
  exact ⟨h.1, fun x hx hl => (h.2 x hx).resolve_left fun hn => hn hl⟩

/-- what a comprehension's own computation leaves: its list, and its own dict -/
noncomputable def Comped (h₀ : Heap) (φ : Phi) (h : Heap) (v : PV) (σ' : St) (u : Value) (C : Addr) (h' : Heap) : Prop :=
  ∃ φ' m, Step [] φ φ' h h' ∧ Inv h₀ φ' σ' h' ∧ RV φ' h' v u ∧ h'.Ns C m ∧ h.objs.size ≤ C ∧ ∀ p ∈ φ', p.2 ≠ C

set_option tactic.hygienic true in
theorem comp_core (D : Wd prog w h₀ G T d) (S : EvSnd prog w h₀ G T d n) (S' : TrSnd prog w h₀ G T d n) (Rm : Room d A) (E : EnvOk γ env) {elt : Expr} {gens : List Comprehension} {sc : Scope} {pos : Pos} {me : ME} {use : Option (Value → Sem Unit)}
    (hm : cE G (n + 1) γ (.ListComp elt gens sc pos) = some me) {σ σ' : St} {v : PV} (hv : ev T me fm σ = some (v, σ')) {s : Shared} {φ : Phi} (I : Inv h₀ φ σ s.heap) (F : FrAt h₀ γ env fm φ s.heap) {Q : Value → Shared → Prop}
    (K : ∀ uacc C h' tk, Comped h₀ φ s.heap v σ' uacc C h' → compPost (model prog w) A bot use Q uacc C (.ok .next) { s with heap := h', toks := tk }) :
    wpAny (model prog w) A (comprehension (.ListComp elt gens sc pos) sc env (firstIterPos gens pos) (newList []) (firstAsync gens) (firstIter gens env) use) Q bot s := by
  cases gens with
  | nil => cases (show (Option.none : Option ME) = some _ from hm)
  | cons g0 rest =>
    obtain ⟨tg, iter, ifs, a⟩ := g0
    change cComp _ _ _ _ _ _ _ = _ at hm
    unfold cComp at hm
    split at hm
    · cases hm
    · rename_i hok
      simp only [Bool.or_eq_true, not_or, bne_iff_ne, ne_eq, Bool.not_eq_true', Bool.not_eq_false, Decidable.not_not] at hok
      obtain ⟨⟨ha, hkind⟩, hblk⟩ := hok
      have ha' : a = 0 := by
        by_cases h : a = 0
        · exact h
        · exact absurd h (by simpa using ha)
      subst ha'
      have hkind' : sc.kind = .function := by
        cases hk : sc.kind <;> first | rfl | (rw [hk] at hkind; cases hkind)
      obtain ⟨hnd, hnm⟩ := blockOk_at (by simpa using hblk)
      split at hm
      · rename_i mi frees t fs g c1 c2 c3 c4 c5
        split at hm
        · cases hm
        · rename_i hz
          have hz' : zipT t mi = true := by simpa using hz
          cases hm
          change bnd _ _ _ = _ at hv
          obtain ⟨src, σ₁, hi, hv1⟩ := bnd_some hv
          obtain ⟨acc, σ₂, hacc, hv2⟩ := bnd_some hv1
          obtain ⟨ks, σ₃, hks, hv3⟩ := bnd_some hv2
          obtain ⟨fs', σ₄', hfs, hv4⟩ := bnd_some hv3
          obtain ⟨hfs, hσ4⟩ := lift_some hfs
          rw [hσ4] at hv4
          obtain ⟨⟨fmL, rL⟩, σ₅, hl, hv5⟩ := bnd_some hv4
          obtain ⟨hvv, hσ5⟩ := rt_eq hv5
          cases hacc
          rw [Option.map_eq_some_iff] at hfs
          obtain ⟨fs0, hfs0, rfl⟩ := hfs
          obtain ⟨cl, hcl, ccl⟩ := closureFor_at F.cells c2 hfs0
          refine wpAny_comprehension_free (g := ⟨tg, iter, ifs, 0⟩) (gs := rest) rfl (fun x => not_set c1 env x) hcl hkind' hnm ?_
          have HI := iter_sound D S Rm E c1 hi I F
          refine wpAny_mono HI (fun x s₁ hx => wpAny_mono hx (fun it s₂ h₂ => ?_) fun _ _ e => e) fun _ _ e => e
          obtain ⟨hh, tk₂, rfl, z, X, φ₂, rfl, S₂, I₂, y₂, hX⟩ := h₂
          -- the new list
          refine wpAny_newObj_type ?_
          obtain ⟨φ₃, S₃, I₃, q₃⟩ := newList_at (h := hh) (us := []) (xs := []) I₂ .nil (by simp)
          have hsz3 : (hh.push { cls := .type "list", data := .seq ([] : List Value).toArray }).objs.size = hh.objs.size + 1 := Heap.size_push ..
          refine wpAny_newFunctionEnv_around ?_
          dsimp only
          generalize hH3 : hh.push { cls := .type "list", data := .seq ([] : List Value).toArray } = H3 at S₃ I₃ q₃ hsz3 ⊢
          have x4 := Ext.push H3 { cls := .type "dict", data := .dict #[] }
          have I₄ := I₃.ext0 x4
          have S₄ : Step [] φ₃ φ₃ H3 (H3.push { cls := .type "dict", data := .dict #[] }) := x4.step
          have S24 := (S₂.trans S₃).trans S₄
          obtain ⟨φ₅, S₅, I₅, c₅, x5⟩ := lay_cells sc.names cl _ _ φ₃ _ _ ks σ₃ (ccl.mono (S₂.trans S₃).ext) I₄ hks
          have hszd : (H3.push { cls := .type "dict", data := .dict #[] }).objs.size = H3.objs.size + 1 := Heap.size_push ..
          rw [hszd] at c₅
          have S25 := S24.trans S₅
          have hC0 : s.heap.objs.size ≤ H3.objs.size := Nat.le_trans S₂.size S₃.size
          have hns : (pushCells (H3.push { cls := .type "dict", data := .dict #[] }) sc.names).Ns H3.objs.size (fun _ => none) :=
            (Heap.Ns.new H3 (.type "dict")).keeps fun b o e => x5.keep b o e (by simp)
          have offC : ∀ p ∈ φ₅, p.2 ≠ H3.objs.size := by
            obtain ⟨od, _, _, ed, _⟩ := Heap.Ns.new H3 (.type "dict")
            exact S₅.toGrow.off ed (I₃.fresh (Nat.le_refl _))
          generalize hH5 : pushCells (H3.push { cls := .type "dict", data := .dict #[] }) sc.names = H5 at S₅ I₅ c₅ hns S25 x5 ⊢
          -- the comprehension's own frame
          generalize hE : ({ ({ scope := sc, locals := H3.objs.size, globals := env.globals, cells := cellsFrom (H3.objs.size + 1) sc.names cl, qual := env.qual, func := none, code := env.code, frame := env.frame, builtins := env.builtins } : Env) with scope := relabel sc env } : Env) = cenv
          have E' : EnvOk (inner γ sc) cenv := by
            subst hE
            exact ⟨hkind', relab_eq E sc, E.globals, E.builtins, hnd⟩
          have hloc : cenv.locals = H3.objs.size := by subst hE; rfl
          have F' : FrAt h₀ (inner γ sc) cenv ⟨List.replicate (namesOf .local sc.names).length none, ks ++ fs0.reverse⟩ φ₅ H5 := by
            refine ⟨⟨_, by rw [hloc]; exact hns, ?_⟩, by simp [inner], ?_, by rw [hloc]; exact offC, ?_⟩
            · intro i x v _ hv
              simp only [List.getElem?_replicate] at hv
              split at hv <;> simp at hv
            · rw [hloc]; exact Nat.le_trans I.sz hC0
            · subst hE; simpa [inner] using c₅
          have hXlt : ∀ a ∈ X, a < hh.objs.size := by
            intro a ha
            cases y₂ with
            | one h1 _ _ => obtain ⟨o, e, _⟩ := h1.there; simp at ha; subst ha; exact Heap.lt_size e
            | zip Z _ =>
              rcases List.mem_cons.mp ha with rfl | ha
              · exact Heap.lt_size Z.rec_
              · obtain ⟨vv, yy⟩ := Z.zs.mem ha; obtain ⟨o, e, _⟩ := yy.at_.there; exact Heap.lt_size e
          have hCX : cenv.locals ∉ X := fun hm => by
            have h1 := hXlt _ hm
            rw [hloc, hsz3] at h1
            exact absurd h1 (Nat.not_lt.mpr (Nat.le_succ _))
          have y₅ := (y₂.step S₃ (by simp)).step (S₄.trans S₅) (by simp)
          refine codeAny_compStart (k := 0) (target := tg) (iter := iter) (ifs := ifs) rfl (s := { s with heap := H5, toks := tk₂ }) y₅ fun tk₆ => ?_
          refine comp_loop D S S' Rm E' (acc := .obj σ₁.length) rest 0 tg iter ifs t fs g rfl c3 c4 c5 _ _ _ _ _ _ _ _ hl { s with heap := H5, toks := tk₆ } φ₅ z X _ I₅ F' y₅ hCX (pair_for hz' c3 hi) (S₅.rv (S₄.rv q₃)) _ fun h' tk' x => ?_
          obtain ⟨φ₆, S₆, I₆, F₆⟩ := x
          have S26 : Step [] φ φ₆ s.heap h' := ((S25.more (Y := cenv.locals :: X) (by simp)).trans S₆).less fun b hb => by
            rcases List.mem_cons.mp hb with rfl | hb
            · exact .inr (by rw [hloc]; exact hC0)
            · exact .inr (hX b hb)
          subst hvv
          obtain ⟨m', hm', _⟩ := F₆.ns
          have := K (.ref hh.objs.size) cenv.locals h' tk' ⟨φ₆, m', S26, hσ5 ▸ I₆, S₆.rv (S₅.rv (S₄.rv q₃)), hm', by rw [hloc]; exact hC0, F₆.off⟩
          rw [hloc] at this
          exact this
      · cases hm
end
end Mine
end

section
set_option tactic.hygienic false
namespace Mine
open PySem PyProof.Rows

section
variable {prog : Program} {w : World} {h₀ : Heap} {G : List (Str × PV)} {T : Tab} {d n : Nat} {γ : Gm} {env : Env} {fm : Fm} {A : Around}

theorem Comped.ret {φ : Phi} {h h' h'' : Heap} {v : PV} {σ' : St} {u : Value} {C : Addr} (c : Comped h₀ φ h v σ' u C h') (hlow : h₀.objs.size ≤ h.objs.size) (hs : Heap.SameBut C h' h'') : Ret h₀ [] φ h v σ' u h'' := by
  obtain ⟨φ', m, S, I, q, hn, hC, ho⟩ := c
  obtain ⟨o, es, ep, e, hd, _⟩ := hn
  have x : Ext [C] h' h'' := Ext.same hs fun o' e' => by rw [e] at e'; cases e'; exact imm_dict hd
  exact ⟨φ', ((S.more (Y := [C]) (by simp)).trans x.step).less (by intro y hy; simp at hy; subst hy; exact .inr hC), I.ext x (by simpa using Nat.le_trans hlow hC) (by simpa using ho), q.mono x.grow⟩

theorem mono_tr (D : Wd prog w h₀ G T d) (S : EvSnd prog w h₀ G T d (n + 1)) {e : Expr} {me : ME} (hm : cE G (n + 1) γ e = some me) (he : isTrue e env (eval e env) = (do let v ← eval e env; standAt e.pos; holding [v] (truthy v)))
    {σ σ' : St} {v : PV} {b : Bool} (hv : ev T me fm σ = some (v, σ')) (hb : truth σ' v = some b) {s : Shared} {φ : Phi} (R : Room d A) (E : EnvOk γ env) (I : Inv h₀ φ σ s.heap) (F : FrAt h₀ γ env fm φ s.heap) :
    W prog w A (isTrue e env (eval e env)) s (RetX h₀ φ s.heap σ' (isB b)) := by
  refine wpAny_isTrue_value ?_ he
  refine (S _ _ _ hm _ _ _ _ hv A s φ env R E I F).go fun u h' tk r => ?_
  obtain ⟨φ₁, S₁, I₁, q⟩ := r
  refine (truth_sound (s := { s with heap := h', toks := tk }) hb I₁ q).go fun c h'' tk' x => ?_
  obtain ⟨rfl, rfl⟩ := x
  exact ⟨_, tk', rfl, φ₁, S₁, I₁, rfl⟩

section
variable {me : ME} {v : PV} {σ σ' : St} {s : Shared} {φ : Phi}
theorem ge_const {k : Const} {a : Nat} {p : Pos} {v' : PV} (hk : constOf k = some v') (hv : ev T (.cst v') fm σ = some (v, σ')) (I : Inv h₀ φ σ s.heap) : W prog w A (eval (.Constant k a p) env) s (Ret h₀ [] φ s.heap v σ') := by
  simp only [ev] at hv
  obtain ⟨_, rfl, rfl⟩ := if_rt hv
  unfold constOf at hk
  split at hk
  · cases hk; exact wpAny_Constant_none ⟨_, _, rfl, Ret.here I .none⟩
  · cases hk; exact wpAny_Constant_bool ⟨_, _, rfl, Ret.here I (.bool _)⟩
  · cases hk; exact wpAny_Constant_int ⟨_, _, rfl, Ret.here I (.int _ _)⟩
  · split at hk
    · rename_i hf; cases hk; exact wpAny_Constant_str ⟨_, _, rfl, Ret.here I (.str hf _)⟩
    · cases hk
  · cases hk
set_option tactic.hygienic true in
theorem ge_name (D : Wd prog w h₀ G T d) (E : EnvOk γ env) {x : Str} {p : Pos} (hm : cName G γ x = some me) (hv : ev T me fm σ = some (v, σ')) (I : Inv h₀ φ σ s.heap) (F : FrAt h₀ γ env fm φ s.heap) : W prog w A (eval (.Name x p) env) s (Ret h₀ [] φ s.heap v σ') := by
  show W prog w A (do standAt p; if x == ("__debug__" : Str) then debugConstant else loadName env x) s _
  refine wpAny_bind (wpAny_standAt ?_)
  unfold cName at hm
  split at hm
  · rename_i hx
    cases hm
    cases hv
    rw [if_pos hx]
    show wpAny _ _ (rule "name.__debug__" >>= fun _ => pure (Value.bool true) : Sem Value) _ _ _
    exact wpAny_bind (wpAny_rule (wpAny_pure ⟨_, _, rfl, Ret.here I (.bool _)⟩))
  · rename_i hx
    split at hm
    · cases hm
    · rename_i hc
      rw [if_neg hx]
      split at hm
      · rename_i mx hmx
        cases hm
        obtain ⟨rfl, H⟩ := getV_sound (s := s) E hmx (show getV fm mx σ = _ from hv) I F (by simpa using hc)
        refine H.go fun u h' tk r => ?_
        obtain ⟨rfl, q⟩ := r
        exact ⟨_, tk, rfl, Ret.here I q⟩
      · split at hm
        · rename_i hk
          obtain ⟨v', hG, rfl⟩ := Option.map_eq_some_iff.mp hm
          simp only [ev] at hv
          obtain ⟨_, rfl, rfl⟩ := if_rt hv
          refine (glob_sound D.globs E (by simpa using hk) hG I).go fun u h' tk r => ?_
          obtain ⟨rfl, q⟩ := r
          exact ⟨_, tk, rfl, Ret.here I q⟩
        · cases hm
theorem ge_bin (S : EvSnd prog w h₀ G T d n) (R : Room d A) (E : EnvOk γ env) {l r : Expr} {op : Operator} {p : Pos} (hm : bind2 (cE G n γ l) (cE G n γ r) (fun a b => some (ME.bin op a b)) = some me) (hv : ev T me fm σ = some (v, σ')) (I : Inv h₀ φ σ s.heap) (F : FrAt h₀ γ env fm φ s.heap) : W prog w A (eval (.BinOp l op r p) env) s (Ret h₀ [] φ s.heap v σ') := by
  obtain ⟨a, b, h1, h2, hm⟩ := opt2 hm
  cases hm
  change bnd _ _ _ = _ at hv
  obtain ⟨x, σ₁, hx, hv1⟩ := bnd_some hv
  obtain ⟨y, σ₂, hy, hv2⟩ := bnd_some hv1
  refine wpAny_BinOp ?_
  refine (S _ _ _ h1 _ _ _ _ hx A s φ env R E I F).go fun ua h' tk r => ?_
  obtain ⟨φ₁, S₁, I₁, q⟩ := r
  refine (S _ _ _ h2 _ _ _ _ hy A { s with heap := h', toks := tk } φ₁ env R E I₁ (F.step0 S₁)).go fun ub h'' tk' r => ?_
  obtain ⟨φ₂, S₂, I₂, q2⟩ := r
  exact (binop_sound (s := { s with heap := h'', toks := tk' }) hv2 I₂ (S₂.rv q) q2).go fun u h3 tk3 r => ⟨h3, tk3, rfl, Ret.before (S₁.trans S₂) r⟩
theorem ge_not (S : EvSnd prog w h₀ G T d n) (R : Room d A) (E : EnvOk γ env) {x : Expr} {p : Pos} (hm : (cE G n γ x).map ME.not = some me) (hv : ev T me fm σ = some (v, σ')) (I : Inv h₀ φ σ s.heap) (F : FrAt h₀ γ env fm φ s.heap) : W prog w A (eval (.UnaryOp .Not x p) env) s (Ret h₀ [] φ s.heap v σ') := by
  obtain ⟨a, h1, rfl⟩ := Option.map_eq_some_iff.mp hm
  change bnd _ _ _ = _ at hv
  obtain ⟨y, σ₁, hy, hv1⟩ := bnd_some hv
  obtain ⟨t, σ₂, ht', hv2⟩ := bnd_some hv1
  obtain ⟨ht, hσ⟩ := look_some ht'
  obtain ⟨rfl, rfl⟩ := rt_eq hv2
  subst hσ
  refine wpAny_UnaryOp ?_
  refine (S _ _ _ h1 _ _ _ _ hy A s φ env R E I F).go fun ua h' tk r => ?_
  obtain ⟨φ₁, S₁, I₁, q⟩ := r
  show wpAny _ _ (holding [ua] (do return Value.bool (!(← truthy ua))) : Sem Value) _ _ _
  refine wpAny_holding (wpAny_bind ?_)
  refine (truth_sound (s := { s with heap := h', toks := tk }) ht I₁ q).go fun c h'' tk' x => ?_
  obtain ⟨rfl, rfl⟩ := x
  exact wpAny_pure ⟨_, tk', rfl, φ₁, S₁, I₁, .bool _⟩
theorem ge_if (S : EvSnd prog w h₀ G T d n) (S' : TrSnd prog w h₀ G T d n) (R : Room d A) (E : EnvOk γ env) {t b o : Expr} {p : Pos} (hm : bind3 (cE G n γ t) (cE G n γ b) (cE G n γ o) (fun t b o => some (ME.ite t b o)) = some me) (hv : ev T me fm σ = some (v, σ')) (I : Inv h₀ φ σ s.heap) (F : FrAt h₀ γ env fm φ s.heap) : W prog w A (eval (.IfExp t b o p) env) s (Ret h₀ [] φ s.heap v σ') := by
  obtain ⟨t', b', o', h1, h2, h3, hm⟩ := opt3 hm
  cases hm
  change bnd _ _ _ = _ at hv
  obtain ⟨x, σ₁, hx, hv1⟩ := bnd_some hv
  obtain ⟨c, σ₂, hc', hv2⟩ := bnd_some hv1
  obtain ⟨hc, hσ⟩ := look_some hc'
  subst hσ
  refine wpAny_IfExp ?_
  refine (S' _ _ _ h1 _ _ _ _ _ hx hc A s φ env R E I F).go fun c' h' tk r => ?_
  obtain ⟨φ₁, S₁, I₁, e⟩ := r
  obtain rfl : c' = c := e
  cases c' with
  | true => exact (S _ _ _ h2 _ _ _ _ hv2 A { s with heap := h', toks := tk } φ₁ env R E I₁ (F.step0 S₁)).go fun u h3 tk3 r => ⟨h3, tk3, rfl, Ret.before S₁ r⟩
  | false => exact (S _ _ _ h3 _ _ _ _ hv2 A { s with heap := h', toks := tk } φ₁ env R E I₁ (F.step0 S₁)).go fun u h3 tk3 r => ⟨h3, tk3, rfl, Ret.before S₁ r⟩
theorem ge_list (S : EvSnd prog w h₀ G T d n) (R : Room d A) (E : EnvOk γ env) {es : List Expr} {p : Pos} (hm : (seqL (es.map (cE G n γ))).map ME.list = some me) (hv : ev T me fm σ = some (v, σ')) (I : Inv h₀ φ σ s.heap) (F : FrAt h₀ γ env fm φ s.heap) : W prog w A (eval (.List es p) env) s (Ret h₀ [] φ s.heap v σ') := by
  obtain ⟨mes, h1, rfl⟩ := Option.map_eq_some_iff.mp hm
  change bnd _ _ _ = _ at hv
  obtain ⟨vs, σ₁, hvs, hv1⟩ := bnd_some hv
  split at hv1
  · cases hv1
    refine wpAny_List_spliced ?_
    refine (evs_sound S R E p es mes h1 _ _ _ hvs s φ I F).go fun us h' tk r => ?_
    obtain ⟨φ₁, S₁, I₁, q⟩ := r
    exact ⟨by have := q.length; rw [sizeLine_eq]; omega, _, _, rfl, Ret.before S₁ (newList_at I₁ q (by omega))⟩
  · cases hv1
theorem ge_tup (S : EvSnd prog w h₀ G T d n) (R : Room d A) (E : EnvOk γ env) {es : List Expr} {c : Nat} {p : Pos} (hm : (seqL (es.map (cE G n γ))).map ME.tup = some me) (hv : ev T me fm σ = some (v, σ')) (I : Inv h₀ φ σ s.heap) (F : FrAt h₀ γ env fm φ s.heap) : W prog w A (eval (.Tuple es c p) env) s (Ret h₀ [] φ s.heap v σ') := by
  obtain ⟨mes, h1, rfl⟩ := Option.map_eq_some_iff.mp hm
  change bnd _ _ _ = _ at hv
  obtain ⟨vs, σ₁, hvs, hv1⟩ := bnd_some hv
  split at hv1
  · obtain ⟨rfl, rfl⟩ := rt_eq hv1
    refine wpAny_Tuple_spliced ?_
    refine (evs_sound S R E p es mes h1 _ _ _ hvs s φ I F).go fun us h' tk r => ?_
    obtain ⟨φ₁, S₁, I₁, q⟩ := r
    exact ⟨by have := q.length; rw [sizeLine_eq]; omega, _, _, rfl, Ret.before S₁ (newTuple_at I₁ q)⟩
  · cases hv1
theorem cmp_some {a : ME} {c : MC} {me : ME} (h : cCmp a c = some me) : ∃ op e r, c = .cons op e r ∧ me = .cmp a (.cons op e r) := by
  cases c with
  | nil => cases h
  | cons op e r => cases h; exact ⟨op, e, r, rfl, rfl⟩
theorem ge_cmp (S : EvSnd prog w h₀ G T d n) (R : Room d A) (E : EnvOk γ env) {l : Expr} {ops : List CmpOp} {cs : List Expr} {p : Pos} (hm : bind2 (cE G n γ l) (seqC ops (cs.map (cE G n γ))) cCmp = some me) (hv : ev T me fm σ = some (v, σ')) (I : Inv h₀ φ σ s.heap) (F : FrAt h₀ γ env fm φ s.heap) : W prog w A (eval (.Compare l ops cs p) env) s (Ret h₀ [] φ s.heap v σ') := by
  obtain ⟨a, c, h1, h2, hm⟩ := opt2 hm
  obtain ⟨op, e, r, rfl, rfl⟩ := cmp_some hm
  change bnd _ _ _ = _ at hv
  obtain ⟨x, σ₁, hx, hv1⟩ := bnd_some hv
  obtain ⟨b, σ₂, hb, hv2⟩ := bnd_some hv1
  obtain ⟨rfl, rfl⟩ := rt_eq hv2
  show wpAny _ _ (eval l env >>= fun u => compareChain p u ops (markedEach ops cs (evalEach cs env))) _ _ _
  rw [marked_same ops cs _ h2]
  refine wpAny_bind ?_
  refine (S _ _ _ h1 _ _ _ _ hx A s φ env R E I F).go fun ua h' tk r => ?_
  obtain ⟨φ₁, S₁, I₁, q⟩ := r
  have hne : cs ≠ [] := by rintro rfl; obtain ⟨_, h⟩ := seqC_nil h2; cases h
  exact ((chain_sound S R E p cs ops _ h2 hne _ _ _ _ hb { s with heap := h', toks := tk } φ₁ ua I₁ (F.step0 S₁) q).1).go fun u h3 tk3 r => ⟨h3, tk3, rfl, Ret.before S₁ r⟩
theorem ge_call (D : Wd prog w h₀ G T d) (S : EvSnd prog w h₀ G T d n) (R : Room d A) (E : EnvOk γ env) {f : Expr} {es : List Expr} {ks : List Keyword} {p : Pos} (hf : ∀ o x ap, f ≠ .Attribute o x ap) (hm : cCall (cE G n γ f) (seqL (es.map (cE G n γ))) (cE.seqK (cE G n γ) ks) (decide (es.length + ks.length < 10)) = some me) (hv : ev T me fm σ = some (v, σ')) (I : Inv h₀ φ σ s.heap) (F : FrAt h₀ γ env fm φ s.heap) : W prog w A (eval (.Call f es ks p) env) s (Ret h₀ [] φ s.heap v σ') := by
  obtain ⟨_, hm⟩ := ift hm
  obtain ⟨mf, mes, mk, h0, h1, h2, hm⟩ := opt3 hm
  cases hm
  exact call_sound D S R E hf h0 h1 h2 hv I F
theorem ge_meth (D : Wd prog w h₀ G T d) (S : EvSnd prog w h₀ G T d n) (R : Room d A) (E : EnvOk γ env) {o : Expr} {x : Str} {ap : Pos} {es : List Expr} {ks : List Keyword} {p : Pos} (hm : (if (notSuper o && ap.endLine == p.line && decide (es.length + ks.length < 20)) = true then bind3 (cE G n γ o) (seqL (es.map (cE G n γ))) (cE.seqK (cE G n γ) ks) (fun o es ks => some (ME.meth o x es ks)) else none) = some me) (hv : ev T me fm σ = some (v, σ')) (I : Inv h₀ φ σ s.heap) (F : FrAt h₀ γ env fm φ s.heap) : W prog w A (eval (.Call (.Attribute o x ap) es ks p) env) s (Ret h₀ [] φ s.heap v σ') := by
  obtain ⟨hc, hm⟩ := ift hm
  rw [Bool.and_eq_true, Bool.and_eq_true, decide_eq_true_eq] at hc
  obtain ⟨mo, mes, mk, h0, h1, h2, hm⟩ := opt3 hm
  cases hm
  exact meth_sound D S R E hc.1.1 hc.1.2 hc.2 h0 h1 h2 hv I F
end
theorem ev_step (D : Wd prog w h₀ G T d) (S : EvSnd prog w h₀ G T d n) (S' : TrSnd prog w h₀ G T d n) : EvSnd prog w h₀ G T d (n + 1) := by
  intro γ e me hm fm σ v σ' hv A s φ env R E I F
  cases e with
  | Constant k a p =>
    obtain ⟨v', hk, rfl⟩ := Option.map_eq_some_iff.mp hm
    exact ge_const hk hv I
  | Name x p => exact ge_name D E hm hv I F
  | BoolOp op vs p => exact boolOp_sound S R E p op vs me hm σ v σ' hv s φ I F
  | BinOp l op r p => exact ge_bin S R E hm hv I F
  | UnaryOp op x p =>
    cases op with
    | Not => exact ge_not S R E hm hv I F
    | _ => cases (show (Option.none : Option ME) = some _ from hm)
  | IfExp t b o p => exact ge_if S S' R E hm hv I F
  | List es p => exact ge_list S R E hm hv I F
  | Tuple es c p => exact ge_tup S R E hm hv I F
  | ListComp elt gens sc p =>
    show wpAny _ _ (comprehension (.ListComp elt gens sc p) sc env (firstIterPos gens p) (newList []) (firstAsync gens) (firstIter gens env) none) _ _ _
    refine comp_core D S S' R E hm hv I F fun uacc C h' tk c => ?_
    obtain ⟨φ', m, _, _, _, hn, _⟩ := id c
    exact ⟨m, hn, fun h'' hs => ⟨h'', tk, rfl, c.ret I.sz hs⟩⟩
  | Compare l ops cs p => exact ge_cmp S R E hm hv I F
  | Call f es ks p =>
    rcases pick_some hm with ⟨⟨o, x, ap⟩, hf, hm⟩ | ⟨hf, hm⟩
    · obtain rfl := asAttr_some hf
      exact ge_meth D S R E hm hv I F
    · exact ge_call D S R E (asAttr_none hf) hm hv I F
  | Attribute o x p =>
    obtain ⟨hn, hm⟩ := ift hm
    obtain ⟨mo, h0, rfl⟩ := Option.map_eq_some_iff.mp hm
    exact attr_sound D S R E hn h0 hv I F
  | Subscript o i p =>
    rcases pick_some hm with ⟨⟨l, u, t, q⟩, hi, hm⟩ | ⟨hi, hm⟩
    · obtain rfl := asSlc_some hi
      obtain ⟨x, y, z, u', h0, h1, h2, h3, hm⟩ := opt4 hm
      cases hm
      exact subscript_slice S R E h0 h1 h2 h3 hv I F
    · obtain ⟨x, y, h0, h1, hm⟩ := opt2 hm
      cases hm
      exact subscript_item S R E h0 h1 hv I F
  | _ => cases (show (Option.none : Option ME) = some _ from hm)

theorem tr_step (D : Wd prog w h₀ G T d) (S : EvSnd prog w h₀ G T d n) (S' : TrSnd prog w h₀ G T d n) : TrSnd prog w h₀ G T d (n + 1) := by
  have SS := ev_step D S S'
  intro γ e me hm fm σ v σ' b hv hb A s φ env R E I F
  cases e with
  | UnaryOp op x p =>
    cases op with
    | Not =>
      obtain ⟨a, h1, rfl⟩ := Option.map_eq_some_iff.mp hm
      change bnd _ _ _ = _ at hv
      obtain ⟨y, σ₁, hy, hv1⟩ := bnd_some hv
      obtain ⟨t, σ₂, ht', hv2⟩ := bnd_some hv1
      obtain ⟨ht, hσ⟩ := look_some ht'
      obtain ⟨rfl, rfl⟩ := rt_eq hv2
      subst hσ
      cases hb
      refine wpAny_isTrue_Not ?_
      refine (S' _ _ _ h1 _ _ _ _ _ hy ht A s φ env R E I F).go fun c h' tk r => ?_
      obtain ⟨φ₁, S₁, I₁, q⟩ := r
      obtain rfl : c = t := q
      exact ⟨h', tk, rfl, φ₁, S₁, I₁, rfl⟩
    | _ => cases (show (Option.none : Option ME) = some _ from hm)
  | BoolOp op vs p =>
    exact wpAny_isTrue_BoolOp (allTrue_sound S' R E op vs me hm σ v σ' b hv hb s φ I F)
  | IfExp t bb o p =>
    · obtain ⟨t', b', o', h1, h2, h3, hm⟩ := opt3 hm
      cases hm
      change bnd _ _ _ = _ at hv
      obtain ⟨x, σ₁, hx, hv1⟩ := bnd_some hv
      obtain ⟨c, σ₂, hc', hv2⟩ := bnd_some hv1
      obtain ⟨hc, hσ⟩ := look_some hc'
      subst hσ
      show wpAny _ _ (do if ← isTrue t env (eval t env) then isTrue bb env (eval bb env) else isTrue o env (eval o env)) _ _ _
      refine wpAny_bind ?_
      refine (S' _ _ _ h1 _ _ _ _ _ hx hc A s φ env R E I F).go fun c' h' tk r => ?_
      obtain ⟨φ₁, S₁, I₁, e⟩ := r
      obtain rfl : c' = c := e
      cases c' with
      | true => exact (S' _ _ _ h2 _ _ _ _ _ hv2 hb A { s with heap := h', toks := tk } φ₁ env R E I₁ (F.step0 S₁)).go fun u h3 tk3 r => ⟨h3, tk3, rfl, r.before S₁⟩
      | false => exact (S' _ _ _ h3 _ _ _ _ _ hv2 hb A { s with heap := h', toks := tk } φ₁ env R E I₁ (F.step0 S₁)).go fun u h3 tk3 r => ⟨h3, tk3, rfl, r.before S₁⟩
  | Compare l ops cs p =>
    · obtain ⟨a, c, h1, h2, hm⟩ := opt2 hm
      obtain ⟨op, e, r, rfl, rfl⟩ := cmp_some hm
      change bnd _ _ _ = _ at hv
      obtain ⟨x, σ₁, hx, hv1⟩ := bnd_some hv
      obtain ⟨b', σ₂, hb', hv2⟩ := bnd_some hv1
      obtain ⟨rfl, rfl⟩ := rt_eq hv2
      cases hb
      show wpAny _ _ (eval l env >>= fun u => testChain p u ops (markedEach ops cs (evalEach cs env))) _ _ _
      rw [marked_same ops cs _ h2]
      refine wpAny_bind ?_
      refine (S _ _ _ h1 _ _ _ _ hx A s φ env R E I F).go fun ua h' tk r => ?_
      obtain ⟨φ₁, S₁, I₁, q⟩ := r
      have hne : cs ≠ [] := by rintro rfl; obtain ⟨_, h⟩ := seqC_nil h2; cases h
      exact ((chain_sound S R E p cs ops _ h2 hne _ _ _ _ hb' { s with heap := h', toks := tk } φ₁ ua I₁ (F.step0 S₁) q).2).go fun u h3 tk3 r => ⟨h3, tk3, rfl, r.before S₁⟩
  | _ => first | exact mono_tr D SS hm rfl hv hb R E I F | (cases (show (Option.none : Option ME) = some _ from hm); done)

theorem ev_sound (D : Wd prog w h₀ G T d) : ∀ n, EvSnd prog w h₀ G T d n ∧ TrSnd prog w h₀ G T d n := by
  intro n
  induction n with
  | zero => exact ⟨fun γ e me hm => (nomatch (show (Option.none : Option ME) = some _ from hm)), fun γ e me hm => (nomatch (show (Option.none : Option ME) = some _ from hm))⟩
  | succ n ih => exact ⟨ev_step D ih.1 ih.2, tr_step D ih.1 ih.2⟩
end
end Mine
end

section
set_option tactic.hygienic false
namespace Mine
open PySem PyProof.Rows

/-- what a statement leaves -/
inductive ExR (h₀ : Heap) (γ : Gm) (env : Env) (φ : Phi) (h : Heap) (fm' : Fm) (r : Option PV) (σ' : St) (f : Flow) (h' : Heap) : Prop where
  | mk (φ' : Phi) (S : Step [env.locals] φ φ' h h') (I : Inv h₀ φ' σ' h') (F : FrAt h₀ γ env fm' φ' h') (q : match r with | none => f = .next | some v => ∃ u, f = .ret u ∧ RV φ' h' v u) : ExR h₀ γ env φ h fm' r σ' f h'
theorem ExR.before {h₀ : Heap} {γ : Gm} {env : Env} {φ φ₁ : Phi} {h h₁ : Heap} {fm' : Fm} {r : Option PV} {σ' : St} {f : Flow} {h' : Heap} (S : Step [env.locals] φ φ₁ h h₁) (x : ExR h₀ γ env φ₁ h₁ fm' r σ' f h') : ExR h₀ γ env φ h fm' r σ' f h' := by
  obtain ⟨φ', S', I, F, q⟩ := x; exact ⟨φ', S.trans S', I, F, q⟩

section
variable {prog : Program} {w : World} {h₀ : Heap} {G : List (Str × PV)} {T : Tab} {d n : Nat} {γ : Gm} {env : Env} {A : Around}

/-- a block is served rightly -/
noncomputable def BlSnd (prog : Program) (w : World) (h₀ : Heap) (T : Tab) (γ : Gm) (env : Env) (A : Around) (b : List Stmt) (mb : MSs) : Prop :=
  ∀ fm σ fm' r σ', exs T mb fm σ = some ((fm', r), σ') → ∀ (s : Shared) φ, Inv h₀ φ σ s.heap → FrAt h₀ γ env fm φ s.heap → W prog w A (execs b env) s (ExR h₀ γ env φ s.heap fm' r σ')

noncomputable def forBody (T : Tab) (t : MT) (mb : MSs) : PV → Fm → M (Fm × Option PV) := fun v fm' => bnd (setT fm' v t) fun fm'' => exs T mb fm''

/-- what a loop's code leaves -/
noncomputable def LoopR (h₀ : Heap) (γ : Gm) (env : Env) (X : List Addr) (φ : Phi) (h : Heap) (fm' : Fm) (r : Option PV) (σ' : St) (f : Flow) (h' : Heap) : Prop :=
  ∃ φ', Step (env.locals :: X) φ φ' h h' ∧ Inv h₀ φ' σ' h' ∧ FrAt h₀ γ env fm' φ' h' ∧ match r with | none => f = .next | some v => ∃ u, f = .ret u ∧ RV φ' h' v u

theorem for_loop (Rm : Room d A) (E : EnvOk γ env) {tg : Expr} {t : MT} {b : List Stmt} {mb : MSs} (ht : target γ tg = some t) (HB : BlSnd prog w h₀ T γ env A b mb) :
    ∀ (fuel i : Nat) (fm : Fm) (σ : St) (fm' : Fm) (r : Option PV) (σ' : St) (src : PI), loopM src (forBody T t mb) fuel i fm σ = some ((fm', r), σ') → ∀ (s : Shared) (φ : Phi) (z : Addr) (X : List Addr),
    Inv h₀ φ σ s.heap → FrAt h₀ γ env fm φ s.heap → SrcAt φ h₀ s.heap z i src X → env.locals ∉ X → pairFor src tg = true → ∀ R : Result → Shared → Prop,
    (∀ f h' tk, LoopR h₀ γ env X φ s.heap fm' r σ' f h' → R (.ok f) { s with heap := h', toks := tk }) → codeAny (model prog w) A (.forLoop tg (.ref z) b [] env) R s := by
  intro fuel
  induction fuel with
  | zero => intro i fm σ fm' r σ' src hv; cases hv
  | succ fuel ih =>
    intro i fm σ fm' r σ' src hv s φ z X I F y hX hp R hR
    refine codeAny_of_tree ?_
    show wpAny _ A ((forTurn tg (.ref z) b [] env).onRaise (fun x => do noteFrame x env; theTreesLotGoes x)) _ _ s
    refine wpAny_noted (bot_any ?_)
    simp only [forTurn]
    refine wpAny_bind (wpAny_standAt ?_)
    have up : ∀ a ∈ X, a ∈ env.locals :: X := fun a ha => List.mem_cons_of_mem _ ha
    rcases loopM_turn hv with ⟨e0, rfl, rfl, rfl⟩ | ⟨v, e0, hb⟩
    · refine wpAny_bind (wpAny_onRaise (wpAny_mono ((next_none Rm.free e0 I y).go fun r h' tk x => ?_) (fun _ _ x => x) fun _ _ x => x.elim))
      obtain ⟨rfl, I', S₁⟩ := x
      refine wpAny_pure ⟨rfl, codeAny_block (bot_any ?_)⟩
      exact wpAny_pure (hR _ _ _ ⟨φ, S₁.more up, I', F.step S₁ hX, rfl⟩)
    · refine wpAny_bind (wpAny_onRaise (wpAny_mono ((next_some Rm.free e0 I y).go fun r h' tk x => ?_) (fun _ _ x => x) fun _ _ x => x.elim))
      obtain ⟨u, rfl, q, I₁, S₁, m₁⟩ := x
      have F₁ := F.step S₁ hX
      refine wpAny_bind ((go_sound (target := tg) (s := { s with heap := h', toks := tk }) m₁ hp I₁).go fun _ h₂ tk₂ x => ?_)
      obtain ⟨I₂, S₂, y₂⟩ := x
      have F₂ := F₁.step S₂ hX
      have S12 := S₁.trans S₂
      have hb' : ∃ rb fm₁ σ₁, forBody T t mb v fm σ = some ((fm₁, rb), σ₁) ∧ ((∃ x, rb = some x ∧ r = some x ∧ fm' = fm₁ ∧ σ' = σ₁) ∨ (rb = none ∧ loopM src (forBody T t mb) fuel (i + 1) fm₁ σ₁ = some ((fm', r), σ'))) := by
        rcases hb with ⟨x, hx, hb⟩ | ⟨fm₁, σ₁, hb, hl⟩
        · exact ⟨_, _, _, hb, .inl ⟨x, rfl, hx, rfl, rfl⟩⟩
        · exact ⟨_, _, _, hb, .inr ⟨rfl, hl⟩⟩
      obtain ⟨rb, fm₁, σ₁, hbody, hrest⟩ := hb'
      simp only [forBody] at hbody
      obtain ⟨fm₂, σ₂, hset, hex⟩ := bnd_some hbody
      refine wpAny_bind ((setT_sound (s := { s with heap := h₂, toks := tk₂ }) Rm.free E ht hset I₂ F₂ (S₂.rv q)).go fun _ h₃ tk₃ st => ?_)
      obtain ⟨S₃, I₃, F₃⟩ := st
      have y₃ := y₂.step S₃ (by intro b hb hm; simp at hm; subst hm; exact hX hb)
      refine wpAny_bind ((HB _ _ _ _ _ hex { s with heap := h₃, toks := tk₃ } φ I₃ F₃).go fun f h₄ tk₄ x => ?_)
      obtain ⟨φ₄, S₄, I₄, F₄, hf⟩ := x
      have S14 : Step (env.locals :: X) φ φ₄ s.heap h₄ := ((S12.more up).trans (S₃.more (by simp))).trans (S₄.more (by simp))
      have y₄ := y₃.step S₄ (by intro b hb hm; simp at hm; subst hm; exact hX hb)
      rcases hrest with ⟨x, rfl, rfl, rfl, rfl⟩ | ⟨rfl, hl⟩
      · obtain ⟨u', rfl, q'⟩ := hf
        exact wpAny_pure (hR _ _ _ ⟨φ₄, S14, I₄, F₄, u', rfl, q'⟩)
      · obtain rfl : f = .next := hf
        refine wpAny_pure ⟨rfl, ih _ _ _ _ _ _ _ hl { s with heap := h₄, toks := tk₄ } φ₄ z X I₄ F₄ y₄ hX hp R fun f' h' tk' x => ?_⟩
        obtain ⟨φ₆, S₆, I₆, F₆, hf'⟩ := x
        exact hR f' h' tk' ⟨φ₆, S14.trans S₆, I₆, F₆, hf'⟩

theorem whileM_turn {β δ : Type} {test : β → M Bool} {body : β → M (β × Option δ)} {k : Nat} {b b' : β} {σ σ' : St} {r : Option δ} (h : whileM test body (k + 1) b σ = some ((b', r), σ')) :
    ∃ t σ₁, test b σ = some (t, σ₁) ∧ ((t = false ∧ b' = b ∧ r = none ∧ σ' = σ₁) ∨ (t = true ∧ ((∃ x, r = some x ∧ body b σ₁ = some ((b', some x), σ')) ∨ ∃ b₁ σ₂, body b σ₁ = some ((b₁, none), σ₂) ∧ whileM test body k b₁ σ₂ = some ((b', r), σ')))) := by
  simp only [whileM] at h
  obtain ⟨t, σ₁, h1, h2⟩ := bnd_some h
  refine ⟨t, σ₁, h1, ?_⟩
  cases t with
  | false => obtain ⟨e, rfl⟩ := rt_eq h2; cases e; exact .inl ⟨rfl, rfl, rfl, rfl⟩
  | true =>
    rw [if_pos rfl] at h2
    obtain ⟨⟨b₁, rr⟩, σ₂, h3, h4⟩ := bnd_some h2
    cases rr with
    | some x => obtain ⟨e, rfl⟩ := rt_eq h4; cases e; exact .inr ⟨rfl, .inl ⟨x, rfl, h3⟩⟩
    | none => exact .inr ⟨rfl, .inr ⟨b₁, σ₂, h3, h4⟩⟩

theorem while_loop (S' : TrSnd prog w h₀ G T d n) (Rm : Room d A) (E : EnvOk γ env) {te : Expr} {me : ME} {b : List Stmt} {mb : MSs} (ht : cE G n γ te = some me) (HB : BlSnd prog w h₀ T γ env A b mb) :
    ∀ (fuel : Nat) (fm : Fm) (σ : St) (fm' : Fm) (r : Option PV) (σ' : St), whileM (fun fm => bnd (ev T me fm) fun v => look (truth · v)) (fun fm => exs T mb fm) fuel fm σ = some ((fm', r), σ') → ∀ (s : Shared) (φ : Phi),
    Inv h₀ φ σ s.heap → FrAt h₀ γ env fm φ s.heap → ∀ R : Result → Shared → Prop,
    (∀ f h' tk, ExR h₀ γ env φ s.heap fm' r σ' f h' → R (.ok f) { s with heap := h', toks := tk }) → codeAny (model prog w) A (.whileLoop te b [] env) R s := by
  intro fuel
  induction fuel with
  | zero => intro fm σ fm' r σ' hv; cases hv
  | succ fuel ih =>
    intro fm σ fm' r σ' hv s φ I F R hR
    refine codeAny_of_tree ?_
    show wpAny _ A ((whileTurn te b [] env).onRaise (fun x => do noteFrame x env; theTreesLotGoes x)) _ _ s
    refine wpAny_noted (bot_any ?_)
    simp only [whileTurn]
    obtain ⟨t, σ₁, htest, hrest⟩ := whileM_turn hv
    obtain ⟨v, σ₂, hev, htr'⟩ := bnd_some htest
    obtain ⟨htr, hσ⟩ := look_some htr'
    subst hσ
    refine wpAny_bind ((S' _ _ _ ht _ _ _ _ _ hev htr A s φ env Rm E I F).go fun c h' tk x => ?_)
    obtain ⟨φ₁, S₁, I₁, e⟩ := x
    obtain rfl : c = t := e
    have F₁ := F.step0 S₁
    rcases hrest with ⟨rfl, rfl, rfl, rfl⟩ | ⟨rfl, hb⟩
    · exact wpAny_bind (wpAny_pure (wpAny_pure (hR _ _ _ ⟨φ₁, S₁.nil, I₁, F₁, rfl⟩)))
    · have hb' : ∃ rb fm₁ σ₃, exs T mb fm σ₁ = some ((fm₁, rb), σ₃) ∧ ((∃ x, rb = some x ∧ r = some x ∧ fm' = fm₁ ∧ σ' = σ₃) ∨ (rb = none ∧ whileM (fun fm => bnd (ev T me fm) fun v => look (truth · v)) (fun fm => exs T mb fm) fuel fm₁ σ₃ = some ((fm', r), σ'))) := by
        rcases hb with ⟨x, hx, hb⟩ | ⟨fm₁, σ₁, hb, hl⟩
        · exact ⟨_, _, _, hb, .inl ⟨x, rfl, hx, rfl, rfl⟩⟩
        · exact ⟨_, _, _, hb, .inr ⟨rfl, hl⟩⟩
      obtain ⟨rb, fm₁, σ₃, hbody, hrest⟩ := hb'
      refine wpAny_bind ((HB _ _ _ _ _ hbody { s with heap := h', toks := tk } φ₁ I₁ F₁).go fun f h₄ tk₄ x => ?_)
      obtain ⟨φ₄, S₄, I₄, F₄, hf⟩ := x
      have S14 : Step [env.locals] φ φ₄ s.heap h₄ := S₁.nil.trans S₄
      rcases hrest with ⟨x, rfl, rfl, rfl, rfl⟩ | ⟨rfl, hl⟩
      · obtain ⟨u', rfl, q'⟩ := hf
        exact wpAny_pure (hR _ _ _ ⟨φ₄, S14, I₄, F₄, u', rfl, q'⟩)
      · obtain rfl : f = .next := hf
        refine wpAny_pure ⟨rfl, ih _ _ _ _ _ hl { s with heap := h₄, toks := tk₄ } φ₄ I₄ F₄ R fun f' h' tk' x => hR f' h' tk' (x.before S14)⟩
end
end Mine
end

section
set_option tactic.hygienic false
namespace Mine
open PySem PyProof.Rows

theorem filterMap_two {α β : Type} {f : α → Option β} {l : List α} (hl : l.length = 2) (h : (l.filterMap f).length = 2) : ∃ a b x y, l = [a, b] ∧ f a = some x ∧ f b = some y ∧ l.filterMap f = [x, y] := by
  match l, hl with
  | [a, b], _ =>
    cases e1 : f a with
    | none => simp [e1] at h; cases e2 : f b <;> simp [e2] at h
    | some x =>
      cases e2 : f b with
      | none => simp [e1, e2] at h
      | some y => exact ⟨a, b, x, y, rfl, e1, e2, by simp [List.filterMap_cons, e1, e2]⟩

theorem guards {α : Type} {c1 c2 c3 c4 c5 : Prop} [Decidable c1] [Decidable c2] [Decidable c3] [Decidable c4] [Decidable c5] {u : Sem (Option α)} {x : α} (h5 : ¬ c5) {t : Sem (Option α)}
    (ht : t = if c1 then pure none else if c2 then pure none else if c3 then pure none else if c4 then pure none else if c5 then u else pure (some x)) :
    t = pure none ∨ (¬ c3 ∧ t = pure (some x)) := by
  subst ht
  by_cases h1 : c1
  · exact .inl (if_pos h1)
  by_cases h2 : c2
  · exact .inl ((if_neg h1).trans (if_pos h2))
  by_cases h3 : c3
  · exact .inl ((if_neg h1).trans ((if_neg h2).trans (if_pos h3)))
  by_cases h4 : c4
  · exact .inl ((if_neg h1).trans ((if_neg h2).trans ((if_neg h3).trans (if_pos h4))))
  exact .inr ⟨h3, (if_neg h1).trans ((if_neg h2).trans ((if_neg h3).trans ((if_neg h4).trans (if_neg h5))))⟩
theorem two_bad {a b : Bool} (h : ¬ ((a || b) = true)) : a = false ∧ b = false := by cases a <;> cases b <;> simp_all
theorem value_tup (e : Expr) : (∃ vs c p, e = .Tuple vs c p) ∨ ∀ ts c p env, swappedStores [.Tuple ts c p] e env = pure none := by
  cases e with
  | Tuple vs c p => exact .inl ⟨_, _, _, rfl⟩
  | _ => exact .inr fun _ _ _ _ => rfl
theorem target_tup (t : Expr) : (∃ ts c p, t = .Tuple ts c p) ∨ (∃ ts p, t = .List ts p) ∨ ∀ r e env, swappedStores (t :: r) e env = pure none := by
  cases t with
  | Tuple vs c p => exact .inl ⟨_, _, _, rfl⟩
  | List ts p => exact .inr (.inl ⟨_, _, rfl⟩)
  | _ => exact .inr (.inr fun _ _ _ => rfl)
theorem local_name {env : Env} {line : Nat} {a : Expr} {x : Str} (h : (match a with
    | .Name id pos => if env.kindOf id == some .local && pos.line == line then some id else none
    | _ => none) = some x) : ∃ p, a = .Name x p ∧ env.kindOf x = some .local := by
  cases a with
  | Name id p =>
    dsimp only at h
    split at h
    · rename_i hk
      obtain rfl := Option.some.inj h
      exact ⟨p, rfl, by simpa using (Bool.and_eq_true_iff.mp hk).1⟩
    · exact nomatch h
  | _ => exact nomatch h

theorem swapped_cases {ts : List Expr} {e : Expr} {env : Env} (hp : pairOk ts e = true) : swappedStores ts e env = pure none ∨
    ∃ x p y q c pos, ts = [.Tuple [.Name x p, .Name y q] c pos] ∧ swappedStores ts e env = pure (some [x, y]) ∧ env.kindOf x = some .local ∧ env.kindOf y = some .local := by
  match ts with
  | [] => exact .inl rfl
  | t :: _ :: _ =>
    rcases target_tup t with ⟨ts, c, pos, rfl⟩ | ⟨ts, pos, rfl⟩ | h
    · exact .inl rfl
    · exact .inl rfl
    · exact .inl (h _ _ _)
  | [t] =>
    rcases target_tup t with ⟨ts, c, pos, rfl⟩ | ⟨ts, pos, rfl⟩ | h
    · rcases value_tup e with ⟨vs, c', pos', rfl⟩ | h
      · obtain ⟨h12, h3⟩ := Bool.and_eq_true_iff.mp hp
        have h1 : ts.length = 2 := by simpa using (Bool.and_eq_true_iff.mp h12).1
        have h3 : ¬ (vs.all (constantsAlone 8) = true) := by simpa using h3
        rcases guards h3 (t := swappedStores [.Tuple ts c pos] (.Tuple vs c' pos') env) rfl with h | ⟨hn, h⟩
        · exact .inl h
        · have hn' := bne_eq_false_iff_eq.mp (two_bad hn).1
          obtain ⟨a, b, x, y, rfl, e1, e2, e3⟩ := filterMap_two h1 (hn'.trans h1)
          obtain ⟨p, rfl, k1⟩ := local_name e1
          obtain ⟨q, rfl, k2⟩ := local_name e2
          exact .inr ⟨x, p, y, q, c, pos, rfl, by rw [h, e3], k1, k2⟩
      · exact .inl (h _ _ _ _)
    · exact nomatch (show false = true from hp)
    · exact .inl (h _ _ _)

section
variable (prog : Program) (w : World) (h₀ : Heap) (G : List (Str × PV)) (T : Tab) (d : Nat)
noncomputable def StSnd (n : Nat) : Prop := ∀ γ st ms, cS G n γ st = some ms → ∀ fm σ fm' r σ', ex T ms fm σ = some ((fm', r), σ') → ∀ (A : Around) (s : Shared) φ env, Room d A → EnvOk γ env → Inv h₀ φ σ s.heap → FrAt h₀ γ env fm φ s.heap →
  W prog w A (exec st env) s (ExR h₀ γ env φ s.heap fm' r σ')
end

section
variable {prog : Program} {w : World} {h₀ : Heap} {G : List (Str × PV)} {T : Tab} {d n : Nat} {γ : Gm} {env : Env} {fm : Fm} {A : Around}

theorem seqS_cons {o : Option MS} {r : List (Option MS)} {me : MSs} (h : seqS (o :: r) = some me) : ∃ e me', o = some e ∧ seqS r = some me' ∧ me = .cons e me' := by
  cases o with
  | none => cases h
  | some e =>
    simp only [seqS, Option.map_eq_some_iff] at h
    obtain ⟨me', h1, h2⟩ := h
    exact ⟨e, me', rfl, h1, h2.symm⟩

theorem block_sound (S : StSnd prog w h₀ G T d n) (R : Room d A) (E : EnvOk γ env) : ∀ b mb, seqS (b.map (cS G n γ)) = some mb → BlSnd prog w h₀ T γ env A b mb := by
  intro b
  induction b with
  | nil =>
    intro mb hm fm σ fm' r σ' hv s φ I F
    cases hm; cases hv
    exact W.pure ⟨φ, Step.refl _ _ _, I, F, rfl⟩
  | cons st b ih =>
    intro mb hm fm σ fm' r σ' hv s φ I F
    obtain ⟨ms, mb', h1, h2, rfl⟩ := seqS_cons hm
    change bnd _ _ _ = _ at hv
    obtain ⟨⟨fm₁, r₁⟩, σ₁, hv1, hv2⟩ := bnd_some hv
    rw [execs_cons]
    refine W.bind (S _ _ _ h1 _ _ _ _ _ hv1 A s φ env R E I F) fun f h' tk x => ?_
    obtain ⟨φ₁, S₁, I₁, F₁, hf⟩ := x
    cases r₁ with
    | some v =>
      obtain ⟨e, rfl⟩ := rt_eq hv2
      cases e
      obtain ⟨u, rfl, q⟩ := hf
      exact W.pure ⟨φ₁, S₁, I₁, F₁, u, rfl, q⟩
    | none =>
      obtain rfl : f = .next := hf
      exact (ih _ h2 _ _ _ _ _ hv2 { s with heap := h', toks := tk } φ₁ I₁ F₁).mono fun f h'' x => x.before S₁

theorem drop_call {f : Expr} {es : List Expr} {ks : List Keyword} {p pos : Pos} {v : Value} {s : Shared} {Q : Flow → Shared → Prop} (h : Q .next s) : wpAny (model prog w) A (dropValue (.Call f es ks p) pos v) Q bot s := by
  unfold dropValue
  split
  · rename_i e; cases e
  · exact wpAny_bind (wpAny_standAt (wpAny_bind (wpAny_runValue (codeAny_builtin entry_let_go (show wpAny _ _ (ret .none) _ _ s from wpAny_pure (wpAny_pure h))))))
  · exact wpAny_pure h

theorem no_swaps {e : Expr} {me : ME} (hm : cE G n γ e = some me) (hc : isComp e = false) (t : Option Expr) (l : Nat) : swapsWith e t l env = pure false := by
  cases n with
  | zero => cases (show (Option.none : Option ME) = some _ from hm)
  | succ n => cases e <;> first | rfl | (cases (show (Option.none : Option ME) = some _ from hm); done) | cases hc

set_option tactic.hygienic true in
theorem no_swaps_sole {ts : List Expr} {e : Expr} {me : ME} (hm : cE G n γ e = some me) (hc : isComp e = false ∨ ts.length ≠ 1 ∨ ∃ t, ts = [t] ∧ ∀ x p, t ≠ .Name x p) (l : Nat) : swapsWithSole ts e l env = pure false := by
  unfold swapsWithSole
  split
  · rename_i t
    rcases hc with h | h | ⟨t', h, hn⟩
    · exact no_swaps hm h _ _
    · exact absurd rfl h
    · cases h
      cases n with
      | zero => cases (show (Option.none : Option ME) = some _ from hm)
      | succ n =>
        cases e with
        | ListComp elt gens sc p =>
          unfold swapsWith
          cases t with
          | Name x q => exact absurd rfl (hn x q)
          | _ => rfl
        | _ => first | rfl | (cases (show (Option.none : Option ME) = some _ from hm); done)
  · rfl
end
end Mine
end

section
set_option tactic.hygienic false
namespace Mine
open PySem PyProof.Rows

section
variable {prog : Program} {w : World} {h₀ : Heap} {G : List (Str × PV)} {T : Tab} {d n : Nat} {γ : Gm} {env : Env} {fm : Fm} {A : Around}

theorem loc_of (E : EnvOk γ env) {z : Str} {mz : MV} (hk : env.kindOf z = some .local) (hz : mv γ z = some mz) : ∃ i, mz = .loc i := by
  cases mz with
  | loc i => exact ⟨i, rfl⟩
  | cel i =>
    obtain ⟨h, _⟩ := mv_cel hz
    rw [E.kindOf] at hk
    rcases h with h | h <;> exact nomatch h.symm.trans hk
theorem two_locs {i j : Nat} {vs : List PV} {fm fm' : Fm} {σ σ' : St} (h : setVs fm [.loc i, .loc j] vs σ = some (fm', σ')) : ∃ va vb, vs = [va, vb] ∧ fm' = ⟨(fm.ρ.set i (some va)).set j (some vb), fm.cs⟩ ∧ σ' = σ := by
  match vs, h with
  | [va, vb], h =>
    obtain ⟨e1, e2⟩ := rt_eq h
    exact ⟨va, vb, rfl, e1, e2⟩
theorem target_two {x y : Str} {p q pos : Pos} {c : Nat} {mts : List MT} (h : [Expr.Tuple [.Name x p, .Name y q] c pos].mapM (target γ) = some mts) : ∃ mx my, mv γ x = some mx ∧ mv γ y = some my ∧ mts = [.tup [mx, my]] := by
  obtain ⟨mt, mts', h1, h2, rfl⟩ := mapM_cons_some h
  obtain rfl := Option.some.inj h2
  obtain ⟨xs, h3, rfl⟩ := Option.map_eq_some_iff.mp h1
  obtain ⟨mx, xs', g1, g2, rfl⟩ := mapM_cons_some h3
  obtain ⟨my, xs'', g3, g4, rfl⟩ := mapM_cons_some g2
  obtain rfl := Option.some.inj g4
  exact ⟨mx, my, g1, g3, rfl⟩
theorem unpack_two (hA : A.handled = none) {s : Shared} {a : Addr} {ua ub : Value} {k : Nat} (g : s.heap.get? a = some { cls := Value.type "tuple", data := Data.seq (List.toArray [ua, ub]) k }) :
    W prog w A (unpackItems (.ref a) 2 none) s fun l h' => l = [ua, ub] ∧ Ext [] s.heap h' := by
  have := sized (prog := prog) (w := w) (A := A) (s := s) (t := unpackItems (.ref a) ([ua, ub] : List Value).toArray.size none) (Q := fun l s' => ∃ h' tk, s' = { s with heap := h', toks := tk } ∧ l = [ua, ub] ∧ Ext [] s.heap h')
    (wpAny_unpackItems_tuple hA ⟨_, g, rfl, _, rfl⟩ fun h' hs hz => ⟨h', s.toks, rfl, rfl, extS hs hz⟩)
  exact this
theorem swap_stores (E : EnvOk γ env) (R : Room d A) {x y : Str} {i j : Nat} {va vb : PV} {a : Addr} {ua ub : Value} {k : Nat} (m1 : mv γ x = some (.loc i)) (m2 : mv γ y = some (.loc j)) (hij : i ≠ j) {s : Shared} {φ : Phi} {σ : St}
    (g : s.heap.get? a = some { cls := Value.type "tuple", data := Data.seq (List.toArray [ua, ub]) k }) (I : Inv h₀ φ σ s.heap) (F : FrAt h₀ γ env fm φ s.heap) (qa : RV φ s.heap va ua) (qb : RV φ s.heap vb ub) {rest : List (Value → Sem Unit)} :
    W prog w A (assignStores env (.ref a) (some [x, y]) rest) s fun f h' => f = .next ∧ Stored h₀ γ env φ s.heap ⟨(fm.ρ.set i (some va)).set j (some vb), fm.cs⟩ σ h' := by
  show wpAny _ _ (rule "assign.swapped-stores" >>= fun _ => unpackItems (.ref a) 2 none >>= fun items => assignInOrder [bindName env y, bindName env x] items.reverse >>= fun _ => pure Flow.next) _ _ _
  refine wpAny_bind (wpAny_rule (wpAny_bind ((unpack_two R.free g).go fun l h' tk xx => ?_)))
  obtain ⟨rfl, x1⟩ := xx
  refine wpAny_bind ?_
  show wpAny _ _ (do holding [ua] (bindName env y ub); assignInOrder [bindName env x] [ua]) _ _ _
  refine wpAny_bind (wpAny_holding (wpAny_bindName ?_))
  refine (setV_sound (s := { s with heap := h', toks := tk }) (fm' := ⟨fm.ρ.set j (some vb), fm.cs⟩) E m2 rfl (I.ext0 x1) (F.step0 x1.step) (qb.mono x1.grow)).go fun _ h₂ tk₂ st => ?_
  refine wpAny_bind (wpAny_holding (wpAny_bindName ?_))
  refine (setV_sound (s := { s with heap := h₂, toks := tk₂ }) (fm' := ⟨(fm.ρ.set j (some vb)).set i (some va), fm.cs⟩) E m1 rfl st.2.1 st.2.2 (st.1.rv (qa.mono x1.grow))).go fun _ h₃ tk₃ st' => ?_
  refine wpAny_pure (wpAny_pure ⟨h₃, tk₃, rfl, rfl, (x1.nil.step.trans st.1).trans st'.1, st'.2.1, ?_⟩)
  rw [List.set_comm _ _ hij]
  exact st'.2.2

theorem assign_stores (E : EnvOk γ env) (R : Room d A) {ts : List Expr} {e : Expr} {mts : List MT} {v : PV} {u : Value} {fm' : Fm} {σ σ' : St} (hp : pairOk ts e = true) (hd : mts.all distinct = true) (ht : ts.mapM (target γ) = some mts) (hv : setTs v mts fm σ = some (fm', σ'))
    {s : Shared} {φ : Phi} (I : Inv h₀ φ σ s.heap) (F : FrAt h₀ γ env fm φ s.heap) (q : RV φ s.heap v u) :
    W prog w A (swappedStores ts e env >>= fun sw => assignStores env u sw ((assignEach ts env).map (·.2))) s fun f h' => f = .next ∧ Stored h₀ γ env φ s.heap fm' σ' h' := by
  rcases swapped_cases (env := env) hp with hs | ⟨x, p, y, qq, c, pos, rfl, hs, k1, k2⟩
  · rw [hs]
    show wpAny _ _ (assignAll u ((assignEach ts env).map (·.2)) >>= fun _ => pure Flow.next) _ _ _
    exact wpAny_bind ((setTs_sound R.free E ts mts v u fm σ fm' σ' ht hv s I F q).go fun _ h' tk st => wpAny_pure ⟨h', tk, rfl, rfl, st⟩)
  · rw [hs]
    obtain ⟨mx, my, m1, m2, rfl⟩ := target_two ht
    obtain ⟨i, rfl⟩ := loc_of E k1 m1
    obtain ⟨j, rfl⟩ := loc_of E k2 m2
    have hij : i ≠ j := by simpa [distinct, same] using hd
    obtain ⟨fm₁, σ₁, hv1, hv2⟩ := bnd_some hv
    obtain ⟨rfl, rfl⟩ := rt_eq hv2
    cases q with
    | @tup vs us a k g ho r =>
      obtain ⟨va, vb, rfl, rfl, rfl⟩ := two_locs hv1
      obtain ⟨ua, us1, qa, r1, rfl⟩ := r.i_cons
      obtain ⟨ub, us2, qb, r2, rfl⟩ := r1.i_cons
      obtain rfl := r2.i_nil
      exact swap_stores E R m1 m2 hij g I F qa qb (rest := (assignEach [Expr.Tuple [.Name x p, .Name y qq] c pos] env).map (·.2))
    | _ => exact nomatch hv1

theorem assign_usual (D : Wd prog w h₀ G T d) (R : Room d A) (E : EnvOk γ env) {ts : List Expr} {e : Expr} {p : Pos} {me : ME} {mts : List MT} (h1 : cE G n γ e = some me) (h2 : ts.mapM (target γ) = some mts) (hp : pairOk ts e = true) (hd : mts.all distinct = true)
    {v : PV} {fm' : Fm} {σ σ₁ σ' : St} (hv : ev T me fm σ = some (v, σ₁)) (hs : setTs v mts fm σ₁ = some (fm', σ')) {s : Shared} {φ : Phi} (I : Inv h₀ φ σ s.heap) (F : FrAt h₀ γ env fm φ s.heap)
    (hsw : swapsWithSole ts e p.line env = pure false) : W prog w A (exec (.Assign ts e p) env) s (ExR h₀ γ env φ s.heap fm' none σ') := by
  rw [arm_exec_Assign, hsw]
  show wpAny _ _ _ _ _ _
  refine wpAny_bind (wpAny_standAt (wpAny_bind (wpAny_pure ?_)))
  rw [if_neg Bool.false_ne_true]
  refine wpAny_bind (((ev_sound D n).1 _ _ _ h1 _ _ _ _ hv A s φ env R E I F).go fun u h' tk r => ?_)
  obtain ⟨φ₁, S₁, I₁, q⟩ := r
  refine (assign_stores E R hp hd h2 hs (s := { s with heap := h', toks := tk }) I₁ (F.step0 S₁) q).go fun f h'' tk' x => ?_
  obtain ⟨rfl, st⟩ := x
  exact ⟨h'', tk', rfl, φ₁, S₁.nil.trans st.1, st.2.1, st.2.2, rfl⟩

theorem assign_used (D : Wd prog w h₀ G T d) (R : Room d A) (E : EnvOk γ env) {ts : List Expr} {elt : Expr} {gens : List Comprehension} {sc : Scope} {pos p : Pos} {me : ME} {mts : List MT} (h1 : cE G (n + 1) γ (.ListComp elt gens sc pos) = some me) (h2 : ts.mapM (target γ) = some mts)
    {v : PV} {fm' : Fm} {σ σ₁ σ' : St} (hv : ev T me fm σ = some (v, σ₁)) (hs : setTs v mts fm σ₁ = some (fm', σ')) {s : Shared} {φ : Phi} (I : Inv h₀ φ σ s.heap) (F : FrAt h₀ γ env fm φ s.heap)
    (hsw : swapsWithSole ts (.ListComp elt gens sc pos) p.line env = pure true) : W prog w A (exec (.Assign ts (.ListComp elt gens sc pos) p) env) s (ExR h₀ γ env φ s.heap fm' none σ') := by
  rw [arm_exec_Assign, hsw]
  show wpAny _ _ _ _ _ _
  refine wpAny_bind (wpAny_standAt (wpAny_bind (wpAny_pure ?_)))
  rw [if_pos rfl]
  have hE : evalThenUse (.ListComp elt gens sc pos) env (fun v => assignAll v ((assignEach ts env).map (·.2))) =
    (comprehension (.ListComp elt gens sc pos) sc env (firstIterPos gens pos) (newList []) (firstAsync gens) (firstIter gens env) (some fun v => assignAll v ((assignEach ts env).map (·.2))) >>= fun _ => pure ()) := rfl
  rw [hE]
  refine wpAny_bind (wpAny_bind ?_)
  refine comp_core D (ev_sound D n).1 (ev_sound D n).2 R E h1 hv I F fun uacc C h' tk c => ?_
  obtain ⟨φ', m, S₁, I₁, q₁, hn, hC, ho⟩ := c
  have hlC : env.locals ≠ C := by
    obtain ⟨o, e, _⟩ := F.there
    exact Nat.ne_of_lt (Nat.lt_of_lt_of_le (Heap.lt_size e) hC)
  have H := setTs_sound (s := { s with heap := h', toks := tk }) (prog := prog) (w := w) R.free E _ mts v uacc fm σ₁ fm' σ' h2 hs I₁ (F.step0 S₁) q₁
  refine H.go fun _ h₂ tk₂ st => ?_
  have hn2 : h₂.Ns C m := hn.at' fun o e => st.1.keep _ o e (by simpa using Ne.symm hlC) ho
  refine ⟨m, hn2, fun h₃ hs₃ => wpAny_pure (wpAny_pure ⟨h₃, tk₂, rfl, φ', ?_, ?_, ?_, rfl⟩)⟩
  all_goals
    obtain ⟨oC, es, ep, eC, dC, _⟩ := id hn2
    have x : Ext [C] h₂ h₃ := Ext.same hs₃ fun o' e' => by rw [eC] at e'; cases e'; exact imm_dict dC
  · refine Step.less (Y := [env.locals, C]) (((S₁.more (by simp)).trans (st.1.more (by simp))).trans (x.step.more (by simp))) ?_
    intro y hy
    simp only [List.mem_cons, List.not_mem_nil, or_false] at hy
    rcases hy with rfl | rfl
    · exact .inl (by simp)
    · exact .inr hC
  · exact st.2.1.ext x (by simpa using Nat.le_trans I.sz hC) (by simpa using ho)
  · exact st.2.2.step x.step (by simpa using hlC)

theorem comp_or (h : cE G n γ e = some me) : isComp e = false ∨ ∃ elt gens sc pos, e = .ListComp elt gens sc pos := by
  cases e with
  | ListComp elt gens sc pos => exact .inr ⟨_, _, _, _, rfl⟩
  | _ => exact .inl rfl

theorem st_assign (D : Wd prog w h₀ G T d) (R : Room d A) (E : EnvOk γ env) {ts : List Expr} {e : Expr} {p : Pos} {me : ME} {mts : List MT} (h1 : cE G n γ e = some me) (h2 : ts.mapM (target γ) = some mts) (hp : pairOk ts e = true) (hd : mts.all distinct = true)
    {v : PV} {fm' : Fm} {σ σ₁ σ' : St} (hv : ev T me fm σ = some (v, σ₁)) (hs : setTs v mts fm σ₁ = some (fm', σ')) {s : Shared} {φ : Phi} (I : Inv h₀ φ σ s.heap) (F : FrAt h₀ γ env fm φ s.heap) :
    W prog w A (exec (.Assign ts e p) env) s (ExR h₀ γ env φ s.heap fm' none σ') := by
  rcases comp_or h1 with hc | ⟨elt, gens, sc, pos, rfl⟩
  · exact assign_usual D R E h1 h2 hp hd hv hs I F (no_swaps_sole h1 (.inl hc) _)
  · cases n with
    | zero => cases (show (Option.none : Option ME) = some _ from h1)
    | succ n =>
      by_cases ht : ∃ x q, ts = [.Name x q]
      · obtain ⟨x, q, rfl⟩ := ht
        have hb : ∃ b, swapsWithSole [.Name x q] (.ListComp elt gens sc pos) p.line env = pure b := ⟨_, rfl⟩
        obtain ⟨b, hb⟩ := hb
        cases b with
        | false => exact assign_usual D R E h1 h2 hp hd hv hs I F hb
        | true => exact assign_used D R E h1 h2 hv hs I F hb
      · refine assign_usual D R E h1 h2 hp hd hv hs I F ?_
        by_cases hl : ts.length = 1
        · match ts, hl with
          | [t], _ => exact no_swaps_sole h1 (.inr (.inr ⟨t, rfl, fun x p e => ht ⟨x, p, by rw [e]⟩⟩)) _
        · exact no_swaps_sole h1 (.inr (.inl hl)) _
end
end Mine
end

section
set_option tactic.hygienic false
namespace Mine
open PySem PyProof.Rows

section
variable {prog : Program} {w : World} {h₀ : Heap} {G : List (Str × PV)} {T : Tab} {d n : Nat} {γ : Gm} {env : Env} {fm : Fm} {A : Around} {s : Shared} {φ : Phi} {σ σ' : St} {fm' : Fm} {r : Option PV}

theorem st_expr (D : Wd prog w h₀ G T d) (R : Room d A) (E : EnvOk γ env) {e : Expr} {p : Pos} {me : ME} (hc : isCall e = true) (h1 : cE G n γ e = some me) {v : PV} (hv : ev T me fm σ = some (v, σ')) (I : Inv h₀ φ σ s.heap) (F : FrAt h₀ γ env fm φ s.heap) :
    W prog w A (exec (.Expr e p) env) s (ExR h₀ γ env φ s.heap fm none σ') := by
  have hi : interactive env = false := by unfold interactive; rw [E.kind]; rfl
  have hsw : swapsWith e none p.line env = pure false := by cases e <;> first | rfl | cases hc
  have he : exec (.Expr e p) env = (do
      standAt p
      if interactive env then printExpr (eval e env)
      else if ← swapsWith e none p.line env then do evalThenUse e env fun _ => point; pure .next
      else do dropValue e p (← eval e env)) := rfl
  rw [he, hi, hsw]
  show wpAny _ _ _ _ _ _
  refine wpAny_bind (wpAny_standAt ?_)
  rw [if_neg Bool.false_ne_true]
  refine wpAny_bind (wpAny_pure ?_)
  rw [if_neg Bool.false_ne_true]
  refine wpAny_bind (((ev_sound D n).1 _ _ _ h1 _ _ _ _ hv A s φ env R E I F).go fun u h' tk r => ?_)
  obtain ⟨φ₁, S₁, I₁, q⟩ := r
  cases e with
  | Call f es ks q => exact drop_call ⟨h', tk, rfl, φ₁, S₁.nil, I₁, F.step0 S₁, rfl⟩
  | _ => cases hc

theorem st_ret (D : Wd prog w h₀ G T d) (R : Room d A) (E : EnvOk γ env) {e : Expr} {p : Pos} {me : ME} (h1 : cE G n γ e = some me) {v : PV} (hv : ev T me fm σ = some (v, σ')) (I : Inv h₀ φ σ s.heap) (F : FrAt h₀ γ env fm φ s.heap) :
    W prog w A (exec (.Return (some e) p) env) s (ExR h₀ γ env φ s.heap fm (some v) σ') := by
  refine wpAny_Return_some ?_
  refine ((ev_sound D n).1 _ _ _ h1 _ _ _ _ hv A s φ env R E I F).go fun u h' tk r => ?_
  obtain ⟨φ₁, S₁, I₁, q⟩ := r
  exact ⟨h', tk, rfl, φ₁, S₁.nil, I₁, F.step0 S₁, u, rfl, q⟩

theorem assign_one (hc : isComp e = false) (h1 : cE G n γ e = some me) (t : Expr) (p : Pos) (hp : ∀ es c q, t ≠ .Tuple es c q) (hl : ∀ es q, t ≠ .List es q) : swappedStores [t] e env = pure none := by
  unfold swappedStores
  cases t with
  | Tuple es c q => exact absurd rfl (hp es c q)
  | List es q => exact absurd rfl (hl es q)
  | _ => rfl

theorem st_seti (D : Wd prog w h₀ G T d) (R : Room d A) (E : EnvOk γ env) {o i e : Expr} {q p : Pos} {mo mi me : ME} (hc : isComp e = false) (h0 : cE G n γ o = some mo) (h1 : cE G n γ i = some mi) (h2 : cE G n γ e = some me)
    (hv : ex T (.seti mo mi me) fm σ = some ((fm', r), σ')) (I : Inv h₀ φ σ s.heap) (F : FrAt h₀ γ env fm φ s.heap) :
    W prog w A (exec (.Assign [.Subscript o i q] e p) env) s (ExR h₀ γ env φ s.heap fm' r σ') := by
  change bnd _ _ _ = _ at hv
  obtain ⟨v, σ₁, e1, hv1⟩ := bnd_some hv
  obtain ⟨ov, σ₂, e2, hv2⟩ := bnd_some hv1
  obtain ⟨iv, σ₃, e3, hv3⟩ := bnd_some hv2
  obtain ⟨un, σ₄, e4, hv4⟩ := bnd_some hv3
  obtain ⟨ee, rfl⟩ := rt_eq hv4
  cases ee
  rw [arm_exec_Assign, no_swaps_sole h2 (.inl hc)]
  show wpAny _ _ _ _ _ _
  refine wpAny_bind (wpAny_standAt (wpAny_bind (wpAny_pure ?_)))
  rw [if_neg Bool.false_ne_true]
  refine wpAny_bind (((ev_sound D n).1 _ _ _ h2 _ _ _ _ e1 A s φ env R E I F).go fun u h' tk r => ?_)
  obtain ⟨φ₁, S₁, I₁, q₁⟩ := r
  rw [assign_one hc h2 _ p (fun _ _ _ e => by cases e) (fun _ _ e => by cases e)]
  refine wpAny_bind (wpAny_pure ?_)
  show wpAny _ _ (assign (.Subscript o i q) env u >>= fun _ => pure Flow.next) _ _ _
  rw [arm_assign_Subscript]
  refine wpAny_bind (wpAny_bind (wpAny_holding (((ev_sound D n).1 _ _ _ h0 _ _ _ _ e2 A { s with heap := h', toks := tk } φ₁ env R E I₁ (F.step0 S₁)).go fun uo h2' tk2 r => ?_)))
  obtain ⟨φ₂, S₂, I₂, q₂⟩ := r
  have S12 := S₁.trans S₂
  refine wpAny_bind (wpAny_holding (((ev_sound D n).1 _ _ _ h1 _ _ _ _ e3 A { s with heap := h2', toks := tk2 } φ₂ env R E I₂ (F.step0 S12)).go fun ui h3 tk3 r => ?_))
  obtain ⟨φ₃, S₃, I₃, q₃⟩ := r
  have S13 := S12.trans S₃
  refine wpAny_bind (wpAny_standAt (wpAny_bind (wpAny_holding ?_)))
  refine (seti_sound (s := { s with heap := h3, toks := tk3 }) e4 I₃ (S₃.rv q₂) q₃ (S₃.rv (S₂.rv q₁))).go fun _ h4 tk4 x => ?_
  obtain ⟨S₄, I₄⟩ := x
  have S14 := S13.trans S₄
  exact wpAny_release (wpAny_pure ⟨h4, tk4, rfl, φ₃, S14.nil, I₄, F.step0 S14, rfl⟩)

theorem st_seta (D : Wd prog w h₀ G T d) (R : Room d A) (E : EnvOk γ env) {o e : Expr} {x : Str} {q p : Pos} {mo me : ME} (hc : isComp e = false) (h0 : cE G n γ o = some mo) (h2 : cE G n γ e = some me)
    (hv : ex T (.seta mo x me) fm σ = some ((fm', r), σ')) (I : Inv h₀ φ σ s.heap) (F : FrAt h₀ γ env fm φ s.heap) :
    W prog w A (exec (.Assign [.Attribute o x q] e p) env) s (ExR h₀ γ env φ s.heap fm' r σ') := by
  change bnd _ _ _ = _ at hv
  obtain ⟨v, σ₁, e1, hv1⟩ := bnd_some hv
  obtain ⟨ov, σ₂, e2, hv2⟩ := bnd_some hv1
  obtain ⟨un, σ₄, e4, hv4⟩ := bnd_some hv2
  obtain ⟨ee, rfl⟩ := rt_eq hv4
  cases ee
  rw [arm_exec_Assign, no_swaps_sole h2 (.inl hc)]
  show wpAny _ _ _ _ _ _
  refine wpAny_bind (wpAny_standAt (wpAny_bind (wpAny_pure ?_)))
  rw [if_neg Bool.false_ne_true]
  refine wpAny_bind (((ev_sound D n).1 _ _ _ h2 _ _ _ _ e1 A s φ env R E I F).go fun u h' tk r => ?_)
  obtain ⟨φ₁, S₁, I₁, q₁⟩ := r
  rw [assign_one hc h2 _ p (fun _ _ _ e => by cases e) (fun _ _ e => by cases e)]
  refine wpAny_bind (wpAny_pure ?_)
  show wpAny _ _ (assign (.Attribute o x q) env u >>= fun _ => pure Flow.next) _ _ _
  rw [arm_assign_Attribute]
  refine wpAny_bind (wpAny_bind (wpAny_holding (((ev_sound D n).1 _ _ _ h0 _ _ _ _ e2 A { s with heap := h', toks := tk } φ₁ env R E I₁ (F.step0 S₁)).go fun uo h2' tk2 r => ?_)))
  obtain ⟨φ₂, S₂, I₂, q₂⟩ := r
  have S12 := S₁.trans S₂
  refine wpAny_bind (wpAny_standAt (wpAny_bind (wpAny_holding ?_)))
  refine (setattr_sound (s := { s with heap := h2', toks := tk2 }) D.at_ e4 I₂ q₂ (S₂.rv q₁)).go fun _ h4 tk4 x => ?_
  obtain ⟨S₄, I₄⟩ := x
  have S14 := S12.trans S₄
  exact wpAny_release (wpAny_pure ⟨h4, tk4, rfl, φ₂, S14.nil, I₄, F.step0 S14, rfl⟩)

theorem st_aug (D : Wd prog w h₀ G T d) (R : Room d A) (E : EnvOk γ env) {x : Str} {q p : Pos} {op : Operator} {e : Expr} {mx : MV} {me : ME} (hcd : (x == ("__classdict__" : Str)) = false) (h0 : mv γ x = some mx) (h2 : cE G n γ e = some me)
    (hv : ex T (.aug mx op me) fm σ = some ((fm', r), σ')) (I : Inv h₀ φ σ s.heap) (F : FrAt h₀ γ env fm φ s.heap) :
    W prog w A (exec (.AugAssign (.Name x q) op e p) env) s (ExR h₀ γ env φ s.heap fm' r σ') := by
  change bnd _ _ _ = _ at hv
  obtain ⟨a, σ₁, e1, hv1⟩ := bnd_some hv
  obtain ⟨b, σ₂, e2, hv2⟩ := bnd_some hv1
  obtain ⟨v, σ₃, e3, hv3⟩ := bnd_some hv2
  obtain ⟨fm₁, σ₄, e4, hv4⟩ := bnd_some hv3
  obtain ⟨ee, rfl⟩ := rt_eq hv4
  cases ee
  have he : exec (.AugAssign (.Name x q) op e p) env = (do
    standAt q
    let old ← loadName env x
    let v ← holding [old] (eval e env)
    standAt p
    let new ← operate [old, v] (inplaceOp op old v)
    standAt q
    bindName env x new
    pure .next) := rfl
  rw [he]
  show wpAny _ _ _ _ _ _
  obtain ⟨rfl, H⟩ := getV_sound (s := s) (prog := prog) (w := w) (A := A) E h0 e1 I F hcd
  refine wpAny_bind (wpAny_standAt (wpAny_bind (H.go fun ua h' tk x => ?_)))
  obtain ⟨rfl, qa⟩ := x
  refine wpAny_bind (wpAny_holding (((ev_sound D n).1 _ _ _ h2 _ _ _ _ e2 A { s with toks := tk } φ env R E I F).go fun ub h2' tk2 r => ?_))
  obtain ⟨φ₂, S₂, I₂, qb⟩ := r
  refine wpAny_bind (wpAny_standAt (wpAny_bind (wpAny_operating ?_)))
  refine (augop_sound (s := { s with heap := h2', toks := tk2 }) e3 I₂ (S₂.rv qa) qb).go fun u h3 tk3 r => ?_
  obtain ⟨φ₃, S₃, I₃, q₃⟩ := r
  have S13 := S₂.trans S₃
  refine wpAny_bind (wpAny_standAt (wpAny_bind (wpAny_bindName ?_)))
  refine (setV_sound (s := { s with heap := h3, toks := tk3 }) E h0 e4 I₃ (F.step0 S13) q₃).go fun _ h4 tk4 st => ?_
  exact wpAny_pure ⟨h4, tk4, rfl, φ₃, S13.nil.trans st.1, st.2.1, st.2.2, rfl⟩

section
variable {ms : MS} {fm' : Fm} {r : Option PV} {σ σ' : St} {s : Shared} {φ : Phi}
theorem go_expr (D : Wd prog w h₀ G T d) (R : Room d A) (E : EnvOk γ env) {e : Expr} {p : Pos} (hm : cS G (n + 1) γ (.Expr e p) = some ms) (hv : ex T ms fm σ = some ((fm', r), σ')) (I : Inv h₀ φ σ s.heap) (F : FrAt h₀ γ env fm φ s.heap) : W prog w A (exec (.Expr e p) env) s (ExR h₀ γ env φ s.heap fm' r σ') := by
  obtain ⟨hc, hm⟩ := ift (show (if isCall e = true then (cE G n γ e).map MS.expr else none) = some ms from hm)
  obtain ⟨me, h1, rfl⟩ := Option.map_eq_some_iff.mp hm
  obtain ⟨v, σ₁, e1, hv1⟩ := bnd_some (show bnd (ev T me fm) (fun _ => rt (fm, none)) σ = _ from hv)
  cases hv1
  exact st_expr D R E hc h1 e1 I F
theorem go_ret (D : Wd prog w h₀ G T d) (R : Room d A) (E : EnvOk γ env) {e : Expr} {p : Pos} (hm : cS G (n + 1) γ (.Return (some e) p) = some ms) (hv : ex T ms fm σ = some ((fm', r), σ')) (I : Inv h₀ φ σ s.heap) (F : FrAt h₀ γ env fm φ s.heap) : W prog w A (exec (.Return (some e) p) env) s (ExR h₀ γ env φ s.heap fm' r σ') := by
  obtain ⟨me, h1, rfl⟩ := Option.map_eq_some_iff.mp (show (cE G n γ e).map MS.ret = some ms from hm)
  obtain ⟨v, σ₁, e1, hv1⟩ := bnd_some (show bnd (ev T me fm) (fun v => rt (fm, some v)) σ = _ from hv)
  cases hv1
  exact st_ret D R E h1 e1 I F
theorem go_set (D : Wd prog w h₀ G T d) (R : Room d A) (E : EnvOk γ env) {ts : List Expr} {e : Expr} {p : Pos} (hm : cSet (cE G n γ e) (ts.mapM (target γ)) ts e = some ms) (hv : ex T ms fm σ = some ((fm', r), σ')) (I : Inv h₀ φ σ s.heap) (F : FrAt h₀ γ env fm φ s.heap) : W prog w A (exec (.Assign ts e p) env) s (ExR h₀ γ env φ s.heap fm' r σ') := by
  obtain ⟨me, mts, g0, g1, hm⟩ := opt2 hm
  obtain ⟨hc, hm⟩ := ift hm
  cases hm
  obtain ⟨v, σ₁, e1, hv1⟩ := bnd_some (show bnd (ev T me fm) (fun v => bnd (setTs v mts fm) fun fm' => rt (fm', none)) σ = _ from hv)
  obtain ⟨fm₁, σ₂, e2, hv2⟩ := bnd_some hv1
  cases hv2
  rw [Bool.and_eq_true, Bool.and_eq_true] at hc
  exact st_assign D R E g0 g1 hc.1.1 hc.1.2 e1 e2 I F
theorem go_seti (D : Wd prog w h₀ G T d) (R : Room d A) (E : EnvOk γ env) {o i e : Expr} {q p : Pos} (hm : cS G (n + 1) γ (.Assign [.Subscript o i q] e p) = some ms) (hv : ex T ms fm σ = some ((fm', r), σ')) (I : Inv h₀ φ σ s.heap) (F : FrAt h₀ γ env fm φ s.heap) : W prog w A (exec (.Assign [.Subscript o i q] e p) env) s (ExR h₀ γ env φ s.heap fm' r σ') := by
  obtain ⟨hc, hm⟩ := iff' (show (if (isSlice i || isComp e) = true then none else bind3 (cE G n γ o) (cE G n γ i) (cE G n γ e) fun o i e => some (MS.seti o i e)) = some ms from hm)
  obtain ⟨mo, mi, me, g0, g1, g2, hm⟩ := opt3 hm
  cases hm
  rw [Bool.or_eq_false_iff] at hc
  exact st_seti D R E hc.2 g0 g1 g2 hv I F
theorem go_seta (D : Wd prog w h₀ G T d) (R : Room d A) (E : EnvOk γ env) {o e : Expr} {x : Str} {q p : Pos} (hm : cS G (n + 1) γ (.Assign [.Attribute o x q] e p) = some ms) (hv : ex T ms fm σ = some ((fm', r), σ')) (I : Inv h₀ φ σ s.heap) (F : FrAt h₀ γ env fm φ s.heap) : W prog w A (exec (.Assign [.Attribute o x q] e p) env) s (ExR h₀ γ env φ s.heap fm' r σ') := by
  obtain ⟨hc, hm⟩ := iff' (show (if isComp e = true then none else bind2 (cE G n γ o) (cE G n γ e) fun o e => some (MS.seta o x e)) = some ms from hm)
  obtain ⟨mo, me, g0, g1, hm⟩ := opt2 hm
  cases hm
  exact st_seta D R E hc g0 g1 hv I F
theorem go_aug (D : Wd prog w h₀ G T d) (R : Room d A) (E : EnvOk γ env) {x : Str} {q p : Pos} {op : Operator} {e : Expr} (hm : cS G (n + 1) γ (.AugAssign (.Name x q) op e p) = some ms) (hv : ex T ms fm σ = some ((fm', r), σ')) (I : Inv h₀ φ σ s.heap) (F : FrAt h₀ γ env fm φ s.heap) : W prog w A (exec (.AugAssign (.Name x q) op e p) env) s (ExR h₀ γ env φ s.heap fm' r σ') := by
  obtain ⟨mx, me, g0, g1, hm⟩ := opt2 (show bind2 (mv γ x) (cE G n γ e) (fun v e => if (x != "__classdict__") = true then some (MS.aug v op e) else none) = some ms from hm)
  obtain ⟨hc, hm⟩ := ift hm
  cases hm
  exact st_aug D R E (by simpa using hc) g0 g1 hv I F
theorem go_if (D : Wd prog w h₀ G T d) (S : StSnd prog w h₀ G T d n) (R : Room d A) (E : EnvOk γ env) {t : Expr} {b o : List Stmt} {p : Pos} (hm : cS G (n + 1) γ (.If t b o p) = some ms) (hv : ex T ms fm σ = some ((fm', r), σ')) (I : Inv h₀ φ σ s.heap) (F : FrAt h₀ γ env fm φ s.heap) : W prog w A (exec (.If t b o p) env) s (ExR h₀ γ env φ s.heap fm' r σ') := by
  obtain ⟨mt, mb, mo, g0, g1, g2, hm⟩ := opt3 (show bind3 (cE G n γ t) (seqS (b.map (cS G n γ))) (seqS (o.map (cS G n γ))) (fun t b o => some (MS.cond t b o)) = some ms from hm)
  cases hm
  obtain ⟨v, σ₁, e1, hv1⟩ := bnd_some (show bnd (ev T mt fm) (fun v => bnd (look (truth · v)) fun c => if c then exs T mb fm else exs T mo fm) σ = _ from hv)
  obtain ⟨c, σ₂, e2', hv2⟩ := bnd_some hv1
  obtain ⟨e2, hσ⟩ := look_some e2'
  subst hσ
  refine wpAny_If (((ev_sound D n).2 _ _ _ g0 _ _ _ _ _ e1 e2 A s φ env R E I F).go fun c' h' tk r => ?_)
  obtain ⟨φ₁, S₁, I₁, e⟩ := r
  obtain rfl : c' = c := e
  cases c' with
  | true => exact (block_sound S R E b _ g1 _ _ _ _ _ hv2 { s with heap := h', toks := tk } φ₁ I₁ (F.step0 S₁)).go fun f h3 tk3 r => ⟨h3, tk3, rfl, r.before S₁.nil⟩
  | false => exact (block_sound S R E o _ g2 _ _ _ _ _ hv2 { s with heap := h', toks := tk } φ₁ I₁ (F.step0 S₁)).go fun f h3 tk3 r => ⟨h3, tk3, rfl, r.before S₁.nil⟩
theorem go_while (D : Wd prog w h₀ G T d) (S : StSnd prog w h₀ G T d n) (R : Room d A) (E : EnvOk γ env) {t : Expr} {b : List Stmt} {p : Pos} (hm : cS G (n + 1) γ (.While t b [] p) = some ms) (hv : ex T ms fm σ = some ((fm', r), σ')) (I : Inv h₀ φ σ s.heap) (F : FrAt h₀ γ env fm φ s.heap) : W prog w A (exec (.While t b [] p) env) s (ExR h₀ γ env φ s.heap fm' r σ') := by
  obtain ⟨mt, mb, g0, g1, hm⟩ := opt2 (show bind2 (cE G n γ t) (seqS (b.map (cS G n γ))) (fun t b => some (MS.whil t b)) = some ms from hm)
  cases hm
  exact wpAny_While (while_loop (ev_sound D n).2 R E g0 (block_sound S R E b _ g1) _ _ _ _ _ _ hv s φ I F _ fun f h' tk x => ⟨h', tk, rfl, x⟩)
theorem go_for (D : Wd prog w h₀ G T d) (S : StSnd prog w h₀ G T d n) (R : Room d A) (E : EnvOk γ env) {t it : Expr} {b : List Stmt} {p : Pos} (hm : cS G (n + 1) γ (.For t it b [] p) = some ms) (hv : ex T ms fm σ = some ((fm', r), σ')) (I : Inv h₀ φ σ s.heap) (F : FrAt h₀ γ env fm φ s.heap) : W prog w A (exec (.For t it b [] p) env) s (ExR h₀ γ env φ s.heap fm' r σ') := by
  obtain ⟨mt, mi, mb, g0, g1, g2, hm⟩ := opt3 (show bind3 (target γ t) (cI G (cE G n γ) γ it) (seqS (b.map (cS G n γ))) (fun t it b => if zipT t it = true then some (MS.loop t it b) else none) = some ms from hm)
  obtain ⟨hz, hm⟩ := ift hm
  cases hm
  obtain ⟨src, σ₁, e1, hv1⟩ := bnd_some (show bnd (evI T mi fm) (fun src => loopM src (fun v fm' => bnd (setT fm' v mt) fun fm'' => exs T mb fm'') fuel 0 fm) σ = _ from hv)
  refine wpAny_For ?_ (fun x => not_set g1 env x)
  refine wpAny_mono (iter_sound D (ev_sound D n).1 R E g1 e1 I F) (fun x s₁ hx => wpAny_mono hx (fun u s₂ hu => ?_) fun _ _ e => e) fun _ _ e => e
  obtain ⟨h', tk, rfl, z, X, φ₁, rfl, S₁, I₁, y, hX⟩ := hu
  refine for_loop R E g0 (block_sound S R E b _ g2) _ _ _ _ _ _ _ _ hv1 { s with heap := h', toks := tk } φ₁ z X I₁ (F.step0 S₁) y (made_off F hX) (pair_for hz g0 e1) _ fun f h2 tk2 x => ?_
  obtain ⟨φ₂, S₂, I₂, F₂, hf⟩ := x
  refine ⟨h2, tk2, rfl, φ₂, ((S₁.more (Y := env.locals :: X) (by simp)).trans S₂).less ?_, I₂, F₂, hf⟩
  intro y hy
  rcases List.mem_cons.mp hy with rfl | hy
  · exact .inl (by simp)
  · exact .inr (hX y hy)
end
theorem st_step (D : Wd prog w h₀ G T d) (S : StSnd prog w h₀ G T d n) : StSnd prog w h₀ G T d (n + 1) := by
  intro γ st ms hm fm σ fm' r σ' hv A s φ env R E I F
  cases st with
  | Expr e p => exact go_expr D R E hm hv I F
  | Return e p =>
    cases e with
    | none => cases (show (Option.none : Option MS) = some ms from hm)
    | some e => exact go_ret D R E hm hv I F
  | Assign ts e p =>
    cases ts with
    | nil => exact go_set D R E hm hv I F
    | cons t ts =>
      cases ts with
      | nil =>
        rcases pick_some hm with ⟨⟨o, i, q⟩, ht, hw⟩ | ⟨_, hw⟩
        · obtain rfl := asSub_some ht
          exact go_seti D R E hm hv I F
        · rcases pick_some hw with ⟨⟨o, x, q⟩, ha, _⟩ | ⟨_, hw⟩
          · obtain rfl := asAttr_some ha
            exact go_seta D R E hm hv I F
          · exact go_set D R E hw hv I F
      | cons t2 ts => exact go_set D R E hm hv I F
  | AugAssign t op e p =>
    cases t with
    | Name x q => exact go_aug D R E hm hv I F
    | _ => cases (show (Option.none : Option MS) = some ms from hm)
  | If t b o p => exact go_if D S R E hm hv I F
  | While t b o p =>
    cases o with
    | nil => exact go_while D S R E hm hv I F
    | cons => cases (show (Option.none : Option MS) = some ms from hm)
  | For t it b o p =>
    cases o with
    | nil => exact go_for D S R E hm hv I F
    | cons => cases (show (Option.none : Option MS) = some ms from hm)
  | Raise e c p =>
    cases (show some MS.bad = some ms from hm)
    cases (show (Option.none : Option ((Fm × Option PV) × St)) = _ from hv)
  | _ => cases (show (Option.none : Option MS) = some ms from hm)

theorem st_sound (D : Wd prog w h₀ G T d) : ∀ n, StSnd prog w h₀ G T d n := by
  intro n
  induction n with
  | zero => exact fun γ e me hm => nomatch (show (Option.none : Option MS) = some me from hm)
  | succ n ih => exact st_step D ih
end
end Mine
end

section
set_option tactic.hygienic false
namespace Mine
open PySem PyProof.Rows

/-- a plain function of the text, as it lies in the heap -/
structure FnOk (h₀ : Heap) (fa : Addr) (fd : FuncData) (b : List Stmt) : Prop where
  obj : ∃ o, h₀.get? fa = some o ∧ o.data = .func fd
  body : fd.body = .stmts b
  closure : fd.closure = []
  kind : fd.scope.kind = .function
  gen : fd.scope.isGenerator = false
  co : fd.scope.isCoroutine = false
  globals : fd.globals = mainGlobals
  builtins : fd.builtins = builtinsNs
  code : h₀.CodeRec fd.code fd.qualname
  limit : h₀.NoLimit

noncomputable def gmFn (sc : Scope) : Gm := ⟨sc.names, namesOf .local sc.names, (namesOf .cell sc.names).reverse⟩

/-- a function's run: fresh cells, the bound values, the body -/
noncomputable def run (T : Tab) (nl nc : Nat) (pms : List MV) (mb : MSs) (vs : List PV) : M PV :=
  bnd (allocCells nc) fun ks => bnd (setVs ⟨List.replicate nl none, ks⟩ pms vs) fun fm => bnd (exs T mb fm) fun r => rt (r.2.getD .none)

section
variable {prog : Program} {w : World} {h₀ : Heap} {G : List (Str × PV)} {T : Tab} {d n : Nat} {γ : Gm} {env : Env} {fm : Fm} {A : Around} {s : Shared} {φ : Phi} {σ σ' : St}

theorem Room.deeper (R : Room (d + 1) A) (env : Env) : Room d (A.deeper env) := by
  obtain ⟨h1, h2, h3⟩ := R
  exact ⟨by show A.depth + 1 + d < _; omega, by show A.units + 3 + 20 * d + 200 < _; omega, h3⟩
theorem Room.in1 (R : Room d A) : A.in1.units + 20 * d + 190 < cLine ∧ A.in1.handled = none := by
  obtain ⟨h1, h2, h3⟩ := R
  exact ⟨by show A.units + 1 + 20 * d + 190 < _; omega, h3⟩

theorem wpAny_newFunctionEnv_fn {M : Model} {A : Around} {E : Value → Shared → Prop} {s : Shared} {sc : Scope} {globals : Addr} {binds : List (Str × Value)} {qual : Str} {func : Option Addr} {code : Value} {builtins : Addr} {Q : Env → Shared → Prop}
    (hQ : wpAny M A (forIn binds PUnit.unit fun x _ => (do storeName (newEnv sc s.heap.objs.size globals (cellsFrom (s.heap.objs.size + 1) sc.names []) qual func code none builtins) x.1 x.2; pure (.yield PUnit.unit) : Sem (ForInStep PUnit)))
      (fun _ s' => Q (newEnv sc s.heap.objs.size globals (cellsFrom (s.heap.objs.size + 1) sc.names []) qual func code none builtins) s') E { s with heap := pushCells (s.heap.push { cls := .type "frame", data := .dict #[] }) sc.names }) :
    wpAny M A (newFunctionEnv sc globals [] binds qual func code none builtins) Q E s := by
  simp only [newFunctionEnv, Option.isSome_none, Bool.false_eq_true, if_false]
  refine wpAny_bind (wpAny_alloc ?_)
  refine wpAny_bind (wpAny_layCells _ (fun name kind cells => by cases hkc : kind == NameKind.cell <;> simp [hkc]) _ _ _ _ ?_)
  rw [show ({ s with heap := s.heap.push { cls := .type "frame", data := .dict #[] } } : Shared).heap.objs.size = s.heap.objs.size + 1 from Heap.size_push ..]
  exact wpAny_bind (wpAny_mono hQ (fun _ _ h => wpAny_pure h) fun _ _ e => e)

theorem binds_sound (E : EnvOk γ env) : ∀ (binds : List (Str × Value)) (pms : List MV) (vs : List PV) (fm : Fm) (σ : St) (fm' : Fm) (σ' : St), (binds.map (·.1)).mapM (mv γ) = some pms → setVs fm pms vs σ = some (fm', σ') → ∀ s : Shared, Inv h₀ φ σ s.heap → FrAt h₀ γ env fm φ s.heap → RVs φ s.heap vs (binds.map (·.2)) →
    W prog w A (forIn binds PUnit.unit fun x _ => (do storeName env x.1 x.2; pure (.yield PUnit.unit) : Sem (ForInStep PUnit))) s fun _ h' => Stored h₀ γ env φ s.heap fm' σ' h' := by
  intro binds
  induction binds with
  | nil =>
    intro pms vs fm σ fm' σ' hx hv s I F r
    cases hx
    cases r
    cases hv
    exact W.pure ⟨Step.refl _ _ _, I, F⟩
  | cons x binds ih =>
    intro pms vs fm σ fm' σ' hx hv s I F r
    obtain ⟨mx, pms', h1, h2, rfl⟩ := mapM_cons_some hx
    cases r with
    | @cons v vs u us q r =>
      simp only [setVs] at hv
      obtain ⟨fm₁, σ₁, hv1, hv2⟩ := bnd_some hv
      show wpAny _ _ _ _ _ _
      rw [List.forIn_cons]
      refine wpAny_bind (wpAny_bind ((setV_sound E h1 hv1 I F q).go fun _ h' tk st => wpAny_pure ?_))
      exact (ih _ _ _ _ _ _ h2 hv2 { s with heap := h', toks := tk } st.2.1 st.2.2 (st.1.rvs r)).go fun _ h'' tk' st' => ⟨h'', tk', rfl, st'.before st.1⟩

theorem run_sound (D : Wd prog w h₀ G T d) (R : Room (d + 1) A) {fa : Addr} {fd : FuncData} {b : List Stmt} {ps : List Str} {pms : List MV} {mb : MSs} (K : FnOk h₀ fa fd b) (hblk : blockOk fd.scope.names = true) (hp : ps.mapM (mv (gmFn fd.scope)) = some pms)
    (hb : seqS (b.map (cS G n (gmFn fd.scope))) = some mb) {vs : List PV} {v : PV} (hv : run T (namesOf .local fd.scope.names).length (namesOf .cell fd.scope.names).length pms mb vs σ = some (v, σ')) (I : Inv h₀ φ σ s.heap) {us : List Value} {kus : List (Str × Value)}
    (hB : W prog w A.in1 (bindArgs fd ⟨us, kus⟩) s (RetX h₀ φ s.heap σ fun φ' h' binds => binds.map (·.1) = ps ∧ RVs φ' h' vs (binds.map (·.2)))) :
    W prog w A (call (.ref fa) us kus) s (Ret h₀ [] φ s.heap v σ') := by
  obtain ⟨o, ho, hd⟩ := K.obj
  unfold run at hv
  obtain ⟨ks, σ₁, hks, hv1⟩ := bnd_some hv
  obtain ⟨fm, σ₂, hset, hv2⟩ := bnd_some hv1
  obtain ⟨⟨fm', r⟩, σ₃, hex, hv3⟩ := bnd_some hv2
  obtain ⟨hvv, hσ⟩ := rt_eq hv3
  refine wpAny_call (codeAny_call_function (by have := R.depth; omega) (I.base _ _ ho) hd K.co K.gen K.body (K.code.keeps I.base) ?_)
  rw [K.closure]
  refine wpAny_mono (hB.go fun binds h₁ tk₁ x => ?_) (fun _ _ x => x) fun _ _ x => x.elim
  obtain ⟨φ₁, S₁, I₁, hn, r₁⟩ := x
  refine wpAny_newFunctionEnv_fn ?_
  generalize hE : newEnv fd.scope h₁.objs.size fd.globals (cellsFrom (h₁.objs.size + 1) fd.scope.names []) (fd.qualname ++ ".<locals>.") (some fa) fd.code none fd.builtins = env
  have x2 := Ext.push h₁ { cls := .type "frame", data := .dict #[] }
  have I₂ := I₁.ext0 x2
  have sz2 : (h₁.push { cls := .type "frame", data := .dict #[] }).objs.size = h₁.objs.size + 1 := Heap.size_push ..
  obtain ⟨φ₃, S₃, I₃, c₃, x3⟩ := lay_cells fd.scope.names [] [] [] φ₁ _ _ ks σ₁ .nil I₂ hks
  rw [sz2] at c₃
  have hns : (pushCells (h₁.push { cls := .type "frame", data := .dict #[] }) fd.scope.names).Ns h₁.objs.size (fun _ => none) := (Heap.Ns.new h₁ (.type "frame")).keeps fun b o e => x3.keep b o e (by simp)
  have offL : ∀ p ∈ φ₃, p.2 ≠ h₁.objs.size := by
    obtain ⟨od, _, _, ed, _⟩ := Heap.Ns.new h₁ (.type "frame")
    exact S₃.toGrow.off ed (I₁.fresh (Nat.le_refl _))
  have hloc : env.locals = h₁.objs.size := by subst hE; rfl
  have E : EnvOk (gmFn fd.scope) env := by
    subst hE
    exact ⟨K.kind, rfl, K.globals, K.builtins, (blockOk_at hblk).1⟩
  have S13 := (S₁.trans x2.step).trans S₃
  have F₃ : FrAt h₀ (gmFn fd.scope) env ⟨List.replicate (namesOf .local fd.scope.names).length none, ks⟩ φ₃ (pushCells (h₁.push { cls := .type "frame", data := .dict #[] }) fd.scope.names) := by
    refine ⟨⟨_, by rw [hloc]; exact hns, ?_⟩, by simp [gmFn], by rw [hloc]; exact I₁.sz, by rw [hloc]; exact offL, ?_⟩
    · intro i x v _ hv
      simp only [List.getElem?_replicate] at hv
      split at hv <;> simp at hv
    · subst hE
      have : cellsFrom (h₁.objs.size + 1) fd.scope.names [] = (newEnv fd.scope h₁.objs.size fd.globals (cellsFrom (h₁.objs.size + 1) fd.scope.names []) (fd.qualname ++ ".<locals>.") (some fa) fd.code none fd.builtins).cells := rfl
      rw [← this]
      simpa [gmFn] using c₃
  have S23 : Step [] φ₁ φ₃ h₁ (pushCells (h₁.push { cls := .type "frame", data := .dict #[] }) fd.scope.names) := x2.step.trans S₃
  have HS := binds_sound (prog := prog) (w := w) (A := A.in1) E binds pms vs _ _ _ _ (by rw [hn]; exact hp) hset { s with heap := pushCells (h₁.push { cls := .type "frame", data := .dict #[] }) fd.scope.names, toks := tk₁ } I₃ F₃ (S23.rvs r₁)
  refine wpAny_mono (HS.go fun _ h₄ tk₄ st => ?_) (fun _ _ x => x) fun _ _ x => x.elim
  refine ⟨K.limit.keeps st.2.1.base, codeAny_func ?_⟩
  refine wpAny_mono ((block_sound (st_sound D n) (R.deeper env) E b mb hb _ _ _ _ _ hex { s with heap := h₄, toks := tk₄ } φ₃ st.2.1 st.2.2).go fun f h₅ tk₅ x => ?_) (fun _ _ x => x) fun _ _ x => x.elim
  obtain ⟨φ₅, S₅, I₅, F₅, hf⟩ := x
  have Sall : Step [] φ φ₅ s.heap h₅ := (((S13.more (Y := [env.locals]) (by simp)).trans st.1).trans S₅).less (by
    intro y hy; simp at hy; subst hy; rw [hloc]; exact .inr S₁.size)
  subst hvv
  cases r with
  | none =>
    obtain rfl : f = .next := hf
    exact ⟨h₅, tk₅, rfl, φ₅, Sall, hσ ▸ I₅, .none⟩
  | some v' =>
    obtain ⟨u, rfl, q⟩ := hf
    exact ⟨h₅, tk₅, rfl, φ₅, Sall, hσ ▸ I₅, q⟩
end
end Mine
end

section
set_option tactic.hygienic false
namespace Mine
open PySem PyProof.Rows

/-! ### the base table: what the interpreter itself offers -/
noncomputable def asc (x : Str) : Bool := x.cps.toList.all (· < 128)
noncomputable def lowC (c : Nat) : Nat := if 65 ≤ c ∧ c ≤ 90 then c + 32 else c
noncomputable def uppC (c : Nat) : Nat := if 97 ≤ c ∧ c ≤ 122 then c - 32 else c
noncomputable def low (x : Str) : Str := ⟨(x.cps.toList.map lowC).toArray⟩
noncomputable def upp (x : Str) : Str := ⟨(x.cps.toList.map uppC).toArray⟩

noncomputable def strsO : List PV → Option (List Str)
  | [] => some []
  | .str x :: r => (strsO r).map (x :: ·)
  | _ => none
noncomputable def intsO : List PV → Option (List Int)
  | [] => some []
  | .int x :: r => (intsO r).map (x :: ·)
  | _ => none

/-- the intsO of a range -/
noncomputable def rangeInts (a b c : Int) : List Int := (List.range (Builtin.Range.rangeSize a b c).toNat).map fun (i : Nat) => a + c * (i : Int)

noncomputable def lenM (v : PV) : M PV := match v with
  | .str x => rt (.int x.length)
  | .tup xs => if xs.length ≤ 20000 then rt (.int xs.length) else fail
  | .obj n => look fun σ => (lstAt σ n).map fun xs => .int xs.length
  | _ => fail

noncomputable def lenL (vs : List PV) : M PV := match vs with
  | [v] => lenM v
  | _ => fail
noncomputable def minL (vs : List PV) : M PV := match vs with
  | [.int a, .int b] => rt (.int (if b < a then b else a))
  | _ => fail
noncomputable def lowL (vs : List PV) : M PV := match vs with
  | [.str x] => if asc x && fits (low x) then rt (.str (low x)) else fail
  | _ => fail
noncomputable def uppL (vs : List PV) : M PV := match vs with
  | [.str x] => if asc x && fits (upp x) then rt (.str (upp x)) else fail
  | _ => fail
noncomputable def cntL (vs : List PV) : M PV := match vs with
  | [.str x, .str y] => rt (.int (Txt.count x y))
  | _ => fail
noncomputable def joinL (vs : List PV) : M PV := match vs with
  | [.str x, .obj n] => fun σ => match (lstAt σ n).bind strsO with
      | some ys => if JoinOk x ys && fits (Txt.join x ys) then some (.str (Txt.join x ys), σ) else none
      | none => none
  | _ => fail
noncomputable def appL (vs : List PV) : M PV := match vs with
  | [l, v] => bnd (push l v) fun _ => rt .none
  | _ => fail
noncomputable def bi (id : String) (vs : List PV) (kvs : List (Str × PV)) : M PV :=
  if !kvs.isEmpty then fail else
  if id == "len" then lenL vs else
  if id == "min" then minL vs else
  if id == "str.lower" then lowL vs else
  if id == "str.upper" then uppL vs else
  if id == "str.count" then cntL vs else
  if id == "str.join" then joinL vs else
  if id == "list.append" then appL vs else
  fail

noncomputable def rangeL (vs : List PV) : M PV := match vs with
  | [.int b] => if small b then rt (.range 0 b 1) else fail
  | [.int a, .int b, .int c] => if small a && small b && small c && decide (0 < c) && decide (c < 1000) && decide (a.natAbs < 1000000) && decide (b.natAbs < 1000000) then rt (.range a b c) else fail
  | _ => fail
noncomputable def listL (vs : List PV) : M PV := match vs with
  | [.range a b c] => if decide (Builtin.Range.rangeSize a b c ≤ 1000) then alloc (.lst ((rangeInts a b c).map .int)) else fail
  | _ => fail
noncomputable def typeL (vs : List PV) : M PV := match vs with
  | [.str _] => rt (.top (.type "str"))
  | [.obj n] => look fun σ => (lstAt σ n).map fun _ => .top (.type "list")
  | _ => fail
noncomputable def ty (id : String) (vs : List PV) (kvs : List (Str × PV)) : M PV :=
  if !kvs.isEmpty then fail else
  if id == "range" then rangeL vs else
  if id == "list" then listL vs else
  if id == "type" then typeL vs else
  fail

noncomputable def mt0 (σ : St) (o : PV) (x : Str) : Option Value := match o with
  | .str _ =>
    if x == "lower" then some (.builtin "str.lower") else
    if x == "upper" then some (.builtin "str.upper") else
    if x == "count" then some (.builtin "str.count") else
    if x == "join" then some (.builtin "str.join") else none
  | .obj n => match lstAt σ n with
    | some _ => if x == "append" then some (.builtin "list.append") else none
    | none => none
  | _ => none

noncomputable def T0 : Tab where
  ap fv vs kvs := match fv with
    | .top (.builtin id) => bi id vs kvs
    | .top (.type id) => ty id vs kvs
    | _ => fail
  mt := mt0
  at_ := fun _ _ => false

noncomputable def addFn (T : Tab) (fa : Addr) (f : List PV → List (Str × PV) → M PV) : Tab := { T with
  ap := fun fv vs kvs => match fv with
    | .top (.ref a) => if a == fa then f vs kvs else T.ap fv vs kvs
    | _ => T.ap fv vs kvs }
end Mine
end

section
set_option tactic.hygienic false
namespace Mine
open PySem PyProof.Rows

theorem low_tab : ∀ c < 128, Unicode.lowerOf c = [lowC c] := by
  have h : (List.range 128).all (fun c => Unicode.lowerOf c == [lowC c]) = true := by decide +kernel
  intro c hc
  have := (List.all_eq_true.mp h) c (List.mem_range.mpr hc)
  simpa using this
theorem upp_tab : ∀ c < 128, Unicode.upperOf c = [uppC c] := by
  have h : (List.range 128).all (fun c => Unicode.upperOf c == [uppC c]) = true := by decide +kernel
  intro c hc
  have := (List.all_eq_true.mp h) c (List.mem_range.mpr hc)
  simpa using this

theorem placed_single {x : Str} {f : Nat → Nat → List Nat} {g : Nat → Nat} (h : ∀ i c, x.cps[i]? = some c → f i c = [g c]) : placed x f = (x.cps.toList.map g).toArray := by
  have e : (x.cps.mapIdx fun i c => (f i c).toArray) = x.cps.map fun c => #[g c] := by
    apply Array.ext
    · simp
    · intro i h1 h2
      simp only [Array.size_mapIdx] at h1
      simp only [Array.getElem_mapIdx, Array.getElem_map]
      rw [h i _ (Array.getElem?_eq_getElem h1)]
  unfold placed
  rw [e]
  apply Array.ext'
  rw [Array.toList_flatten]
  simp only [Array.toList_map, List.map_map]
  have : ∀ l : List Nat, (l.map (Array.toList ∘ fun c => #[g c])).flatten = l.map g := by
    intro l
    induction l with
    | nil => rfl
    | cons a l ih => simp only [List.map_cons, List.flatten_cons, ih]; rfl
  exact this _

theorem asc_at {x : Str} (h : asc x = true) {i c : Nat} (hc : x.cps[i]? = some c) : c < 128 := by
  have := (List.all_eq_true.mp h) c (by rw [Array.mem_toList_iff]; exact Array.mem_of_getElem? hc)
  simpa using this

theorem lower_asc {x : Str} (h : asc x = true) : Txt.lower x = low x := by
  unfold Txt.lower low
  rw [placed_single (g := lowC)]
  intro i c hc
  have hlt := asc_at h hc
  unfold Unicode.lowerAt
  rw [hc]
  have : (c == 0x3A3) = false := by simp; omega
  simp only [this, Bool.false_and, Bool.false_eq_true, if_false]
  exact low_tab c hlt
theorem upper_asc {x : Str} (h : asc x = true) : Txt.upper x = upp x := by
  unfold Txt.upper upp
  rw [placed_single (g := uppC)]
  intro i c hc
  exact upp_tab c (asc_at h hc)

section
variable {prog : Program} {w : World} {h₀ : Heap} {A : Around} {s : Shared} {φ : Phi} {σ σ' : St}

theorem fits_long {x : Str} (h : fits x = true) : Builtin.Str.tooLong x.length = false := by
  have := fits_le h
  unfold Builtin.Str.tooLong
  rw [sizeLine_eq]
  simp; omega

theorem keepsE {h h' : Heap} (hk : ∀ c o, h.get? c = some o → h'.get? c = some o) (hz : h.objs.size ≤ h'.objs.size) : Ext [] h h' :=
  ⟨hz, fun b o e _ => hk b o e, fun b o e _ => hk b o e⟩
theorem Ret.ext {X : List Addr} {h h' : Heap} {v : PV} {u : Value} (I : Inv h₀ φ σ h) (x : Ext [] h h') (q : RV φ h' v u) : Ret h₀ X φ h v σ u h' := ⟨φ, x.nil.step, I.ext0 x, q⟩

theorem len_sound {v r : PV} {u : Value} (hv : lenM v σ = some (r, σ')) (I : Inv h₀ φ σ s.heap) (q : RV φ s.heap v u) : W prog w A (call (.builtin "len") [u]) s (Ret h₀ [] φ s.heap r σ') := by
  unfold lenM at hv
  split at hv
  · obtain ⟨rfl, rfl⟩ := rt_eq hv
    cases q with | str hs t =>
    exact P.len_str (by have := fits_le hs; omega) ⟨_, _, rfl, Ret.int I _ _⟩
  · obtain ⟨hz, rfl, rfl⟩ := if_rt hv
    cases q with | tup g ho r =>
    rw [r.length] at hz ⊢
    exact len_tuple (items := _) ⟨_, g, rfl, _, rfl⟩ (by simp; omega) ⟨_, _, rfl, by simpa using Ret.int I _ _⟩
  · obtain ⟨hv, rfl⟩ := look_some hv
    rw [Option.map_eq_some_iff] at hv
    obtain ⟨xs, hl, rfl⟩ := hv
    obtain ⟨a, us, k, rfl, _, hz, g, r⟩ := list_at hl I q
    rw [r.length]
    have := r.length
    exact Calls.call_len_list (items := us.toArray) ⟨_, g, rfl, _, rfl⟩ (by simp; omega) ⟨_, _, rfl, by simpa using Ret.int I _ _⟩
  · cases hv

theorem strsO_at {h : Heap} : ∀ {xs : List PV} {us : List Value} {ys : List Str}, strsO xs = some ys → RVs φ h xs us → ∃ l : List (Str × Tok), us = strValues l ∧ l.map (·.1) = ys := by
  intro xs
  induction xs with
  | nil => intro us ys hy r; cases hy; cases r; exact ⟨[], rfl, rfl⟩
  | cons x xs ih =>
    intro us ys hy r
    cases r with
    | cons q r =>
      cases q with
      | str hs t =>
        simp only [strsO, Option.map_eq_some_iff] at hy
        obtain ⟨ys', h1, rfl⟩ := hy
        obtain ⟨l, rfl, rfl⟩ := ih h1 r
        exact ⟨(_, t) :: l, rfl, rfl⟩
      | _ => cases hy

section
variable {vs : List PV} {v : PV} {us : List Value}
theorem RVs.one {x : PV} {h : Heap} (r : RVs φ h [x] us) : ∃ u, us = [u] ∧ RV φ h x u := by
  obtain ⟨u, us', q, r', rfl⟩ := r.i_cons
  obtain rfl := r'.i_nil
  exact ⟨u, rfl, q⟩
theorem RVs.two {x y : PV} {h : Heap} (r : RVs φ h [x, y] us) : ∃ u u', us = [u, u'] ∧ RV φ h x u ∧ RV φ h y u' := by
  obtain ⟨u, us', q, r', rfl⟩ := r.i_cons
  obtain ⟨u', rfl, q'⟩ := r'.one
  exact ⟨u, u', rfl, q, q'⟩
theorem RVs.three {x y z : PV} {h : Heap} (r : RVs φ h [x, y, z] us) : ∃ u u' u'', us = [u, u', u''] ∧ RV φ h x u ∧ RV φ h y u' ∧ RV φ h z u'' := by
  obtain ⟨u, us', q, r', rfl⟩ := r.i_cons
  obtain ⟨u', u'', rfl, q', q''⟩ := r'.two
  exact ⟨u, u', u'', rfl, q, q', q''⟩
theorem len_snd (hv : lenL vs σ = some (v, σ')) (I : Inv h₀ φ σ s.heap) (r : RVs φ s.heap vs us) : W prog w A (call (.builtin "len") us []) s (Ret h₀ [] φ s.heap v σ') := by
  unfold lenL at hv
  split at hv
  · obtain ⟨u, rfl, q⟩ := r.one
    exact len_sound hv I q
  · cases hv
theorem min_snd (hA : A.handled = none) (hv : minL vs σ = some (v, σ')) (I : Inv h₀ φ σ s.heap) (r : RVs φ s.heap vs us) : W prog w A (call (.builtin "min") us []) s (Ret h₀ [] φ s.heap v σ') := by
  unfold minL at hv
  split at hv
  · obtain ⟨rfl, rfl⟩ := rt_eq hv
    obtain ⟨u, u', rfl, q, q'⟩ := r.two
    obtain ⟨t, rfl⟩ := q.i_int
    obtain ⟨t', rfl⟩ := q'.i_int
    refine sized (min_two_ints hA fun h' tk hk hz => ⟨h', tk, rfl, Ret.ext I (keepsE hk hz) ?_⟩)
    split <;> exact .int _ _
  · cases hv
theorem low_snd (hv : lowL vs σ = some (v, σ')) (I : Inv h₀ φ σ s.heap) (r : RVs φ s.heap vs us) : W prog w A (call (.builtin "str.lower") us []) s (Ret h₀ [] φ s.heap v σ') := by
  unfold lowL at hv
  split at hv
  · obtain ⟨hc, rfl, rfl⟩ := if_rt hv
    rw [Bool.and_eq_true] at hc
    obtain ⟨u, rfl, q⟩ := r.one
    obtain ⟨_, t, rfl⟩ := q.i_str
    have e := lower_asc hc.1
    refine SC.lower (by rw [e]; exact fits_long hc.2) ?_
    rw [e]
    exact ⟨_, _, rfl, Ret.str I hc.2 _⟩
  · cases hv
theorem upp_snd (hv : uppL vs σ = some (v, σ')) (I : Inv h₀ φ σ s.heap) (r : RVs φ s.heap vs us) : W prog w A (call (.builtin "str.upper") us []) s (Ret h₀ [] φ s.heap v σ') := by
  unfold uppL at hv
  split at hv
  · obtain ⟨hc, rfl, rfl⟩ := if_rt hv
    rw [Bool.and_eq_true] at hc
    obtain ⟨u, rfl, q⟩ := r.one
    obtain ⟨_, t, rfl⟩ := q.i_str
    have e := upper_asc hc.1
    refine SC.upper (by rw [e]; exact fits_long hc.2) ?_
    rw [e]
    exact ⟨_, _, rfl, Ret.str I hc.2 _⟩
  · cases hv
theorem cnt_snd (hv : cntL vs σ = some (v, σ')) (I : Inv h₀ φ σ s.heap) (r : RVs φ s.heap vs us) : W prog w A (call (.builtin "str.count") us []) s (Ret h₀ [] φ s.heap v σ') := by
  unfold cntL at hv
  split at hv
  · obtain ⟨rfl, rfl⟩ := rt_eq hv
    obtain ⟨u, u', rfl, q, q'⟩ := r.two
    obtain ⟨_, t, rfl⟩ := q.i_str
    obtain ⟨_, t', rfl⟩ := q'.i_str
    exact SC.count ⟨_, _, rfl, Ret.int I _ _⟩
  · cases hv
set_option tactic.hygienic true in
theorem join_snd (hv : joinL vs σ = some (v, σ')) (I : Inv h₀ φ σ s.heap) (r : RVs φ s.heap vs us) : W prog w A (call (.builtin "str.join") us []) s (Ret h₀ [] φ s.heap v σ') := by
  unfold joinL at hv
  split at hv
  · split at hv
    · rename_i ys hys
      split at hv
      · rename_i hc
        cases hv
        rw [Bool.and_eq_true] at hc
        obtain ⟨u, u', rfl, q, q'⟩ := r.two
        obtain ⟨_, t, rfl⟩ := q.i_str
        rw [Option.bind_eq_some_iff] at hys
        obtain ⟨xs, hl, hys⟩ := hys
        obtain ⟨a, us, k, rfl, _, hz, g, rr⟩ := list_at hl I q'
        obtain ⟨l, rfl, rfl⟩ := strsO_at hys rr
        exact SC.join (l := l) ⟨_, g, rfl, _, rfl⟩ rfl hc.1 fun t' k' => ⟨_, _, rfl, Ret.str I hc.2 _⟩
      · cases hv
    · cases hv
  · cases hv
theorem app_snd (hv : appL vs σ = some (v, σ')) (I : Inv h₀ φ σ s.heap) (r : RVs φ s.heap vs us) : W prog w A (call (.builtin "list.append") us []) s (Ret h₀ [] φ s.heap v σ') := by
  unfold appL at hv
  split at hv
  · obtain ⟨un, σ₁, e1, e2⟩ := bnd_some hv
    obtain ⟨rfl, rfl⟩ := rt_eq e2
    obtain ⟨u, u', rfl, q, q'⟩ := r.two
    exact (push_sound e1 I q q').mono fun u h' x => ⟨φ, x.2.1, x.2.2, x.1 ▸ .none⟩
  · cases hv
theorem RKs.i_nil {kus : List (Str × Value)} {h : Heap} (r : RKs φ h [] kus) : kus = [] := by cases r; rfl
end

theorem if_tf {α : Type} {c : Bool} {a b : M α} {r : α × St} (h : (if c = true then a else b) σ = some r) : (c = true ∧ a σ = some r) ∨ b σ = some r := by
  cases c
  · exact .inr h
  · exact .inl ⟨rfl, h⟩
theorem if_kv {kvs : List (Str × PV)} {a : M PV} {r : PV × St} (h : (if (!kvs.isEmpty) = true then fail else a) σ = some r) : kvs = [] ∧ a σ = some r := by
  cases kvs with
  | nil => exact ⟨rfl, h⟩
  | cons => cases h
theorem bi_sound {id : String} {vs : List PV} {kvs : List (Str × PV)} {v : PV} (hv : bi id vs kvs σ = some (v, σ')) (R : Room 0 A) (I : Inv h₀ φ σ s.heap) {us : List Value} {kus : List (Str × Value)} (r : RVs φ s.heap vs us) (rk : RKs φ s.heap kvs kus) :
    W prog w A (call (.builtin id) us kus) s (Ret h₀ [] φ s.heap v σ') := by
  unfold bi at hv
  obtain ⟨hk, hw⟩ := if_kv hv
  clear hv
  subst hk
  obtain rfl := rk.i_nil
  rcases if_tf hw with ⟨h, hw⟩ | hw
  · exact eq_of_beq h ▸ len_snd hw I r
  rcases if_tf hw with ⟨h, hw⟩ | hw
  · exact eq_of_beq h ▸ min_snd R.free hw I r
  rcases if_tf hw with ⟨h, hw⟩ | hw
  · exact eq_of_beq h ▸ low_snd hw I r
  rcases if_tf hw with ⟨h, hw⟩ | hw
  · exact eq_of_beq h ▸ upp_snd hw I r
  rcases if_tf hw with ⟨h, hw⟩ | hw
  · exact eq_of_beq h ▸ cnt_snd hw I r
  rcases if_tf hw with ⟨h, hw⟩ | hw
  · exact eq_of_beq h ▸ join_snd hw I r
  rcases if_tf hw with ⟨h, hw⟩ | hw
  · exact eq_of_beq h ▸ app_snd hw I r
  cases hw

theorem ints_rv {a c : Int} {ψ : Phi} {h' : Heap} : ∀ (l : List Value) (n k : Nat), l.length = n → (∀ j v, l[j]? = some v → ∃ t, v = Value.int (a + ((k + j : Nat) : Int) * c) t) → RVs ψ h' (((List.range' k n).map fun (i : Nat) => a + c * (i : Int)).map PV.int) l := by
  intro l
  induction l with
  | nil => intro n k hn _; cases n with | zero => exact .nil | succ n => cases hn
  | cons x l ih =>
    intro n k hn hh
    cases n with
    | zero => cases hn
    | succ n =>
      obtain ⟨t, rfl⟩ := hh 0 x rfl
      rw [List.range'_succ, List.map_cons, List.map_cons]
      refine .cons ?_ (ih n (k + 1) (by simpa using hn) fun j v hj => ?_)
      · have : a + ((k + 0 : Nat) : Int) * c = a + c * (k : Int) := by rw [Nat.add_zero, Int.mul_comm]
        rw [this]; exact .int _ _
      · obtain ⟨t, ht⟩ := hh (j + 1) v (by simpa using hj)
        exact ⟨t, by rw [ht]; congr 2; rw [show k + (j + 1) = k + 1 + j by omega]⟩
theorem size_pos {a b c : Int} (h4 : 0 < c) : 0 ≤ Builtin.Range.rangeSize a b c := by
  unfold Builtin.Range.rangeSize
  rw [if_pos h4]
  split
  · have := Int.ediv_nonneg (show 0 ≤ b - a - 1 by omega) (show 0 ≤ c by omega); omega
  · omega
section
variable {vs : List PV} {v : PV} {us : List Value}
theorem range_snd (hv : rangeL vs σ = some (v, σ')) (I : Inv h₀ φ σ s.heap) (r : RVs φ s.heap vs us) : W prog w A (call (.type "range") us []) s (Ret h₀ [] φ s.heap v σ') := by
  unfold rangeL at hv
  split at hv
  · obtain ⟨hc, rfl, rfl⟩ := if_rt hv
    obtain ⟨u, rfl, q⟩ := r.one
    obtain ⟨t, rfl⟩ := q.i_int
    exact call_range_1 ⟨_, _, rfl, Ret.ext I (Ext.push _ _) (.range (IsRange.new ..) (by decide) hc (by decide) (by decide))⟩
  · obtain ⟨hc, rfl, rfl⟩ := if_rt hv
    simp only [Bool.and_eq_true, decide_eq_true_eq] at hc
    obtain ⟨u, u', u'', rfl, q, q', q''⟩ := r.three
    obtain ⟨t, rfl⟩ := q.i_int
    obtain ⟨t', rfl⟩ := q'.i_int
    obtain ⟨t'', rfl⟩ := q''.i_int
    exact call_range_3 (Int.ne_of_gt hc.1.1.1.2) ⟨_, _, rfl, Ret.ext I (Ext.push _ _) (.range (IsRange.new ..) hc.1.1.1.1.1.1 hc.1.1.1.1.1.2 hc.1.1.1.1.2 hc.1.1.1.2)⟩ (.inl (PyProof.noPylong_small (by omega)))
  · cases hv
set_option tactic.hygienic true in
theorem list_snd (hA : A.handled = none) (hv : listL vs σ = some (v, σ')) (I : Inv h₀ φ σ s.heap) (r : RVs φ s.heap vs us) : W prog w A (call (.type "list") us []) s (Ret h₀ [] φ s.heap v σ') := by
  unfold listL at hv
  split at hv
  · rename_i a b c
    split at hv
    · rename_i hc
      rw [decide_eq_true_eq] at hc
      cases hv
      obtain ⟨u, rfl, q⟩ := r.one
      obtain ⟨rr, t, u', w', e, h1, h2, h3, h4, rfl⟩ := q.inv
      have h0 := size_pos (a := a) (b := b) h4
      refine sized (call_list_range (n := (Builtin.Range.rangeSize a b c).toNat) hA e (range_small h1 h2 h3 h4) (by omega) (by omega) fun h' tk acc c' hk hl hit hz => ?_)
      have x := keepsE hk hz
      have hus : RVs (φ ++ [(s.heap.objs.size, s.heap.objs.size)]) h' ((rangeInts a b c).map PV.int) acc.toList := by
        unfold rangeInts
        rw [List.range_eq_range']
        exact ints_rv acc.toList _ 0 (by simp [hit.1]) fun j v hj => by
          obtain ⟨t, ht⟩ := hit.2 j v (by simpa using hj)
          exact ⟨t, by rw [ht]; simp⟩
      obtain ⟨I', S'⟩ := I.alloc (p := (s.heap.objs.size, s.heap.objs.size)) x (Nat.le_refl _) (c := .lst ((rangeInts a b c).map .int)) ⟨rfl, by simp [rangeInts]; omega, acc.toList, c', by simpa using hl, hus⟩
      refine ⟨h', tk, rfl, _, S', I', .obj (p := (s.heap.objs.size, s.heap.objs.size)) ?_⟩
      rw [← I.len]; simp
    · cases hv
  · cases hv
theorem type_snd (hv : typeL vs σ = some (v, σ')) (I : Inv h₀ φ σ s.heap) (r : RVs φ s.heap vs us) : W prog w A (call (.type "type") us []) s (Ret h₀ [] φ s.heap v σ') := by
  unfold typeL at hv
  split at hv
  · obtain ⟨rfl, rfl⟩ := rt_eq hv
    obtain ⟨u, rfl, q⟩ := r.one
    obtain ⟨_, t, rfl⟩ := q.i_str
    exact call_type_of (Tx := "str") (typeIs_str _ _ _) (by decide +kernel) ⟨_, _, rfl, Ret.here I (.top _)⟩
  · obtain ⟨hv, rfl⟩ := look_some hv
    rw [Option.map_eq_some_iff] at hv
    obtain ⟨xs, hl, rfl⟩ := hv
    obtain ⟨u, rfl, q⟩ := r.one
    obtain ⟨a, us, k, rfl, _, hz, g, _⟩ := list_at hl I q
    exact call_type_of (Tx := "list") ⟨_, g, rfl⟩ (by decide +kernel) ⟨_, _, rfl, Ret.here I (.top _)⟩
  · cases hv
end
theorem ty_sound {id : String} {vs : List PV} {kvs : List (Str × PV)} {v : PV} (hv : ty id vs kvs σ = some (v, σ')) (R : Room 0 A) (I : Inv h₀ φ σ s.heap) {us : List Value} {kus : List (Str × Value)} (r : RVs φ s.heap vs us) (rk : RKs φ s.heap kvs kus) :
    W prog w A (call (.type id) us kus) s (Ret h₀ [] φ s.heap v σ') := by
  unfold ty at hv
  obtain ⟨hk, hw⟩ := if_kv hv
  clear hv
  subst hk
  obtain rfl := rk.i_nil
  rcases if_tf hw with ⟨h, hw⟩ | hw
  · exact eq_of_beq h ▸ range_snd hw I r
  rcases if_tf hw with ⟨h, hw⟩ | hw
  · exact eq_of_beq h ▸ list_snd R.free hw I r
  rcases if_tf hw with ⟨h, hw⟩ | hw
  · exact eq_of_beq h ▸ type_snd hw I r
  cases hw

set_option tactic.hygienic true in
theorem mt0_sound {o : PV} {x : Str} {fv : Value} (hv : mt0 σ o x = some fv) (I : Inv h₀ φ σ s.heap) {uo : Value} (q : RV φ s.heap o uo) {pl : Sem Bool} : W prog w A (getMethod uo x pl) s fun r h' => h' = s.heap ∧ r = (fv, [uo]) := by
  unfold mt0 at hv
  split at hv
  · cases q with | str hs t =>
    split at hv
    · rename_i h; obtain rfl : x = ("lower" : Str) := by simpa using h
      cases hv; exact GM.lower ⟨_, _, rfl, rfl, rfl⟩
    · split at hv
      · rename_i h; obtain rfl : x = ("upper" : Str) := by simpa using h
        cases hv; exact GM.upper ⟨_, _, rfl, rfl, rfl⟩
      · split at hv
        · rename_i h; obtain rfl : x = ("count" : Str) := by simpa using h
          cases hv; exact GM.count ⟨_, _, rfl, rfl, rfl⟩
        · split at hv
          · rename_i h; obtain rfl : x = ("join" : Str) := by simpa using h
            cases hv; exact GM.join ⟨_, _, rfl, rfl, rfl⟩
          · cases hv
  · split at hv
    · rename_i xs hl
      split at hv
      · rename_i h; obtain rfl : x = ("append" : Str) := by simpa using h
        cases hv
        obtain ⟨a, us, k, rfl, _, hz, g, _⟩ := list_at hl I q
        exact Calls.getMethod_list_append g rfl rfl ⟨_, _, rfl, rfl, rfl⟩
      · cases hv
    · cases hv
  · cases hv

theorem kept_builtin (t : String) : Kept prog w h₀ (.builtin t) := fun h _ => ⟨.machine, .inr (.inl rfl), W.Looks.of_pure rfl⟩

theorem wd0 {G : List (Str × PV)} (K : Globs h₀ G) (d : Nat) : Wd prog w h₀ G T0 d where
  globs := K
  ap := fun fv vs kvs σ v σ' hv => by
    simp only [T0] at hv
    split at hv
    · exact ⟨_, rfl, kept_builtin _, fun A s φ us kus R I r rk => bi_sound hv (R.le (Nat.zero_le _)) I r rk⟩
    · exact ⟨_, rfl, kept_type _, fun A s φ us kus R I r rk => ty_sound hv (R.le (Nat.zero_le _)) I r rk⟩
    · cases hv
  mt := fun σ ov x fv hv A s φ uo pl R I q => mt0_sound hv I q
  at_ := fun C x h => by cases h
end
end Mine
end

section
set_option tactic.hygienic false
namespace Mine
open PySem PyProof.Rows

section
variable {prog : Program} {w : World} {h₀ : Heap} {G : List (Str × PV)} {d : Nat}

theorem Wd.up {T : Tab} {d' : Nat} (D : Wd prog w h₀ G T d) (h : d ≤ d') : Wd prog w h₀ G T d' where
  globs := D.globs
  ap := fun fv vs kvs σ v σ' hv => by
    obtain ⟨uf, e, K, H⟩ := D.ap fv vs kvs σ v σ' hv
    exact ⟨uf, e, K, fun A s φ us kus R I r rk => H A s φ us kus (R.le h) I r rk⟩
  mt := fun σ ov x fv hv A s φ uo pl R I q => D.mt σ ov x fv hv A s φ uo pl (R.le h) I q
  at_ := D.at_

/-- what a function's own line in the table promises -/
noncomputable def FnSnd (prog : Program) (w : World) (h₀ : Heap) (d : Nat) (fa : Addr) (f : List PV → List (Str × PV) → M PV) : Prop :=
  ∀ vs kvs σ v σ', f vs kvs σ = some (v, σ') → ∀ (A : Around) (s : Shared) φ us kus, Room d A → Inv h₀ φ σ s.heap → RVs φ s.heap vs us → RKs φ s.heap kvs kus → W prog w A (call (.ref fa) us kus) s (Ret h₀ [] φ s.heap v σ')

theorem addFn_wd {T : Tab} {fa : Addr} {f : List PV → List (Str × PV) → M PV} (D : Wd prog w h₀ G T d) (K : Kept prog w h₀ (.ref fa)) (H : FnSnd prog w h₀ d fa f) : Wd prog w h₀ G (addFn T fa f) d where
  globs := D.globs
  ap := fun fv vs kvs σ v σ' hv => by
    cases fv with
    | top u =>
      cases u with
      | ref a =>
        simp only [addFn] at hv
        by_cases h : (a == fa) = true
        · rw [if_pos h] at hv
          obtain rfl : a = fa := by simpa using h
          exact ⟨_, rfl, K, fun A s φ us kus R I r rk => H vs kvs σ v σ' hv A s φ us kus R I r rk⟩
        · rw [if_neg h] at hv
          exact D.ap (.top (.ref a)) vs kvs σ v σ' hv
      | _ => exact D.ap _ vs kvs σ v σ' hv
    | _ => exact D.ap _ vs kvs σ v σ' hv
  mt := D.mt
  at_ := D.at_
end
end Mine
end

section
set_option tactic.hygienic false
namespace Mine
open PySem PyProof.Rows

noncomputable def mat : PV → Value → Bool
  | .top u, v => decide (u = v)
  | .int i, .int j _ => decide (i = j)
  | _, _ => false
theorem mat_rv {v : PV} {u : Value} (h : mat v u = true) (φ : Phi) (hh : Heap) : RV φ hh v u := by
  unfold mat at h
  split at h
  · have := of_decide_eq_true h; subst this; exact .top _
  · have := of_decide_eq_true h; subst this; exact .int _ _
  · cases h

noncomputable def gOk (K : W.Frag) (p : Str × PV) : Bool := match W.nsIn K mainGlobals p.1 with
  | some (some u) => mat p.2 u
  | some none => decide (p.1 ≠ "__name__") && (match bootBuiltins p.1 with
    | some u => mat p.2 u
    | none => false)
  | none => false


section
variable {prog : Program} {w : World} {h₀ : Heap} {K : W.Frag}

set_option tactic.hygienic true in
theorem globs_of (X : K.In h₀) {mg mb : Str → Option Value} (Gm : h₀.Ns mainGlobals mg) (B : h₀.Ns builtinsNs mb) (hb : ∀ x : Str, x ≠ "__name__" → mb x = bootBuiltins x) {G : List (Str × PV)} (hG : G.all (gOk K) = true) : Globs h₀ G where
  ns := by
    refine ⟨mg, mb, Gm, B, fun x v hv => ?_⟩
    have hm := mem_of_lookup hv
    have := (List.all_eq_true.mp hG) _ hm
    unfold gOk at this
    split at this
    · rename_i u e
      exact ⟨u, .inl (W.mg_of X Gm e), fun φ h => mat_rv this φ h⟩
    · rename_i e
      simp only [Bool.and_eq_true, decide_eq_true_eq] at this
      obtain ⟨hn, this⟩ := this
      split at this
      · rename_i u hu
        exact ⟨u, .inr ⟨W.ns_none_of X Gm e, by rw [hb x hn]; exact hu⟩, fun φ h => mat_rv this φ h⟩
      · cases this
    · cases this

noncomputable def stmtsOf : FuncBody → List Stmt
  | .stmts b => b
  | .expr _ => []
noncomputable def isStmts : FuncBody → Bool
  | .stmts _ => true
  | .expr _ => false
noncomputable def fnOk (K : W.Frag) (fd : FuncData) : Bool :=
  fd.closure.isEmpty && decide (fd.scope.kind = .function) && !fd.scope.isGenerator && !fd.scope.isCoroutine && decide (fd.globals = mainGlobals) && decide (fd.builtins = builtinsNs) && W.codeIn K fd.code fd.qualname && isStmts fd.body

theorem fnOk_of (X : K.In h₀) (hlim : h₀.NoLimit) {fa : Addr} {fd : FuncData} {oc : Value} {od : Option Addr} {osl : Array (Option Value)} (e : K.lookup fa = some ⟨oc, od, .func fd, osl⟩) (hk : fnOk K fd = true) : FnOk h₀ fa fd (stmtsOf fd.body) := by
  unfold fnOk at hk
  simp only [Bool.and_eq_true, decide_eq_true_eq, List.isEmpty_iff, Bool.not_eq_true'] at hk
  obtain ⟨⟨⟨⟨⟨⟨⟨h1, h2⟩, h3⟩, h4⟩, h5⟩, h6⟩, h7⟩, h8⟩ := hk
  refine ⟨⟨_, X _ _ e, rfl⟩, ?_, h1, h2, h3, h4, h5, h6, W.codeRec_of X h7, hlim⟩
  unfold isStmts at h8
  unfold stmtsOf
  cases hb : fd.body with
  | stmts b => rfl
  | expr => rw [hb] at h8; cases h8

theorem kept_fn (X : K.In h₀) {fa : Addr} (hk : W.keepIn K (.ref fa) = true) : Kept prog w h₀ (.ref fa) := fun h k => W.keeps_K hk h (X.keeps k)

/-- plain positional binding -/
theorem bind_plain {A : Around} {s : Shared} {φ : Phi} {σ : St} {fd : FuncData} {us : List Value} {vs : List PV} {ps : List Str} (hb : bindArgs fd ⟨us, []⟩ = pure (ps.zip us)) (hl : ps.length = us.length) (I : Inv h₀ φ σ s.heap) (r : RVs φ s.heap vs us) :
    W prog w A (bindArgs fd ⟨us, []⟩) s (RetX h₀ φ s.heap σ fun φ' h' binds => binds.map (·.1) = ps ∧ RVs φ' h' vs (binds.map (·.2))) := by
  rw [hb]
  refine W.pure ⟨φ, Step.refl _ _ _, I, ?_, ?_⟩
  · exact List.map_fst_zip (by omega)
  · rw [List.map_snd_zip (by omega)]; exact r
end
end Mine
end

section
set_option tactic.hygienic false
namespace Mine
open PySem PyProof.Rows

/-- a function's text, turned -/
structure CF where
  nl : Nat
  nc : Nat
  pms : List MV
  mb : MSs
noncomputable def CF.run (c : CF) (T : Tab) (vs : List PV) : M PV := Mine.run T c.nl c.nc c.pms c.mb vs

/-- the text of a function is this turned text -/
structure CfOk (G : List (Str × PV)) (fd : FuncData) (ps : List Str) (c : CF) : Prop where
  blk : blockOk fd.scope.names = true
  nl : (namesOf .local fd.scope.names).length = c.nl
  nc : (namesOf .cell fd.scope.names).length = c.nc
  pms : ps.mapM (mv (gmFn fd.scope)) = some c.pms
  mb : ∃ n, seqS ((stmtsOf fd.body).map (cS G n (gmFn fd.scope))) = some c.mb

/-! ### what does not look at the store -/
noncomputable def flat : PV → Bool
  | .none => true
  | .bool _ => true
  | .int _ => true
  | .str _ => true
  | .top _ => true
  | _ => false
/-- a helper that looks at nothing but its plain arguments -/
noncomputable def pureFn (T : Tab) (c : CF) (n : Nat) (vs : List PV) (kvs : List (Str × PV)) : M PV :=
  if kvs.isEmpty && decide (vs.length = n) && vs.all flat then
    match c.run T vs [] with
    | some (v, _) => if flat v then rt v else fail
    | none => fail
  else fail

theorem pureFn_some {T : Tab} {c : CF} {n : Nat} {vs : List PV} {kvs : List (Str × PV)} {σ σ' : St} {v : PV} (h : pureFn T c n vs kvs σ = some (v, σ')) :
    kvs = [] ∧ vs.length = n ∧ vs.all flat = true ∧ flat v = true ∧ σ' = σ ∧ ∃ junk, c.run T vs [] = some (v, junk) := by
  unfold pureFn at h
  split at h
  · rename_i hc
    simp only [Bool.and_eq_true, List.isEmpty_iff, decide_eq_true_eq] at hc
    cases e : c.run T vs [] with
    | none => rw [e] at h; cases h
    | some x =>
      obtain ⟨v', junk⟩ := x
      rw [e] at h
      dsimp only at h
      obtain ⟨hf, rfl, rfl⟩ := if_rt h
      exact ⟨hc.1.1, hc.1.2, hc.2, hf, rfl, junk, rfl⟩
  · cases h
theorem flat_rv {φ φ' : Phi} {h h' : Heap} {v : PV} {u : Value} (hf : flat v = true) (q : RV φ h v u) : RV φ' h' v u := by
  cases q with
  | none => exact .none
  | bool => exact .bool _
  | int => exact .int _ _
  | str e t => exact .str e t
  | top => exact .top _
  | tup => cases hf
  | obj => cases hf
  | range => cases hf
theorem flats_rv {φ φ' : Phi} {h h' : Heap} : ∀ {vs : List PV} {us : List Value}, vs.all flat = true → RVs φ h vs us → RVs φ' h' vs us
  | _, _, _, .nil => .nil
  | _, _, hf, .cons q r => by
    rw [List.all_cons, Bool.and_eq_true] at hf
    exact .cons (flat_rv hf.1 q) (flats_rv hf.2 r)
section
variable {prog : Program} {w : World} {h₀ : Heap} {G : List (Str × PV)} {T : Tab} {d : Nat}

theorem cf_sound (D : Wd prog w h₀ G T d) {fa : Addr} {fd : FuncData} {ps : List Str} {c : CF} (K : FnOk h₀ fa fd (stmtsOf fd.body)) (C : CfOk G fd ps c) {σ σ' : St} {vs : List PV} {v : PV} (hv : c.run T vs σ = some (v, σ')) {A : Around} {s : Shared} {φ : Phi} (R : Room (d + 1) A)
    (I : Inv h₀ φ σ s.heap) {us : List Value} {kus : List (Str × Value)} (hB : W prog w A.in1 (bindArgs fd ⟨us, kus⟩) s (RetX h₀ φ s.heap σ fun φ' h' binds => binds.map (·.1) = ps ∧ RVs φ' h' vs (binds.map (·.2)))) :
    W prog w A (call (.ref fa) us kus) s (Ret h₀ [] φ s.heap v σ') := by
  obtain ⟨n, hmb⟩ := C.mb
  refine run_sound (n := n) D R K C.blk C.pms hmb ?_ I hB
  rw [C.nl, C.nc]; exact hv

theorem pure_sound (D : Wd prog w h₀ G T d) {fa : Addr} {fd : FuncData} {ps : List Str} {c : CF} (K : FnOk h₀ fa fd (stmtsOf fd.body)) (C : CfOk G fd ps c)
    (hb : ∀ us : List Value, us.length = ps.length → bindArgs fd ⟨us, []⟩ = pure (ps.zip us)) : FnSnd prog w h₀ (d + 1) fa (pureFn T c ps.length) := by
  intro vs kvs σ v σ' hv A s φ us kus R I r rk
  obtain ⟨rfl, hn, hf, hfv, rfl, junk, e⟩ := pureFn_some hv
  cases rk with | nil =>
  have hl : us.length = ps.length := by rw [← r.length]; exact hn
  have I0 : Inv h₀ [] [] s.heap := ⟨I.base, I.sz, fun i p c h => by simp at h, rfl, List.nodup_nil, fun i c p h => by simp at h⟩
  refine (cf_sound D K C e R I0 (bind_plain (hb us hl) hl.symm I0 (flats_rv hf r))).mono fun u h' rr => ?_
  obtain ⟨φ', S, I', q⟩ := rr
  exact Ret.ext I (keepsE (fun c o e => S.keep c o e (by simp) (by simp)) S.size) (flat_rv hfv q)
end
end Mine
end

section
set_option tactic.hygienic false
namespace Mine
open PySem PyProof.Rows

/-! ### a search that finds nothing -/
noncomputable def setNo (code : Array Nat) (c : Nat) : Prop := ∀ seen, ∃ seen', Sre.inSet code c code.size 5 true seen = .ok (false, seen')

theorem admitted_none {m : Sre.M} (h : ∀ i, i < m.lim → setNo m.code (m.text.getD i 0)) : ∀ (fuel s : Nat) (seen : Sre.Seen), ∃ seen', Sre.M.admitted m fuel s seen = .ok (none, seen') := by
  intro fuel
  induction fuel with
  | zero => intro s seen; exact ⟨seen, rfl⟩
  | succ fuel ih =>
    intro s seen
    unfold Sre.M.admitted
    by_cases hs : s ≥ m.lim
    · rw [if_pos hs]; exact ⟨seen, rfl⟩
    · rw [if_neg hs]
      obtain ⟨seen', e⟩ := h s (by omega) seen
      rw [e]
      exact ih (s + 1) seen'

noncomputable def Ends (m : Sre.M) : Prop := m.answer = some false ∧ m.frames = [] ∧ m.outcome = none

theorem attemptFrom_none {m : Sre.M} (hf : m.hasFirstSet = true) (h : ∀ i, i < m.lim → setNo m.code (m.text.getD i 0)) (h1 : m.frames = []) (h2 : m.outcome = none) (s : Nat) (first : Bool) : Ends (m.attemptFrom s first) := by
  unfold Sre.M.attemptFrom
  rw [hf]
  obtain ⟨seen', e⟩ := admitted_none h (m.lim + 1 - s) s m.seen
  rw [e]
  exact ⟨rfl, h1, h2⟩

noncomputable def firstSet (code : Array Nat) : Bool := (match Sre.ops[code.getD 0 0]? with | some .INFO => true | _ => false) && code.getD 2 0 == 4

theorem search_ends {code text : Array Nat} {groups : Nat} (h2 : firstSet code = true) (h : ∀ i, i < text.size → setNo code (text.getD i 0)) :
    Ends (Sre.forSearch code text groups 0 text.size false) := by
  unfold Sre.forSearch
  dsimp only
  by_cases hc : (decide (0 > text.size) || decide (text.size - 0 < (Sre.header code).fst)) = true
  · rw [if_pos hc]; exact ⟨rfl, rfl, rfl⟩
  · rw [if_neg hc]
    refine attemptFrom_none ?_ ?_ ?_ ?_ _ _
    · exact h2
    · exact h
    · rfl
    · rfl

section
variable {M : Model} {A : Around} {E : Value → Shared → Prop} {s : Shared}

theorem wpAny_rules (f : Nat → PUnit → Sem (ForInStep PUnit)) (b : Nat → Bool) (n : Nat → String) (hf : ∀ i, f i PUnit.unit = if b i = true then (rule (n i) >>= fun _ => pure (ForInStep.yield PUnit.unit)) else pure (ForInStep.yield PUnit.unit)) {Q : PUnit → Shared → Prop} (h : Q PUnit.unit s) :
    ∀ l : List Nat, wpAny M A (forIn l PUnit.unit f) Q E s := by
  intro l
  induction l with
  | nil => rw [List.forIn_nil]; exact wpAny_pure h
  | cons a l ih =>
    rw [List.forIn_cons, hf]
    refine wpAny_bind ?_
    by_cases hb : b a = true
    · rw [if_pos hb]; exact wpAny_bind (wpAny_rule (wpAny_pure ih))
    · rw [if_neg hb]; exact wpAny_pure ih

theorem runToEnd_none {m : Sre.M} (hm : Ends m) {Q : Option Sre.M → Shared → Prop} (h : Q none s) : wpAny M A (Builtin.Re.reRunToEnd m) Q E s := by
  obtain ⟨h1, h2, h3⟩ := hm
  have hs : m.step = { m with outcome := some .failed } := by
    unfold Sre.M.step
    rw [h3, h1, h2]; rfl
  have hr : m.runFor Builtin.Re.reTurnSteps = { m with outcome := some .failed } := by
    show (if m.outcome.isSome then m else Sre.M.runFor 3 m.step) = _
    rw [h3, hs]; rfl
  have hd : Builtin.Re.reDrive (2 ^ 64) m = pure { m with outcome := some .failed } := by
    show (let m' := m.runFor Builtin.Re.reTurnSteps; if m'.outcome.isSome then pure m' else do rule "sre.turn"; Builtin.Re.reDrive 18446744073709551615 m') = _
    rw [hr]; rfl
  unfold Builtin.Re.reRunToEnd
  rw [hd]
  refine wpAny_bind (wpAny_pure (wpAny_bind ?_))
  refine wpAny_rules _ (fun i => m.seen.has i) (fun i => Sre.names.getD i "") (fun i => ?_) ?_ _
  · rfl
  · exact wpAny_pure h
end
end Mine
end

section
set_option tactic.hygienic false
namespace Mine
open PySem PyProof.Rows PySem.Builtin PySem.Builtin.Re

theorem slot_search : Slot "re.Pattern" "search" "re.Pattern.search" :=
  .of (owner := "re.Pattern") (n := "search") (by rw [typeLookup_type, builtinLookup_eq_fast]; kernel_rfl) (by decide +kernel) (by decide +kernel) (by decide +kernel)
    (by first | exact .inl (by decide +kernel) | exact .inr (by decide +kernel)) (by rw [isSubtype_type]; kernel_rfl)
theorem entry_search : entryFor table "re.Pattern.search" = some Builtin.«re.Pattern.search» := entryFor_of_tree (by kernel_rfl)
theorem type_search : typeOf (.builtin "re.Pattern.search") = pure (.type "method_descriptor") := by show builtinType _ = _; rw [builtinType_eq_fast]; kernel_rfl
theorem plain_pattern : PlainAttrs "re.Pattern" :=
  ⟨⟨"object.__getattribute__", by rw [typeLookup_type, builtinLookup_eq_fast]; kernel_rfl, by decide +kernel⟩, by rw [typeLookup_type, builtinLookup_eq_fast]; kernel_rfl⟩
theorem owner_pattern : Manifest.owners.lookup (String.ofList ['n', 'r', 'e', 't', 't', 'a', 'P', '.', 'e', 'r'].reverse) = some Manifest.sig_re_Pattern := by kernel_rfl
theorem args_search (a b : Value) : argsOk "re.Pattern.search" ⟨[a, b], []⟩ := by
  unfold argsOk; rw [signature?_of (id := "re.Pattern.search") (n := ['h', 'c', 'r', 'a', 'e', 's']) (o := ['n', 'r', 'e', 't', 't', 'a', 'P', '.', 'e', 'r']) (by kernel_rfl) owner_pattern]; kernel_rfl

section
variable {prog : Program} {w : World} {A : Around} {s : Shared}

/-- a pattern whose search passes every sign from 32 to 126 by -/
structure Pat (h : Heap) (a : Addr) : Prop where
  at_ : ∃ p fl ca o vs n, h.get? a = some { cls := .type "re.Pattern", dict := none, data := .fields #[p, fl, .int 0 0, .none, .none, .ref ca, .int 0 0], slots := #[] } ∧ h.get? ca = some o ∧ o.data = .seq vs n ∧
    firstSet ((vs.map reRawOf).map (·.toNat)) = true ∧ ∀ c, 32 ≤ c → c < 127 → setNo ((vs.map reRawOf).map (·.toNat)) c

noncomputable def prn (x : Str) : Bool := x.cps.toList.all fun c => decide (32 ≤ c) && decide (c < 127)

theorem named_one (v : Value) : reNamed "re.Pattern.search" "search" ["string", "pos", "endpos"] 1 [v] [] = pure [some v, none, none] := by kernel_rfl

theorem text_str (x : Str) (t : Tok) : reTextOf (.str x t) = pure (x.cps, 0) := rfl
theorem inside_str (x : Str) (t : Tok) : reNoCollectionInside (.str x t) 0 = pure () := rfl
theorem prn_at {x : Str} (hx : prn x = true) (i : Nat) (hi : i < x.cps.size) : 32 ≤ x.cps.getD i 0 ∧ x.cps.getD i 0 < 127 := by
  unfold prn at hx
  rw [List.all_eq_true] at hx
  have := hx (x.cps[i]) (by simp)
  simp at this
  simpa [Array.getD, hi] using this

theorem search_call {a : Addr} {x : Str} {t : Tok} (p : Pat s.heap a) (hx : prn x = true) (hz : x.cps.size ≤ 1000000) : W prog w A (call (.builtin "re.Pattern.search") [.ref a, .str x t]) s fun u h' => u = .none ∧ h' = s.heap := by
  obtain ⟨pp, fl, ca, o, vs, n, g, go, hd, h2, h3⟩ := p.at_
  refine wpAny_call_entry slot_search ⟨_, g, rfl⟩ entry_search ?_ (args_search _ _)
  show wpAny _ _ (reTarget "re.Pattern.search" "search" ⟨[.ref a, .str x t], []⟩ >>= fun t => reAnswer t (Sre.forSearch t.code t.text t.groups t.pos t.lim false)) _ _ _
  refine wpAny_bind ?_
  unfold reTarget
  show wpAny _ _ (reNamed "re.Pattern.search" "search" ["string", "pos", "endpos"] 1 [.str x t] [] >>= _) _ _ _
  rw [named_one]
  refine wpAny_bind (wpAny_pure ?_)
  refine wpAny_bind (wpAny_pure (wpAny_bind (wpAny_pure ?_)))
  refine wpAny_bind (wpAny_fieldsOf g rfl ?_)
  rw [text_str]
  refine wpAny_bind (wpAny_pure ?_)
  have e1 : reRawNat (#[pp, fl, Value.int 0 0, Value.none, Value.none, Value.ref ca, Value.int 0 0].getD 6 Value.none) = 0 := rfl
  have e2 : (#[pp, fl, Value.int 0 0, Value.none, Value.none, Value.ref ca, Value.int 0 0].getD 5 Value.none) = .ref ca := rfl
  have e3 : reRawNat (#[pp, fl, Value.int 0 0, Value.none, Value.none, Value.ref ca, Value.int 0 0].getD 2 Value.none) = 0 := rfl
  rw [e1, e2, e3]
  show wpAny _ _ (reNoCollectionInside (.str x t) 0 >>= fun _ => reRawItems (.ref ca) >>= fun cs => pure ({ pattern := .ref a, string := .str x t, code := cs.map (·.toNat), text := x.cps, kind := 0, groups := 0, pos := Min.min (0 : Int).toNat x.cps.size, lim := Min.min ((2:Int) ^ 63 - 1).toNat x.cps.size } : ReTarget)) _ _ _
  rw [inside_str]
  refine wpAny_bind (wpAny_pure (wpAny_bind ?_))
  unfold reRawItems
  refine wpAny_bind (wpAny_seqItems go hd (wpAny_pure (wpAny_pure ?_)))
  have e4 : Min.min (0 : Int).toNat x.cps.size = 0 := by simp
  have e5 : Min.min ((2:Int) ^ 63 - 1).toNat x.cps.size = x.cps.size := by
    have : ((2:Int) ^ 63 - 1).toNat = 9223372036854775807 := by decide +kernel
    rw [this]; omega
  dsimp only
  rw [e4, e5]
  unfold reAnswer
  refine wpAny_bind (runToEnd_none (search_ends h2 (fun i hi => ?_)) ?_)
  · exact h3 _ (prn_at hx i hi).1 (prn_at hx i hi).2
  · exact wpAny_pure ⟨_, rfl, _, _, rfl, rfl, rfl⟩
end
end Mine
end

section
set_option tactic.hygienic false
namespace Mine
open PySem PyProof.Rows

/-! ### a function run in place -/
/-- the rubbish stays -/
noncomputable def cut (m : M PV) (_more : Nat) : M PV := m
/-- a function run in place -/
noncomputable def callFn (T : Tab) (c : CF) (bd : List PV → List (Str × PV) → Option (List PV)) (more : Nat) (vs : List PV) (kvs : List (Str × PV)) : M PV := match bd vs kvs with
  | some ws => cut (c.run T ws) more
  | none => fail

section
variable {prog : Program} {w : World} {h₀ : Heap} {G : List (Str × PV)} {T : Tab} {d : Nat}

/-- binding the arguments does as `bd` says -/
noncomputable def BindOk (prog : Program) (w : World) (h₀ : Heap) (fd : FuncData) (ps : List Str) (bd : List PV → List (Str × PV) → Option (List PV)) : Prop :=
  ∀ (vs : List PV) (kvs : List (Str × PV)) (ws : List PV), bd vs kvs = some ws → ∀ (A : Around) (s : Shared) (φ : Phi) (σ : St) (us : List Value) (kus : List (Str × Value)), Inv h₀ φ σ s.heap → RVs φ s.heap vs us → RKs φ s.heap kvs kus →
    W prog w A (bindArgs fd ⟨us, kus⟩) s (RetX h₀ φ s.heap σ fun φ' h' binds => binds.map (·.1) = ps ∧ RVs φ' h' ws (binds.map (·.2)))

theorem callFn_sound (D : Wd prog w h₀ G T d) {fa : Addr} {fd : FuncData} {ps : List Str} {c : CF} (K : FnOk h₀ fa fd (stmtsOf fd.body)) (C : CfOk G fd ps c) {bd : List PV → List (Str × PV) → Option (List PV)} (more : Nat)
    (hb : BindOk prog w h₀ fd ps bd) : FnSnd prog w h₀ (d + 1) fa (callFn T c bd more) := by
  intro vs kvs σ v σ' hv A s φ us kus R I r rk
  unfold callFn at hv
  cases hw : bd vs kvs with
  | none => rw [hw] at hv; cases hv
  | some ws =>
    rw [hw] at hv
    exact cf_sound D K C hv R I (hb vs kvs ws hw A.in1 s φ σ us kus I r rk)

noncomputable def bdN (n : Nat) (vs : List PV) (kvs : List (Str × PV)) : Option (List PV) := if kvs.isEmpty && decide (vs.length = n) then some vs else none
theorem bdN_ok {fd : FuncData} {ps : List Str} (hb : ∀ us : List Value, us.length = ps.length → bindArgs fd ⟨us, []⟩ = pure (ps.zip us)) : BindOk prog w h₀ fd ps (bdN ps.length) := by
  intro vs kvs ws hw A s φ σ us kus I r rk
  unfold bdN at hw
  split at hw
  · rename_i hc
    cases hw
    simp only [Bool.and_eq_true, List.isEmpty_iff, decide_eq_true_eq] at hc
    obtain ⟨rfl, hn⟩ := hc
    cases rk with | nil =>
    have hl : us.length = ps.length := by rw [← r.length]; exact hn
    exact bind_plain (hb us hl) hl.symm I r
  · cases hw
end
end Mine
end

section
set_option tactic.hygienic false
namespace Mine
open PySem PyProof.Rows

/-! ### methods of an object, its fields -/
/-- class `C` keeps the function `f` under the name `x` -/
structure MthOk (h₀ : Heap) (C : Addr) (x : Str) (f : Addr) : Prop where
  cls : ∃ N mN, ClsAt h₀ C N mN ∧ mN "__getattribute__" = none ∧ mN "__getattr__" = none ∧ mN x = some (.ref f)
  fn : ∃ o, h₀.get? f = some o ∧ o.cls = .type "function"
  obj : ∃ y, typeLookup (.type "object") x = pure y

noncomputable def addMt (T : Tab) (C : Addr) (x : Str) (f : Addr) : Tab := { T with
  mt := fun σ o y => match o with
    | .obj n => match σ[n]? with
      | some (.inst C' as) => if (C' == C && y == x) && (as.lookup x).isNone then some (.ref f) else T.mt σ o y
      | _ => T.mt σ o y
    | _ => T.mt σ o y }
noncomputable def addAt (T : Tab) (C : Addr) (x : Str) : Tab := { T with at_ := fun C' y => (C' == C && y == x) || T.at_ C' y }

section
variable {prog : Program} {w : World} {h₀ : Heap} {G : List (Str × PV)} {T : Tab} {d : Nat}

theorem method_sound {A : Around} {s : Shared} {φ : Phi} {σ : St} {n : Nat} {C : Addr} {as : List (Str × PV)} {x : Str} {f : Addr} {uo : Value} {pl : Sem Bool} (K : MthOk h₀ C x f) (hσ : σ[n]? = some (.inst C as)) (hv : as.lookup x = none) (I : Inv h₀ φ σ s.heap) (q : RV φ s.heap (.obj n) uo) :
    W prog w A (getMethod uo x pl) s fun r h' => h' = s.heap ∧ r = (.ref f, [uo]) := by
  cases q with | @obj _ p e =>
  obtain ⟨p', hp, c⟩ := I.cell hσ
  rw [e] at hp; cases hp
  obtain ⟨⟨o, g, hc, hd, hdx⟩, hne, _, m, hm, ha⟩ := c
  obtain ⟨N, mN, X, h1, h2, h3⟩ := K.cls
  obtain ⟨fo, hf, hfc⟩ := K.fn
  obtain ⟨y, hB⟩ := K.obj
  have X' := X.keeps I.base
  obtain ⟨nm, q, bs, sn, sub, col, dd, k0, k1, k2, k3, k5, hC⟩ := X'.obj
  have hx := ha x
  rw [hv] at hx
  obtain ⟨hh, gg, d, t, os⟩ := s
  exact method_of hC X'.ns h1 h2 h3 (I.base _ _ hf) hfc hB ⟨o, g, hc, fun c e => (by rw [hd] at e; cases e), .inr ⟨_, hdx, Ne.symm hne, hm⟩⟩ hx ⟨_, _, rfl, rfl, rfl⟩

set_option tactic.hygienic true in
theorem addMt_wd {C f : Addr} {x : Str} (D : Wd prog w h₀ G T d) (K : MthOk h₀ C x f) : Wd prog w h₀ G (addMt T C x f) d where
  globs := D.globs
  ap := D.ap
  mt := fun σ ov y fv hv A s φ uo pl R I q => by
    have old : T.mt σ ov y = some fv → W prog w A (getMethod uo y pl) s fun r h' => h' = s.heap ∧ r = (fv, [uo]) := fun hv => D.mt σ ov y fv hv A s φ uo pl R I q
    unfold addMt at hv
    dsimp only at hv
    split at hv
    · rename_i n
      split at hv
      · rename_i C' as hσ
        split at hv
        · rename_i hc
          cases hv
          simp only [Bool.and_eq_true, beq_iff_eq, Option.isNone_iff_eq_none] at hc
          obtain ⟨⟨rfl, rfl⟩, hl⟩ := hc
          exact method_sound K hσ hl I q
        · exact old hv
      · exact old hv
    · exact old hv
  at_ := D.at_

theorem addAt_wd {C : Addr} {x : Str} (D : Wd prog w h₀ G T d) (K : ClsOk h₀ C x) : Wd prog w h₀ G (addAt T C x) d where
  globs := D.globs
  ap := D.ap
  mt := D.mt
  at_ := fun C' y hv => by
    unfold addAt at hv
    simp only [Bool.or_eq_true, Bool.and_eq_true, beq_iff_eq] at hv
    rcases hv with ⟨rfl, rfl⟩ | h
    · exact K
    · exact D.at_ _ _ h
end
end Mine
end

section
set_option tactic.hygienic false
namespace Mine
open PySem PyProof.Rows

/-! ### a class of the text is called -/
noncomputable abbrev madeD : Obj := { cls := .type "dict", data := .dict #[] }
noncomputable abbrev madeX (C dx : Addr) : Obj := { cls := .ref C, dict := some dx, data := .plain }
noncomputable abbrev made (h : Heap) (C : Addr) : Heap := (h.push madeD).push (madeX C h.objs.size)

section
variable {prog : Program} {w : World} {A : Around} {E : Value → Shared → Prop} {h : Heap} {g : Array GenState} {d : Drawn} {t : Nat} {os : OsState}

theorem typecall_init {C N : Addr} {mN : Str → Option Value} (X : ClsAt h C N mN) {rest : List Value} {fI : Addr} {oI : Obj} {Q : Fin → Shared → Prop} (hi : mN "__init__" = some (.ref fI)) (hfI : h.get? fI = some oI) (hfc : oI.cls = .type "function")
    (hq : wpAny (model prog w) A (call (.ref fI) (.ref (h.objs.size + 1) :: rest)) (fun r s' => r = .none ∧ Q (.done (.ret (.ref (h.objs.size + 1)))) s') E ⟨made h C, g, d, t, os⟩) :
    wpAny (model prog w) A (Builtin.«type.__call__» ⟨.ref C :: rest, []⟩) Q E ⟨h, g, d, t, os⟩ := by
  obtain ⟨nm, q, bs, sn, sub, col, dd, k0, k1, k2, k3, k5, hC⟩ := X.obj
  have hn := X.ns
  have F := F.objNew
  have hmro : mroOf (.type "object") = pure [.type "object"] := by kernel_rfl
  have hlk : typeLookup (.type "object") "__init__" = pure (some (.builtin "object.__init__")) := by rw [typeLookup_type, builtinLookup_eq_fast]; kernel_rfl
  repeat (first | with_reducible refine wpAny_loadPart_at hC ?_ | with_reducible refine wpAny_madeBy_exc hC ?_ | wp_step)
  refine codeAny_call_builtin_code (Code.quiet_builtin _ F.quiet) (wpAny_check_obj_new F hC ?_)
  refine codeAny_obj_new F hC hn hi ?_
  show wpAny _ _ _ _ _ _
  have keep : ∀ {b o}, h.get? b = some o → (made h C).get? b = some o := fun e => Heap.get?_push_of_some _ (Heap.get?_push_of_some _ e)
  have hC₁ := keep hC
  have hn₁ : (made h C).Ns N mN := hn.keeps fun _ _ => keep
  have hget : (made h C).get? (h.objs.size + 1) = some { cls := .ref C, dict := some h.objs.size, data := .plain } := by
    unfold made
    exact Heap.get?_push_at (by rw [Heap.size_push]) rfl
  have hcC : (Value.ref C :: [Value.type "object"]).contains (.ref C) = true := by simp
  unfold isInstance
  repeat (first | with_reducible refine wpAny_loadPart_at hget ?_ | (with_reducible refine wpAny_isSubtype_exc hC₁ ?_; rw [hcC]) | wp_step)
  show wpAny _ _ (typeLookup (.ref C) _) _ _ _
  refine wpAny_typeLookup_exc hC₁ hn₁ hmro hlk ?_
  rw [hi]
  refine wpAny_holding (wpAny_bind ?_)
  unfold bindSpecial
  refine wpAny_bind (wpAny_typeOf (T := "function") ⟨_, keep hfI, hfc⟩ ?_)
  rw [if_pos (by decide)]
  refine wpAny_pure (wpAny_bind (wpAny_mono hq (fun r s' hr => ?_) fun _ _ x => x))
  obtain ⟨rfl, hQ⟩ := hr
  wp_walk
  exact hQ

theorem clscall_init {C N : Addr} {mN : Str → Option Value} (X : ClsAt h C N mN) {rest : List Value} {fI : Addr} {oI : Obj} {Q : Value → Shared → Prop} (hi : mN "__init__" = some (.ref fI)) (hfI : h.get? fI = some oI) (hfc : oI.cls = .type "function")
    (hq : wpAny (model prog w) (A.under (.builtin "type.__call__" ⟨.ref C :: rest, []⟩)) (call (.ref fI) (.ref (h.objs.size + 1) :: rest)) (fun r s' => r = .none ∧ Q (.ref (h.objs.size + 1)) s') E ⟨made h C, g, d, t, os⟩) :
    wpAny (model prog w) A (call (.ref C) rest) Q E ⟨h, g, d, t, os⟩ := by
  obtain ⟨nm, q, bs, sn, sub, col, dd, k0, k1, k2, k3, k5, hC⟩ := X.obj
  have f1 := tc_lookup
  have f2 := tc_bind (.ref C)
  have hT : (⟨h, g, d, t, os⟩ : Shared).TypeIs (.ref C) "type" := ⟨_, hC, rfl⟩
  refine wpAny_call (codeAny_of_tree ?_)
  show wpAny _ _ (callAny (.ref C) _) _ _ _
  repeat (any_goals (first | assumption | with_reducible refine wpAny_loadPart_at hC ?_ | wp_step))
  refine ⟨rfl, ?_⟩
  exact codeAny_call_builtin_at (Code.quiet_builtin _ (by decide +kernel)) entry_typeCall (wpAny_check_type_call_sub hC (typecall_init X hi hfI hfc hq))

theorem Room.typecall {d : Nat} (R : Room (d + 1) A) (C : Addr) (rest : List Value) : Room d (A.under (.builtin "type.__call__" ⟨.ref C :: rest, []⟩)) := by
  obtain ⟨h1, h2, h3⟩ := R
  refine ⟨?_, ?_, h3⟩
  · have : (Code.builtin "type.__call__" ⟨.ref C :: rest, []⟩).weight = 1 := rfl
    show A.depth + (Code.builtin "type.__call__" ⟨.ref C :: rest, []⟩).weight + d < _
    omega
  · have : (Code.builtin "type.__call__" ⟨.ref C :: rest, []⟩).cUnits = 1 := rfl
    show A.units + (Code.builtin "type.__call__" ⟨.ref C :: rest, []⟩).cUnits + _ + _ < _
    omega
end

/-- a new object, its __init__ run -/
noncomputable def newFn (C : Addr) (f : List PV → List (Str × PV) → M PV) (vs : List PV) (kvs : List (Str × PV)) : M PV :=
  if kvs.isEmpty then bnd (alloc (.inst C [])) fun o => bnd (f (o :: vs) []) fun r => match r with
    | .none => rt o
    | _ => fail
  else fail

section
variable {prog : Program} {w : World} {h₀ : Heap} {d : Nat}

theorem newFn_sound {C fI : Addr} {f : List PV → List (Str × PV) → M PV} (K : MthOk h₀ C "__init__" fI) (H : FnSnd prog w h₀ d fI f) : FnSnd prog w h₀ (d + 1) C (newFn C f) := by
  intro vs kvs σ v σ' hv A s φ us kus R I r rk
  unfold newFn at hv
  split at hv
  · rename_i hk
    rw [List.isEmpty_iff] at hk; subst hk
    cases rk with | nil =>
    obtain ⟨o, σ₁, e1, e2⟩ := bnd_some hv
    cases e1
    obtain ⟨rv, σ₂, e3, e4⟩ := bnd_some e2
    split at e4
    · obtain ⟨rfl, rfl⟩ := rt_eq e4
      obtain ⟨N, mN, X, _, _, h3⟩ := K.cls
      obtain ⟨fo, hf, hfc⟩ := K.fn
      obtain ⟨h, g, dr, t, os⟩ := s
      have x : Ext [] h (made h C) := (Ext.push h madeD).trans (Ext.push _ _)
      have hgx : (made h C).get? (h.objs.size + 1) = some (madeX C h.objs.size) := Heap.get?_push_at (by rw [Heap.size_push]) rfl
      have hgd : (made h C).get? h.objs.size = some madeD := Heap.get?_push_of_some _ (Heap.get?_push_at rfl rfl)
      obtain ⟨I', S⟩ := I.alloc (c := .inst C []) (p := (h.objs.size + 1, h.objs.size)) x (Nat.le_refl _)
        ⟨⟨_, hgx, rfl, rfl, rfl⟩, (by show h.objs.size + 1 ≠ h.objs.size; omega), ⟨_, hgd, #[], _, rfl⟩, fun _ => none, Heap.Ns1.of_empty ⟨_, #[], _, hgd, rfl, fun e he => absurd he (by simp), fun _ => rfl⟩, fun _ => rfl⟩
      have q : RV (φ ++ [(h.objs.size + 1, h.objs.size)]) (made h C) (.obj σ.length) (.ref (h.objs.size + 1)) := .obj (p := (h.objs.size + 1, h.objs.size)) (by rw [← I.len]; simp)
      refine clscall_init (X.keeps I.base) h3 (I.base _ _ hf) hfc ?_
      refine wpAny_mono (H _ _ _ _ _ e3 _ ⟨made h C, g, dr, t, os⟩ _ (.ref (h.objs.size + 1) :: us) [] (R.typecall C us) I' (.cons q (r.mono S.toGrow)) .nil) (fun u s' hu => ?_) fun _ _ e => e
      obtain ⟨h', tk, rfl, φ', S', I'', q'⟩ := hu
      cases q' with | none =>
      exact ⟨rfl, h', tk, rfl, φ', S.trans S', I'', q.mono S'.toGrow⟩
    · cases e4
  · cases hv
end
end Mine
end

section
set_option tactic.hygienic false
namespace Mine
open PySem PyProof.Rows

/-! ### searches that find nothing, in the table -/
noncomputable def addRe (T : Tab) (as : List Addr) : Tab := { T with
  ap := fun fv vs kvs => match fv with
    | .top (.builtin id) => if id == "re.Pattern.search" then (match vs, kvs with
        | [.top (.ref a), .str x], [] => if as.contains a && prn x && fits x then rt .none else fail
        | _, _ => fail) else T.ap fv vs kvs
    | _ => T.ap fv vs kvs
  mt := fun σ o y => match o with
    | .top (.ref a) => if as.contains a && y == "search" then some (.builtin "re.Pattern.search") else T.mt σ o y
    | _ => T.mt σ o y }

section
variable {prog : Program} {w : World} {h₀ : Heap} {G : List (Str × PV)} {T : Tab} {d : Nat}

theorem Pat.keeps {h h' : Heap} {a : Addr} (p : Pat h a) (k : ∀ b o, h.get? b = some o → h'.get? b = some o) : Pat h' a := by
  obtain ⟨p, fl, ca, o, vs, n, g, go, r⟩ := p.at_
  exact ⟨p, fl, ca, o, vs, n, k _ _ g, k _ _ go, r⟩

set_option tactic.hygienic true in
theorem addRe_wd {as : List Addr} (D : Wd prog w h₀ G T d) (K : ∀ a ∈ as, Pat h₀ a) : Wd prog w h₀ G (addRe T as) d where
  globs := D.globs
  at_ := D.at_
  ap := fun fv vs kvs σ v σ' hv => by
    unfold addRe at hv
    dsimp only at hv
    split at hv
    · rename_i id
      split at hv
      · rename_i hid
        have hid : id = "re.Pattern.search" := by simpa using hid
        subst hid
        split at hv
        · rename_i a x
          split at hv
          · rename_i hc
            obtain ⟨rfl, rfl⟩ := rt_eq hv
            simp only [Bool.and_eq_true, List.contains_iff_mem] at hc
            obtain ⟨⟨ha, hx⟩, hf⟩ := hc
            refine ⟨_, rfl, kept_builtin _, fun A s φ us kus R I r rk => ?_⟩
            cases rk with | nil =>
            cases r with | cons q r =>
            cases q with | top =>
            cases r with | cons q r =>
            cases q with | str e t =>
            cases r with | nil =>
            have hz : x.cps.size ≤ 1000000 := by
              simp [fits, PySem.Str.length] at hf
              exact of_decide_eq_true hf.1
            exact (search_call ((K a ha).keeps I.base) hx hz).mono fun u h' rr => by
              obtain ⟨rfl, rfl⟩ := rr
              exact Ret.here I .none
          · cases hv
        · cases hv
      · exact D.ap _ vs kvs σ v σ' hv
    · exact D.ap _ vs kvs σ v σ' hv
  mt := fun σ ov y fv hv A s φ uo pl R I q => by
    have old : T.mt σ ov y = some fv → W prog w A (getMethod uo y pl) s fun r h' => h' = s.heap ∧ r = (fv, [uo]) := fun hv => D.mt σ ov y fv hv A s φ uo pl R I q
    unfold addRe at hv
    dsimp only at hv
    split at hv
    · rename_i a
      split at hv
      · rename_i hc
        cases hv
        simp only [Bool.and_eq_true, List.contains_iff_mem, beq_iff_eq] at hc
        obtain ⟨ha, rfl⟩ := hc
        cases q with | top =>
        obtain ⟨p, fl, ca, o, vs, n, g, go, r⟩ := ((K a ha).keeps I.base).at_
        have hT : s.TypeIs (.ref a) "re.Pattern" := ⟨_, g, rfl⟩
        exact getMethod_builtin hT plain_pattern slot_search type_search (fun b e => by cases e; exact ⟨_, g, rfl⟩) ⟨s.heap, s.toks, rfl, rfl, rfl⟩
      · exact old hv
    · exact old hv
end
end Mine
end

section
set_option tactic.hygienic false
namespace Mine
open PySem PyProof.Rows

theorem len1 {us : List Value} (h : us.length = 1) : ∃ a, us = [a] := List.length_eq_one_iff.mp h
theorem len2 {us : List Value} (h : us.length = 2) : ∃ a b, us = [a, b] := by
  cases us with
  | nil => cases h
  | cons a us =>
    obtain ⟨b, rfl⟩ := len1 (us := us) (by simpa using h)
    exact ⟨a, b, rfl⟩
theorem len3 {us : List Value} (h : us.length = 3) : ∃ a b c, us = [a, b, c] := by
  cases us with
  | nil => cases h
  | cons a us =>
    obtain ⟨b, c, rfl⟩ := len2 (us := us) (by simpa using h)
    exact ⟨a, b, c, rfl⟩
noncomputable def P0 : Params := { strHash := fun _ => 0, shareClass := fun a => a, mergeTok := fun t => t, idOf := fun _ => 0, idOfShared := fun _ _ => 0, followText := fun _ => false, idOfImm := fun _ => 0 }
noncomputable def K1 : Params → W.Frag := pre.heap_1_39
noncomputable def fdIn (K : Params → W.Frag) (a : Addr) : FuncData := match (K P0).lookup a with
  | some ⟨_, _, .func fd, _⟩ => fd
  | _ => default
noncomputable def fd1 (a : Addr) : FuncData := fdIn K1 a

noncomputable def G1 : List (Str × PV) := [("_MOVE_COST", .int 2), ("_CASE_COST", .int 1), ("_MAX_STRING_SIZE", .int 40), ("len", .top (.builtin "len")), ("min", .top (.builtin "min")), ("range", .top (.type "range")), ("list", .top (.type "list")),
  ("type", .top (.type "type")), ("str", .top (.type "str")), ("zip", .top (.type "zip")), ("_name_disallowed_re", .top (.ref 64)), ("_value_disallowed_re", .top (.ref 69)),
  ("_substitution_cost", .top (.ref 52)), ("_strcoll", .top (.ref 45)), ("_levenshtein_distance", .top (.ref 59)), ("Headers", .top (.ref 192)),
  ("_law_word", .top (.ref 203)), ("_law_once", .top (.ref 210)), ("_law_ahead", .top (.ref 217)), ("_law_figures", .top (.ref 224)), ("_law_first", .top (.ref 231))]

noncomputable def cfOf (G : List (Str × PV)) (fd : FuncData) (ps : List Str) : Option CF :=
  match ps.mapM (mv (gmFn fd.scope)), seqS ((stmtsOf fd.body).map (cS G 40 (gmFn fd.scope))) with
  | some pms, some mb => some ⟨(namesOf .local fd.scope.names).length, (namesOf .cell fd.scope.names).length, pms, mb⟩
  | _, _ => none
noncomputable def cfGet (G : List (Str × PV)) (fd : FuncData) (ps : List Str) : CF := (cfOf G fd ps).getD ⟨0, 0, [], .nil⟩
set_option tactic.hygienic true in
theorem cfOk_of {G : List (Str × PV)} {fd : FuncData} {ps : List Str} (hb : blockOk fd.scope.names = true) (h : (cfOf G fd ps).isSome = true) : CfOk G fd ps (cfGet G fd ps) := by
  unfold cfGet
  obtain ⟨c, hc⟩ := Option.isSome_iff_exists.mp h
  rw [hc]
  unfold cfOf at hc
  split at hc
  · rename_i pms mb h1 h2
    cases hc
    exact ⟨hb, rfl, rfl, h1, 40, h2⟩
  · cases hc

theorem g1_ok (P : Params) : G1.all (gOk (K1 P)) = true := by kernel_rfl
theorem look_59 (P : Params) : (K1 P).lookup 59 = some ⟨.type "function", none, .func (fd1 59), #[]⟩ := by kernel_rfl
theorem ok_59 (P : Params) : fnOk (K1 P) (fd1 59) = true := by kernel_rfl
theorem keep_59 (P : Params) : W.keepIn (K1 P) (.ref 59) = true := by kernel_rfl
noncomputable def c59 : CF := cfGet G1 (fd1 59) ["a", "b", "max_cost"]
theorem cf_59 : CfOk G1 (fd1 59) ["a", "b", "max_cost"] c59 := cfOk_of (by decide +kernel) (by decide +kernel)
theorem bind_59 : ∀ us : List Value, us.length = 3 → bindArgs (fd1 59) ⟨us, []⟩ = pure ((["a", "b", "max_cost"] : List Str).zip us) := by
  intro us hu
  match us, hu with
  | [a, b, c], _ => kernel_rfl
end Mine
end

section
set_option tactic.hygienic false
namespace Mine
open PySem PyProof.Rows

/-- all that is asked of one plain function of the text -/
structure Plain (K : Params → W.Frag) (G : List (Str × PV)) (fa : Addr) (ps : List Str) : Prop where
  look : ∀ P, (K P).lookup fa = some ⟨.type "function", none, .func (fdIn K fa), #[]⟩
  ok : ∀ P, fnOk (K P) (fdIn K fa) = true
  keep : ∀ P, W.keepIn (K P) (.ref fa) = true
  cf : CfOk G (fdIn K fa) ps (cfGet G (fdIn K fa) ps)

theorem pl_45 : Plain K1 G1 45 ["a", "b"] := ⟨fun P => by kernel_rfl, fun P => by kernel_rfl, fun P => by kernel_rfl, cfOk_of (by decide +kernel) (by decide +kernel)⟩
theorem pl_52 : Plain K1 G1 52 ["ch_a", "ch_b"] := ⟨fun P => by kernel_rfl, fun P => by kernel_rfl, fun P => by kernel_rfl, cfOk_of (by decide +kernel) (by decide +kernel)⟩
theorem pl_59 : Plain K1 G1 59 ["a", "b", "max_cost"] := ⟨fun P => by kernel_rfl, fun P => by kernel_rfl, fun P => by kernel_rfl, cfOk_of (by decide +kernel) (by decide +kernel)⟩
theorem pl_203 : Plain K1 G1 203 ["number"] := ⟨fun P => by kernel_rfl, fun P => by kernel_rfl, fun P => by kernel_rfl, cfOk_of (by decide +kernel) (by decide +kernel)⟩
theorem pl_210 : Plain K1 G1 210 ["numbers"] := ⟨fun P => by kernel_rfl, fun P => by kernel_rfl, fun P => by kernel_rfl, cfOk_of (by decide +kernel) (by decide +kernel)⟩
theorem pl_217 : Plain K1 G1 217 ["here", "there"] := ⟨fun P => by kernel_rfl, fun P => by kernel_rfl, fun P => by kernel_rfl, cfOk_of (by decide +kernel) (by decide +kernel)⟩
theorem pl_224 : Plain K1 G1 224 ["here", "there"] := ⟨fun P => by kernel_rfl, fun P => by kernel_rfl, fun P => by kernel_rfl, cfOk_of (by decide +kernel) (by decide +kernel)⟩
theorem pl_231 : Plain K1 G1 231 ["found", "name", "word"] := ⟨fun P => by kernel_rfl, fun P => by kernel_rfl, fun P => by kernel_rfl, cfOk_of (by decide +kernel) (by decide +kernel)⟩
theorem pl_236 : Plain K1 G1 236 ["script"] := ⟨fun P => by kernel_rfl, fun P => by kernel_rfl, fun P => by kernel_rfl, cfOk_of (by decide +kernel) (by decide +kernel)⟩
theorem pl_84 : Plain K1 G1 84 ["self", "headers"] := ⟨fun P => by kernel_rfl, fun P => by kernel_rfl, fun P => by kernel_rfl, cfOk_of (by decide +kernel) (by decide +kernel)⟩
theorem pl_91 : Plain K1 G1 91 ["self", "value", "name"] := ⟨fun P => by kernel_rfl, fun P => by kernel_rfl, fun P => by kernel_rfl, cfOk_of (by decide +kernel) (by decide +kernel)⟩
theorem pl_139 : Plain K1 G1 139 ["self", "name", "default"] := ⟨fun P => by kernel_rfl, fun P => by kernel_rfl, fun P => by kernel_rfl, cfOk_of (by decide +kernel) (by decide +kernel)⟩
theorem pl_144 : Plain K1 G1 144 ["self"] := ⟨fun P => by kernel_rfl, fun P => by kernel_rfl, fun P => by kernel_rfl, cfOk_of (by decide +kernel) (by decide +kernel)⟩
theorem pl_156 : Plain K1 G1 156 ["self"] := ⟨fun P => by kernel_rfl, fun P => by kernel_rfl, fun P => by kernel_rfl, cfOk_of (by decide +kernel) (by decide +kernel)⟩
theorem pl_182 : Plain K1 G1 182 ["self", "name", "value"] := ⟨fun P => by kernel_rfl, fun P => by kernel_rfl, fun P => by kernel_rfl, cfOk_of (by decide +kernel) (by decide +kernel)⟩

noncomputable def cf (a : Addr) (ps : List Str) : CF := cfGet G1 (fdIn K1 a) ps
noncomputable def Ta : Tab := addFn (addFn (addFn (addFn T0 45 (pureFn T0 (cf 45 ["a", "b"]) 2)) 52 (pureFn T0 (cf 52 ["ch_a", "ch_b"]) 2)) 203 (pureFn T0 (cf 203 ["number"]) 1)) 224 (pureFn T0 (cf 224 ["here", "there"]) 2)
noncomputable def Tb : Tab := addFn (addFn Ta 59 (pureFn Ta (cf 59 ["a", "b", "max_cost"]) 3)) 217 (pureFn Ta (cf 217 ["here", "there"]) 2)

section
variable {prog : Program} {w : World} {h₀ : Heap} {P : Params}

theorem Plain.fn {K : Params → W.Frag} {G : List (Str × PV)} {fa : Addr} {ps : List Str} (p : Plain K G fa ps) (X : (K P).In h₀) (hl : h₀.NoLimit) : FnOk h₀ fa (fdIn K fa) (stmtsOf (fdIn K fa).body) := fnOk_of X hl (p.look P) (p.ok P)

theorem wd_a (X : (K1 P).In h₀) (hl : h₀.NoLimit) (Gl : Globs h₀ G1) : Wd prog w h₀ G1 Ta 1 := by
  have D0 : Wd prog w h₀ G1 T0 1 := wd0 Gl 1
  refine addFn_wd (addFn_wd (addFn_wd (addFn_wd D0 (kept_fn X (pl_45.keep P)) ?_) (kept_fn X (pl_52.keep P)) ?_) (kept_fn X (pl_203.keep P)) ?_) (kept_fn X (pl_224.keep P)) ?_
  · exact pure_sound (wd0 Gl 0) (pl_45.fn X hl) pl_45.cf (fun us hu => by obtain ⟨a, b, rfl⟩ := len2 hu; kernel_rfl)
  · exact pure_sound (wd0 Gl 0) (pl_52.fn X hl) pl_52.cf (fun us hu => by obtain ⟨a, b, rfl⟩ := len2 hu; kernel_rfl)
  · exact pure_sound (wd0 Gl 0) (pl_203.fn X hl) pl_203.cf (fun us hu => by obtain ⟨a, rfl⟩ := len1 hu; kernel_rfl)
  · exact pure_sound (wd0 Gl 0) (pl_224.fn X hl) pl_224.cf (fun us hu => by obtain ⟨a, b, rfl⟩ := len2 hu; kernel_rfl)
theorem wd_b (X : (K1 P).In h₀) (hl : h₀.NoLimit) (Gl : Globs h₀ G1) : Wd prog w h₀ G1 Tb 2 := by
  refine addFn_wd (addFn_wd ((wd_a X hl Gl).up (by decide)) (kept_fn X (pl_59.keep P)) ?_) (kept_fn X (pl_217.keep P)) ?_
  · exact pure_sound (wd_a X hl Gl) (pl_59.fn X hl) pl_59.cf (fun us hu => by obtain ⟨a, b, c, rfl⟩ := len3 hu; kernel_rfl)
  · exact pure_sound (wd_a X hl Gl) (pl_217.fn X hl) pl_217.cf (fun us hu => by obtain ⟨a, b, rfl⟩ := len2 hu; kernel_rfl)
end
end Mine
end

section
set_option tactic.hygienic false
namespace Mine
open PySem PyProof.Rows

theorem bind_91 (a b c : Value) : bindArgs (fdIn K1 91) ⟨[a, b], [(("name" : Str), c)]⟩ = pure ([("self", a), ("value", b), ("name", c)] : List (Str × Value)) := by kernel_rfl
/-- binding without keywords, taken apart at the defaults -/
noncomputable def packB (fd : FuncData) (us : List Value) : { k : Option (Array Value) → Sem (List (Str × Value)) // bindArgs fd ⟨us, []⟩ = seqItems? fd.defaults >>= k } := ⟨_, rfl⟩
section
variable {s : Shared} {P : Params}
theorem bind_139 (X : (K1 P).In s.heap) (a b : Value) : BindsTo s (fdIn K1 139) ⟨[a, b], []⟩ [("self", a), ("name", b), ("default", .none)] :=
  W.binds_K (T := 132) (o := { cls := .type "tuple", data := .seq #[.none] }) (items := #[.none]) X (by kernel_rfl) (by kernel_rfl) rfl (packB (fdIn K1 139) [a, b]).2 (by kernel_rfl)
theorem bind_84 (X : (K1 P).In s.heap) (a : Value) : BindsTo s (fdIn K1 84) ⟨[a], []⟩ [("self", a), ("headers", .none)] :=
  W.binds_K (T := 77) (o := { cls := .type "tuple", data := .seq #[.none] }) (items := #[.none]) X (by kernel_rfl) (by kernel_rfl) rfl (packB (fdIn K1 84) [a]).2 (by kernel_rfl)
end
end Mine
end

section
set_option tactic.hygienic false
namespace Mine
open PySem PyProof.Rows

section
variable {prog : Program} {w : World} {h₀ : Heap} {P : Params}

/-- one default left away: None -/
noncomputable def bdD (n : Nat) (vs : List PV) (kvs : List (Str × PV)) : Option (List PV) := if kvs.isEmpty && decide (vs.length = n) then some (vs ++ [.none]) else none
theorem bdD_ok {fd : FuncData} {ps : List Str} {n : Nat} (hn : ps.length = n + 1)
    (hb : ∀ (s : Shared) (us : List Value), (∀ b o, h₀.get? b = some o → s.heap.get? b = some o) → us.length = n → BindsTo s fd ⟨us, []⟩ (ps.zip (us ++ [.none]))) : BindOk prog w h₀ fd ps (bdD n) := by
  intro vs kvs ws hw A s φ σ us kus I r rk
  unfold bdD at hw
  split at hw
  · rename_i hc
    cases hw
    simp only [Bool.and_eq_true, List.isEmpty_iff, decide_eq_true_eq] at hc
    obtain ⟨rfl, hl⟩ := hc
    cases rk with | nil =>
    have hu : us.length = n := by rw [← r.length]; exact hl
    refine hb s us I.base hu _ _ _ _ ⟨_, _, rfl, φ, Step.refl _ _ _, I, ?_, ?_⟩
    · exact List.map_fst_zip (by simp; omega)
    · rw [List.map_snd_zip (by simp; omega)]; exact r.append (.cons .none .nil)
  · cases hw
/-- one keyword -/
noncomputable def bdK (n : Nat) (x : Str) (vs : List PV) (kvs : List (Str × PV)) : Option (List PV) := match kvs with
  | [(y, v)] => if y = x ∧ vs.length = n then some (vs ++ [v]) else none
  | _ => none
set_option tactic.hygienic true in
theorem bdK_ok {fd : FuncData} {ps : List Str} {n : Nat} {x : Str} (hn : ps.length = n + 1)
    (hb : ∀ (us : List Value) (u : Value), us.length = n → bindArgs fd ⟨us, [(x, u)]⟩ = pure (ps.zip (us ++ [u]))) : BindOk prog w h₀ fd ps (bdK n x) := by
  intro vs kvs ws hw A s φ σ us kus I r rk
  unfold bdK at hw
  split at hw
  · rename_i y v
    split at hw
    · rename_i hc
      cases hw
      obtain ⟨rfl, hl⟩ := hc
      cases rk with | cons q rk =>
      cases rk with | nil =>
      rename_i u
      have hu : us.length = n := by rw [← r.length]; exact hl
      rw [hb us u hu]
      refine W.pure ⟨φ, Step.refl _ _ _, I, ?_, ?_⟩
      · exact List.map_fst_zip (by simp; omega)
      · rw [List.map_snd_zip (by simp; omega)]; exact r.append (.cons q .nil)
    · cases hw
  · cases hw

theorem bo_91 : BindOk prog w h₀ (fdIn K1 91) ["self", "value", "name"] (bdK 2 "name") :=
  bdK_ok rfl fun us u hu => by obtain ⟨a, b, rfl⟩ := len2 hu; exact bind_91 a b u
theorem bo_139 (X : (K1 P).In h₀) : BindOk prog w h₀ (fdIn K1 139) ["self", "name", "default"] (bdD 2) :=
  bdD_ok rfl fun s us k hu => by obtain ⟨a, b, rfl⟩ := len2 hu; exact bind_139 (X.keeps k) a b
theorem bo_84 (X : (K1 P).In h₀) : BindOk prog w h₀ (fdIn K1 84) ["self", "headers"] (bdD 1) :=
  bdD_ok rfl fun s us k hu => by obtain ⟨a, rfl⟩ := len1 hu; exact bind_84 (X.keeps k) a
theorem bo_144 : BindOk prog w h₀ (fdIn K1 144) ["self"] (bdN 1) := bdN_ok (ps := ["self"]) fun us hu => by obtain ⟨a, rfl⟩ := len1 hu; kernel_rfl
theorem bo_156 : BindOk prog w h₀ (fdIn K1 156) ["self"] (bdN 1) := bdN_ok (ps := ["self"]) fun us hu => by obtain ⟨a, rfl⟩ := len1 hu; kernel_rfl
theorem bo_182 : BindOk prog w h₀ (fdIn K1 182) ["self", "name", "value"] (bdN 3) := bdN_ok (ps := ["self", "name", "value"]) fun us hu => by obtain ⟨a, b, c, rfl⟩ := len3 hu; kernel_rfl
theorem bo_210 : BindOk prog w h₀ (fdIn K1 210) ["numbers"] (bdN 1) := bdN_ok (ps := ["numbers"]) fun us hu => by obtain ⟨a, rfl⟩ := len1 hu; kernel_rfl
theorem bo_231 : BindOk prog w h₀ (fdIn K1 231) ["found", "name", "word"] (bdN 3) := bdN_ok (ps := ["found", "name", "word"]) fun us hu => by obtain ⟨a, b, c, rfl⟩ := len3 hu; kernel_rfl
theorem bo_236 : BindOk prog w h₀ (fdIn K1 236) ["script"] (bdN 1) := bdN_ok (ps := ["script"]) fun us hu => by obtain ⟨a, rfl⟩ := len1 hu; kernel_rfl

end
end Mine
end

section
set_option tactic.hygienic false
namespace Mine
open PySem PyProof.Rows

/-! the class Headers -/
noncomputable def obj191 (P : Params) : Obj := ((K1 P).lookup 191).getD default
noncomputable def obj192 (P : Params) : Obj := ((K1 P).lookup 192).getD default
theorem look_191 (P : Params) : (K1 P).lookup 191 = some (obj191 P) := by kernel_rfl
theorem look_192 (P : Params) : (K1 P).lookup 192 = some (obj192 P) := by kernel_rfl
theorem look_192' (P : Params) : (K1 P).lookup 192 = some (excClassObj "Headers" "Headers" 192 191 [.type "object"] [.type "object"] true [] [] false none none none none (some (.str "Headers" 397)) (some (.str "Headers" 405)) (some (.bool true)) "object.__new__") := by kernel_rfl
noncomputable def isNsO (o : Obj) : Bool := match o.data with | .dict es _ => es.all (fun e => match e.key with | .str _ _ => true | _ => false) | _ => false
noncomputable def nsO (o : Obj) (x : Str) : Option Value := match o.data with | .dict es _ => nsFind es x | _ => none
theorem isNs_191 (P : Params) : isNsO (obj191 P) = true := by kernel_rfl
section
variable {prog : Program} {w : World} {h₀ : Heap} {P : Params}
theorem ns_191 (X : (K1 P).In h₀) : h₀.Ns 191 (nsO (obj191 P)) := by
  have e := X 191 _ (look_191 P)
  have h : h₀.isNs 191 = true := by unfold Heap.isNs; rw [e]; exact isNs_191 P
  have := Heap.Ns.of_isNs h
  have e2 : h₀.nsMap 191 = nsO (obj191 P) := by funext x; unfold Heap.nsMap; rw [e]; rfl
  rwa [e2] at this
theorem cls_192 (X : (K1 P).In h₀) : ClsAt h₀ 192 191 (nsO (obj191 P)) := ⟨⟨_, _, _, _, _, _, _, _, _, _, _, _, X 192 _ (look_192' P)⟩, ns_191 X⟩
theorem mth_of (X : (K1 P).In h₀) {x : Str} {f : Addr} {o : Obj} (h1 : nsO (obj191 P) x = some (.ref f)) (h2 : (K1 P).lookup f = some o) (h3 : o.cls = .type "function") {y : Option Value} (h4 : typeLookup (.type "object") x = pure y) : MthOk h₀ 192 x f where
  cls := ⟨191, _, cls_192 X, by kernel_rfl, by kernel_rfl, h1⟩
  fn := ⟨o, X f _ h2, h3⟩
  obj := ⟨y, h4⟩
theorem at_headers (X : (K1 P).In h₀) : ClsOk h₀ 192 "_headers" where
  cls := ⟨191, _, cls_192 X, by kernel_rfl, by kernel_rfl, by kernel_rfl⟩
  obj := by rw [typeLookup_type, builtinLookup_eq_fast]; kernel_rfl
theorem lk_84 : typeLookup (.type "object") "__init__" = pure (some (.builtin "object.__init__")) := by rw [typeLookup_type, builtinLookup_eq_fast]; kernel_rfl
theorem mth_84 (X : (K1 P).In h₀) : MthOk h₀ 192 "__init__" 84 := mth_of X (by kernel_rfl) (pl_84.look P) rfl lk_84
theorem lk_91 : typeLookup (.type "object") "_convert_string_type" = pure (none) := by rw [typeLookup_type, builtinLookup_eq_fast]; kernel_rfl
theorem mth_91 (X : (K1 P).In h₀) : MthOk h₀ 192 "_convert_string_type" 91 := mth_of X (by kernel_rfl) (pl_91.look P) rfl lk_91
theorem lk_139 : typeLookup (.type "object") "get" = pure (none) := by rw [typeLookup_type, builtinLookup_eq_fast]; kernel_rfl
theorem mth_139 (X : (K1 P).In h₀) : MthOk h₀ 192 "get" 139 := mth_of X (by kernel_rfl) (pl_139.look P) rfl lk_139
theorem lk_144 : typeLookup (.type "object") "keys" = pure (none) := by rw [typeLookup_type, builtinLookup_eq_fast]; kernel_rfl
theorem mth_144 (X : (K1 P).In h₀) : MthOk h₀ 192 "keys" 144 := mth_of X (by kernel_rfl) (pl_144.look P) rfl lk_144
theorem lk_156 : typeLookup (.type "object") "items" = pure (none) := by rw [typeLookup_type, builtinLookup_eq_fast]; kernel_rfl
theorem mth_156 (X : (K1 P).In h₀) : MthOk h₀ 192 "items" 156 := mth_of X (by kernel_rfl) (pl_156.look P) rfl lk_156
theorem lk_182 : typeLookup (.type "object") "setdefault" = pure (none) := by rw [typeLookup_type, builtinLookup_eq_fast]; kernel_rfl
theorem mth_182 (X : (K1 P).In h₀) : MthOk h₀ 192 "setdefault" 182 := mth_of X (by kernel_rfl) (pl_182.look P) rfl lk_182
end
end Mine
end

section
set_option tactic.hygienic false
namespace Mine
open PySem PyProof.Rows PySem.Builtin PySem.Builtin.Re

noncomputable def isNo {α β : Type} : Except α (Bool × β) → Bool
  | .ok (false, _) => true
  | _ => false
theorem isNo_ok {α β : Type} {x : Except α (Bool × β)} (h : isNo x = true) : ∃ s, x = .ok (false, s) := by
  unfold isNo at h
  split at h
  · exact ⟨_, rfl⟩
  · cases h
noncomputable def codeAt (a : Addr) : Array Value := match (K1 P0).lookup a with | some ⟨_, _, .seq vs _, _⟩ => vs | _ => #[]
noncomputable def allNo (code : Array Nat) (seen : Sre.Seen) : Bool := (List.range 95).all fun k => isNo (Sre.inSet code (32 + k) code.size 5 true seen)
theorem setNo_of {code : Array Nat} (h : ∀ seen, allNo code seen = true) (c : Nat) (h1 : 32 ≤ c) (h2 : c < 127) : setNo code c := by
  intro seen
  have := h seen
  unfold allNo at this
  rw [List.all_eq_true] at this
  have := this (c - 32) (List.mem_range.mpr (by omega))
  have e : 32 + (c - 32) = c := by omega
  rw [e] at this
  exact isNo_ok this
theorem no_63 (seen : Sre.Seen) : allNo (((codeAt 63).map reRawOf).map (·.toNat)) seen = true := by kernel_rfl
theorem no_68 (seen : Sre.Seen) : allNo (((codeAt 68).map reRawOf).map (·.toNat)) seen = true := by kernel_rfl
section
variable {prog : Program} {w : World} {h₀ : Heap} {P : Params}
theorem look_63 (P : Params) : (K1 P).lookup 63 = some { cls := .type "tuple", data := .seq (codeAt 63) } := by kernel_rfl
theorem look_68 (P : Params) : (K1 P).lookup 68 = some { cls := .type "tuple", data := .seq (codeAt 68) } := by kernel_rfl
theorem look_64 (P : Params) : (K1 P).lookup 64 = some { cls := .type "re.Pattern", dict := none, data := .fields #[.str "[\\x00-\\x1F\\x7F]" 338, .int 32 361, .int 0 0, .none, .none, .ref 63, .int 0 0], slots := #[] } := by kernel_rfl
theorem look_69 (P : Params) : (K1 P).lookup 69 = some { cls := .type "re.Pattern", dict := none, data := .fields #[.str "[\\x00-\\x08\\x0A-\\x1F\\x7F]" 364, .int 32 395, .int 0 0, .none, .none, .ref 68, .int 0 0], slots := #[] } := by kernel_rfl
theorem pat_64 (X : (K1 P).In h₀) : Pat h₀ 64 := ⟨⟨_, _, 63, _, _, _, X 64 _ (look_64 P), X 63 _ (look_63 P), rfl, by kernel_rfl, setNo_of no_63⟩⟩
theorem pat_69 (X : (K1 P).In h₀) : Pat h₀ 69 := ⟨⟨_, _, 68, _, _, _, X 69 _ (look_69 P), X 68 _ (look_68 P), rfl, by kernel_rfl, setNo_of no_68⟩⟩

/-! ### the layers above -/
noncomputable def cl (T : Tab) (a : Addr) (ps : List Str) (bd : List PV → List (Str × PV) → Option (List PV)) (more : Nat) := callFn T (cf a ps) bd more
noncomputable def Tr : Tab := addMt (addAt (addRe Tb [64, 69]) 192 "_headers") 192 "_convert_string_type" 91
noncomputable def Tc : Tab := addFn Tr 91 (cl Tr 91 ["self", "value", "name"] (bdK 2 "name") 0)
theorem wd_r (X : (K1 P).In h₀) (hl : h₀.NoLimit) (Gl : Globs h₀ G1) : Wd prog w h₀ G1 Tr 2 :=
  addMt_wd (addAt_wd (addRe_wd (wd_b X hl Gl) (fun a ha => by
    simp only [List.mem_cons, List.not_mem_nil, or_false] at ha
    rcases ha with rfl | rfl
    · exact pat_64 X
    · exact pat_69 X)) (at_headers X)) (mth_91 X)
theorem wd_c (X : (K1 P).In h₀) (hl : h₀.NoLimit) (Gl : Globs h₀ G1) : Wd prog w h₀ G1 Tc 3 :=
  addFn_wd ((wd_r X hl Gl).up (by decide)) (kept_fn X (pl_91.keep P)) (callFn_sound (wd_r X hl Gl) (pl_91.fn X hl) pl_91.cf 0 bo_91)

noncomputable def Td : Tab := addMt (addMt (addMt (addMt (addFn (addFn (addFn (addFn (addFn (addFn Tc
  139 (cl Tc 139 ["self", "name", "default"] (bdD 2) 0)) 210 (cl Tc 210 ["numbers"] (bdN 1) 1)) 84 (cl Tc 84 ["self", "headers"] (bdD 1) 1)) 144 (cl Tc 144 ["self"] (bdN 1) 1)) 156 (cl Tc 156 ["self"] (bdN 1) 1)) 231 (cl Tc 231 ["found", "name", "word"] (bdN 3) 0))
  192 "get" 139) 192 "keys" 144) 192 "items" 156) 192 "setdefault" 182
theorem wd_d (X : (K1 P).In h₀) (hl : h₀.NoLimit) (Gl : Globs h₀ G1) : Wd prog w h₀ G1 Td 4 := by
  have D := wd_c (prog := prog) (w := w) X hl Gl
  refine addMt_wd (addMt_wd (addMt_wd (addMt_wd (addFn_wd (addFn_wd (addFn_wd (addFn_wd (addFn_wd (addFn_wd (D.up (by decide))
    (kept_fn X (pl_139.keep P)) ?_) (kept_fn X (pl_210.keep P)) ?_) (kept_fn X (pl_84.keep P)) ?_) (kept_fn X (pl_144.keep P)) ?_) (kept_fn X (pl_156.keep P)) ?_) (kept_fn X (pl_231.keep P)) ?_)
    (mth_139 X)) (mth_144 X)) (mth_156 X)) (mth_182 X)
  · exact callFn_sound D (pl_139.fn X hl) pl_139.cf 0 (bo_139 X)
  · exact callFn_sound D (pl_210.fn X hl) pl_210.cf 1 bo_210
  · exact callFn_sound D (pl_84.fn X hl) pl_84.cf 1 (bo_84 X)
  · exact callFn_sound D (pl_144.fn X hl) pl_144.cf 1 bo_144
  · exact callFn_sound D (pl_156.fn X hl) pl_156.cf 1 bo_156
  · exact callFn_sound D (pl_231.fn X hl) pl_231.cf 0 bo_231
noncomputable def Te : Tab := addFn (addFn Td 182 (cl Td 182 ["self", "name", "value"] (bdN 3) 0)) 192 (newFn 192 (cl Tc 84 ["self", "headers"] (bdD 1) 1))
theorem keep_192 (P : Params) : W.keepIn (K1 P) (.ref 192) = true := by kernel_rfl
theorem wd_e (X : (K1 P).In h₀) (hl : h₀.NoLimit) (Gl : Globs h₀ G1) : Wd prog w h₀ G1 Te 5 := by
  refine addFn_wd (addFn_wd ((wd_d X hl Gl).up (by decide)) (kept_fn X (pl_182.keep P)) ?_) (kept_fn X (keep_192 P)) ?_
  · exact callFn_sound (wd_d X hl Gl) (pl_182.fn X hl) pl_182.cf 0 bo_182
  · exact newFn_sound (mth_84 X) (callFn_sound (wd_c X hl Gl) (pl_84.fn X hl) pl_84.cf 1 (bo_84 X))
end
end Mine
end

section
set_option tactic.hygienic false
namespace Mine
open PySem PyProof.Rows

/-! ### the evaluator's equations, one by one -/
section
variable {T : Tab} {fm : Fm} {σ σ' : St} {α β : Type}
theorem q_bnd (m : M α) (f : α → M β) : bnd m f σ = match m σ with
  | some (a, σ') => f a σ'
  | none => none := rfl
theorem q_rt (a : α) : rt a σ = some (a, σ) := rfl
theorem q_alloc (c : Cell) : alloc c σ = some (.obj σ.length, σ ++ [c]) := rfl
theorem q_look (f : St → Option α) : look f σ = match f σ with
  | some a => some (a, σ)
  | none => none := rfl
theorem q_ite {c : Prop} [Decidable c] (m m' : M α) : (if c then m else m') σ = if c then m σ else m' σ := by split <;> rfl
theorem q_cst (v : PV) : ev T (.cst v) fm σ = if plainC v = true then some (v, σ) else none := by simp only [ev]; split <;> rfl
theorem q_lift (o : Option α) : lift o σ = match o with
  | some a => some (a, σ)
  | none => none := rfl
theorem q_var (x : MV) : ev T (.var x) fm σ = getV fm x σ := by simp only [ev]
theorem q_gl (i : Nat) : getV fm (.loc i) σ = lift (fm.ρ[i]?.join) σ := rfl
noncomputable def celAt (cs : List Nat) (i : Nat) (σ : St) : Option PV := match cs[i]? with
    | some k => match σ[k]? with
      | some (.cel (some v)) => some v
      | _ => none
    | none => none
theorem q_gc (i : Nat) : getV fm (.cel i) σ = look (celAt fm.cs i) σ := rfl
theorem q_and (a b : ME) : ev T (.and a b) fm σ = bnd (ev T a fm) (fun v => bnd (look (truth · v)) fun t => if t then ev T b fm else rt v) σ := rfl
theorem q_or (a b : ME) : ev T (.or a b) fm σ = bnd (ev T a fm) (fun v => bnd (look (truth · v)) fun t => if t then rt v else ev T b fm) σ := rfl
theorem q_not (a : ME) : ev T (.not a) fm σ = bnd (ev T a fm) (fun v => bnd (look (truth · v)) fun t => rt (.bool (!t))) σ := rfl
theorem q_iteE (t b o : ME) : ev T (.ite t b o) fm σ = bnd (ev T t fm) (fun v => bnd (look (truth · v)) fun c => if c then ev T b fm else ev T o fm) σ := rfl
theorem q_bin (op : Operator) (a b : ME) : ev T (.bin op a b) fm σ = bnd (ev T a fm) (fun x => bnd (ev T b fm) fun y => binop op x y) σ := rfl
theorem q_cmp (a : ME) (r : MC) : ev T (.cmp a r) fm σ = bnd (ev T a fm) (fun x => bnd (evC T r x fm) fun b => rt (.bool b)) σ := rfl
theorem q_list (es : MEs) : ev T (.list es) fm σ = bnd (evs T es fm) (fun vs => if vs.length ≤ 1000 then alloc (.lst vs) else fail) σ := rfl
theorem q_tup (es : MEs) : ev T (.tup es) fm σ = bnd (evs T es fm) (fun vs => if vs.length ≤ 1000 then rt (.tup vs) else fail) σ := rfl
theorem q_call (f : ME) (es : MEs) (ks : MK) : ev T (.call f es ks) fm σ = bnd (ev T f fm) (fun fv => bnd (evs T es fm) fun vs => bnd (evK T ks fm) fun kvs => T.ap fv vs kvs) σ := rfl
theorem q_meth (o : ME) (x : Str) (es : MEs) (ks : MK) : ev T (.meth o x es ks) fm σ = bnd (ev T o fm) (fun ov => bnd (look fun σ => T.mt σ ov x) fun fv => bnd (evs T es fm) fun vs => bnd (evK T ks fm) fun kvs => T.ap (.top fv) (ov :: vs) kvs) σ := rfl
noncomputable def attrM (T : Tab) (ov : PV) (x : Str) : M PV := match ov with
    | .obj n => look fun σ => match σ[n]? with
      | some (.inst C as) => if T.at_ C x then noTop (as.lookup x) else none
      | _ => none
    | _ => fail
theorem q_attr (o : ME) (x : Str) : ev T (.attr o x) fm σ = bnd (ev T o fm) (fun ov => attrM T ov x) σ := rfl
theorem q_idx (o i : ME) : ev T (.idx o i) fm σ = bnd (ev T o fm) (fun ov => bnd (ev T i fm) fun iv => look fun σ => item σ ov iv) σ := rfl
theorem q_slc (o l u s : ME) : ev T (.slc o l u s) fm σ = bnd (ev T o fm) (fun ov => bnd (ev T l fm) fun lv => bnd (ev T u fm) fun uv => bnd (ev T s fm) fun sv => slice ov lv uv sv) σ := rfl
theorem q_nil : evs T .nil fm σ = some ([], σ) := rfl
theorem q_cons (e : ME) (r : MEs) : evs T (.cons e r) fm σ = bnd (ev T e fm) (fun v => bnd (evs T r fm) fun vs => rt (v :: vs)) σ := rfl
theorem q_knil : evK T .nil fm σ = some ([], σ) := rfl
theorem q_kcons (x : Str) (e : ME) (r : MK) : evK T (.cons x e r) fm σ = bnd (ev T e fm) (fun v => bnd (evK T r fm) fun vs => rt ((x, v) :: vs)) σ := rfl
theorem q_cnil (a : PV) : evC T .nil a fm σ = some (true, σ) := rfl
theorem q_ccons (op : CmpOp) (e : ME) (r : MC) (a : PV) : evC T (.cons op e r) a fm σ = bnd (ev T e fm) (fun b => bnd (look fun σ => cmpop σ op a b) fun c => if c then evC T r b fm else rt false) σ := rfl
theorem q_ival (e : ME) : evI T (.val e) fm σ = bnd (ev T e fm) (fun v => fun σ => if (nth1 σ v 0).isSome then some (.one v, σ) else none) σ := rfl
theorem q_izip (es : MEs) : evI T (.zip es) fm σ = bnd (evs T es fm) (fun vs => fun σ => if (vs.length == 2 || vs.length == 3) && vs.all (fun v => zipable v && (nth1 σ v 0).isSome) then some (.zip vs σ.length, σ ++ [.own vs.length]) else none) σ := rfl
theorem q_inil : evIfs T .nil fm σ = some (true, σ) := rfl
theorem q_icons (e : ME) (r : MEs) : evIfs T (.cons e r) fm σ = bnd (ev T e fm) (fun v => bnd (look (truth · v)) fun t => if t then evIfs T r fm else rt false) σ := rfl
theorem q_lvl (t : MT) (ifs : MEs) (r : MG) (acc v : PV) : evG T (.lvl t ifs r) acc (some v) fm σ = bnd (setT fm v t) (fun fm' => bnd (evIfs T ifs fm') fun ok => if ok then evG T r acc none fm' else rt fm') σ := rfl
theorem q_elt (e : ME) (acc : PV) (v : Option PV) : evG T (.elt e) acc v fm σ = bnd (ev T e fm) (fun v => bnd (push acc v) fun _ => rt fm) σ := rfl
theorem q_snil : exs T .nil fm σ = some ((fm, none), σ) := rfl
theorem q_scons (s : MS) (r : MSs) : exs T (.cons s r) fm σ = match ex T s fm σ with
  | some ((fm', some v), σ') => some ((fm', some v), σ')
  | some ((fm', none), σ') => exs T r fm' σ'
  | none => none := by
  simp only [exs, bnd]
  rcases ex T s fm σ with _ | ⟨⟨fm', _ | v⟩, σ'⟩ <;> rfl
theorem q_expr (e : ME) : ex T (.expr e) fm σ = bnd (ev T e fm) (fun _ => rt (fm, none)) σ := rfl
theorem q_ret (e : ME) : ex T (.ret e) fm σ = bnd (ev T e fm) (fun v => rt (fm, some v)) σ := rfl
theorem q_set (ts : List MT) (e : ME) : ex T (.set ts e) fm σ = bnd (ev T e fm) (fun v => bnd (setTs v ts fm) fun fm' => rt (fm', none)) σ := rfl
theorem q_aug (x : MV) (op : Operator) (e : ME) : ex T (.aug x op e) fm σ = bnd (getV fm x) (fun a => bnd (ev T e fm) fun b => bnd (augop op a b) fun v => bnd (setV fm v x) fun fm' => rt (fm', none)) σ := rfl
theorem q_seti (o i e : ME) : ex T (.seti o i e) fm σ = bnd (ev T e fm) (fun v => bnd (ev T o fm) fun ov => bnd (ev T i fm) fun iv => bnd (seti ov iv v) fun _ => rt (fm, none)) σ := rfl
theorem q_seta (o : ME) (x : Str) (e : ME) : ex T (.seta o x e) fm σ = bnd (ev T e fm) (fun v => bnd (ev T o fm) fun ov => bnd (seta T ov x v) fun _ => rt (fm, none)) σ := rfl
theorem q_cond (t : ME) (b o : MSs) : ex T (.cond t b o) fm σ = bnd (ev T t fm) (fun v => bnd (look (truth · v)) fun c => if c then exs T b fm else exs T o fm) σ := rfl
theorem q_loop (t : MT) (it : MI) (b : MSs) : ex T (.loop t it b) fm σ = bnd (evI T it fm) (fun src => loopM src (fun v fm' => bnd (setT fm' v t) fun fm'' => exs T b fm'') fuel 0 fm) σ := rfl
theorem q_sTn (v : PV) : setTs v [] fm σ = some (fm, σ) := rfl
theorem q_sTc (v : PV) (t : MT) (ts : List MT) : setTs v (t :: ts) fm σ = bnd (setT fm v t) (fun fm' => setTs v ts fm') σ := rfl
theorem q_sT1 (v : PV) (i : Nat) : setT fm v (.one (.loc i)) σ = some (⟨fm.ρ.set i (some v), fm.cs⟩, σ) := rfl
theorem q_sTt (vs : List PV) (xs : List MV) : setT fm (.tup vs) (.tup xs) σ = setVs fm xs vs σ := rfl
theorem q_sVn : setVs fm [] [] σ = some (fm, σ) := rfl
theorem q_sVc (i : Nat) (xs : List MV) (v : PV) (vs : List PV) : setVs fm (.loc i :: xs) (v :: vs) σ = setVs ⟨fm.ρ.set i (some v), fm.cs⟩ xs vs σ := rfl
theorem q_some {γ : Type} (x : γ × St) (f : γ → St → Option (α × St)) : (match some x with | some (a, σ') => f a σ' | none => none) = f x.1 x.2 := rfl

/-! looking up in a grown store -/
theorem q_app {n : Nat} (τ : St) (h : n < σ.length) : (σ ++ τ)[n]? = σ[n]? := List.getElem?_append_left h
theorem q_last {n : Nat} (c : Cell) (h : n = σ.length) : (σ ++ [c])[n]? = some c := by subst h; simp
theorem lt_of_get {n : Nat} {c : Cell} (h : σ[n]? = some c) : n < σ.length := (List.getElem?_eq_some_iff.mp h).1
theorem q_len (c : Cell) : (σ ++ [c]).length = σ.length + 1 := by simp
theorem get_pre {n : Nat} {c : Cell} (p : σ <+: σ') (h : σ[n]? = some c) : σ'[n]? = some c := by
  obtain ⟨τ, rfl⟩ := p
  rw [q_app _ (lt_of_get h)]; exact h
theorem q_lst {n : Nat} : lstAt σ n = match σ[n]? with
  | some (.lst xs) => some xs
  | _ => none := rfl

/-! ### loops -/
theorem loop_rule {γ : Type} {src : PI} {body : PV → β → M (β × Option γ)} {xs : List PV} (I : Nat → β → St → Prop)
    (hn : ∀ i b σ, I i b σ → nth σ src i = some xs[i]?)
    (hs : ∀ i (h : i < xs.length) b σ, I i b σ → ∃ b' σ', body xs[i] b σ = some ((b', none), σ') ∧ I (i + 1) b' σ') :
    ∀ (k i : Nat) (b : β) (σ : St), I i b σ → i ≤ xs.length → xs.length < i + k → ∃ b' σ', loopM src body k i b σ = some ((b', none), σ') ∧ I xs.length b' σ' := by
  intro k
  induction k with
  | zero => intro i b σ _ h1 h2; omega
  | succ k ih =>
    intro i b σ hI h1 h2
    by_cases h : i < xs.length
    · obtain ⟨b', σ', e, hI'⟩ := hs i h b σ hI
      obtain ⟨b'', σ'', e', hI''⟩ := ih (i + 1) b' σ' hI' h (by omega)
      refine ⟨b'', σ'', ?_, hI''⟩
      simp only [loopM, hn _ _ _ hI, List.getElem?_eq_getElem h, e]
      exact e'
    · obtain rfl : i = xs.length := by omega
      refine ⟨b, σ, ?_, hI⟩
      simp only [loopM, hn _ _ _ hI, List.getElem?_eq_none (Nat.le_refl _)]

/-- a loop that may stop early -/
theorem loop_stop {γ : Type} {src : PI} {body : PV → β → M (β × Option γ)} {xs : List PV} (I : Nat → β → St → Prop) (R : γ → St → Prop)
    (hn : ∀ i b σ, I i b σ → nth σ src i = some xs[i]?)
    (hs : ∀ i (h : i < xs.length) b σ, I i b σ → (∃ b' σ', body xs[i] b σ = some ((b', none), σ') ∧ I (i + 1) b' σ') ∨ ∃ b' r σ', body xs[i] b σ = some ((b', some r), σ') ∧ R r σ') :
    ∀ (k i : Nat) (b : β) (σ : St), I i b σ → i ≤ xs.length → xs.length < i + k → (∃ b' σ', loopM src body k i b σ = some ((b', none), σ') ∧ I xs.length b' σ') ∨ ∃ b' r σ', loopM src body k i b σ = some ((b', some r), σ') ∧ R r σ' := by
  intro k
  induction k with
  | zero => intro i b σ _ h1 h2; omega
  | succ k ih =>
    intro i b σ hI h1 h2
    by_cases h : i < xs.length
    · have hl : loopM src body (k + 1) i b σ = match body xs[i] b σ with
          | none => none
          | some ((b', some r), σ') => some ((b', some r), σ')
          | some ((b', none), σ') => loopM src body k (i + 1) b' σ' := by
        simp only [loopM, hn _ _ _ hI, List.getElem?_eq_getElem h]
        all_goals (rcases body xs[i] b σ with _ | ⟨⟨_, _ | _⟩, _⟩ <;> rfl)
      rcases hs i h b σ hI with ⟨b', σ', e, hI'⟩ | ⟨b', r, σ', e, hR⟩
      · rcases ih (i + 1) b' σ' hI' h (by omega) with ⟨b'', σ'', e', hI''⟩ | ⟨b'', r, σ'', e', hR⟩
        · exact .inl ⟨b'', σ'', by rw [hl, e]; exact e', hI''⟩
        · exact .inr ⟨b'', r, σ'', by rw [hl, e]; exact e', hR⟩
      · exact .inr ⟨b', r, σ', by rw [hl, e], hR⟩
    · obtain rfl : i = xs.length := by omega
      refine .inl ⟨b, σ, ?_, hI⟩
      simp only [loopM, hn _ _ _ hI, List.getElem?_eq_none (Nat.le_refl _)]
theorem nth_lst {n i : Nat} {xs : List PV} (h : σ[n]? = some (.lst xs)) : nth σ (.one (.obj n)) i = some xs[i]? := by
  simp only [nth, nth1, lstAt, h]
end
end Mine
end

section
set_option tactic.hygienic false
namespace Mine
open PySem PyProof.Rows
/-! ### plain steps, cuts, runs -/
section
variable {T : Tab} {σ σ' : St}
theorem e_eqs (x y : Str) : eqTop σ (.str x) (.str y) = some (x == y) := by
  simp only [eqTop, deep, PyData.eqv]
theorem e_eqi (x y : Int) : eqTop σ (.int x) (.int y) = some (x == y) := by
  simp only [eqTop, deep, PyData.eqv]
theorem e_tru (b : Bool) : truth σ (.bool b) = some b := rfl
theorem e_trs (x : Str) : truth σ (.str x) = some (x.length != 0) := rfl
theorem e_trn : truth σ .none = some false := rfl
theorem e_tri (i : Int) : truth σ (.int i) = some (i != 0) := rfl

theorem q_run0 (nl : Nat) (pms : List MV) (mb : MSs) (vs : List PV) : run T nl 0 pms mb vs σ = match setVs ⟨List.replicate nl none, []⟩ pms vs σ with
  | some (fm, σ₁) => (match exs T mb fm σ₁ with
    | some (r, σ₂) => some (r.2.getD .none, σ₂)
    | none => none)
  | none => none := by
  show bnd (setVs ⟨List.replicate nl none, []⟩ pms vs) (fun fm => bnd (exs T mb fm) fun r => rt (r.2.getD .none)) σ = _
  simp only [bnd]
  rcases setVs ⟨List.replicate nl none, []⟩ pms vs σ with _ | ⟨fm, σ₁⟩
  · rfl
  · dsimp only
    rcases exs T mb fm σ₁ with _ | ⟨r, σ₂⟩ <;> rfl
/-- what a body tells, its last frame left out -/
noncomputable def fin (o : Option ((Fm × Option PV) × St)) : Option (PV × St) := match o with
  | some (r, σ) => some (r.2.getD .none, σ)
  | none => none
theorem q_run {c : CF} {nl : Nat} {pms : List MV} {mb : MSs} (h : c = ⟨nl, 0, pms, mb⟩) {vs : List PV} {fm : Fm} (h1 : setVs ⟨List.replicate nl none, []⟩ pms vs σ = some (fm, σ)) {r : PV × St} (h2 : fin (exs T mb fm σ) = some r) :
    c.run T vs σ = some r := by
  subst h
  show run T nl 0 pms mb vs σ = _
  rw [q_run0, h1]
  rw [← h2]
  dsimp only
  rcases exs T mb fm σ with _ | ⟨r, σ₂⟩ <;> rfl

theorem cut_len {m : M PV} {v : PV} {more : Nat} (h : m σ = some (v, σ')) (_ : σ'.length = σ.length) : cut m more σ = some (v, σ') := h
theorem cut_new {m : M PV} {v : PV} {more : Nat} (h : m σ = some (v, σ')) (_ : σ'.length = σ.length + 1) : cut m more σ = some (v, σ') := h
theorem cut_any {m : M PV} {v : PV} {more : Nat} (h : m σ = some (v, σ')) : cut m more σ = some (v, σ') := h

theorem pure_at {c : CF} {n : Nat} {vs : List PV} {v : PV} {junk : St} (h : c.run T vs [] = some (v, junk)) (hn : (decide (vs.length = n) && vs.all flat && flat v) = true) : pureFn T c n vs [] σ = some (v, σ) := by
  simp only [Bool.and_eq_true] at hn
  unfold pureFn
  rw [if_pos (by simp [hn.1.1, hn.1.2]), h]
  dsimp only
  rw [if_pos hn.2]; rfl
noncomputable def isStr (o : Option (PV × St)) (x : Str) : Bool := match o with
  | some (.str y, _) => y == x
  | _ => false
noncomputable def isInt (o : Option (PV × St)) (x : Int) : Bool := match o with
  | some (.int y, _) => y == x
  | _ => false
set_option tactic.hygienic true in
theorem isStr_some {o : Option (PV × St)} {x : Str} (h : isStr o x = true) : ∃ j, o = some (.str x, j) := by
  unfold isStr at h
  split at h
  · rename_i y j
    obtain rfl : y = x := by simpa using h
    exact ⟨j, rfl⟩
  · cases h
set_option tactic.hygienic true in
theorem isInt_some {o : Option (PV × St)} {x : Int} (h : isInt o x = true) : ∃ j, o = some (.int x, j) := by
  unfold isInt at h
  split at h
  · rename_i y j
    obtain rfl : y = x := by simpa using h
    exact ⟨j, rfl⟩
  · cases h

theorem bi_lower {x : Str} (h : (asc x && fits (low x)) = true) : bi "str.lower" [.str x] [] σ = some (.str (low x), σ) := by
  simp only [Bool.and_eq_true] at h
  show (if (asc x && fits (low x)) = true then rt (PV.str (low x)) else fail) σ = _
  rw [if_pos (by simp [h])]; rfl
theorem bi_upper {x : Str} (h : (asc x && fits (upp x)) = true) : bi "str.upper" [.str x] [] σ = some (.str (upp x), σ) := by
  show (if (asc x && fits (upp x)) = true then rt (PV.str (upp x)) else fail) σ = _
  rw [if_pos h]; rfl
theorem bi_count (x y : Str) : bi "str.count" [.str x, .str y] [] σ = some (.int (Txt.count x y), σ) := rfl
theorem bi_append (l v : PV) : bi "list.append" [l, v] [] σ = bnd (push l v) (fun _ => rt .none) σ := rfl
theorem bi_lens (x : Str) : bi "len" [.str x] [] σ = some (.int x.length, σ) := rfl
theorem bi_lenl {n : Nat} {xs : List PV} (h : σ[n]? = some (.lst xs)) : bi "len" [.obj n] [] σ = some (.int xs.length, σ) := by
  show look (fun σ => (lstAt σ n).map fun xs => PV.int xs.length) σ = _
  simp only [look, lstAt, h, Option.map_some]
theorem bi_join {x : Str} {n : Nat} {ys : List Str} (h : (lstAt σ n).bind strsO = some ys) (h2 : (JoinOk x ys && fits (Txt.join x ys)) = true) : bi "str.join" [.str x, .obj n] [] σ = some (.str (Txt.join x ys), σ) := by
  show (fun σ : St => match (lstAt σ n).bind strsO with
      | some ys => if JoinOk x ys && fits (Txt.join x ys) then some (PV.str (Txt.join x ys), σ) else none
      | none => none) σ = _
  simp only [h, h2, if_true]
theorem push_at {n : Nat} {xs : List PV} {v : PV} (h : σ[n]? = some (.lst xs)) (hl : xs.length ≤ 10000) : push (.obj n) v σ = some ((), σ.set n (.lst (xs ++ [v]))) := by
  simp only [push, lstAt, h, if_pos hl]
end
end Mine
end

section
set_option tactic.hygienic false
namespace Mine
open PySem PyProof.Rows
/-! the turned texts (printed by a program) -/
noncomputable def s_236_0 : MS := (.set [(.one (.loc 1))] (.slc (.call (.cst (.top (.ref 210))) (.cons (.bin .Add (.slc (.slc (.var (.loc 0)) (.cst .none) (.cst (.int 6)) (.cst .none)) (.cst (.int 0)) (.cst .none) (.cst (.int 2))) (.list (.cons (.cst (.int 3)) (.cons (.cst (.int 5)) .nil)))) .nil) .nil) (.cst .none) (.cst (.int 4)) (.cst .none)))
noncomputable def s_236_1 : MS := (.set [(.one (.loc 2))] (.slc (.call (.cst (.top (.ref 210))) (.cons (.bin .Add (.slc (.slc (.var (.loc 0)) (.cst .none) (.cst (.int 6)) (.cst .none)) (.cst (.int 1)) (.cst .none) (.cst (.int 2))) (.list (.cons (.cst (.int 12)) (.cons (.cst (.int 10)) .nil)))) .nil) .nil) (.cst .none) (.cst (.int 4)) (.cst .none)))
noncomputable def s_236_2 : MS := (.set [(.one (.cel 0))] (.call (.cst (.top (.ref 192))) .nil .nil))
noncomputable def s_236_3 : MS := (.set [(.one (.loc 3))] (.list .nil))
noncomputable def s_236_4_0_0 : MS := (.set [(.one (.loc 6))] (.call (.cst (.top (.ref 203))) (.cons (.var (.loc 4)) .nil) .nil))
noncomputable def s_236_4_0_1 : MS := (.set [(.one (.loc 7))] (.call (.cst (.top (.ref 203))) (.cons (.var (.loc 5)) .nil) .nil))
noncomputable def s_236_4_0_2 : MS := (.set [(.one (.loc 8))] (.list (.cons (.bin .Add (.cst (.str "m")) (.call (.cst (.top (.ref 217))) (.cons (.var (.loc 6)) (.cons (.var (.loc 7)) .nil)) .nil)) (.cons (.bin .Add (.cst (.str "n")) (.call (.cst (.top (.ref 217))) (.cons (.var (.loc 7)) (.cons (.var (.loc 6)) .nil)) .nil)) .nil))))
noncomputable def s_236_4_0_3 : MS := (.set [(.one (.loc 9))] (.meth (.cst (.str "")) "join" (.cons (.var (.loc 8)) .nil) .nil))
noncomputable def s_236_4_0_4 : MS := (.set [(.one (.loc 10))] (.bin .Add (.bin .Sub (.call (.cst (.top (.builtin "len"))) (.cons (.var (.loc 9)) .nil) .nil) (.cst (.int 2))) (.meth (.var (.loc 9)) "count" (.cons (.cst (.str "d")) .nil) .nil)))
noncomputable def s_236_4_0_5 : MS := (.cond (.cmp (.call (.cst (.top (.ref 59))) (.cons (.var (.loc 6)) (.cons (.var (.loc 7)) (.cons (.cst (.int 5)) .nil))) .nil) (.cons .NotEq (.var (.loc 10)) .nil)) (.cons (.ret (.cst (.bool false))) .nil) .nil)
noncomputable def s_236_4_0_6 : MS := (.cond (.and (.cmp (.var (.loc 4)) (.cons .Eq (.idx (.var (.loc 1)) (.cst (.int 0))) .nil)) (.cmp (.var (.loc 8)) (.cons .NotEq (.list (.cons (.bin .Add (.cst (.str "m")) (.call (.cst (.top (.ref 224))) (.cons (.var (.loc 4)) (.cons (.var (.loc 5)) .nil)) .nil)) (.cons (.bin .Add (.cst (.str "n")) (.call (.cst (.top (.ref 224))) (.cons (.var (.loc 5)) (.cons (.var (.loc 4)) .nil)) .nil)) .nil))) .nil))) (.cons (.ret (.cst (.bool false))) .nil) .nil)
noncomputable def s_236_4_0_7_0 : MS := (.set [(.one (.loc 13))] (.ite (.bin .Mod (.call (.cst (.top (.builtin "len"))) (.cons (.meth (.var (.cel 0)) "keys" .nil .nil) .nil) .nil) (.cst (.int 2))) (.meth (.var (.loc 11)) "upper" .nil .nil) (.var (.loc 11))))
noncomputable def s_236_4_0_7_1 : MS := (.cond (.cmp (.meth (.var (.cel 0)) "setdefault" (.cons (.var (.loc 13)) (.cons (.var (.loc 12)) .nil)) .nil) (.cons .NotEq (.call (.cst (.top (.ref 231))) (.cons (.var (.loc 3)) (.cons (.var (.loc 11)) (.cons (.var (.loc 12)) .nil))) .nil) .nil)) (.cons (.ret (.cst (.bool false))) .nil) .nil)
noncomputable def b_236_4_0_7 : MSs := (.cons s_236_4_0_7_0 (.cons s_236_4_0_7_1 .nil))
noncomputable def s_236_4_0_7 : MS := (.loop (.tup [(.loc 11), (.loc 12)]) (.zip (.cons (.var (.loc 8)) (.cons (.list (.cons (.var (.loc 6)) (.cons (.var (.loc 7)) .nil))) .nil))) b_236_4_0_7)
noncomputable def b_236_4_0 : MSs := (.cons s_236_4_0_0 (.cons s_236_4_0_1 (.cons s_236_4_0_2 (.cons s_236_4_0_3 (.cons s_236_4_0_4 (.cons s_236_4_0_5 (.cons s_236_4_0_6 (.cons s_236_4_0_7 .nil))))))))
noncomputable def s_236_4_0 : MS := (.loop (.one (.loc 5)) (.val (.var (.loc 2))) b_236_4_0)
noncomputable def b_236_4 : MSs := (.cons s_236_4_0 .nil)
noncomputable def s_236_4 : MS := (.loop (.one (.loc 4)) (.val (.var (.loc 1))) b_236_4)
noncomputable def s_236_5 : MS := (.cond (.cmp (.comp 3 0 [] (.val (.meth (.var (.cel 0)) "items" .nil .nil)) (.lvl (.tup [(.loc 1), (.loc 2)]) .nil (.elt (.tup (.cons (.meth (.var (.loc 1)) "lower" .nil .nil) (.cons (.var (.loc 2)) .nil)))))) (.cons .NotEq (.var (.loc 3)) .nil)) (.cons (.ret (.cst (.bool false))) .nil) .nil)
noncomputable def s_236_6 : MS := (.cond (.cmp (.comp 3 0 [0] (.val (.var (.loc 3))) (.lvl (.tup [(.loc 1), (.loc 2)]) .nil (.elt (.meth (.var (.cel 0)) "get" (.cons (.meth (.var (.loc 1)) "upper" .nil .nil) .nil) .nil)))) (.cons .NotEq (.comp 3 0 [] (.val (.var (.loc 3))) (.lvl (.tup [(.loc 1), (.loc 2)]) .nil (.elt (.var (.loc 2))))) .nil)) (.cons (.ret (.cst (.bool false))) .nil) .nil)
noncomputable def s_236_7 : MS := (.set [(.one (.loc 14))] (.call (.cst (.top (.builtin "len"))) (.cons (.comp 2 0 [] (.val (.meth (.var (.cel 0)) "keys" .nil .nil)) (.lvl (.one (.loc 1)) (.cons (.cmp (.idx (.var (.loc 1)) (.cst (.int 0))) (.cons .In (.cst (.str "mM")) .nil)) .nil) (.elt (.var (.loc 1))))) .nil) .nil))
noncomputable def s_236_8 : MS := (.ret (.cmp (.bin .Mult (.var (.loc 14)) (.bin .Sub (.call (.cst (.top (.builtin "len"))) (.cons (.meth (.var (.cel 0)) "keys" .nil .nil) .nil) .nil) (.var (.loc 14)))) (.cons .GtE (.bin .Mult (.call (.cst (.top (.builtin "len"))) (.cons (.var (.loc 1)) .nil) .nil) (.call (.cst (.top (.builtin "len"))) (.cons (.var (.loc 2)) .nil) .nil)) .nil)))
noncomputable def b_236 : MSs := (.cons s_236_0 (.cons s_236_1 (.cons s_236_2 (.cons s_236_3 (.cons s_236_4 (.cons s_236_5 (.cons s_236_6 (.cons s_236_7 (.cons s_236_8 .nil)))))))))
noncomputable def k_236 : CF := ⟨15, 1, [(.loc 0)], b_236⟩
noncomputable def s_210_0 : MS := (.set [(.one (.loc 1))] (.list .nil))
noncomputable def s_210_1_0 : MS := (.cond (.cmp (.bin .Mod (.var (.loc 2)) (.cst (.int 16))) (.cons .NotIn (.var (.loc 1)) .nil)) (.cons (.expr (.meth (.var (.loc 1)) "append" (.cons (.bin .Mod (.var (.loc 2)) (.cst (.int 16))) .nil) .nil)) .nil) .nil)
noncomputable def b_210_1 : MSs := (.cons s_210_1_0 .nil)
noncomputable def s_210_1 : MS := (.loop (.one (.loc 2)) (.val (.var (.loc 0))) b_210_1)
noncomputable def s_210_2 : MS := (.ret (.var (.loc 1)))
noncomputable def b_210 : MSs := (.cons s_210_0 (.cons s_210_1 (.cons s_210_2 .nil)))
noncomputable def k_210 : CF := ⟨3, 0, [(.loc 0)], b_210⟩
noncomputable def s_231_0_0 : MS := (.cond (.cmp (.var (.loc 3)) (.cons .Eq (.var (.loc 1)) .nil)) (.cons (.ret (.var (.loc 4))) .nil) .nil)
noncomputable def b_231_0 : MSs := (.cons s_231_0_0 .nil)
noncomputable def s_231_0 : MS := (.loop (.tup [(.loc 3), (.loc 4)]) (.val (.var (.loc 0))) b_231_0)
noncomputable def s_231_1 : MS := (.expr (.meth (.var (.loc 0)) "append" (.cons (.tup (.cons (.var (.loc 1)) (.cons (.var (.loc 2)) .nil))) .nil) .nil))
noncomputable def s_231_2 : MS := (.ret (.var (.loc 2)))
noncomputable def b_231 : MSs := (.cons s_231_0 (.cons s_231_1 (.cons s_231_2 .nil)))
noncomputable def k_231 : CF := ⟨5, 0, [(.loc 0), (.loc 1), (.loc 2)], b_231⟩
noncomputable def s_84_0 : MS := (.set [(.one (.loc 1))] (.ite (.cmp (.var (.loc 1)) (.cons .IsNot (.cst .none) .nil)) (.var (.loc 1)) (.list .nil)))
noncomputable def s_84_1 : MS := (.cond (.cmp (.call (.cst (.top (.type "type"))) (.cons (.var (.loc 1)) .nil) .nil) (.cons .IsNot (.cst (.top (.type "list"))) .nil)) (.cons .bad .nil) .nil)
noncomputable def s_84_2 : MS := (.seta (.var (.loc 0)) "_headers" (.var (.loc 1)))
noncomputable def s_84_3t_0_0 : MS := (.expr (.meth (.var (.loc 0)) "_convert_string_type" (.cons (.var (.loc 2)) .nil) (.cons "name" (.cst (.bool true)) .nil)))
noncomputable def s_84_3t_0_1 : MS := (.expr (.meth (.var (.loc 0)) "_convert_string_type" (.cons (.var (.loc 3)) .nil) (.cons "name" (.cst (.bool false)) .nil)))
noncomputable def b_84_3t_0 : MSs := (.cons s_84_3t_0_0 (.cons s_84_3t_0_1 .nil))
noncomputable def s_84_3t_0 : MS := (.loop (.tup [(.loc 2), (.loc 3)]) (.val (.var (.loc 1))) b_84_3t_0)
noncomputable def b_84_3t : MSs := (.cons s_84_3t_0 .nil)
noncomputable def s_84_3 : MS := (.cond (.cst (.bool true)) b_84_3t .nil)
noncomputable def b_84 : MSs := (.cons s_84_0 (.cons s_84_1 (.cons s_84_2 (.cons s_84_3 .nil))))
noncomputable def k_84 : CF := ⟨4, 0, [(.loc 0), (.loc 1)], b_84⟩
noncomputable def s_91_0 : MS := (.cond (.cmp (.call (.cst (.top (.type "type"))) (.cons (.var (.loc 1)) .nil) .nil) (.cons .Is (.cst (.top (.type "str"))) .nil)) (.cons (.set [(.one (.loc 3))] (.ite (.var (.loc 2)) (.cst (.top (.ref 64))) (.cst (.top (.ref 69))))) (.cons (.cond (.meth (.var (.loc 3)) "search" (.cons (.var (.loc 1)) .nil) .nil) (.cons .bad .nil) .nil) (.cons (.ret (.var (.loc 1))) .nil))) .nil)
noncomputable def s_91_1 : MS := .bad
noncomputable def b_91 : MSs := (.cons s_91_0 (.cons s_91_1 .nil))
noncomputable def k_91 : CF := ⟨4, 0, [(.loc 0), (.loc 1), (.loc 2)], b_91⟩
noncomputable def s_139_0 : MS := (.set [(.one (.loc 1))] (.meth (.var (.loc 0)) "_convert_string_type" (.cons (.meth (.var (.loc 1)) "lower" .nil .nil) .nil) (.cons "name" (.cst (.bool true)) .nil)))
noncomputable def s_139_1_0 : MS := (.cond (.cmp (.meth (.var (.loc 3)) "lower" .nil .nil) (.cons .Eq (.var (.loc 1)) .nil)) (.cons (.ret (.var (.loc 4))) .nil) .nil)
noncomputable def b_139_1 : MSs := (.cons s_139_1_0 .nil)
noncomputable def s_139_1 : MS := (.loop (.tup [(.loc 3), (.loc 4)]) (.val (.attr (.var (.loc 0)) "_headers")) b_139_1)
noncomputable def s_139_2 : MS := (.ret (.var (.loc 2)))
noncomputable def b_139 : MSs := (.cons s_139_0 (.cons s_139_1 (.cons s_139_2 .nil)))
noncomputable def k_139 : CF := ⟨5, 0, [(.loc 0), (.loc 1), (.loc 2)], b_139⟩
noncomputable def s_144_0 : MS := (.ret (.comp 3 0 [] (.val (.attr (.var (.loc 0)) "_headers")) (.lvl (.tup [(.loc 1), (.loc 2)]) .nil (.elt (.var (.loc 1))))))
noncomputable def b_144 : MSs := (.cons s_144_0 .nil)
noncomputable def k_144 : CF := ⟨1, 0, [(.loc 0)], b_144⟩
noncomputable def s_156_0 : MS := (.ret (.slc (.attr (.var (.loc 0)) "_headers") (.cst .none) (.cst .none) (.cst .none)))
noncomputable def b_156 : MSs := (.cons s_156_0 .nil)
noncomputable def k_156 : CF := ⟨1, 0, [(.loc 0)], b_156⟩
noncomputable def s_182_0 : MS := (.set [(.one (.loc 3))] (.meth (.var (.loc 0)) "get" (.cons (.var (.loc 1)) .nil) .nil))
noncomputable def s_182_1 : MS := (.cond (.cmp (.var (.loc 3)) (.cons .Is (.cst .none) .nil)) (.cons (.expr (.meth (.attr (.var (.loc 0)) "_headers") "append" (.cons (.tup (.cons (.meth (.var (.loc 0)) "_convert_string_type" (.cons (.var (.loc 1)) .nil) (.cons "name" (.cst (.bool true)) .nil)) (.cons (.meth (.var (.loc 0)) "_convert_string_type" (.cons (.var (.loc 2)) .nil) (.cons "name" (.cst (.bool false)) .nil)) .nil))) .nil) .nil)) (.cons (.ret (.var (.loc 2))) .nil)) (.cons (.ret (.var (.loc 3))) .nil))
noncomputable def b_182 : MSs := (.cons s_182_0 (.cons s_182_1 .nil))
noncomputable def k_182 : CF := ⟨4, 0, [(.loc 0), (.loc 1), (.loc 2)], b_182⟩
theorem ke_236 : cf 236 ["script"] = k_236 := by kernel_rfl
theorem ke_210 : cf 210 ["numbers"] = k_210 := by kernel_rfl
theorem ke_231 : cf 231 ["found", "name", "word"] = k_231 := by kernel_rfl
theorem ke_84 : cf 84 ["self", "headers"] = k_84 := by kernel_rfl
theorem ke_91 : cf 91 ["self", "value", "name"] = k_91 := by kernel_rfl
theorem ke_139 : cf 139 ["self", "name", "default"] = k_139 := by kernel_rfl
theorem ke_144 : cf 144 ["self"] = k_144 := by kernel_rfl
theorem ke_156 : cf 156 ["self"] = k_156 := by kernel_rfl
theorem ke_182 : cf 182 ["self", "name", "value"] = k_182 := by kernel_rfl

/-! what the tables answer -/
section
variable {σ : St} {vs : List PV} {kvs : List (Str × PV)}
theorem Tr_len : Tr.ap (.top (.builtin "len")) vs kvs = bi "len" vs kvs := by kernel_rfl
theorem Tr_str_lower : Tr.ap (.top (.builtin "str.lower")) vs kvs = bi "str.lower" vs kvs := by kernel_rfl
theorem Tr_str_upper : Tr.ap (.top (.builtin "str.upper")) vs kvs = bi "str.upper" vs kvs := by kernel_rfl
theorem Tr_str_count : Tr.ap (.top (.builtin "str.count")) vs kvs = bi "str.count" vs kvs := by kernel_rfl
theorem Tr_str_join : Tr.ap (.top (.builtin "str.join")) vs kvs = bi "str.join" vs kvs := by kernel_rfl
theorem Tr_list_append : Tr.ap (.top (.builtin "list.append")) vs kvs = bi "list.append" vs kvs := by kernel_rfl
theorem Tr_type : Tr.ap (.top (.type "type")) vs kvs = ty "type" vs kvs := rfl
theorem Tr_m_lower (x : Str) : Tr.mt σ (.str x) "lower" = some (.builtin "str.lower") := by kernel_rfl
theorem Tr_m_upper (x : Str) : Tr.mt σ (.str x) "upper" = some (.builtin "str.upper") := by kernel_rfl
theorem Tr_m_count (x : Str) : Tr.mt σ (.str x) "count" = some (.builtin "str.count") := by kernel_rfl
theorem Tr_m_join (x : Str) : Tr.mt σ (.str x) "join" = some (.builtin "str.join") := by kernel_rfl
theorem Tr_m_append {n : Nat} {xs : List PV} (h : σ[n]? = some (.lst xs)) : Tr.mt σ (.obj n) "append" = some (.builtin "list.append") := by
  simp only [Tr, Tb, Ta, T0, addFn, addMt, addAt, addRe, mt0, lstAt, h]; kernel_rfl
theorem Tr_at : Tr.at_ 192 "_headers" = true := by kernel_rfl
theorem Tc_len : Tc.ap (.top (.builtin "len")) vs kvs = bi "len" vs kvs := by kernel_rfl
theorem Tc_str_lower : Tc.ap (.top (.builtin "str.lower")) vs kvs = bi "str.lower" vs kvs := by kernel_rfl
theorem Tc_str_upper : Tc.ap (.top (.builtin "str.upper")) vs kvs = bi "str.upper" vs kvs := by kernel_rfl
theorem Tc_str_count : Tc.ap (.top (.builtin "str.count")) vs kvs = bi "str.count" vs kvs := by kernel_rfl
theorem Tc_str_join : Tc.ap (.top (.builtin "str.join")) vs kvs = bi "str.join" vs kvs := by kernel_rfl
theorem Tc_list_append : Tc.ap (.top (.builtin "list.append")) vs kvs = bi "list.append" vs kvs := by kernel_rfl
theorem Tc_type : Tc.ap (.top (.type "type")) vs kvs = ty "type" vs kvs := rfl
theorem Tc_m_lower (x : Str) : Tc.mt σ (.str x) "lower" = some (.builtin "str.lower") := by kernel_rfl
theorem Tc_m_upper (x : Str) : Tc.mt σ (.str x) "upper" = some (.builtin "str.upper") := by kernel_rfl
theorem Tc_m_count (x : Str) : Tc.mt σ (.str x) "count" = some (.builtin "str.count") := by kernel_rfl
theorem Tc_m_join (x : Str) : Tc.mt σ (.str x) "join" = some (.builtin "str.join") := by kernel_rfl
theorem Tc_m_append {n : Nat} {xs : List PV} (h : σ[n]? = some (.lst xs)) : Tc.mt σ (.obj n) "append" = some (.builtin "list.append") := by
  simp only [Tc, Tr, Tb, Ta, T0, addFn, addMt, addAt, addRe, mt0, lstAt, h]; kernel_rfl
theorem Tc_at : Tc.at_ 192 "_headers" = true := by kernel_rfl
theorem Td_len : Td.ap (.top (.builtin "len")) vs kvs = bi "len" vs kvs := by kernel_rfl
theorem Td_str_lower : Td.ap (.top (.builtin "str.lower")) vs kvs = bi "str.lower" vs kvs := by kernel_rfl
theorem Td_str_upper : Td.ap (.top (.builtin "str.upper")) vs kvs = bi "str.upper" vs kvs := by kernel_rfl
theorem Td_str_count : Td.ap (.top (.builtin "str.count")) vs kvs = bi "str.count" vs kvs := by kernel_rfl
theorem Td_str_join : Td.ap (.top (.builtin "str.join")) vs kvs = bi "str.join" vs kvs := by kernel_rfl
theorem Td_list_append : Td.ap (.top (.builtin "list.append")) vs kvs = bi "list.append" vs kvs := by kernel_rfl
theorem Td_type : Td.ap (.top (.type "type")) vs kvs = ty "type" vs kvs := rfl
theorem Td_m_lower (x : Str) : Td.mt σ (.str x) "lower" = some (.builtin "str.lower") := by kernel_rfl
theorem Td_m_upper (x : Str) : Td.mt σ (.str x) "upper" = some (.builtin "str.upper") := by kernel_rfl
theorem Td_m_count (x : Str) : Td.mt σ (.str x) "count" = some (.builtin "str.count") := by kernel_rfl
theorem Td_m_join (x : Str) : Td.mt σ (.str x) "join" = some (.builtin "str.join") := by kernel_rfl
theorem Td_m_append {n : Nat} {xs : List PV} (h : σ[n]? = some (.lst xs)) : Td.mt σ (.obj n) "append" = some (.builtin "list.append") := by
  simp only [Td, Tc, Tr, Tb, Ta, T0, addFn, addMt, addAt, addRe, mt0, lstAt, h]; kernel_rfl
theorem Td_at : Td.at_ 192 "_headers" = true := by kernel_rfl
theorem Te_len : Te.ap (.top (.builtin "len")) vs kvs = bi "len" vs kvs := by kernel_rfl
theorem Te_str_lower : Te.ap (.top (.builtin "str.lower")) vs kvs = bi "str.lower" vs kvs := by kernel_rfl
theorem Te_str_upper : Te.ap (.top (.builtin "str.upper")) vs kvs = bi "str.upper" vs kvs := by kernel_rfl
theorem Te_str_count : Te.ap (.top (.builtin "str.count")) vs kvs = bi "str.count" vs kvs := by kernel_rfl
theorem Te_str_join : Te.ap (.top (.builtin "str.join")) vs kvs = bi "str.join" vs kvs := by kernel_rfl
theorem Te_list_append : Te.ap (.top (.builtin "list.append")) vs kvs = bi "list.append" vs kvs := by kernel_rfl
theorem Te_type : Te.ap (.top (.type "type")) vs kvs = ty "type" vs kvs := rfl
theorem Te_m_lower (x : Str) : Te.mt σ (.str x) "lower" = some (.builtin "str.lower") := by kernel_rfl
theorem Te_m_upper (x : Str) : Te.mt σ (.str x) "upper" = some (.builtin "str.upper") := by kernel_rfl
theorem Te_m_count (x : Str) : Te.mt σ (.str x) "count" = some (.builtin "str.count") := by kernel_rfl
theorem Te_m_join (x : Str) : Te.mt σ (.str x) "join" = some (.builtin "str.join") := by kernel_rfl
theorem Te_m_append {n : Nat} {xs : List PV} (h : σ[n]? = some (.lst xs)) : Te.mt σ (.obj n) "append" = some (.builtin "list.append") := by
  simp only [Te, Td, Tc, Tr, Tb, Ta, T0, addFn, addMt, addAt, addRe, mt0, lstAt, h]; kernel_rfl
theorem Te_at : Te.at_ 192 "_headers" = true := by kernel_rfl
theorem Tr_m_91 {n : Nat} {v : PV} (h : σ[n]? = some (.inst 192 [("_headers", v)])) : Tr.mt σ (.obj n) "_convert_string_type" = some (.ref 91) := by
  simp only [Tr, Tb, Ta, T0, addFn, addMt, addAt, addRe, mt0, lstAt, h]; kernel_rfl
theorem Tc_m_91 {n : Nat} {v : PV} (h : σ[n]? = some (.inst 192 [("_headers", v)])) : Tc.mt σ (.obj n) "_convert_string_type" = some (.ref 91) := by
  simp only [Tc, Tr, Tb, Ta, T0, addFn, addMt, addAt, addRe, mt0, lstAt, h]; kernel_rfl
theorem Td_m_91 {n : Nat} {v : PV} (h : σ[n]? = some (.inst 192 [("_headers", v)])) : Td.mt σ (.obj n) "_convert_string_type" = some (.ref 91) := by
  simp only [Td, Tc, Tr, Tb, Ta, T0, addFn, addMt, addAt, addRe, mt0, lstAt, h]; kernel_rfl
theorem Td_m_139 {n : Nat} {v : PV} (h : σ[n]? = some (.inst 192 [("_headers", v)])) : Td.mt σ (.obj n) "get" = some (.ref 139) := by
  simp only [Td, Tc, Tr, Tb, Ta, T0, addFn, addMt, addAt, addRe, mt0, lstAt, h]; kernel_rfl
theorem Td_m_144 {n : Nat} {v : PV} (h : σ[n]? = some (.inst 192 [("_headers", v)])) : Td.mt σ (.obj n) "keys" = some (.ref 144) := by
  simp only [Td, Tc, Tr, Tb, Ta, T0, addFn, addMt, addAt, addRe, mt0, lstAt, h]; kernel_rfl
theorem Td_m_156 {n : Nat} {v : PV} (h : σ[n]? = some (.inst 192 [("_headers", v)])) : Td.mt σ (.obj n) "items" = some (.ref 156) := by
  simp only [Td, Tc, Tr, Tb, Ta, T0, addFn, addMt, addAt, addRe, mt0, lstAt, h]; kernel_rfl
theorem Td_m_182 {n : Nat} {v : PV} (h : σ[n]? = some (.inst 192 [("_headers", v)])) : Td.mt σ (.obj n) "setdefault" = some (.ref 182) := by
  simp only [Td, Tc, Tr, Tb, Ta, T0, addFn, addMt, addAt, addRe, mt0, lstAt, h]; kernel_rfl
theorem Te_m_91 {n : Nat} {v : PV} (h : σ[n]? = some (.inst 192 [("_headers", v)])) : Te.mt σ (.obj n) "_convert_string_type" = some (.ref 91) := by
  simp only [Te, Td, Tc, Tr, Tb, Ta, T0, addFn, addMt, addAt, addRe, mt0, lstAt, h]; kernel_rfl
theorem Te_m_139 {n : Nat} {v : PV} (h : σ[n]? = some (.inst 192 [("_headers", v)])) : Te.mt σ (.obj n) "get" = some (.ref 139) := by
  simp only [Te, Td, Tc, Tr, Tb, Ta, T0, addFn, addMt, addAt, addRe, mt0, lstAt, h]; kernel_rfl
theorem Te_m_144 {n : Nat} {v : PV} (h : σ[n]? = some (.inst 192 [("_headers", v)])) : Te.mt σ (.obj n) "keys" = some (.ref 144) := by
  simp only [Te, Td, Tc, Tr, Tb, Ta, T0, addFn, addMt, addAt, addRe, mt0, lstAt, h]; kernel_rfl
theorem Te_m_156 {n : Nat} {v : PV} (h : σ[n]? = some (.inst 192 [("_headers", v)])) : Te.mt σ (.obj n) "items" = some (.ref 156) := by
  simp only [Te, Td, Tc, Tr, Tb, Ta, T0, addFn, addMt, addAt, addRe, mt0, lstAt, h]; kernel_rfl
theorem Te_m_182 {n : Nat} {v : PV} (h : σ[n]? = some (.inst 192 [("_headers", v)])) : Te.mt σ (.obj n) "setdefault" = some (.ref 182) := by
  simp only [Te, Td, Tc, Tr, Tb, Ta, T0, addFn, addMt, addAt, addRe, mt0, lstAt, h]; kernel_rfl
theorem Tr_m_search (a : Addr) (h : (a == 64 || a == 69) = true) : Tr.mt σ (.top (.ref a)) "search" = some (.builtin "re.Pattern.search") := by
  simp only [Bool.or_eq_true, beq_iff_eq] at h
  rcases h with rfl | rfl <;> kernel_rfl
theorem Tr_search (a : Addr) (x : Str) (h : (a == 64 || a == 69) = true) (hx : (prn x && fits x) = true) : Tr.ap (.top (.builtin "re.Pattern.search")) [.top (.ref a), .str x] [] σ = some (.none, σ) := by
  have e : Tr.ap (.top (.builtin "re.Pattern.search")) [.top (.ref a), .str x] [] = if (([64, 69] : List Addr).contains a && prn x && fits x) = true then rt .none else fail := by kernel_rfl
  rw [e, if_pos]
  · rfl
  · simp only [Bool.and_eq_true] at hx ⊢
    refine ⟨⟨?_, hx.1⟩, hx.2⟩
    simp only [Bool.or_eq_true, beq_iff_eq] at h
    rcases h with rfl | rfl <;> rfl
theorem Tc_91 : Tc.ap (.top (.ref 91)) vs kvs = cl Tr 91 ["self", "value", "name"] (bdK 2 "name") 0 vs kvs := rfl
theorem Td_91 : Td.ap (.top (.ref 91)) vs kvs = cl Tr 91 ["self", "value", "name"] (bdK 2 "name") 0 vs kvs := rfl
theorem Td_139 : Td.ap (.top (.ref 139)) vs kvs = cl Tc 139 ["self", "name", "default"] (bdD 2) 0 vs kvs := rfl
theorem Td_210 : Td.ap (.top (.ref 210)) vs kvs = cl Tc 210 ["numbers"] (bdN 1) 1 vs kvs := rfl
theorem Td_84 : Td.ap (.top (.ref 84)) vs kvs = cl Tc 84 ["self", "headers"] (bdD 1) 1 vs kvs := rfl
theorem Td_144 : Td.ap (.top (.ref 144)) vs kvs = cl Tc 144 ["self"] (bdN 1) 1 vs kvs := rfl
theorem Td_156 : Td.ap (.top (.ref 156)) vs kvs = cl Tc 156 ["self"] (bdN 1) 1 vs kvs := rfl
theorem Td_231 : Td.ap (.top (.ref 231)) vs kvs = cl Tc 231 ["found", "name", "word"] (bdN 3) 0 vs kvs := rfl
theorem Te_91 : Te.ap (.top (.ref 91)) vs kvs = cl Tr 91 ["self", "value", "name"] (bdK 2 "name") 0 vs kvs := rfl
theorem Te_139 : Te.ap (.top (.ref 139)) vs kvs = cl Tc 139 ["self", "name", "default"] (bdD 2) 0 vs kvs := rfl
theorem Te_210 : Te.ap (.top (.ref 210)) vs kvs = cl Tc 210 ["numbers"] (bdN 1) 1 vs kvs := rfl
theorem Te_84 : Te.ap (.top (.ref 84)) vs kvs = cl Tc 84 ["self", "headers"] (bdD 1) 1 vs kvs := rfl
theorem Te_144 : Te.ap (.top (.ref 144)) vs kvs = cl Tc 144 ["self"] (bdN 1) 1 vs kvs := rfl
theorem Te_156 : Te.ap (.top (.ref 156)) vs kvs = cl Tc 156 ["self"] (bdN 1) 1 vs kvs := rfl
theorem Te_231 : Te.ap (.top (.ref 231)) vs kvs = cl Tc 231 ["found", "name", "word"] (bdN 3) 0 vs kvs := rfl
theorem Te_182 : Te.ap (.top (.ref 182)) vs kvs = cl Td 182 ["self", "name", "value"] (bdN 3) 0 vs kvs := rfl
theorem Te_192 : Te.ap (.top (.ref 192)) vs kvs = newFn 192 (cl Tc 84 ["self", "headers"] (bdD 1) 1) vs kvs := rfl
theorem Te_203 : Te.ap (.top (.ref 203)) vs kvs = pureFn T0 (cf 203 ["number"]) 1 vs kvs := rfl
theorem Te_224 : Te.ap (.top (.ref 224)) vs kvs = pureFn T0 (cf 224 ["here", "there"]) 2 vs kvs := rfl
theorem Te_217 : Te.ap (.top (.ref 217)) vs kvs = pureFn Ta (cf 217 ["here", "there"]) 2 vs kvs := rfl
theorem Te_59 : Te.ap (.top (.ref 59)) vs kvs = pureFn Ta (cf 59 ["a", "b", "max_cost"]) 3 vs kvs := rfl
end
end Mine
end

section
set_option tactic.hygienic false
namespace Mine
open PySem PyProof.Rows
/-! the turned texts of the plain helpers (printed by a program) -/
noncomputable def s_45_0 : MS := (.ret (.bin .Sub (.cmp (.var (.loc 0)) (.cons .Gt (.var (.loc 1)) .nil)) (.cmp (.var (.loc 0)) (.cons .Lt (.var (.loc 1)) .nil))))
noncomputable def b_45 : MSs := (.cons s_45_0 .nil)
noncomputable def k_45 : CF := ⟨2, 0, [(.loc 0), (.loc 1)], b_45⟩
noncomputable def s_52_0 : MS := (.cond (.cmp (.var (.loc 0)) (.cons .Eq (.var (.loc 1)) .nil)) (.cons (.ret (.cst (.int 0))) .nil) .nil)
noncomputable def s_52_1 : MS := (.cond (.cmp (.meth (.var (.loc 0)) "lower" .nil .nil) (.cons .Eq (.meth (.var (.loc 1)) "lower" .nil .nil) .nil)) (.cons (.ret (.cst (.int 1))) .nil) .nil)
noncomputable def s_52_2 : MS := (.ret (.cst (.int 2)))
noncomputable def b_52 : MSs := (.cons s_52_0 (.cons s_52_1 (.cons s_52_2 .nil)))
noncomputable def k_52 : CF := ⟨2, 0, [(.loc 0), (.loc 1)], b_52⟩
noncomputable def s_203_0 : MS := (.set [(.one (.loc 1))] (.cst (.str "")))
noncomputable def s_203_1_0 : MS := (.aug (.loc 1) .Add (.ite (.bin .Mod (.bin .FloorDiv (.var (.loc 0)) (.var (.loc 2))) (.cst (.int 2))) (.var (.loc 3)) (.var (.loc 4))))
noncomputable def b_203_1 : MSs := (.cons s_203_1_0 .nil)
noncomputable def s_203_1 : MS := (.loop (.tup [(.loc 2), (.loc 3), (.loc 4)]) (.val (.list (.cons (.tup (.cons (.cst (.int 8)) (.cons (.cst (.str "A")) (.cons (.cst (.str "a")) .nil)))) (.cons (.tup (.cons (.cst (.int 4)) (.cons (.cst (.str "B")) (.cons (.cst (.str "b")) .nil)))) (.cons (.tup (.cons (.cst (.int 2)) (.cons (.cst (.str "C")) (.cons (.cst (.str "c")) .nil)))) (.cons (.tup (.cons (.cst (.int 1)) (.cons (.cst (.str "e")) (.cons (.cst (.str "")) .nil)))) .nil)))))) b_203_1)
noncomputable def s_203_2 : MS := (.ret (.var (.loc 1)))
noncomputable def b_203 : MSs := (.cons s_203_0 (.cons s_203_1 (.cons s_203_2 .nil)))
noncomputable def k_203 : CF := ⟨5, 0, [(.loc 0)], b_203⟩
noncomputable def s_224_0 : MS := (.set [(.one (.loc 2))] (.cst (.str "")))
noncomputable def s_224_1_0 : MS := (.cond (.cmp (.bin .Mod (.bin .FloorDiv (.var (.loc 0)) (.var (.loc 4))) (.cst (.int 2))) (.cons .Gt (.bin .Mod (.bin .FloorDiv (.var (.loc 1)) (.var (.loc 4))) (.cst (.int 2))) .nil)) (.cons (.aug (.loc 2) .Add (.var (.loc 3))) .nil) .nil)
noncomputable def b_224_1 : MSs := (.cons s_224_1_0 .nil)
noncomputable def s_224_1 : MS := (.loop (.tup [(.loc 3), (.loc 4)]) (.val (.list (.cons (.tup (.cons (.cst (.str "a")) (.cons (.cst (.int 8)) .nil))) (.cons (.tup (.cons (.cst (.str "b")) (.cons (.cst (.int 4)) .nil))) (.cons (.tup (.cons (.cst (.str "c")) (.cons (.cst (.int 2)) .nil))) (.cons (.tup (.cons (.cst (.str "d")) (.cons (.cst (.int 1)) .nil))) .nil)))))) b_224_1)
noncomputable def s_224_2 : MS := (.ret (.var (.loc 2)))
noncomputable def b_224 : MSs := (.cons s_224_0 (.cons s_224_1 (.cons s_224_2 .nil)))
noncomputable def k_224 : CF := ⟨5, 0, [(.loc 0), (.loc 1)], b_224⟩
noncomputable def s_59_0 : MS := (.cond (.cmp (.var (.loc 0)) (.cons .Eq (.var (.loc 1)) .nil)) (.cons (.ret (.cst (.int 0))) .nil) .nil)
noncomputable def s_59_1 : MS := (.set [(.one (.loc 3))] (.cst (.int 0)))
noncomputable def s_59_2_0 : MS := (.aug (.loc 3) .Add (.cst (.int 1)))
noncomputable def b_59_2 : MSs := (.cons s_59_2_0 .nil)
noncomputable def s_59_2 : MS := (.whil (.and (.slc (.var (.loc 0)) (.var (.loc 3)) (.cst .none) (.cst .none)) (.and (.slc (.var (.loc 1)) (.var (.loc 3)) (.cst .none) (.cst .none)) (.cmp (.idx (.var (.loc 0)) (.var (.loc 3))) (.cons .Eq (.idx (.var (.loc 1)) (.var (.loc 3))) .nil)))) b_59_2)
noncomputable def s_59_3 : MS := (.set [(.one (.loc 0))] (.slc (.var (.loc 0)) (.var (.loc 3)) (.cst .none) (.cst .none)))
noncomputable def s_59_4 : MS := (.set [(.one (.loc 1))] (.slc (.var (.loc 1)) (.var (.loc 3)) (.cst .none) (.cst .none)))
noncomputable def s_59_5 : MS := (.set [(.one (.loc 4))] (.cst (.int 0)))
noncomputable def s_59_6_0 : MS := (.aug (.loc 4) .Sub (.cst (.int 1)))
noncomputable def b_59_6 : MSs := (.cons s_59_6_0 .nil)
noncomputable def s_59_6 : MS := (.whil (.and (.slc (.var (.loc 0)) (.cst .none) (.or (.var (.loc 4)) (.cst .none)) (.cst .none)) (.and (.slc (.var (.loc 1)) (.cst .none) (.or (.var (.loc 4)) (.cst .none)) (.cst .none)) (.cmp (.idx (.var (.loc 0)) (.bin .Sub (.var (.loc 4)) (.cst (.int 1)))) (.cons .Eq (.idx (.var (.loc 1)) (.bin .Sub (.var (.loc 4)) (.cst (.int 1)))) .nil)))) b_59_6)
noncomputable def s_59_7 : MS := (.set [(.one (.loc 0))] (.slc (.var (.loc 0)) (.cst .none) (.or (.var (.loc 4)) (.cst .none)) (.cst .none)))
noncomputable def s_59_8 : MS := (.set [(.one (.loc 1))] (.slc (.var (.loc 1)) (.cst .none) (.or (.var (.loc 4)) (.cst .none)) (.cst .none)))
noncomputable def s_59_9 : MS := (.cond (.or (.not (.var (.loc 0))) (.not (.var (.loc 1)))) (.cons (.ret (.bin .Mult (.cst (.int 2)) (.bin .Add (.call (.cst (.top (.builtin "len"))) (.cons (.var (.loc 0)) .nil) .nil) (.call (.cst (.top (.builtin "len"))) (.cons (.var (.loc 1)) .nil) .nil)))) .nil) .nil)
noncomputable def s_59_10 : MS := (.cond (.or (.cmp (.call (.cst (.top (.builtin "len"))) (.cons (.var (.loc 0)) .nil) .nil) (.cons .Gt (.cst (.int 40)) .nil)) (.cmp (.call (.cst (.top (.builtin "len"))) (.cons (.var (.loc 1)) .nil) .nil) (.cons .Gt (.cst (.int 40)) .nil))) (.cons (.ret (.bin .Add (.var (.loc 2)) (.cst (.int 1)))) .nil) .nil)
noncomputable def s_59_11 : MS := (.cond (.cmp (.call (.cst (.top (.builtin "len"))) (.cons (.var (.loc 1)) .nil) .nil) (.cons .Lt (.call (.cst (.top (.builtin "len"))) (.cons (.var (.loc 0)) .nil) .nil) .nil)) (.cons (.set [(.tup [(.loc 0), (.loc 1)])] (.tup (.cons (.var (.loc 1)) (.cons (.var (.loc 0)) .nil)))) .nil) .nil)
noncomputable def s_59_12 : MS := (.cond (.cmp (.bin .Mult (.bin .Sub (.call (.cst (.top (.builtin "len"))) (.cons (.var (.loc 1)) .nil) .nil) (.call (.cst (.top (.builtin "len"))) (.cons (.var (.loc 0)) .nil) .nil)) (.cst (.int 2))) (.cons .Gt (.var (.loc 2)) .nil)) (.cons (.ret (.bin .Add (.var (.loc 2)) (.cst (.int 1)))) .nil) .nil)
noncomputable def s_59_13 : MS := (.set [(.one (.loc 5))] (.call (.cst (.top (.type "list"))) (.cons (.call (.cst (.top (.type "range"))) (.cons (.cst (.int 2)) (.cons (.bin .Mult (.cst (.int 2)) (.bin .Add (.call (.cst (.top (.builtin "len"))) (.cons (.var (.loc 0)) .nil) .nil) (.cst (.int 1)))) (.cons (.cst (.int 2)) .nil))) .nil) .nil) .nil))
noncomputable def s_59_14 : MS := (.set [(.one (.loc 6))] (.cst (.int 0)))
noncomputable def s_59_15_0 : MS := (.set [(.one (.loc 8))] (.idx (.var (.loc 1)) (.var (.loc 7))))
noncomputable def s_59_15_1 : MS := (.set [(.one (.loc 9)), (.one (.loc 6))] (.bin .Mult (.var (.loc 7)) (.cst (.int 2))))
noncomputable def s_59_15_2 : MS := (.set [(.one (.loc 10))] (.cst (.int 9223372036854775807)))
noncomputable def s_59_15_3_0 : MS := (.set [(.one (.loc 12))] (.bin .Add (.var (.loc 9)) (.call (.cst (.top (.ref 52))) (.cons (.var (.loc 8)) (.cons (.idx (.var (.loc 0)) (.var (.loc 11))) .nil)) .nil)))
noncomputable def s_59_15_3_1 : MS := (.set [(.one (.loc 9))] (.idx (.var (.loc 5)) (.var (.loc 11))))
noncomputable def s_59_15_3_2 : MS := (.set [(.one (.loc 13))] (.bin .Add (.call (.cst (.top (.builtin "min"))) (.cons (.var (.loc 6)) (.cons (.var (.loc 9)) .nil)) .nil) (.cst (.int 2))))
noncomputable def s_59_15_3_3 : MS := (.set [(.one (.loc 6))] (.call (.cst (.top (.builtin "min"))) (.cons (.var (.loc 13)) (.cons (.var (.loc 12)) .nil)) .nil))
noncomputable def s_59_15_3_4 : MS := (.seti (.var (.loc 5)) (.var (.loc 11)) (.var (.loc 6)))
noncomputable def s_59_15_3_5 : MS := (.cond (.cmp (.var (.loc 6)) (.cons .Lt (.var (.loc 10)) .nil)) (.cons (.set [(.one (.loc 10))] (.var (.loc 6))) .nil) .nil)
noncomputable def b_59_15_3 : MSs := (.cons s_59_15_3_0 (.cons s_59_15_3_1 (.cons s_59_15_3_2 (.cons s_59_15_3_3 (.cons s_59_15_3_4 (.cons s_59_15_3_5 .nil))))))
noncomputable def s_59_15_3 : MS := (.loop (.one (.loc 11)) (.val (.call (.cst (.top (.type "range"))) (.cons (.call (.cst (.top (.builtin "len"))) (.cons (.var (.loc 0)) .nil) .nil) .nil) .nil)) b_59_15_3)
noncomputable def s_59_15_4 : MS := (.cond (.cmp (.var (.loc 10)) (.cons .Gt (.var (.loc 2)) .nil)) (.cons (.ret (.bin .Add (.var (.loc 2)) (.cst (.int 1)))) .nil) .nil)
noncomputable def b_59_15 : MSs := (.cons s_59_15_0 (.cons s_59_15_1 (.cons s_59_15_2 (.cons s_59_15_3 (.cons s_59_15_4 .nil)))))
noncomputable def s_59_15 : MS := (.loop (.one (.loc 7)) (.val (.call (.cst (.top (.type "range"))) (.cons (.call (.cst (.top (.builtin "len"))) (.cons (.var (.loc 1)) .nil) .nil) .nil) .nil)) b_59_15)
noncomputable def s_59_16 : MS := (.ret (.var (.loc 6)))
noncomputable def b_59 : MSs := (.cons s_59_0 (.cons s_59_1 (.cons s_59_2 (.cons s_59_3 (.cons s_59_4 (.cons s_59_5 (.cons s_59_6 (.cons s_59_7 (.cons s_59_8 (.cons s_59_9 (.cons s_59_10 (.cons s_59_11 (.cons s_59_12 (.cons s_59_13 (.cons s_59_14 (.cons s_59_15 (.cons s_59_16 .nil)))))))))))))))))
noncomputable def k_59 : CF := ⟨14, 0, [(.loc 0), (.loc 1), (.loc 2)], b_59⟩
noncomputable def s_217_0 : MS := (.set [(.one (.loc 2))] (.cst (.str "")))
noncomputable def s_217_1_0 : MS := (.cond (.cmp (.call (.cst (.top (.ref 45))) (.cons (.var (.loc 4)) (.cons (.var (.loc 5)) .nil)) .nil) (.cons .Lt (.cst (.int 0)) .nil)) (.cons (.aug (.loc 2) .Add (.var (.loc 3))) .nil) .nil)
noncomputable def b_217_1 : MSs := (.cons s_217_1_0 .nil)
noncomputable def s_217_1 : MS := (.loop (.tup [(.loc 3), (.loc 4), (.loc 5)]) (.zip (.cons (.cst (.str "abcd")) (.cons (.bin .Add (.var (.loc 0)) (.cst (.str "f"))) (.cons (.bin .Add (.var (.loc 1)) (.cst (.str "f"))) .nil)))) b_217_1)
noncomputable def s_217_2 : MS := (.ret (.var (.loc 2)))
noncomputable def b_217 : MSs := (.cons s_217_0 (.cons s_217_1 (.cons s_217_2 .nil)))
noncomputable def k_217 : CF := ⟨6, 0, [(.loc 0), (.loc 1)], b_217⟩
theorem ke_45 : cf 45 ["a", "b"] = k_45 := by kernel_rfl
theorem ke_52 : cf 52 ["ch_a", "ch_b"] = k_52 := by kernel_rfl
theorem ke_203 : cf 203 ["number"] = k_203 := by kernel_rfl
theorem ke_224 : cf 224 ["here", "there"] = k_224 := by kernel_rfl
theorem ke_59 : cf 59 ["a", "b", "max_cost"] = k_59 := by kernel_rfl
theorem ke_217 : cf 217 ["here", "there"] = k_217 := by kernel_rfl
noncomputable def TaL : Tab := addFn (addFn (addFn (addFn T0 45 (pureFn T0 k_45 2)) 52 (pureFn T0 k_52 2)) 203 (pureFn T0 k_203 1)) 224 (pureFn T0 k_224 2)
theorem Ta_L : Ta = TaL := by
  unfold Ta
  rw [ke_45, ke_52, ke_203, ke_224]; rfl
end Mine
end

section
set_option tactic.hygienic false
namespace Mine
/-- the four functions fact, one dimension -/
theorem four1 {a0 a1 b0 b1 c0 c1 d0 d1 : Nat} (h00 : a0 * b0 ≤ c0 * d0) (h01 : a0 * b1 ≤ c1 * d0) (h10 : a1 * b0 ≤ c1 * d0) (h11 : a1 * b1 ≤ c1 * d1) :
    (a0 + a1) * (b0 + b1) ≤ (c0 + c1) * (d0 + d1) := by
  have eL : (a0 + a1) * (b0 + b1) = a0 * b0 + a0 * b1 + (a1 * b0 + a1 * b1) := by rw [Nat.add_mul, Nat.mul_add, Nat.mul_add]
  have eR : (c0 + c1) * (d0 + d1) = c0 * d0 + c0 * d1 + (c1 * d0 + c1 * d1) := by rw [Nat.add_mul, Nat.mul_add, Nat.mul_add]
  rw [eL, eR]
  generalize hP : c1 * d0 = P at *
  generalize hx : a0 * b1 = x at *
  generalize hy : a1 * b0 = y at *
  by_cases hz : P = 0
  · subst hz; omega
  · have hpos : 0 < P := Nat.pos_of_ne_zero hz
    refine Nat.le_of_mul_le_mul_left ?_ hpos
    have k1 : P * (c0 * d1) = (c0 * d0) * (c1 * d1) := by rw [← hP]; ac_rfl
    have k2 : x * y = (a0 * b0) * (a1 * b1) := by rw [← hx, ← hy]; ac_rfl
    have k3 : x * y ≤ P * (c0 * d1) := by rw [k1, k2]; exact Nat.mul_le_mul h00 h11
    obtain ⟨u, rfl⟩ := Nat.exists_eq_add_of_le h01
    obtain ⟨v, hv⟩ := Nat.exists_eq_add_of_le h10
    have k4 : (x + u) * x + (x + u) * y ≤ x * y + (x + u) * (x + u) := by
      have e1 : (x + u) * (x + u) = (x + u) * x + (x + u) * u := by rw [Nat.mul_add]
      have e2 : (x + u) * y = x * y + u * y := by rw [Nat.add_mul]
      have e3 : u * y ≤ (x + u) * u := by rw [Nat.mul_comm u y]; exact Nat.mul_le_mul_right u h10
      omega
    have k5 := Nat.mul_le_mul_left (x + u) h00
    have k6 := Nat.mul_le_mul_left (x + u) h11
    simp only [Nat.mul_add (x + u)] at *
    omega
end Mine
end

section
set_option tactic.hygienic false
namespace Mine
noncomputable def S1 (f : Bool → Nat) : Nat := f false + f true
theorem fourB {f g h k : Bool → Nat} (H : ∀ x y, f x * g y ≤ h (x || y) * k (x && y)) : S1 f * S1 g ≤ S1 h * S1 k :=
  four1 (H false false) (H false true) (H true false) (H true true)
noncomputable def S4 (f : Bool → Bool → Bool → Bool → Nat) : Nat := S1 fun a => S1 fun b => S1 fun c => S1 fun d => f a b c d
/-- the four functions theorem on the 4-cube -/
theorem four4 {f g h k : Bool → Bool → Bool → Bool → Nat} (H : ∀ a b c d a' b' c' d', f a b c d * g a' b' c' d' ≤ h (a || a') (b || b') (c || c') (d || d') * k (a && a') (b && b') (c && c') (d && d')) : S4 f * S4 g ≤ S4 h * S4 k :=
  fourB fun _ _ => fourB fun _ _ => fourB fun _ _ => fourB fun _ _ => H _ _ _ _ _ _ _ _
end Mine
end

section
set_option tactic.hygienic false
namespace Mine
open PySem PyProof.Rows
/-! ### class Headers, on the evaluator -/
noncomputable def tp (p : Str × Str) : PV := .tup [.str p.1, .str p.2]
noncomputable def okV (x : Str) : Bool := prn x && fits x
noncomputable def okN (x : Str) : Bool := asc x && fits (low x) && prn (low x) && okV x
theorem okN_v {x : Str} (h : okN x = true) : okV x = true := by simp only [okN, Bool.and_eq_true] at h; exact h.2
theorem okN_l {x : Str} (h : okN x = true) : (asc x && fits (low x)) = true := by simp only [okN, Bool.and_eq_true] at h ⊢; exact h.1.1
theorem okN_lv {x : Str} (h : okN x = true) : okV (low x) = true := by simp only [okN, okV, Bool.and_eq_true] at h ⊢; exact ⟨h.1.2, h.1.1.2⟩
section
variable {σ : St} {t hs : Nat}
theorem ty_str (x : Str) : ty "type" [.str x] [] σ = some (.top (.type "str"), σ) := by kernel_rfl
theorem c_is : cmpop σ .Is (.top (.type "str")) (.top (.type "str")) = some true := by kernel_rfl

theorem r_91 (x : Str) (b : Bool) (h : okV x = true) : cl Tr 91 ["self", "value", "name"] (bdK 2 "name") 0 [.obj t, .str x] [("name", .bool b)] σ = some (.str x, σ) := by
  have hb : bdK 2 "name" [.obj t, .str x] [("name", .bool b)] = some [.obj t, .str x, .bool b] := by simp [bdK]
  unfold cl callFn
  rw [hb]
  refine cut_len (q_run ke_91 rfl ?_) rfl
  unfold b_91 s_91_0 s_91_1
  have e1 := Tr_m_search (σ := σ) 64 rfl
  have e2 := Tr_m_search (σ := σ) 69 rfl
  have e3 := Tr_search (σ := σ) 64 x rfl h
  have e4 := Tr_search (σ := σ) 69 x rfl h
  cases b
  · simp only [↓q_scons, ↓q_snil, ↓q_cond, ↓q_ret, ↓q_set, ↓q_aug, ↓q_seti, ↓q_seta, ↓q_expr, ↓q_bnd, ↓q_rt, ↓q_ite, ↓q_cst, ↓q_var, ↓q_gl, ↓q_gc, ↓q_lift, ↓q_look, ↓q_and, ↓q_or, ↓q_not, ↓q_iteE, ↓q_bin, ↓q_cmp, ↓q_list, ↓q_tup, ↓q_call, ↓q_meth, ↓q_attr, ↓q_idx, ↓q_slc, ↓q_nil, ↓q_cons, ↓q_knil, ↓q_kcons, ↓q_cnil, ↓q_ccons, ↓q_sTn, ↓q_sTc, ↓q_sT1, ↓q_sTt, ↓q_sVn, ↓q_sVc, ↓q_alloc, ↓q_inil, ↓q_icons, ↓q_lvl, ↓q_elt, List.getElem?_cons_succ, List.getElem?_cons_zero, Option.join_some, List.set_cons_succ, List.set_cons_zero, plainC, ↓reduceIte, Bool.false_eq_true, e_eqs, e_tru, e_trs, List.length_cons, List.length_nil, List.replicate_succ, List.replicate_zero, Tr_type, ty_str, c_is, e1, e2, e3, e4, e_trn]
    rfl
  · simp only [↓q_scons, ↓q_snil, ↓q_cond, ↓q_ret, ↓q_set, ↓q_aug, ↓q_seti, ↓q_seta, ↓q_expr, ↓q_bnd, ↓q_rt, ↓q_ite, ↓q_cst, ↓q_var, ↓q_gl, ↓q_gc, ↓q_lift, ↓q_look, ↓q_and, ↓q_or, ↓q_not, ↓q_iteE, ↓q_bin, ↓q_cmp, ↓q_list, ↓q_tup, ↓q_call, ↓q_meth, ↓q_attr, ↓q_idx, ↓q_slc, ↓q_nil, ↓q_cons, ↓q_knil, ↓q_kcons, ↓q_cnil, ↓q_ccons, ↓q_sTn, ↓q_sTc, ↓q_sT1, ↓q_sTt, ↓q_sVn, ↓q_sVc, ↓q_alloc, ↓q_inil, ↓q_icons, ↓q_lvl, ↓q_elt, List.getElem?_cons_succ, List.getElem?_cons_zero, Option.join_some, List.set_cons_succ, List.set_cons_zero, plainC, ↓reduceIte, Bool.false_eq_true, e_eqs, e_tru, e_trs, List.length_cons, List.length_nil, List.replicate_succ, List.replicate_zero, Tr_type, ty_str, c_is, e1, e2, e3, e4, e_trn]
    rfl

noncomputable def getF (s : Str) (ps : List (Str × Str)) : Option Str := (ps.find? fun p => low p.1 == s).map (·.2)
theorem find_at {s : Str} {ps : List (Str × Str)} {i : Nat} (h : i < ps.length) (h1 : (ps.take i).find? (fun p => low p.1 == s) = none) (h2 : (low ps[i].1 == s) = true) : getF s ps = some ps[i].2 := by
  have e2 : (ps.take i ++ ps[i] :: ps.drop (i + 1)).find? (fun p => low p.1 == s) = some ps[i] := by
    rw [List.find?_append, h1, Option.none_or, List.find?_cons, h2]
  have e : ps.take i ++ ps[i] :: ps.drop (i + 1) = ps := by rw [← List.drop_eq_getElem_cons h, List.take_append_drop]
  rw [e] at e2
  unfold getF
  rw [e2]; rfl
theorem find_next {s : Str} {ps : List (Str × Str)} {i : Nat} (h : i < ps.length) (h1 : (ps.take i).find? (fun p => low p.1 == s) = none) (h2 : (low ps[i].1 == s) = false) : (ps.take (i + 1)).find? (fun p => low p.1 == s) = none := by
  rw [List.take_succ_eq_append_getElem h, List.find?_append, h1]
  simp [List.find?_cons, h2]

/-- an object of Headers at `t`, its list at `hs` -/
structure HdAt (σ : St) (t hs : Nat) (ps : List (Str × Str)) : Prop where
  obj : σ[t]? = some (.inst 192 [("_headers", .obj hs)])
  lst : σ[hs]? = some (.lst (ps.map tp))
  ok : ∀ p ∈ ps, okN p.1 = true
  few : ps.length < 90

theorem a_headers {T : Tab} (hT : T.at_ 192 "_headers" = true) (h : σ[t]? = some (.inst 192 [("_headers", .obj hs)])) : attrM T (.obj t) "_headers" σ = some (.obj hs, σ) := by
  have e : ([(("_headers" : Str), PV.obj hs)] : List (Str × PV)).lookup ("_headers" : Str) = some (.obj hs) := by simp
  simp only [attrM, look, h, hT, if_true, e, noTop]

theorem r_139 {ps : List (Str × Str)} (H : HdAt σ t hs ps) {x : Str} (h : okN x = true) :
    cl Tc 139 ["self", "name", "default"] (bdD 2) 0 [.obj t, .str x] [] σ = some (match getF (low x) ps with | some v => .str v | none => .none, σ) := by
  have hb : bdD 2 [.obj t, .str x] [] = some [.obj t, .str x, .none] := rfl
  unfold cl callFn
  rw [hb]
  refine cut_len (q_run ke_139 rfl ?_) rfl
  unfold b_139 s_139_0 s_139_1 s_139_2
  have e1 := Tc_m_91 H.obj
  have e2 := bi_lower (σ := σ) (okN_l h)
  have e3 := r_91 (σ := σ) (t := t) (low x) true (okN_lv h)
  have e4 := a_headers Tc_at H.obj
  have e5 : evI Tc (.val (.attr (.var (.loc 0)) "_headers")) ⟨[some (.obj t), some (.str (low x)), some .none, none, none], []⟩ σ = some (.one (.obj hs), σ) := by
    simp only [q_ival, ↓q_scons, ↓q_snil, ↓q_cond, ↓q_ret, ↓q_set, ↓q_aug, ↓q_seti, ↓q_seta, ↓q_expr, ↓q_bnd, ↓q_rt, ↓q_ite, ↓q_cst, ↓q_var, ↓q_gl, ↓q_gc, ↓q_lift, ↓q_look, ↓q_and, ↓q_or, ↓q_not, ↓q_iteE, ↓q_bin, ↓q_cmp, ↓q_list, ↓q_tup, ↓q_call, ↓q_meth, ↓q_attr, ↓q_idx, ↓q_slc, ↓q_nil, ↓q_cons, ↓q_knil, ↓q_kcons, ↓q_cnil, ↓q_ccons, ↓q_sTn, ↓q_sTc, ↓q_sT1, ↓q_sTt, ↓q_sVn, ↓q_sVc, ↓q_alloc, ↓q_inil, ↓q_icons, ↓q_lvl, ↓q_elt, List.getElem?_cons_succ, List.getElem?_cons_zero, Option.join_some, List.set_cons_succ, List.set_cons_zero, plainC, ↓reduceIte, Bool.false_eq_true, e_eqs, e_tru, e_trs, List.length_cons, List.length_nil, e4, nth1, lstAt, H.lst, Option.isSome_some]
  have key := loop_stop (src := .one (.obj hs)) (body := fun v fm' => bnd (setT fm' v (.tup [.loc 3, .loc 4])) fun fm'' => exs Tc b_139_1 fm'') (xs := ps.map tp)
    (fun i b σ' => σ' = σ ∧ (∃ a c, b = ⟨[some (.obj t), some (.str (low x)), some .none, a, c], []⟩) ∧ (ps.take i).find? (fun p => low p.1 == low x) = none)
    (fun r σ' => σ' = σ ∧ ∃ v, getF (low x) ps = some v ∧ r = .str v)
    (fun i b σ' hI => by obtain ⟨rfl, _⟩ := hI; exact nth_lst H.lst)
    (fun i hi b σ' hI => by
      obtain ⟨rfl, ⟨a, c, rfl⟩, hf⟩ := hI
      have hi' : i < ps.length := by simpa using hi
      have ex : (ps.map tp)[i] = tp ps[i] := by simp
      have e6 := bi_lower (σ := σ') (okN_l (H.ok _ (List.getElem_mem hi')))
      rw [ex]
      unfold b_139_1 s_139_1_0
      by_cases hc : (low ps[i].1 == low x) = true
      · refine .inr ?_
        simp only [↓q_scons, ↓q_snil, ↓q_cond, ↓q_ret, ↓q_set, ↓q_aug, ↓q_seti, ↓q_seta, ↓q_expr, ↓q_bnd, ↓q_rt, ↓q_ite, ↓q_cst, ↓q_var, ↓q_gl, ↓q_gc, ↓q_lift, ↓q_look, ↓q_and, ↓q_or, ↓q_not, ↓q_iteE, ↓q_bin, ↓q_cmp, ↓q_list, ↓q_tup, ↓q_call, ↓q_meth, ↓q_attr, ↓q_idx, ↓q_slc, ↓q_nil, ↓q_cons, ↓q_knil, ↓q_kcons, ↓q_cnil, ↓q_ccons, ↓q_sTn, ↓q_sTc, ↓q_sT1, ↓q_sTt, ↓q_sVn, ↓q_sVc, ↓q_alloc, ↓q_inil, ↓q_icons, ↓q_lvl, ↓q_elt, List.getElem?_cons_succ, List.getElem?_cons_zero, Option.join_some, List.set_cons_succ, List.set_cons_zero, plainC, ↓reduceIte, Bool.false_eq_true, e_eqs, e_tru, e_trs, List.length_cons, List.length_nil, tp, Tc_m_lower, Tc_str_lower, e6, cmpop, cmpI, cmpIS, inO, hc]
        exact ⟨_, _, _, rfl, rfl, _, find_at hi' hf hc, rfl⟩
      · rw [Bool.not_eq_true] at hc
        refine .inl ?_
        simp only [↓q_scons, ↓q_snil, ↓q_cond, ↓q_ret, ↓q_set, ↓q_aug, ↓q_seti, ↓q_seta, ↓q_expr, ↓q_bnd, ↓q_rt, ↓q_ite, ↓q_cst, ↓q_var, ↓q_gl, ↓q_gc, ↓q_lift, ↓q_look, ↓q_and, ↓q_or, ↓q_not, ↓q_iteE, ↓q_bin, ↓q_cmp, ↓q_list, ↓q_tup, ↓q_call, ↓q_meth, ↓q_attr, ↓q_idx, ↓q_slc, ↓q_nil, ↓q_cons, ↓q_knil, ↓q_kcons, ↓q_cnil, ↓q_ccons, ↓q_sTn, ↓q_sTc, ↓q_sT1, ↓q_sTt, ↓q_sVn, ↓q_sVc, ↓q_alloc, ↓q_inil, ↓q_icons, ↓q_lvl, ↓q_elt, List.getElem?_cons_succ, List.getElem?_cons_zero, Option.join_some, List.set_cons_succ, List.set_cons_zero, plainC, ↓reduceIte, Bool.false_eq_true, e_eqs, e_tru, e_trs, List.length_cons, List.length_nil, tp, Tc_m_lower, Tc_str_lower, e6, cmpop, cmpI, cmpIS, inO, hc]
        exact ⟨_, _, rfl, rfl, ⟨_, _, rfl⟩, find_next hi' hf hc⟩)
    fuel 0 ⟨[some (.obj t), some (.str (low x)), some .none, none, none], []⟩ σ ⟨rfl, ⟨_, _, rfl⟩, by simp⟩ (by omega) (by have := H.few; simp [fuel]; omega)
  simp only [↓q_scons, ↓q_snil, ↓q_cond, ↓q_ret, ↓q_set, ↓q_aug, ↓q_seti, ↓q_seta, ↓q_expr, ↓q_bnd, ↓q_rt, ↓q_ite, ↓q_cst, ↓q_var, ↓q_gl, ↓q_gc, ↓q_lift, ↓q_look, ↓q_and, ↓q_or, ↓q_not, ↓q_iteE, ↓q_bin, ↓q_cmp, ↓q_list, ↓q_tup, ↓q_call, ↓q_meth, ↓q_attr, ↓q_idx, ↓q_slc, ↓q_nil, ↓q_cons, ↓q_knil, ↓q_kcons, ↓q_cnil, ↓q_ccons, ↓q_sTn, ↓q_sTc, ↓q_sT1, ↓q_sTt, ↓q_sVn, ↓q_sVc, ↓q_alloc, ↓q_inil, ↓q_icons, ↓q_lvl, ↓q_elt, List.getElem?_cons_succ, List.getElem?_cons_zero, Option.join_some, List.set_cons_succ, List.set_cons_zero, plainC, ↓reduceIte, Bool.false_eq_true, e_eqs, e_tru, e_trs, List.length_cons, List.length_nil, ↓q_loop, List.replicate_succ, List.replicate_zero, Tc_m_lower, Tc_str_lower, e2, e1, Tc_91, e3, e5]
  rcases key with ⟨b', σ', ke, rfl, ⟨a, c, rfl⟩, hf⟩ | ⟨b', r, σ', ke, rfl, v, hv, rfl⟩
  · rw [ke]
    have : getF (low x) ps = none := by
      rw [List.length_map, List.take_length] at hf
      unfold getF; rw [hf]; rfl
    rw [this]
    simp only [↓q_scons, ↓q_snil, ↓q_cond, ↓q_ret, ↓q_set, ↓q_aug, ↓q_seti, ↓q_seta, ↓q_expr, ↓q_bnd, ↓q_rt, ↓q_ite, ↓q_cst, ↓q_var, ↓q_gl, ↓q_gc, ↓q_lift, ↓q_look, ↓q_and, ↓q_or, ↓q_not, ↓q_iteE, ↓q_bin, ↓q_cmp, ↓q_list, ↓q_tup, ↓q_call, ↓q_meth, ↓q_attr, ↓q_idx, ↓q_slc, ↓q_nil, ↓q_cons, ↓q_knil, ↓q_kcons, ↓q_cnil, ↓q_ccons, ↓q_sTn, ↓q_sTc, ↓q_sT1, ↓q_sTt, ↓q_sVn, ↓q_sVc, ↓q_alloc, ↓q_inil, ↓q_icons, ↓q_lvl, ↓q_elt, List.getElem?_cons_succ, List.getElem?_cons_zero, Option.join_some, List.set_cons_succ, List.set_cons_zero, plainC, ↓reduceIte, Bool.false_eq_true, e_eqs, e_tru, e_trs, List.length_cons, List.length_nil]
    rfl
  · rw [ke, hv]; rfl
end
end Mine
end

section
set_option tactic.hygienic false
namespace Mine
open PySem PyProof.Rows
section
variable {T : Tab} {σ σ₁ : St} {t hs n : Nat}
theorem set_last (c c' : Cell) : (σ ++ [c]).set σ.length c' = σ ++ [c'] := by
  rw [List.set_append_right _ _ (Nat.le_refl _), Nat.sub_self]; rfl
theorem push_last {zs : List PV} {v : PV} (h : zs.length ≤ 10000) : push (.obj σ.length) v (σ ++ [.lst zs]) = some ((), σ ++ [.lst (zs ++ [v])]) := by
  rw [push_at (q_last _ rfl) h, set_last]
theorem q_comp (nl : Nat) (frees : List Nat) (it : MI) (g : MG) (fm : Fm) : ev T (.comp nl 0 frees it g) fm σ = bnd (evI T it fm) (fun src => bnd (alloc (.lst [])) fun acc => bnd (lift ((frees.mapM fun i => fm.cs[i]?).map List.reverse)) fun fs =>
      bnd (loopM (γ := Unit) src (fun v fm' => bnd (evG T g acc (some v) fm') fun fm'' => rt (fm'', none)) fuel 0 ⟨List.replicate nl none, fs⟩) fun _ => rt acc) σ := rfl
theorem comp_rule {nl : Nat} {frees : List Nat} {it : MI} {g : MG} {fm : Fm} {xs : List PV} {fs : List Nat} (f : PV → List PV) (F : Fm → Prop)
    (h1 : evI T it fm σ = some (.one (.obj n), σ₁)) (h2 : σ₁[n]? = some (.lst xs)) (h3 : (frees.mapM fun i => fm.cs[i]?).map List.reverse = some fs) (h4 : F ⟨List.replicate nl none, fs⟩) (h5 : xs.length < 90) (h6 : ∀ x ∈ xs, (f x).length ≤ 1)
    (hs : ∀ x ∈ xs, ∀ fm' zs, F fm' → zs.length ≤ 100 → ∃ fm'', evG T g (.obj σ₁.length) (some x) fm' (σ₁ ++ [.lst zs]) = some (fm'', σ₁ ++ [.lst (zs ++ f x)]) ∧ F fm'') :
    ev T (.comp nl 0 frees it g) fm σ = some (.obj σ₁.length, σ₁ ++ [.lst (xs.flatMap f)]) := by
  have key := loop_rule (γ := Unit) (src := .one (.obj n)) (body := fun v fm' => bnd (evG T g (.obj σ₁.length) (some v) fm') fun fm'' => rt (fm'', none)) (xs := xs)
    (fun i b σ' => F b ∧ σ' = σ₁ ++ [.lst ((xs.take i).flatMap f)] ∧ ((xs.take i).flatMap f).length ≤ i)
    (fun i b σ' hI => by
      obtain ⟨_, rfl, _⟩ := hI
      exact nth_lst (by rw [q_app _ (lt_of_get h2)]; exact h2))
    (fun i hi b σ' hI => by
      obtain ⟨hF, rfl, hl⟩ := hI
      obtain ⟨fm'', e, hF'⟩ := hs _ (List.getElem_mem hi) b ((xs.take i).flatMap f) hF (by omega)
      refine ⟨fm'', _, ?_, hF', rfl, ?_⟩
      · simp only [↓q_bnd, e, ↓q_rt]
        rw [List.take_succ_eq_append_getElem hi, List.flatMap_append]
        simp
      · rw [List.take_succ_eq_append_getElem hi, List.flatMap_append]
        have := h6 _ (List.getElem_mem hi)
        simp only [List.length_append, List.flatMap_cons, List.flatMap_nil, List.append_nil]
        omega)
    fuel 0 ⟨List.replicate nl none, fs⟩ (σ₁ ++ [.lst []]) ⟨h4, by simp, by simp⟩ (by omega) (by simp [fuel]; omega)
  obtain ⟨b', σ', ke, _, rfl, _⟩ := key
  rw [q_comp]
  simp only [↓q_bnd, h1, ↓q_alloc, ↓q_lift, h3, ke, ↓q_rt, List.take_length]
theorem flat_map {α β : Type} (h : α → β) (xs : List α) : xs.flatMap (fun x => [h x]) = xs.map h := by
  induction xs with
  | nil => rfl
  | cons x xs ih => simp [ih]
/-- the source is a variable's list -/
theorem evI_lst {e : ME} {fm : Fm} {xs : List PV} (h : ev T e fm σ = some (.obj n, σ₁)) (h2 : σ₁[n]? = some (.lst xs)) : evI T (.val e) fm σ = some (.one (.obj n), σ₁) := by
  simp only [q_ival, ↓q_bnd, h, nth1, lstAt, h2, Option.isSome_some, if_true]

theorem pick_range (xs : List PV) (a : Nat) : ∀ m, ((List.range m).map (a + ·)).filterMap (fun k => xs[k]?) = (xs.drop a).take m
  | 0 => by simp
  | m + 1 => by
    rw [List.range_succ, List.map_append, List.filterMap_append, pick_range xs a m, List.take_add_one, List.getElem?_drop]
    congr 1
theorem slice_plain (xs : List PV) (lo hi : Option Int) : slicePV xs lo hi none = (xs.drop (lo.elim 0 (clipAt xs.length))).take (hi.elim xs.length (clipAt xs.length) - lo.elim 0 (clipAt xs.length)) := by
  unfold slicePV
  rw [sliceBounds_plain]
  dsimp only
  rw [sliceRange_one, pick_range]
theorem o_none : optInt .none = some none := rfl
theorem o_int (i : Int) (h : small i = true) : optInt (.int i) = some (some i) := by
  show (if small i = true then some (some i) else none) = _
  rw [if_pos h]
theorem slice_gen {xs : List PV} {l u s : PV} {a b c : Option Int} (h1 : optInt l = some a) (h2 : optInt u = some b) (h3 : optInt s = some c) (h0 : (c == some 0) = false) (h : σ[n]? = some (.lst xs)) : slice (.obj n) l u s σ = some (.obj σ.length, σ ++ [.lst (slicePV xs a b c)]) := by
  unfold slice sliceAt
  rw [h1, h2, h3]
  dsimp only
  rw [h0]
  simp only [Bool.false_eq_true, if_false, lstAt, h, alloc]
theorem slice_genc {xs : List PV} {l u s : PV} {a b c : Option Int} (h1 : optInt l = some a) (h2 : optInt u = some b) (h3 : optInt s = some c) (h0 : (c == some 0) = false) (h : σ[n]? = some (.const xs)) : slice (.obj n) l u s σ = some (.obj σ.length, σ ++ [.lst (slicePV xs a b c)]) := by
  unfold slice sliceAt
  rw [h1, h2, h3]
  dsimp only
  rw [h0]
  simp only [Bool.false_eq_true, if_false, lstAt, h, alloc]
theorem slice_all {xs : List PV} (h : σ[n]? = some (.lst xs)) : slice (.obj n) .none .none .none σ = some (.obj σ.length, σ ++ [.lst xs]) := by
  have e : slicePV xs none none none = xs := by rw [slice_plain]; simp
  rw [slice_gen o_none o_none o_none rfl h, e]
theorem take_e (xs : List PV) (k : Nat) : slicePV xs none (some (k : Int)) none = xs.take k := by
  rw [slice_plain]
  show (xs.drop 0).take (clipAt xs.length (k : Int) - 0) = _
  rw [clipAt_nat, List.drop_zero, Nat.sub_zero]
  by_cases h : k ≤ xs.length
  · rw [Nat.min_eq_left h]
  · rw [Nat.min_eq_right (by omega), List.take_of_length_le (Nat.le_refl _), List.take_of_length_le (by omega)]
theorem slice_take {xs : List PV} (i : Int) (k : Nat) (hi : i = k) (hk : small i = true) (h : σ[n]? = some (.lst xs)) : slice (.obj n) .none (.int i) .none σ = some (.obj σ.length, σ ++ [.lst (xs.take k)]) := by
  rw [slice_gen o_none (o_int i hk) o_none rfl h, hi, take_e]
theorem slice_const {xs : List PV} (i : Int) (k : Nat) (hi : i = k) (hk : small i = true) (h : σ[n]? = some (.const xs)) : slice (.obj n) .none (.int i) .none σ = some (.obj σ.length, σ ++ [.lst (xs.take k)]) := by
  rw [slice_genc o_none (o_int i hk) o_none rfl h, hi, take_e]
noncomputable def fst' : PV → PV
  | .tup [a, _] => a
  | v => v
noncomputable def snd' : PV → PV
  | .tup [_, b] => b
  | v => v
theorem r_144 {ps : List (Str × Str)} (H : HdAt σ t hs ps) :
    cl Tc 144 ["self"] (bdN 1) 1 [.obj t] [] σ = some (.obj σ.length, σ ++ [.lst (ps.map fun p => .str p.1)]) := by
  have hb : bdN 1 [.obj t] [] = some [.obj t] := rfl
  unfold cl callFn
  rw [hb]
  refine cut_new (q_run ke_144 rfl ?_) (by simp)
  unfold b_144 s_144_0
  have e4 := a_headers Tc_at H.obj
  have e5 : evI Tc (.val (.attr (.var (.loc 0)) "_headers")) ⟨[some (.obj t)], []⟩ σ = some (.one (.obj hs), σ) := evI_lst (by simp only [↓q_scons, ↓q_snil, ↓q_cond, ↓q_ret, ↓q_set, ↓q_aug, ↓q_seti, ↓q_seta, ↓q_expr, ↓q_bnd, ↓q_rt, ↓q_ite, ↓q_cst, ↓q_var, ↓q_gl, ↓q_gc, ↓q_lift, ↓q_look, ↓q_and, ↓q_or, ↓q_not, ↓q_iteE, ↓q_bin, ↓q_cmp, ↓q_list, ↓q_tup, ↓q_call, ↓q_meth, ↓q_attr, ↓q_idx, ↓q_slc, ↓q_nil, ↓q_cons, ↓q_knil, ↓q_kcons, ↓q_cnil, ↓q_ccons, ↓q_sTn, ↓q_sTc, ↓q_sT1, ↓q_sTt, ↓q_sVn, ↓q_sVc, ↓q_alloc, ↓q_inil, ↓q_icons, ↓q_lvl, ↓q_elt, List.getElem?_cons_succ, List.getElem?_cons_zero, Option.join_some, List.set_cons_succ, List.set_cons_zero, plainC, ↓reduceIte, Bool.false_eq_true, e_eqs, e_tru, e_trs, List.length_cons, List.length_nil, e4]) H.lst
  have key := comp_rule (nl := 3) (frees := []) (g := .lvl (.tup [.loc 1, .loc 2]) .nil (.elt (.var (.loc 1)))) (fun x => [fst' x]) (fun fm' => ∃ a b c, fm' = ⟨[a, b, c], []⟩) e5 H.lst rfl ⟨_, _, _, rfl⟩ (by simpa using H.few) (fun _ _ => by simp) (fun x hx fm' zs hF hz => by
    obtain ⟨a, b, c, rfl⟩ := hF
    obtain ⟨p, hp, rfl⟩ := List.mem_map.mp hx
    simp only [↓q_scons, ↓q_snil, ↓q_cond, ↓q_ret, ↓q_set, ↓q_aug, ↓q_seti, ↓q_seta, ↓q_expr, ↓q_bnd, ↓q_rt, ↓q_ite, ↓q_cst, ↓q_var, ↓q_gl, ↓q_gc, ↓q_lift, ↓q_look, ↓q_and, ↓q_or, ↓q_not, ↓q_iteE, ↓q_bin, ↓q_cmp, ↓q_list, ↓q_tup, ↓q_call, ↓q_meth, ↓q_attr, ↓q_idx, ↓q_slc, ↓q_nil, ↓q_cons, ↓q_knil, ↓q_kcons, ↓q_cnil, ↓q_ccons, ↓q_sTn, ↓q_sTc, ↓q_sT1, ↓q_sTt, ↓q_sVn, ↓q_sVc, ↓q_alloc, ↓q_inil, ↓q_icons, ↓q_lvl, ↓q_elt, List.getElem?_cons_succ, List.getElem?_cons_zero, Option.join_some, List.set_cons_succ, List.set_cons_zero, plainC, ↓reduceIte, Bool.false_eq_true, e_eqs, e_tru, e_trs, List.length_cons, List.length_nil, tp, push_last (show zs.length ≤ 10000 by omega), fst']
    exact ⟨_, rfl, _, _, _, rfl⟩)
  simp only [↓q_scons, ↓q_snil, ↓q_cond, ↓q_ret, ↓q_set, ↓q_aug, ↓q_seti, ↓q_seta, ↓q_expr, ↓q_bnd, ↓q_rt, ↓q_ite, ↓q_cst, ↓q_var, ↓q_gl, ↓q_gc, ↓q_lift, ↓q_look, ↓q_and, ↓q_or, ↓q_not, ↓q_iteE, ↓q_bin, ↓q_cmp, ↓q_list, ↓q_tup, ↓q_call, ↓q_meth, ↓q_attr, ↓q_idx, ↓q_slc, ↓q_nil, ↓q_cons, ↓q_knil, ↓q_kcons, ↓q_cnil, ↓q_ccons, ↓q_sTn, ↓q_sTc, ↓q_sT1, ↓q_sTt, ↓q_sVn, ↓q_sVc, ↓q_alloc, ↓q_inil, ↓q_icons, ↓q_lvl, ↓q_elt, List.getElem?_cons_succ, List.getElem?_cons_zero, Option.join_some, List.set_cons_succ, List.set_cons_zero, plainC, ↓reduceIte, Bool.false_eq_true, e_eqs, e_tru, e_trs, List.length_cons, List.length_nil, List.replicate_succ, List.replicate_zero, key]
  rw [flat_map, List.map_map]
  rfl
theorem r_156 {ps : List (Str × Str)} (H : HdAt σ t hs ps) :
    cl Tc 156 ["self"] (bdN 1) 1 [.obj t] [] σ = some (.obj σ.length, σ ++ [.lst (ps.map tp)]) := by
  have hb : bdN 1 [.obj t] [] = some [.obj t] := rfl
  unfold cl callFn
  rw [hb]
  refine cut_new (q_run ke_156 rfl ?_) (by simp)
  unfold b_156 s_156_0
  have e4 := a_headers Tc_at H.obj
  have e5 := slice_all H.lst
  simp only [↓q_scons, ↓q_snil, ↓q_cond, ↓q_ret, ↓q_set, ↓q_aug, ↓q_seti, ↓q_seta, ↓q_expr, ↓q_bnd, ↓q_rt, ↓q_ite, ↓q_cst, ↓q_var, ↓q_gl, ↓q_gc, ↓q_lift, ↓q_look, ↓q_and, ↓q_or, ↓q_not, ↓q_iteE, ↓q_bin, ↓q_cmp, ↓q_list, ↓q_tup, ↓q_call, ↓q_meth, ↓q_attr, ↓q_idx, ↓q_slc, ↓q_nil, ↓q_cons, ↓q_knil, ↓q_kcons, ↓q_cnil, ↓q_ccons, ↓q_sTn, ↓q_sTc, ↓q_sT1, ↓q_sTt, ↓q_sVn, ↓q_sVc, ↓q_alloc, ↓q_inil, ↓q_icons, ↓q_lvl, ↓q_elt, List.getElem?_cons_succ, List.getElem?_cons_zero, Option.join_some, List.set_cons_succ, List.set_cons_zero, plainC, ↓reduceIte, Bool.false_eq_true, e_eqs, e_tru, e_trs, List.length_cons, List.length_nil, List.replicate_succ, List.replicate_zero, e4, e5]
  rfl
theorem r_182 {ps : List (Str × Str)} (H : HdAt σ t hs ps) {x v : Str} (h : okN x = true) (hv : okV v = true) (hl : ps.length < 80) :
    cl Td 182 ["self", "name", "value"] (bdN 3) 0 [.obj t, .str x, .str v] [] σ = some (match getF (low x) ps with
      | some u => (.str u, σ)
      | none => (.str v, σ.set hs (.lst ((ps ++ [(x, v)]).map tp)))) := by
  have hb : bdN 3 [.obj t, .str x, .str v] [] = some [.obj t, .str x, .str v] := rfl
  unfold cl callFn
  rw [hb]
  have e1 := Td_m_139 H.obj
  have e2 := r_139 H h
  have e3 := Td_m_91 H.obj
  have e4 := a_headers Td_at H.obj
  have e5 := Td_m_append H.lst
  have e6 := r_91 (σ := σ) (t := t) x true (okN_v h)
  have e7 := r_91 (σ := σ) (t := t) v false hv
  have e8 : push (.obj hs) (.tup [.str x, .str v]) σ = some ((), σ.set hs (.lst ((ps ++ [(x, v)]).map tp))) := by
    rw [push_at H.lst (by simp; omega)]; simp [tp]
  have n0 : cmpop σ .Is .none .none = some true := rfl
  have n1 (u : Str) : cmpop σ .Is (.str u) .none = some false := rfl
  cases hg : getF (low x) ps with
  | some u =>
    rw [hg] at e2
    refine cut_len (q_run ke_182 rfl ?_) rfl
    unfold b_182 s_182_0 s_182_1
    simp only [↓q_scons, ↓q_snil, ↓q_cond, ↓q_ret, ↓q_set, ↓q_aug, ↓q_seti, ↓q_seta, ↓q_expr, ↓q_bnd, ↓q_rt, ↓q_ite, ↓q_cst, ↓q_var, ↓q_gl, ↓q_gc, ↓q_lift, ↓q_look, ↓q_and, ↓q_or, ↓q_not, ↓q_iteE, ↓q_bin, ↓q_cmp, ↓q_list, ↓q_tup, ↓q_call, ↓q_meth, ↓q_attr, ↓q_idx, ↓q_slc, ↓q_nil, ↓q_cons, ↓q_knil, ↓q_kcons, ↓q_cnil, ↓q_ccons, ↓q_sTn, ↓q_sTc, ↓q_sT1, ↓q_sTt, ↓q_sVn, ↓q_sVc, ↓q_alloc, ↓q_inil, ↓q_icons, ↓q_lvl, ↓q_elt, List.getElem?_cons_succ, List.getElem?_cons_zero, Option.join_some, List.set_cons_succ, List.set_cons_zero, plainC, ↓reduceIte, Bool.false_eq_true, e_eqs, e_tru, e_trs, List.length_cons, List.length_nil, List.replicate_succ, List.replicate_zero, e1, Td_139, e2, n1]
    rfl
  | none =>
    rw [hg] at e2
    refine cut_len (q_run ke_182 rfl ?_) (by simp)
    unfold b_182 s_182_0 s_182_1
    simp only [↓q_scons, ↓q_snil, ↓q_cond, ↓q_ret, ↓q_set, ↓q_aug, ↓q_seti, ↓q_seta, ↓q_expr, ↓q_bnd, ↓q_rt, ↓q_ite, ↓q_cst, ↓q_var, ↓q_gl, ↓q_gc, ↓q_lift, ↓q_look, ↓q_and, ↓q_or, ↓q_not, ↓q_iteE, ↓q_bin, ↓q_cmp, ↓q_list, ↓q_tup, ↓q_call, ↓q_meth, ↓q_attr, ↓q_idx, ↓q_slc, ↓q_nil, ↓q_cons, ↓q_knil, ↓q_kcons, ↓q_cnil, ↓q_ccons, ↓q_sTn, ↓q_sTc, ↓q_sT1, ↓q_sTt, ↓q_sVn, ↓q_sVc, ↓q_alloc, ↓q_inil, ↓q_icons, ↓q_lvl, ↓q_elt, List.getElem?_cons_succ, List.getElem?_cons_zero, Option.join_some, List.set_cons_succ, List.set_cons_zero, plainC, ↓reduceIte, Bool.false_eq_true, e_eqs, e_tru, e_trs, List.length_cons, List.length_nil, List.replicate_succ, List.replicate_zero, e1, Td_139, e2, n0, e3, e4, e5, Td_91, e6, e7, Td_list_append, bi_append, e8, show (2 : Nat) ≤ 1000 by decide]
    rfl
end
end Mine
end

section
set_option tactic.hygienic false
namespace Mine
open PySem PyProof.Rows
section
variable {T : Tab} {σ σ₁ : St} {t hs n : Nat}
noncomputable def keyF (s : Str) (ps : List (Str × Str)) : Option Str := (ps.find? fun p => p.1 == s).map (·.2)
theorem kind_at {s : Str} {ps : List (Str × Str)} {i : Nat} (h : i < ps.length) (h1 : (ps.take i).find? (fun p => p.1 == s) = none) (h2 : (ps[i].1 == s) = true) : keyF s ps = some ps[i].2 := by
  have e2 : (ps.take i ++ ps[i] :: ps.drop (i + 1)).find? (fun p => p.1 == s) = some ps[i] := by
    rw [List.find?_append, h1, Option.none_or, List.find?_cons, h2]
  have e : ps.take i ++ ps[i] :: ps.drop (i + 1) = ps := by rw [← List.drop_eq_getElem_cons h, List.take_append_drop]
  rw [e] at e2
  unfold keyF
  rw [e2]; rfl
theorem kind_next {s : Str} {ps : List (Str × Str)} {i : Nat} (h : i < ps.length) (h1 : (ps.take i).find? (fun p => p.1 == s) = none) (h2 : (ps[i].1 == s) = false) : (ps.take (i + 1)).find? (fun p => p.1 == s) = none := by
  rw [List.take_succ_eq_append_getElem h, List.find?_append, h1]
  simp [List.find?_cons, h2]

theorem r_231 {ps : List (Str × Str)} (H : σ[n]? = some (.lst (ps.map tp))) (hl : ps.length < 80) (x v : Str) :
    cl Tc 231 ["found", "name", "word"] (bdN 3) 0 [.obj n, .str x, .str v] [] σ = some (match keyF x ps with
      | some u => (.str u, σ)
      | none => (.str v, σ.set n (.lst ((ps ++ [(x, v)]).map tp)))) := by
  have hb : bdN 3 [.obj n, .str x, .str v] [] = some [.obj n, .str x, .str v] := rfl
  unfold cl callFn
  rw [hb]
  have e5 : evI Tc (.val (.var (.loc 0))) ⟨[some (.obj n), some (.str x), some (.str v), none, none], []⟩ σ = some (.one (.obj n), σ) := evI_lst (by simp only [↓q_scons, ↓q_snil, ↓q_cond, ↓q_ret, ↓q_set, ↓q_aug, ↓q_seti, ↓q_seta, ↓q_expr, ↓q_bnd, ↓q_rt, ↓q_ite, ↓q_cst, ↓q_var, ↓q_gl, ↓q_gc, ↓q_lift, ↓q_look, ↓q_and, ↓q_or, ↓q_not, ↓q_iteE, ↓q_bin, ↓q_cmp, ↓q_list, ↓q_tup, ↓q_call, ↓q_meth, ↓q_attr, ↓q_idx, ↓q_slc, ↓q_nil, ↓q_cons, ↓q_knil, ↓q_kcons, ↓q_cnil, ↓q_ccons, ↓q_sTn, ↓q_sTc, ↓q_sT1, ↓q_sTt, ↓q_sVn, ↓q_sVc, ↓q_alloc, ↓q_inil, ↓q_icons, ↓q_lvl, ↓q_elt, List.getElem?_cons_succ, List.getElem?_cons_zero, Option.join_some, List.set_cons_succ, List.set_cons_zero, plainC, ↓reduceIte, Bool.false_eq_true, e_eqs, e_tru, e_trs, List.length_cons, List.length_nil]) H
  have key := loop_stop (src := .one (.obj n)) (body := fun v fm' => bnd (setT fm' v (.tup [.loc 3, .loc 4])) fun fm'' => exs Tc b_231_0 fm'') (xs := ps.map tp)
    (fun i b σ' => σ' = σ ∧ (∃ a c, b = ⟨[some (.obj n), some (.str x), some (.str v), a, c], []⟩) ∧ (ps.take i).find? (fun p => p.1 == x) = none)
    (fun r σ' => σ' = σ ∧ ∃ v, keyF x ps = some v ∧ r = .str v)
    (fun i b σ' hI => by obtain ⟨rfl, _⟩ := hI; exact nth_lst H)
    (fun i hi b σ' hI => by
      obtain ⟨rfl, ⟨a, c, rfl⟩, hf⟩ := hI
      have hi' : i < ps.length := by simpa using hi
      have ex : (ps.map tp)[i] = tp ps[i] := by simp
      rw [ex]
      unfold b_231_0 s_231_0_0
      by_cases hc : (ps[i].1 == x) = true
      · refine .inr ?_
        simp only [↓q_scons, ↓q_snil, ↓q_cond, ↓q_ret, ↓q_set, ↓q_aug, ↓q_seti, ↓q_seta, ↓q_expr, ↓q_bnd, ↓q_rt, ↓q_ite, ↓q_cst, ↓q_var, ↓q_gl, ↓q_gc, ↓q_lift, ↓q_look, ↓q_and, ↓q_or, ↓q_not, ↓q_iteE, ↓q_bin, ↓q_cmp, ↓q_list, ↓q_tup, ↓q_call, ↓q_meth, ↓q_attr, ↓q_idx, ↓q_slc, ↓q_nil, ↓q_cons, ↓q_knil, ↓q_kcons, ↓q_cnil, ↓q_ccons, ↓q_sTn, ↓q_sTc, ↓q_sT1, ↓q_sTt, ↓q_sVn, ↓q_sVc, ↓q_alloc, ↓q_inil, ↓q_icons, ↓q_lvl, ↓q_elt, List.getElem?_cons_succ, List.getElem?_cons_zero, Option.join_some, List.set_cons_succ, List.set_cons_zero, plainC, ↓reduceIte, Bool.false_eq_true, e_eqs, e_tru, e_trs, List.length_cons, List.length_nil, tp, cmpop, cmpI, cmpIS, inO, hc]
        exact ⟨_, _, _, rfl, rfl, _, kind_at hi' hf hc, rfl⟩
      · rw [Bool.not_eq_true] at hc
        refine .inl ?_
        simp only [↓q_scons, ↓q_snil, ↓q_cond, ↓q_ret, ↓q_set, ↓q_aug, ↓q_seti, ↓q_seta, ↓q_expr, ↓q_bnd, ↓q_rt, ↓q_ite, ↓q_cst, ↓q_var, ↓q_gl, ↓q_gc, ↓q_lift, ↓q_look, ↓q_and, ↓q_or, ↓q_not, ↓q_iteE, ↓q_bin, ↓q_cmp, ↓q_list, ↓q_tup, ↓q_call, ↓q_meth, ↓q_attr, ↓q_idx, ↓q_slc, ↓q_nil, ↓q_cons, ↓q_knil, ↓q_kcons, ↓q_cnil, ↓q_ccons, ↓q_sTn, ↓q_sTc, ↓q_sT1, ↓q_sTt, ↓q_sVn, ↓q_sVc, ↓q_alloc, ↓q_inil, ↓q_icons, ↓q_lvl, ↓q_elt, List.getElem?_cons_succ, List.getElem?_cons_zero, Option.join_some, List.set_cons_succ, List.set_cons_zero, plainC, ↓reduceIte, Bool.false_eq_true, e_eqs, e_tru, e_trs, List.length_cons, List.length_nil, tp, cmpop, cmpI, cmpIS, inO, hc]
        exact ⟨_, _, rfl, rfl, ⟨_, _, rfl⟩, kind_next hi' hf hc⟩)
    fuel 0 ⟨[some (.obj n), some (.str x), some (.str v), none, none], []⟩ σ ⟨rfl, ⟨_, _, rfl⟩, by simp⟩ (by omega) (by simp [fuel]; omega)
  have e6 := Tc_m_append H
  have e8 : push (.obj n) (.tup [.str x, .str v]) σ = some ((), σ.set n (.lst ((ps ++ [(x, v)]).map tp))) := by
    rw [push_at H (by simp; omega)]; simp [tp]
  rcases key with ⟨b', σ', ke, rfl, ⟨a, c, rfl⟩, hf⟩ | ⟨b', r, σ', ke, rfl, u, hv, rfl⟩
  · have : keyF x ps = none := by
      rw [List.length_map, List.take_length] at hf
      unfold keyF; rw [hf]; rfl
    rw [this]
    refine cut_len (q_run ke_231 rfl ?_) (by simp)
    unfold b_231 s_231_0 s_231_1 s_231_2
    simp only [↓q_scons, ↓q_snil, ↓q_cond, ↓q_ret, ↓q_set, ↓q_aug, ↓q_seti, ↓q_seta, ↓q_expr, ↓q_bnd, ↓q_rt, ↓q_ite, ↓q_cst, ↓q_var, ↓q_gl, ↓q_gc, ↓q_lift, ↓q_look, ↓q_and, ↓q_or, ↓q_not, ↓q_iteE, ↓q_bin, ↓q_cmp, ↓q_list, ↓q_tup, ↓q_call, ↓q_meth, ↓q_attr, ↓q_idx, ↓q_slc, ↓q_nil, ↓q_cons, ↓q_knil, ↓q_kcons, ↓q_cnil, ↓q_ccons, ↓q_sTn, ↓q_sTc, ↓q_sT1, ↓q_sTt, ↓q_sVn, ↓q_sVc, ↓q_alloc, ↓q_inil, ↓q_icons, ↓q_lvl, ↓q_elt, List.getElem?_cons_succ, List.getElem?_cons_zero, Option.join_some, List.set_cons_succ, List.set_cons_zero, plainC, ↓reduceIte, Bool.false_eq_true, e_eqs, e_tru, e_trs, List.length_cons, List.length_nil, ↓q_loop, List.replicate_succ, List.replicate_zero, e5]
    rw [ke]
    simp only [↓q_scons, ↓q_snil, ↓q_cond, ↓q_ret, ↓q_set, ↓q_aug, ↓q_seti, ↓q_seta, ↓q_expr, ↓q_bnd, ↓q_rt, ↓q_ite, ↓q_cst, ↓q_var, ↓q_gl, ↓q_gc, ↓q_lift, ↓q_look, ↓q_and, ↓q_or, ↓q_not, ↓q_iteE, ↓q_bin, ↓q_cmp, ↓q_list, ↓q_tup, ↓q_call, ↓q_meth, ↓q_attr, ↓q_idx, ↓q_slc, ↓q_nil, ↓q_cons, ↓q_knil, ↓q_kcons, ↓q_cnil, ↓q_ccons, ↓q_sTn, ↓q_sTc, ↓q_sT1, ↓q_sTt, ↓q_sVn, ↓q_sVc, ↓q_alloc, ↓q_inil, ↓q_icons, ↓q_lvl, ↓q_elt, List.getElem?_cons_succ, List.getElem?_cons_zero, Option.join_some, List.set_cons_succ, List.set_cons_zero, plainC, ↓reduceIte, Bool.false_eq_true, e_eqs, e_tru, e_trs, List.length_cons, List.length_nil, e6, Tc_list_append, bi_append, e8, show (2 : Nat) ≤ 1000 by decide]
    rfl
  · rw [hv]
    refine cut_len (q_run ke_231 rfl ?_) rfl
    unfold b_231 s_231_0 s_231_1 s_231_2
    simp only [↓q_scons, ↓q_snil, ↓q_cond, ↓q_ret, ↓q_set, ↓q_aug, ↓q_seti, ↓q_seta, ↓q_expr, ↓q_bnd, ↓q_rt, ↓q_ite, ↓q_cst, ↓q_var, ↓q_gl, ↓q_gc, ↓q_lift, ↓q_look, ↓q_and, ↓q_or, ↓q_not, ↓q_iteE, ↓q_bin, ↓q_cmp, ↓q_list, ↓q_tup, ↓q_call, ↓q_meth, ↓q_attr, ↓q_idx, ↓q_slc, ↓q_nil, ↓q_cons, ↓q_knil, ↓q_kcons, ↓q_cnil, ↓q_ccons, ↓q_sTn, ↓q_sTc, ↓q_sT1, ↓q_sTt, ↓q_sVn, ↓q_sVc, ↓q_alloc, ↓q_inil, ↓q_icons, ↓q_lvl, ↓q_elt, List.getElem?_cons_succ, List.getElem?_cons_zero, Option.join_some, List.set_cons_succ, List.set_cons_zero, plainC, ↓reduceIte, Bool.false_eq_true, e_eqs, e_tru, e_trs, List.length_cons, List.length_nil, ↓q_loop, List.replicate_succ, List.replicate_zero, e5]
    rw [ke]; rfl

/-- the remainders by 16, each once -/
noncomputable def once (ys : List Int) : List Int := ys.foldl (fun r x => if Int.fmod x 16 ∈ r then r else r ++ [Int.fmod x 16]) []
theorem d_int (k : Nat) (x : Int) : deep σ k (.int x) = some (.int x) := by cases k <;> rfl
theorem d_str (k : Nat) (x : Str) : deep σ k (.str x) = some (.str x) := by cases k <;> rfl
theorem mapO_int (k : Nat) : ∀ r : List Int, mapO (deep σ (k + 1)) (r.map PV.int) = some (r.map PyData.int)
  | [] => rfl
  | x :: r => by simp only [List.map_cons, mapO, mapO_int k r, d_int]
theorem any_int (v : Int) : ∀ r : List Int, ((r.map PyData.int).any fun y => PyData.eqv y (.int v)) = decide (v ∈ r)
  | [] => rfl
  | x :: r => by
    rw [List.map_cons, List.any_cons, any_int v r]
    simp only [PyData.eqv, List.mem_cons, Bool.decide_or]
    congr 1
    by_cases h : x = v
    · subst h; simp
    · simp [h, Ne.symm h]
theorem isIn_int (v : Int) (r : List Int) : isIn σ (.int v) (r.map PV.int) = some (decide (v ∈ r)) := by
  simp only [isIn, mapO_int 4 r, d_int, any_int]
theorem once_len (ys : List Int) : (once ys).length ≤ ys.length := by
  unfold once
  have : ∀ (ys r : List Int), (ys.foldl (fun r x => if Int.fmod x 16 ∈ r then r else r ++ [Int.fmod x 16]) r).length ≤ r.length + ys.length := by
    intro ys
    induction ys with
    | nil => intro r; simp
    | cons y ys ih =>
      intro r
      rw [List.foldl_cons]
      refine Nat.le_trans (ih _) ?_
      split <;> simp <;> omega
  simpa using this ys []
theorem once_take (ys : List Int) (i : Nat) (h : i < ys.length) : once (ys.take (i + 1)) = if Int.fmod ys[i] 16 ∈ once (ys.take i) then once (ys.take i) else once (ys.take i) ++ [Int.fmod ys[i] 16] := by
  unfold once
  rw [List.take_succ_eq_append_getElem h, List.foldl_append]; rfl
theorem c_notin {a : PV} {n : Nat} {ys : List PV} (h : σ[n]? = some (.lst ys)) {x : Int} : cmpop σ .NotIn (.int x) (.obj n) = (isIn σ (.int x) ys).map (!·) := by
  simp only [cmpop, cmpI, cmpIS, inO, lstAt, h]
theorem r_210 {ys : List Int} (H : σ[n]? = some (.lst (ys.map .int))) (hl : ys.length < 80) :
    cl Tc 210 ["numbers"] (bdN 1) 1 [.obj n] [] σ = some (.obj σ.length, σ ++ [.lst ((once ys).map .int)]) := by
  have hb : bdN 1 [.obj n] [] = some [.obj n] := rfl
  unfold cl callFn
  rw [hb]
  have H' : (σ ++ [.lst []])[n]? = some (.lst (ys.map .int)) := by rw [q_app _ (lt_of_get H)]; exact H
  have e5 : evI Tc (.val (.var (.loc 0))) ⟨[some (.obj n), some (.obj σ.length), none], []⟩ (σ ++ [.lst []]) = some (.one (.obj n), σ ++ [.lst []]) := evI_lst (by simp only [↓q_scons, ↓q_snil, ↓q_cond, ↓q_ret, ↓q_set, ↓q_aug, ↓q_seti, ↓q_seta, ↓q_expr, ↓q_bnd, ↓q_rt, ↓q_ite, ↓q_cst, ↓q_var, ↓q_gl, ↓q_gc, ↓q_lift, ↓q_look, ↓q_and, ↓q_or, ↓q_not, ↓q_iteE, ↓q_bin, ↓q_cmp, ↓q_list, ↓q_tup, ↓q_call, ↓q_meth, ↓q_attr, ↓q_idx, ↓q_slc, ↓q_nil, ↓q_cons, ↓q_knil, ↓q_kcons, ↓q_cnil, ↓q_ccons, ↓q_sTn, ↓q_sTc, ↓q_sT1, ↓q_sTt, ↓q_sVn, ↓q_sVc, ↓q_alloc, ↓q_inil, ↓q_icons, ↓q_lvl, ↓q_elt, List.getElem?_cons_succ, List.getElem?_cons_zero, Option.join_some, List.set_cons_succ, List.set_cons_zero, plainC, ↓reduceIte, Bool.false_eq_true, e_eqs, e_tru, e_trs, List.length_cons, List.length_nil]) H'
  have key := loop_rule (γ := PV) (src := .one (.obj n)) (body := fun v fm' => bnd (setT fm' v (.one (.loc 2))) fun fm'' => exs Tc b_210_1 fm'') (xs := ys.map .int)
    (fun i b σ' => σ' = σ ++ [.lst ((once (ys.take i)).map .int)] ∧ (∃ a, b = ⟨[some (.obj n), some (.obj σ.length), a], []⟩))
    (fun i b σ' hI => by
      obtain ⟨rfl, _⟩ := hI
      exact nth_lst (by rw [q_app _ (lt_of_get H)]; exact H))
    (fun i hi b σ' hI => by
      obtain ⟨rfl, ⟨a, rfl⟩⟩ := hI
      have hi' : i < ys.length := by simpa using hi
      have ex : (ys.map PV.int)[i] = .int ys[i] := by simp
      rw [ex]
      unfold b_210_1 s_210_1_0
      have hq := q_last (σ := σ) (.lst ((once (ys.take i)).map .int)) rfl
      have e1 (x : Int) : binop .Mod (.int x) (.int 16) = rt (.int (Int.fmod x 16)) := by simp [binop, addM, subM, mulM, fdivM, modM, bitM, modM]
      have e2 := c_notin (a := .none) hq (x := Int.fmod ys[i] 16)
      rw [isIn_int, Option.map_some] at e2
      have e3 := Tc_m_append hq
      have e4 : push (.obj σ.length) (.int (Int.fmod ys[i] 16)) (σ ++ [.lst ((once (ys.take i)).map .int)]) = some ((), σ ++ [.lst ((once (ys.take i)).map .int ++ [.int (Int.fmod ys[i] 16)])]) := push_last (by
        have := once_len (ys.take i); simp at this ⊢; omega)
      have ho := once_take ys i hi'
      by_cases hc : Int.fmod ys[i] 16 ∈ once (ys.take i)
      · rw [if_pos hc] at ho
        simp only [hc, decide_true, Bool.not_true] at e2
        simp only [↓q_scons, ↓q_snil, ↓q_cond, ↓q_ret, ↓q_set, ↓q_aug, ↓q_seti, ↓q_seta, ↓q_expr, ↓q_bnd, ↓q_rt, ↓q_ite, ↓q_cst, ↓q_var, ↓q_gl, ↓q_gc, ↓q_lift, ↓q_look, ↓q_and, ↓q_or, ↓q_not, ↓q_iteE, ↓q_bin, ↓q_cmp, ↓q_list, ↓q_tup, ↓q_call, ↓q_meth, ↓q_attr, ↓q_idx, ↓q_slc, ↓q_nil, ↓q_cons, ↓q_knil, ↓q_kcons, ↓q_cnil, ↓q_ccons, ↓q_sTn, ↓q_sTc, ↓q_sT1, ↓q_sTt, ↓q_sVn, ↓q_sVc, ↓q_alloc, ↓q_inil, ↓q_icons, ↓q_lvl, ↓q_elt, List.getElem?_cons_succ, List.getElem?_cons_zero, Option.join_some, List.set_cons_succ, List.set_cons_zero, plainC, ↓reduceIte, Bool.false_eq_true, e_eqs, e_tru, e_trs, List.length_cons, List.length_nil, e1, e2]
        exact ⟨_, _, rfl, by rw [ho], _, rfl⟩
      · rw [if_neg hc] at ho
        simp only [hc, decide_false, Bool.not_false] at e2
        simp only [↓q_scons, ↓q_snil, ↓q_cond, ↓q_ret, ↓q_set, ↓q_aug, ↓q_seti, ↓q_seta, ↓q_expr, ↓q_bnd, ↓q_rt, ↓q_ite, ↓q_cst, ↓q_var, ↓q_gl, ↓q_gc, ↓q_lift, ↓q_look, ↓q_and, ↓q_or, ↓q_not, ↓q_iteE, ↓q_bin, ↓q_cmp, ↓q_list, ↓q_tup, ↓q_call, ↓q_meth, ↓q_attr, ↓q_idx, ↓q_slc, ↓q_nil, ↓q_cons, ↓q_knil, ↓q_kcons, ↓q_cnil, ↓q_ccons, ↓q_sTn, ↓q_sTc, ↓q_sT1, ↓q_sTt, ↓q_sVn, ↓q_sVc, ↓q_alloc, ↓q_inil, ↓q_icons, ↓q_lvl, ↓q_elt, List.getElem?_cons_succ, List.getElem?_cons_zero, Option.join_some, List.set_cons_succ, List.set_cons_zero, plainC, ↓reduceIte, Bool.false_eq_true, e_eqs, e_tru, e_trs, List.length_cons, List.length_nil, e1, e2, e3, Tc_list_append, bi_append, e4]
        exact ⟨_, _, rfl, by rw [ho]; simp, _, rfl⟩)
    fuel 0 ⟨[some (.obj n), some (.obj σ.length), none], []⟩ (σ ++ [.lst []]) ⟨rfl, _, rfl⟩ (by omega) (by simp [fuel]; omega)
  obtain ⟨b', σ', ke, rfl, a, rfl⟩ := key
  refine cut_new (q_run ke_210 rfl ?_) (by simp)
  unfold b_210 s_210_0 s_210_1 s_210_2
  simp only [↓q_scons, ↓q_snil, ↓q_cond, ↓q_ret, ↓q_set, ↓q_aug, ↓q_seti, ↓q_seta, ↓q_expr, ↓q_bnd, ↓q_rt, ↓q_ite, ↓q_cst, ↓q_var, ↓q_gl, ↓q_gc, ↓q_lift, ↓q_look, ↓q_and, ↓q_or, ↓q_not, ↓q_iteE, ↓q_bin, ↓q_cmp, ↓q_list, ↓q_tup, ↓q_call, ↓q_meth, ↓q_attr, ↓q_idx, ↓q_slc, ↓q_nil, ↓q_cons, ↓q_knil, ↓q_kcons, ↓q_cnil, ↓q_ccons, ↓q_sTn, ↓q_sTc, ↓q_sT1, ↓q_sTt, ↓q_sVn, ↓q_sVc, ↓q_alloc, ↓q_inil, ↓q_icons, ↓q_lvl, ↓q_elt, List.getElem?_cons_succ, List.getElem?_cons_zero, Option.join_some, List.set_cons_succ, List.set_cons_zero, plainC, ↓reduceIte, Bool.false_eq_true, e_eqs, e_tru, e_trs, List.length_cons, List.length_nil, ↓q_loop, List.replicate_succ, List.replicate_zero, e5, show (0 : Nat) ≤ 1000 by decide]
  rw [ke]
  rw [List.length_map, List.take_length]
  simp only [↓q_scons, ↓q_snil, ↓q_cond, ↓q_ret, ↓q_set, ↓q_aug, ↓q_seti, ↓q_seta, ↓q_expr, ↓q_bnd, ↓q_rt, ↓q_ite, ↓q_cst, ↓q_var, ↓q_gl, ↓q_gc, ↓q_lift, ↓q_look, ↓q_and, ↓q_or, ↓q_not, ↓q_iteE, ↓q_bin, ↓q_cmp, ↓q_list, ↓q_tup, ↓q_call, ↓q_meth, ↓q_attr, ↓q_idx, ↓q_slc, ↓q_nil, ↓q_cons, ↓q_knil, ↓q_kcons, ↓q_cnil, ↓q_ccons, ↓q_sTn, ↓q_sTc, ↓q_sT1, ↓q_sTt, ↓q_sVn, ↓q_sVc, ↓q_alloc, ↓q_inil, ↓q_icons, ↓q_lvl, ↓q_elt, List.getElem?_cons_succ, List.getElem?_cons_zero, Option.join_some, List.set_cons_succ, List.set_cons_zero, plainC, ↓reduceIte, Bool.false_eq_true, e_eqs, e_tru, e_trs, List.length_cons, List.length_nil]
  rfl

theorem r_192 : newFn 192 (cl Tc 84 ["self", "headers"] (bdD 1) 1) [] [] σ = some (.obj σ.length, (σ ++ [.inst 192 [("_headers", .obj (σ.length + 1))]]) ++ [.lst []]) := by
  have hb : bdD 1 [.obj σ.length] [] = some [.obj σ.length, .none] := rfl
  have hq := q_last (σ := σ) (.inst 192 []) rfl
  have e1 : cl Tc 84 ["self", "headers"] (bdD 1) 1 [.obj σ.length] [] (σ ++ [.inst 192 []]) = some (.none, (σ ++ [.inst 192 [("_headers", .obj (σ.length + 1))]]) ++ [.lst []]) := by
    unfold cl callFn
    rw [hb]
    refine cut_any (q_run ke_84 rfl ?_)
    · unfold b_84 s_84_0 s_84_1 s_84_2 s_84_3 b_84_3t s_84_3t_0
      have n0 : cmpop (σ ++ [.inst 192 []]) .IsNot .none .none = some false := rfl
      have hq2 : ((σ ++ [.inst 192 []]) ++ [.lst []])[σ.length + 1]? = some (.lst []) := q_last _ (by simp)
      have hq1 : ((σ ++ [.inst 192 []]) ++ [.lst []])[σ.length]? = some (.inst 192 []) := by rw [q_app _ (by simp)]; exact hq
      have e2 : ty "type" [.obj (σ.length + 1)] [] ((σ ++ [.inst 192 []]) ++ [.lst []]) = some (.top (.type "list"), (σ ++ [.inst 192 []]) ++ [.lst []]) := by
        show look (fun σ => (lstAt σ _).map fun _ => PV.top (.type "list")) _ = _
        simp only [look, lstAt, hq2, Option.map_some]
      have n1 : cmpop ((σ ++ [.inst 192 []]) ++ [.lst []]) .IsNot (.top (.type "list")) (.top (.type "list")) = some false := by kernel_rfl
      have e3 : seta Tc (.obj σ.length) "_headers" (.obj (σ.length + 1)) ((σ ++ [.inst 192 []]) ++ [.lst []]) = some ((), (σ ++ [.inst 192 [("_headers", .obj (σ.length + 1))]]) ++ [.lst []]) := by
        simp only [seta, hq1, Tc_at, putA, List.length_nil, Nat.zero_le, decide_true, Bool.and_true, if_true]
        rw [List.set_append_left _ _ (by simp), set_last]
      have hq3 : ((σ ++ [.inst 192 [("_headers", .obj (σ.length + 1))]]) ++ [.lst []])[σ.length + 1]? = some (.lst []) := q_last _ (by simp)
      have e4 : evI Tc (.val (.var (.loc 1))) ⟨[some (.obj σ.length), some (.obj (σ.length + 1)), none, none], []⟩ ((σ ++ [.inst 192 [("_headers", .obj (σ.length + 1))]]) ++ [.lst []]) = some (.one (.obj (σ.length + 1)), (σ ++ [.inst 192 [("_headers", .obj (σ.length + 1))]]) ++ [.lst []]) :=
        evI_lst (by simp only [↓q_scons, ↓q_snil, ↓q_cond, ↓q_ret, ↓q_set, ↓q_aug, ↓q_seti, ↓q_seta, ↓q_expr, ↓q_bnd, ↓q_rt, ↓q_ite, ↓q_cst, ↓q_var, ↓q_gl, ↓q_gc, ↓q_lift, ↓q_look, ↓q_and, ↓q_or, ↓q_not, ↓q_iteE, ↓q_bin, ↓q_cmp, ↓q_list, ↓q_tup, ↓q_call, ↓q_meth, ↓q_attr, ↓q_idx, ↓q_slc, ↓q_nil, ↓q_cons, ↓q_knil, ↓q_kcons, ↓q_cnil, ↓q_ccons, ↓q_sTn, ↓q_sTc, ↓q_sT1, ↓q_sTt, ↓q_sVn, ↓q_sVc, ↓q_alloc, ↓q_inil, ↓q_icons, ↓q_lvl, ↓q_elt, List.getElem?_cons_succ, List.getElem?_cons_zero, Option.join_some, List.set_cons_succ, List.set_cons_zero, plainC, ↓reduceIte, Bool.false_eq_true, e_eqs, e_tru, e_trs, List.length_cons, List.length_nil]) hq3
      have e5 (body : PV → Fm → M (Fm × Option PV)) (fm : Fm) : loopM body (src := .one (.obj (σ.length + 1))) fuel 0 fm ((σ ++ [.inst 192 [("_headers", .obj (σ.length + 1))]]) ++ [.lst []]) = some ((fm, none), (σ ++ [.inst 192 [("_headers", .obj (σ.length + 1))]]) ++ [.lst []]) := by
        simp only [fuel, loopM, nth_lst hq3]; rfl
      simp only [↓q_scons, ↓q_snil, ↓q_cond, ↓q_ret, ↓q_set, ↓q_aug, ↓q_seti, ↓q_seta, ↓q_expr, ↓q_bnd, ↓q_rt, ↓q_ite, ↓q_cst, ↓q_var, ↓q_gl, ↓q_gc, ↓q_lift, ↓q_look, ↓q_and, ↓q_or, ↓q_not, ↓q_iteE, ↓q_bin, ↓q_cmp, ↓q_list, ↓q_tup, ↓q_call, ↓q_meth, ↓q_attr, ↓q_idx, ↓q_slc, ↓q_nil, ↓q_cons, ↓q_knil, ↓q_kcons, ↓q_cnil, ↓q_ccons, ↓q_sTn, ↓q_sTc, ↓q_sT1, ↓q_sTt, ↓q_sVn, ↓q_sVc, ↓q_alloc, ↓q_inil, ↓q_icons, ↓q_lvl, ↓q_elt, List.getElem?_cons_succ, List.getElem?_cons_zero, Option.join_some, List.set_cons_succ, List.set_cons_zero, plainC, ↓reduceIte, Bool.false_eq_true, e_eqs, e_tru, e_trs, List.length_cons, List.length_nil, ↓q_loop, List.replicate_succ, List.replicate_zero, n0, show (0 : Nat) ≤ 1000 by decide, q_len, Tc_type, e2, n1, e3, e4, e5]
      rfl
  unfold newFn
  simp only [List.isEmpty_nil, if_true, ↓q_bnd, ↓q_alloc, e1, ↓q_rt]
end
end Mine
end

section
set_option tactic.hygienic false
namespace Mine
open PySem PyProof.Rows
/-! ### words and rows of letters: cases -/
noncomputable def bitB (a : Fin 16) (k : Nat) : Bool := a.val.testBit k
noncomputable def word (a : Fin 16) : Str := ⟨([if bitB a 3 then 65 else 97, if bitB a 2 then 66 else 98, if bitB a 1 then 67 else 99] ++ if bitB a 0 then [101] else []).toArray⟩
noncomputable def dif (a b : Fin 16) : Fin 16 := a &&& (15 - b)
noncomputable def lets (m : Fin 16) : Str := ⟨((if bitB m 3 then [97] else []) ++ (if bitB m 2 then [98] else []) ++ (if bitB m 1 then [99] else []) ++ (if bitB m 0 then [100] else [])).toArray⟩
noncomputable def nm (x : Bool × Fin 16) : Str := (if x.1 then ("m" : Str) else ("n" : Str)) ++ lets x.2
noncomputable def rowsOf (m k : Fin 16) : Str := Txt.join ("" : Str) [nm (true, m), nm (false, k)]
noncomputable def priceOf (m k : Fin 16) : Int := (rowsOf m k).length - 2 + Txt.count (rowsOf m k) ("d" : Str)
theorem f_203 : ∀ a : Fin 16, isStr (k_203.run T0 [.int (a.val : Int)] []) (word a) = true := by decide +kernel
theorem f_217 : ∀ a b : Fin 16, isStr (k_217.run TaL [.str (word a), .str (word b)] []) (lets (dif a b)) = true := by decide +kernel
theorem f_224 : ∀ a b : Fin 16, isStr (k_224.run T0 [.int (a.val : Int), .int (b.val : Int)] []) (lets (dif a b)) = true := by decide +kernel
theorem f_59 : ∀ a b : Fin 16, isInt (k_59.run TaL [.str (word a), .str (word b), .int 5] []) (priceOf (dif a b) (dif b a)) = true := by decide +kernel
theorem f_join : ∀ m k : Fin 16, (JoinOk ("" : Str) [nm (true, m), nm (false, k)] && fits (rowsOf m k)) = true := by decide +kernel
theorem f_okN : ∀ (b : Bool) (m : Fin 16), (okN (nm (b, m)) && okN (upp (nm (b, m))) && (low (nm (b, m)) == nm (b, m)) && (low (upp (nm (b, m))) == nm (b, m)) && (asc (nm (b, m)) && fits (upp (nm (b, m)))) && fits (nm (b, m))) = true := by decide +kernel
theorem f_inj : ∀ (b : Bool) (m : Fin 16) (c : Bool) (k : Fin 16), nm (b, m) = nm (c, k) → (b, m) = (c, k) := by decide +kernel
theorem f_word : ∀ a : Fin 16, okV (word a) = true := by decide +kernel
theorem f_fst : ∀ (s : Bool) (m : Fin 16) (b : Bool), (match item [] (.str (if b then upp (nm (s, m)) else nm (s, m))) (.int 0) with | some (.str c) => Txt.contains ("mM" : Str) c == s | _ => false) = true := by decide +kernel
end Mine
end

section
set_option tactic.hygienic false
namespace Mine
open PySem PyProof.Rows
noncomputable abbrev F16 := _root_.Fin 16
noncomputable abbrev Nm := Bool × F16
noncomputable def iv (a : F16) : PV := .int (a.val : Int)
theorem n_okN (x : Nm) : okN (nm x) = true := by
  have := f_okN x.1 x.2; simp only [Bool.and_eq_true, beq_iff_eq] at this; exact this.1.1.1.1.1
theorem n_okU (x : Nm) : okN (upp (nm x)) = true := by
  have := f_okN x.1 x.2; simp only [Bool.and_eq_true, beq_iff_eq] at this; exact this.1.1.1.1.2
theorem n_low (x : Nm) : low (nm x) = nm x := by
  have := f_okN x.1 x.2; simp only [Bool.and_eq_true, beq_iff_eq] at this; exact this.1.1.1.2
theorem n_lowU (x : Nm) : low (upp (nm x)) = nm x := by
  have := f_okN x.1 x.2; simp only [Bool.and_eq_true, beq_iff_eq] at this; exact this.1.1.2
theorem n_upp (x : Nm) : (asc (nm x) && fits (upp (nm x))) = true := by
  have := f_okN x.1 x.2; simp only [Bool.and_eq_true, beq_iff_eq] at this ⊢; exact this.1.2
theorem n_fits (x : Nm) : fits (nm x) = true := by
  have := f_okN x.1 x.2; simp only [Bool.and_eq_true, beq_iff_eq] at this; exact this.2
theorem n_inj {x y : Nm} (h : nm x = nm y) : x = y := f_inj x.1 x.2 y.1 y.2 h
section
variable {σ σ' : St} {t hs n f o1 o2 : Nat}
theorem p_203 (a : F16) : Te.ap (.top (.ref 203)) [iv a] [] σ = some (.str (word a), σ) := by
  rw [Te_203, ke_203]
  obtain ⟨j, e⟩ := isStr_some (f_203 a)
  exact pure_at e rfl
theorem p_217 (a b : F16) : Te.ap (.top (.ref 217)) [.str (word a), .str (word b)] [] σ = some (.str (lets (dif a b)), σ) := by
  rw [Te_217, ke_217, Ta_L]
  obtain ⟨j, e⟩ := isStr_some (f_217 a b)
  exact pure_at e rfl
theorem p_224 (a b : F16) : Te.ap (.top (.ref 224)) [iv a, iv b] [] σ = some (.str (lets (dif a b)), σ) := by
  rw [Te_224, ke_224]
  obtain ⟨j, e⟩ := isStr_some (f_224 a b)
  exact pure_at e rfl
theorem p_59 (a b : F16) : Te.ap (.top (.ref 59)) [.str (word a), .str (word b), .int 5] [] σ = some (.int (priceOf (dif a b) (dif b a)), σ) := by
  rw [Te_59, ke_59, Ta_L]
  obtain ⟨j, e⟩ := isInt_some (f_59 a b)
  exact pure_at e rfl

/-! ### what was found -/
noncomputable abbrev Fd := List (Nm × F16)
noncomputable def fp (fd : Fd) : List (Str × Str) := fd.map fun x => (nm x.1, word x.2)
noncomputable def hp (fd : Fd) : List (Str × Str) := (fp fd).mapIdx fun i p => (if i % 2 = 1 then upp p.1 else p.1, p.2)
noncomputable def addF (fd : Fd) (x : Nm) (a : F16) : Fd := if x ∈ fd.map (·.1) then fd else fd ++ [(x, a)]
noncomputable def sp (fd : Fd) (x : Nm) : Str := if fd.length % 2 = 1 then upp (nm x) else nm x
theorem sp_ok (fd : Fd) (x : Nm) : okN (sp fd x) = true := by unfold sp; split; exact n_okU x; exact n_okN x
theorem sp_low (fd : Fd) (x : Nm) : low (sp fd x) = nm x := by unfold sp; split; exact n_lowU x; exact n_low x
theorem fp_len (fd : Fd) : (fp fd).length = fd.length := by simp [fp]
theorem hp_len (fd : Fd) : (hp fd).length = fd.length := by simp [hp, fp]
theorem hp_add (fd : Fd) (x : Nm) (a : F16) : hp (fd ++ [(x, a)]) = hp fd ++ [(sp fd x, word a)] := by
  simp only [hp, fp, List.map_append, List.map_cons, List.map_nil, List.mapIdx_append, List.mapIdx_cons, List.mapIdx_nil, List.length_map, Nat.zero_add, sp]
theorem hp_low (fd : Fd) : (hp fd).map (fun p => (low p.1, p.2)) = fp fd := by
  unfold hp
  apply List.ext_getElem
  · simp
  · intro i h1 h2
    simp only [List.getElem_map, List.getElem_mapIdx, fp]
    split <;> simp [n_low, n_lowU]
theorem hp_ok (fd : Fd) : ∀ p ∈ hp fd, okN p.1 = true := by
  intro p hp'
  obtain ⟨i, h, rfl⟩ := List.mem_iff_getElem.mp hp'
  simp only [hp, List.getElem_mapIdx, fp, List.getElem_map]
  split
  · exact n_okU _
  · exact n_okN _
theorem getF_key (s : Str) (ps : List (Str × Str)) : getF s ps = keyF s (ps.map fun p => (low p.1, p.2)) := by
  unfold getF keyF
  rw [List.find?_map]
  simp [Function.comp_def]
theorem get_hp (fd : Fd) (x : Nm) : getF (nm x) (hp fd) = keyF (nm x) (fp fd) := by rw [getF_key, hp_low]
theorem key_none {fd : Fd} {x : Nm} (h : x ∉ fd.map (·.1)) : keyF (nm x) (fp fd) = none := by
  unfold keyF fp
  rw [Option.map_eq_none_iff, List.find?_eq_none]
  intro p hp
  obtain ⟨y, hy, rfl⟩ := List.mem_map.mp hp
  intro e
  simp only [beq_iff_eq] at e
  exact h (n_inj e ▸ List.mem_map_of_mem hy)
theorem key_some {fd : Fd} {x : Nm} (h : x ∈ fd.map (·.1)) : ∃ v, keyF (nm x) (fp fd) = some v := by
  unfold keyF fp
  obtain ⟨y, hy, rfl⟩ := List.mem_map.mp h
  cases e : (fd.map fun x => (nm x.1, word x.2)).find? (fun p => p.1 == nm y.1) with
  | some v => exact ⟨_, rfl⟩
  | none =>
    rw [List.find?_eq_none] at e
    have := e _ (List.mem_map_of_mem hy)
    simp at this
theorem key_at {fd : Fd} {x : Nm} {a : F16} (hn : (fd.map (·.1)).Nodup) (h : (x, a) ∈ fd) : keyF (nm x) (fp fd) = some (word a) := by
  induction fd with
  | nil => cases h
  | cons y fd ih =>
    simp only [List.map_cons, List.nodup_cons] at hn
    simp only [keyF, fp, List.map_cons, List.find?_cons]
    rcases List.mem_cons.mp h with rfl | h'
    · simp
    · have : (nm y.1 == nm x) = false := by
        rw [beq_eq_false_iff_ne]
        intro e
        exact hn.1 (n_inj e ▸ List.mem_map_of_mem h')
      simp only [this]
      exact ih hn.2 h'

theorem len_sub {α : Type} [DecidableEq α] : ∀ {l L : List α}, l.Nodup → (∀ x ∈ l, x ∈ L) → l.length ≤ L.length
  | [], L, _, _ => Nat.zero_le _
  | x :: l, L, hn, hs => by
    rw [List.nodup_cons] at hn
    have hx := hs x List.mem_cons_self
    have := len_sub (l := l) (L := L.erase x) hn.2 (fun y hy => (List.mem_erase_of_ne (fun (e : y = x) => hn.1 (e ▸ hy))).mpr (hs y (List.mem_cons_of_mem _ hy)))
    rw [List.length_erase_of_mem hx] at this
    have := List.length_pos_of_mem hx
    simp only [List.length_cons]; omega
noncomputable def allNm : List Nm := (List.finRange 16).map (fun m => (true, m)) ++ (List.finRange 16).map (fun m => (false, m))
theorem all_mem (x : Nm) : x ∈ allNm := by
  obtain ⟨b, m⟩ := x
  cases b <;> simp [allNm]
theorem fd_len {fd : Fd} (hn : (fd.map (·.1)).Nodup) : fd.length ≤ 32 := by
  have := len_sub hn (fun x _ => all_mem x)
  simpa [allNm] using this

theorem addF_nd {fd : Fd} (hn : (fd.map (·.1)).Nodup) (x : Nm) (a : F16) : ((addF fd x a).map (·.1)).Nodup := by
  unfold addF
  split
  · exact hn
  · rename_i h
    rw [List.map_append, List.nodup_append]
    refine ⟨hn, by simp, ?_⟩
    intro y hy z hz e
    simp at hz
    subst hz; subst e
    exact h hy
theorem addF_old {fd : Fd} {x y : Nm} {a : F16} (h : y ∈ fd.map (·.1)) : y ∈ (addF fd x a).map (·.1) := by
  unfold addF; split
  · exact h
  · simp only [List.map_append, List.mem_append]; exact .inl h
theorem addF_new {fd : Fd} {x : Nm} {a : F16} : x ∈ (addF fd x a).map (·.1) := by
  unfold addF; split
  · assumption
  · simp

/-! ### the store of the law -/
structure LS (σ : St) (t hs f o1 o2 : Nat) (xs ys : List F16) (fd : Fd) : Prop where
  cel : σ[1]? = some (.cel (some (.obj t)))
  hd : HdAt σ t hs (hp fd)
  fnd : σ[f]? = some (.lst ((fp fd).map tp))
  l1 : σ[o1]? = some (.lst (xs.map iv))
  l2 : σ[o2]? = some (.lst (ys.map iv))
  n1 : hs ≠ f
  n2 : o1 ≠ hs ∧ o1 ≠ f
  n3 : o2 ≠ hs ∧ o2 ≠ f
  nd : (fd.map (·.1)).Nodup
theorem HdAt.pre {ps : List (Str × Str)} (H : HdAt σ t hs ps) (p : σ <+: σ') : HdAt σ' t hs ps := ⟨get_pre p H.obj, get_pre p H.lst, H.ok, H.few⟩
variable {xs ys : List F16} {fd : Fd}
theorem LS.pre (L : LS σ t hs f o1 o2 xs ys fd) (p : σ <+: σ') : LS σ' t hs f o1 o2 xs ys fd :=
  ⟨get_pre p L.cel, L.hd.pre p, get_pre p L.fnd, get_pre p L.l1, get_pre p L.l2, L.n1, L.n2, L.n3, L.nd⟩
/-- all cells but two stand -/
noncomputable def Kp (σ σ' : St) (hs f : Nat) : Prop := σ.length ≤ σ'.length ∧ ∀ k c, k ≠ hs → k ≠ f → σ[k]? = some c → σ'[k]? = some c
theorem Kp.pre (p : σ <+: σ') : Kp σ σ' hs f := ⟨p.length_le, fun k c _ _ h => get_pre p h⟩
theorem Kp.trans {σ₂ : St} (a : Kp σ σ' hs f) (b : Kp σ' σ₂ hs f) : Kp σ σ₂ hs f := ⟨Nat.le_trans a.1 b.1, fun k c h1 h2 h => b.2 k c h1 h2 (a.2 k c h1 h2 h)⟩
theorem get_set {k j : Nat} {c : Cell} (h : k ≠ j) : (σ.set j c)[k]? = σ[k]? := List.getElem?_set_ne (Ne.symm h)
theorem get_set_same {j : Nat} {c c' : Cell} (h : σ[j]? = some c') : (σ.set j c)[j]? = some c := List.getElem?_set_self (lt_of_get h)

theorem step_add (L : LS σ t hs f o1 o2 xs ys fd) (x : Nm) (a : F16) : ∃ r σ₁ σ₂, Te.ap (.top (.ref 182)) [.obj t, .str (sp fd x), .str (word a)] [] σ = some (.str r, σ₁) ∧
    Te.ap (.top (.ref 231)) [.obj f, .str (nm x), .str (word a)] [] σ₁ = some (.str r, σ₂) ∧ LS σ₂ t hs f o1 o2 xs ys (addF fd x a) ∧ Kp σ σ₂ hs f := by
  have hl : fd.length ≤ 32 := fd_len L.nd
  have e1 := r_182 L.hd (sp_ok fd x) (f_word a) (by rw [hp_len]; omega)
  rw [sp_low, get_hp] at e1
  rw [Te_182]
  simp only [Te_231]
  rw [e1]
  by_cases h : x ∈ fd.map (·.1)
  · obtain ⟨v, hv⟩ := key_some h
    have e2 := r_231 L.fnd (by rw [fp_len]; omega) (nm x) (word a)
    rw [hv] at e2 ⊢
    refine ⟨v, σ, σ, rfl, e2, ?_, Kp.pre (List.prefix_refl _)⟩
    rw [addF, if_pos h]; exact L
  · have hv := key_none h
    rw [hv]
    have ht : t ≠ hs := fun e => by have := L.hd.obj; rw [e, L.hd.lst] at this; cases this
    have htf : t ≠ f := fun e => by have := L.hd.obj; rw [e, L.fnd] at this; cases this
    have h1 : (1 : Nat) ≠ hs := fun e => by have := L.cel; rw [e, L.hd.lst] at this; cases this
    have h1f : (1 : Nat) ≠ f := fun e => by have := L.cel; rw [e, L.fnd] at this; cases this
    have hf1 : (σ.set hs (.lst ((hp fd ++ [(sp fd x, word a)]).map tp)))[f]? = some (.lst ((fp fd).map tp)) := by rw [get_set (Ne.symm L.n1)]; exact L.fnd
    have e2 := r_231 hf1 (by rw [fp_len]; omega) (nm x) (word a)
    rw [hv] at e2
    have hfp : fp fd ++ [(nm x, word a)] = fp (fd ++ [(x, a)]) := by simp [fp]
    have had : addF fd x a = fd ++ [(x, a)] := by rw [addF, if_neg h]
    have hnd := addF_nd L.nd x a
    refine ⟨word a, _, _, rfl, e2, ?_, ?_⟩
    · rw [had] at hnd ⊢
      rw [hfp, ← hp_add]
      have hl' := fd_len hnd
      refine ⟨?_, ⟨?_, ?_, hp_ok _, by rw [hp_len]; omega⟩, get_set_same (by rw [get_set (Ne.symm L.n1)]; exact L.fnd), ?_, ?_, L.n1, L.n2, L.n3, hnd⟩
      · rw [get_set h1f, get_set h1]; exact L.cel
      · rw [get_set htf, get_set ht]; exact L.hd.obj
      · rw [get_set L.n1, get_set_same L.hd.lst]
      · rw [get_set L.n2.2, get_set L.n2.1]; exact L.l1
      · rw [get_set L.n3.2, get_set L.n3.1]; exact L.l2
    · refine ⟨by simp, fun k c k1 k2 hk => ?_⟩
      rw [get_set k2, get_set k1]; exact hk
end
end Mine
end

section
set_option tactic.hygienic false
namespace Mine
open PySem PyProof.Rows
section
variable {σ σ' : St} {t hs n f o1 o2 : Nat} {xs ys : List F16} {fd : Fd}
theorem celAt_1 {k : Nat} (h : σ[k]? = some (.cel (some (.obj t)))) : celAt [k] 0 σ = some (.obj t) := by
  simp only [celAt, List.getElem?_cons_zero, h]
theorem e_ne (x : Str) : cmpop σ .NotEq (.str x) (.str x) = some false := by simp only [cmpop, cmpI, cmpIS, inO, e_eqs, beq_self_eq_true, Option.map_some, Bool.not_true]
theorem e_nei (x : Int) : cmpop σ .NotEq (.int x) (.int x) = some false := by simp only [cmpop, cmpI, cmpIS, inO, e_eqi, beq_self_eq_true, Option.map_some, Bool.not_true]
theorem e_mod2 (n : Nat) : binop .Mod (.int (n : Int)) (.int 2) σ = some (.int ((n % 2 : Nat) : Int), σ) := by
  have : Int.fmod (n : Int) 2 = ((n % 2 : Nat) : Int) := by
    rw [Int.fmod_eq_emod_of_nonneg _ (by decide)]; rfl
  simp only [binop, addM, subM, mulM, fdivM, modM, bitM, show decide ((0 : Int) < 2) = true by decide, if_true, this, rt]
/-- what the table answers -/
structure Sp (T : Tab) : Prop where
  p203 : ∀ (a : F16) (σ : St), T.ap (.top (.ref 203)) [iv a] [] σ = some (.str (word a), σ)
  p217 : ∀ (a b : F16) (σ : St), T.ap (.top (.ref 217)) [.str (word a), .str (word b)] [] σ = some (.str (lets (dif a b)), σ)
  p224 : ∀ (a b : F16) (σ : St), T.ap (.top (.ref 224)) [iv a, iv b] [] σ = some (.str (lets (dif a b)), σ)
  p59 : ∀ (a b : F16) (σ : St), T.ap (.top (.ref 59)) [.str (word a), .str (word b), .int 5] [] σ = some (.int (priceOf (dif a b) (dif b a)), σ)
  mkeys : ∀ {σ : St} {n : Nat} {v : PV}, σ[n]? = some (.inst 192 [("_headers", v)]) → T.mt σ (.obj n) "keys" = some (.ref 144)
  mitems : ∀ {σ : St} {n : Nat} {v : PV}, σ[n]? = some (.inst 192 [("_headers", v)]) → T.mt σ (.obj n) "items" = some (.ref 156)
  mget : ∀ {σ : St} {n : Nat} {v : PV}, σ[n]? = some (.inst 192 [("_headers", v)]) → T.mt σ (.obj n) "get" = some (.ref 139)
  mset : ∀ {σ : St} {n : Nat} {v : PV}, σ[n]? = some (.inst 192 [("_headers", v)]) → T.mt σ (.obj n) "setdefault" = some (.ref 182)
  keys : ∀ {σ : St} {t hs : Nat} {ps : List (Str × Str)}, HdAt σ t hs ps → T.ap (.top (.ref 144)) [.obj t] [] σ = some (.obj σ.length, σ ++ [.lst (ps.map fun p => .str p.1)])
  items : ∀ {σ : St} {t hs : Nat} {ps : List (Str × Str)}, HdAt σ t hs ps → T.ap (.top (.ref 156)) [.obj t] [] σ = some (.obj σ.length, σ ++ [.lst (ps.map tp)])
  get : ∀ {σ : St} {t hs : Nat} {ps : List (Str × Str)}, HdAt σ t hs ps → ∀ {x : Str}, okN x = true → T.ap (.top (.ref 139)) [.obj t, .str x] [] σ = some (match getF (low x) ps with | some v => .str v | none => .none, σ)
  add : ∀ {σ : St} {t hs f o1 o2 : Nat} {xs ys : List F16} {fd : Fd}, LS σ t hs f o1 o2 xs ys fd → ∀ (x : Nm) (a : F16), ∃ r σ₁ σ₂, T.ap (.top (.ref 182)) [.obj t, .str (sp fd x), .str (word a)] [] σ = some (.str r, σ₁) ∧
    T.ap (.top (.ref 231)) [.obj f, .str (nm x), .str (word a)] [] σ₁ = some (.str r, σ₂) ∧ LS σ₂ t hs f o1 o2 xs ys (addF fd x a) ∧ Kp σ σ₂ hs f
  len : ∀ (vs : List PV), T.ap (.top (.builtin "len")) vs [] = bi "len" vs []
  upper : ∀ (vs : List PV), T.ap (.top (.builtin "str.upper")) vs [] = bi "str.upper" vs []
  lower : ∀ (vs : List PV), T.ap (.top (.builtin "str.lower")) vs [] = bi "str.lower" vs []
  join : ∀ (vs : List PV), T.ap (.top (.builtin "str.join")) vs [] = bi "str.join" vs []
  count : ∀ (vs : List PV), T.ap (.top (.builtin "str.count")) vs [] = bi "str.count" vs []
  mupper : ∀ (σ : St) (x : Str), T.mt σ (.str x) "upper" = some (.builtin "str.upper")
  mlower : ∀ (σ : St) (x : Str), T.mt σ (.str x) "lower" = some (.builtin "str.lower")
  mjoin : ∀ (σ : St) (x : Str), T.mt σ (.str x) "join" = some (.builtin "str.join")
  mcount : ∀ (σ : St) (x : Str), T.mt σ (.str x) "count" = some (.builtin "str.count")
  once : ∀ {σ : St} {n : Nat} {ys : List Int}, σ[n]? = some (.lst (ys.map .int)) → ys.length < 80 → T.ap (.top (.ref 210)) [.obj n] [] σ = some (.obj σ.length, σ ++ [.lst ((Mine.once ys).map .int)])
  new : ∀ (σ : St), T.ap (.top (.ref 192)) [] [] σ = some (.obj σ.length, (σ ++ [.inst 192 [("_headers", .obj (σ.length + 1))]]) ++ [.lst []])
theorem sp_e : Sp Te where
  p203 := fun a σ => p_203 a
  p217 := fun a b σ => p_217 a b
  p224 := fun a b σ => p_224 a b
  p59 := fun a b σ => p_59 a b
  mkeys := Te_m_144
  mitems := Te_m_156
  mget := Te_m_139
  mset := Te_m_182
  keys := fun h => by rw [Te_144]; exact r_144 h
  items := fun h => by rw [Te_156]; exact r_156 h
  get := fun h x hx => by rw [Te_139]; exact r_139 h hx
  add := step_add
  len := fun vs => Te_len
  upper := fun vs => Te_str_upper
  lower := fun vs => Te_str_lower
  join := fun vs => Te_str_join
  count := fun vs => Te_str_count
  mupper := fun σ x => Te_m_upper x
  mlower := fun σ x => Te_m_lower x
  mjoin := fun σ x => Te_m_join x
  mcount := fun σ x => Te_m_count x
  once := fun h hl => by rw [Te_210]; exact r_210 h hl
  new := fun σ => by rw [Te_192]; exact r_192
variable {T : Tab}
theorem inner_step (S : Sp T) (L : LS σ t hs f o1 o2 xs ys fd) (x : Nm) (a : F16) (v4 v5 v6 v7 v8 v9 v10 v11 v12 v13 v14 : Option PV) :
    ∃ s13 σ', bnd (setT ⟨[some (.obj 0), some (.obj o1), some (.obj o2), some (.obj f), v4, v5, v6, v7, v8, v9, v10, v11, v12, v13, v14], [1]⟩ (.tup [.str (nm x), .str (word a)]) (.tup [.loc 11, .loc 12])) (fun fm'' => exs T b_236_4_0_7 fm'') σ =
      some ((⟨[some (.obj 0), some (.obj o1), some (.obj o2), some (.obj f), v4, v5, v6, v7, v8, v9, v10, some (.str (nm x)), some (.str (word a)), s13, v14], [1]⟩, none), σ') ∧ LS σ' t hs f o1 o2 xs ys (addF fd x a) ∧ Kp σ σ' hs f := by
  have p1 : σ <+: σ ++ [.lst ((hp fd).map fun p => .str p.1)] := List.prefix_append _ _
  have L1 := L.pre p1
  obtain ⟨r, σ₁, σ₂, e1, e2, L2, k2⟩ := S.add L1 x a
  have k1 : Kp σ σ₂ hs f := (Kp.pre p1).trans k2
  have c0 := celAt_1 L.cel
  have c1 := celAt_1 L1.cel
  have m0 := S.mkeys L.hd.obj
  have m1 := S.mset L1.hd.obj
  have r0 := S.keys L.hd
  have l0 := bi_lenl (q_last (σ := σ) (.lst ((hp fd).map fun p => .str p.1)) rfl)
  rw [List.length_map, hp_len] at l0
  unfold b_236_4_0_7 s_236_4_0_7_0 s_236_4_0_7_1
  have u0 := bi_upper (σ := σ ++ [.lst ((hp fd).map fun p => .str p.1)]) (n_upp x)
  by_cases hq : fd.length % 2 = 1
  · have t0 : truth (σ ++ [.lst ((hp fd).map fun p => .str p.1)]) (.int ((fd.length % 2 : Nat) : Int)) = some true := by rw [hq]; rfl
    have s0 : upp (nm x) = sp fd x := by rw [sp, if_pos hq]
    simp only [↓q_scons, ↓q_snil, ↓q_cond, ↓q_ret, ↓q_set, ↓q_aug, ↓q_seti, ↓q_seta, ↓q_expr, ↓q_bnd, ↓q_rt, ↓q_ite, ↓q_cst, ↓q_var, ↓q_gl, ↓q_gc, ↓q_lift, ↓q_look, ↓q_and, ↓q_or, ↓q_not, ↓q_iteE, ↓q_bin, ↓q_cmp, ↓q_list, ↓q_tup, ↓q_call, ↓q_meth, ↓q_attr, ↓q_idx, ↓q_slc, ↓q_nil, ↓q_cons, ↓q_knil, ↓q_kcons, ↓q_cnil, ↓q_ccons, ↓q_sTn, ↓q_sTc, ↓q_sT1, ↓q_sTt, ↓q_sVn, ↓q_sVc, ↓q_alloc, ↓q_inil, ↓q_icons, ↓q_lvl, ↓q_elt, List.getElem?_cons_succ, List.getElem?_cons_zero, Option.join_some, List.set_cons_succ, List.set_cons_zero, plainC, ↓reduceIte, Bool.false_eq_true, e_eqs, e_tru, e_trs, List.length_cons, List.length_nil, c0, m0, r0, S.len, l0, e_mod2, t0, S.mupper, S.upper, u0, s0, c1, m1, e1, e2, e_ne]
    exact ⟨_, _, rfl, L2, k1⟩
  · have t0 : truth (σ ++ [.lst ((hp fd).map fun p => .str p.1)]) (.int ((fd.length % 2 : Nat) : Int)) = some false := by
      have : fd.length % 2 = 0 := by omega
      rw [this]; rfl
    have s0 : nm x = sp fd x := by rw [sp, if_neg hq]
    simp only [↓q_scons, ↓q_snil, ↓q_cond, ↓q_ret, ↓q_set, ↓q_aug, ↓q_seti, ↓q_seta, ↓q_expr, ↓q_bnd, ↓q_rt, ↓q_ite, ↓q_cst, ↓q_var, ↓q_gl, ↓q_gc, ↓q_lift, ↓q_look, ↓q_and, ↓q_or, ↓q_not, ↓q_iteE, ↓q_bin, ↓q_cmp, ↓q_list, ↓q_tup, ↓q_call, ↓q_meth, ↓q_attr, ↓q_idx, ↓q_slc, ↓q_nil, ↓q_cons, ↓q_knil, ↓q_kcons, ↓q_cnil, ↓q_ccons, ↓q_sTn, ↓q_sTc, ↓q_sT1, ↓q_sTt, ↓q_sVn, ↓q_sVc, ↓q_alloc, ↓q_inil, ↓q_icons, ↓q_lvl, ↓q_elt, List.getElem?_cons_succ, List.getElem?_cons_zero, Option.join_some, List.set_cons_succ, List.set_cons_zero, plainC, ↓reduceIte, Bool.false_eq_true, e_eqs, e_tru, e_trs, List.length_cons, List.length_nil, c0, m0, r0, S.len, l0, e_mod2, t0, c1, m1]
    rw [← s0] at e1
    simp only [e1, e2, e_ne, ↓q_scons, ↓q_snil, ↓q_cond, ↓q_ret, ↓q_set, ↓q_aug, ↓q_seti, ↓q_seta, ↓q_expr, ↓q_bnd, ↓q_rt, ↓q_ite, ↓q_cst, ↓q_var, ↓q_gl, ↓q_gc, ↓q_lift, ↓q_look, ↓q_and, ↓q_or, ↓q_not, ↓q_iteE, ↓q_bin, ↓q_cmp, ↓q_list, ↓q_tup, ↓q_call, ↓q_meth, ↓q_attr, ↓q_idx, ↓q_slc, ↓q_nil, ↓q_cons, ↓q_knil, ↓q_kcons, ↓q_cnil, ↓q_ccons, ↓q_sTn, ↓q_sTc, ↓q_sT1, ↓q_sTt, ↓q_sVn, ↓q_sVc, ↓q_alloc, ↓q_inil, ↓q_icons, ↓q_lvl, ↓q_elt, List.getElem?_cons_succ, List.getElem?_cons_zero, Option.join_some, List.set_cons_succ, List.set_cons_zero, plainC, ↓reduceIte, Bool.false_eq_true, e_eqs, e_tru, e_trs, List.length_cons, List.length_nil]
    exact ⟨_, _, rfl, L2, k1⟩

theorem nth_zip2 {n m k : Nat} {a b c d : PV} (h1 : σ[n]? = some (.lst [a, b])) (h2 : σ[m]? = some (.lst [c, d])) (h3 : σ[k]? = some (.own 2)) (i : Nat) : nth σ (.zip [.obj n, .obj m] k) i = some [PV.tup [a, c], PV.tup [b, d]][i]? := by
  have ho : isOwn σ k 2 = true := by simp only [isOwn, h3]; rfl
  simp only [nth, List.length_cons, List.length_nil, Nat.zero_add, ho, if_true]
  match i with
  | 0 => simp only [nths, nth1, lstAt, h1, h2, List.getElem?_cons_zero]
  | 1 => simp only [nths, nth1, lstAt, h1, h2, List.getElem?_cons_zero, List.getElem?_cons_succ]
  | i + 2 => simp only [nths, nth1, lstAt, h1, h2, List.getElem?_cons_succ, List.getElem?_nil]

theorem d_obj {k n : Nat} {xs : List PV} (h : σ[n]? = some (.lst xs)) : deep σ (k + 1) (.obj n) = (mapO (deep σ k) xs).map .list := by
  have : deep σ (k + 1) (.obj n) = match lstAt σ n with
      | some xs => (mapO (deep σ k) xs).map .list
      | none => none := rfl
  rw [this]
  simp only [lstAt, h]
theorem d_tup (k : Nat) (xs : List PV) : deep σ (k + 1) (.tup xs) = (mapO (deep σ k) xs).map .tuple := rfl
/-- two lists alike -/
theorem e_lst {n m : Nat} {xs : List PV} {ds : List PyData} (h1 : σ[n]? = some (.lst xs)) (h2 : σ[m]? = some (.lst xs)) (hd : mapO (deep σ 5) xs = some ds) (he : PyData.eqvAll ds ds = true) : cmpop σ .NotEq (.obj n) (.obj m) = some false := by
  have e1 : deep σ 6 (.obj n) = some (.list ds) := by rw [d_obj h1, hd]; rfl
  have e2 : deep σ 6 (.obj m) = some (.list ds) := by rw [d_obj h2, hd]; rfl
  simp only [cmpop, cmpI, cmpIS, inO, eqTop, e1, e2, PyData.eqv, he, Option.map_some, Bool.not_true]
theorem mapO_str (k : Nat) : ∀ r : List Str, mapO (deep σ (k + 1)) (r.map PV.str) = some (r.map PyData.str)
  | [] => rfl
  | x :: r => by simp only [List.map_cons, mapO, mapO_str k r, d_str]
theorem eqv_strs : ∀ r : List Str, PyData.eqvAll (r.map PyData.str) (r.map PyData.str) = true
  | [] => rfl
  | x :: r => by simp only [List.map_cons, PyData.eqvAll, PyData.eqv, beq_self_eq_true, eqv_strs r, Bool.and_self]
theorem d_tp (k : Nat) (p : Str × Str) : deep σ (k + 1) (tp p) = some (.tuple [.str p.1, .str p.2]) := by
  rw [tp, d_tup]
  simp only [mapO, d_str, Option.map_some]
theorem mapO_tp (k : Nat) : ∀ r : List (Str × Str), mapO (deep σ (k + 1)) (r.map tp) = some (r.map fun p => .tuple [.str p.1, .str p.2])
  | [] => rfl
  | x :: r => by simp only [List.map_cons, mapO, mapO_tp k r, d_tp]
theorem eqv_tps : ∀ r : List (Str × Str), PyData.eqvAll (r.map fun p => .tuple [.str p.1, .str p.2]) (r.map fun p => .tuple [.str p.1, .str p.2]) = true
  | [] => rfl
  | x :: r => by simp only [List.map_cons, PyData.eqvAll, PyData.eqv, beq_self_eq_true, eqv_tps r, Bool.and_self]
theorem e_add {x y : Str} (h : fits (x ++ y) = true) : binop .Add (.str x) (.str y) σ = some (.str (x ++ y), σ) := by
  simp only [binop, addM, subM, mulM, fdivM, modM, bitM, h, if_true, rt]
theorem e_m (m : F16) : binop .Add (.str "m") (.str (lets m)) σ = some (.str (nm (true, m)), σ) := e_add (n_fits (true, m))
theorem e_n (m : F16) : binop .Add (.str "n") (.str (lets m)) σ = some (.str (nm (false, m)), σ) := e_add (n_fits (false, m))
theorem i_sub (x y : Int) : binop .Sub (.int x) (.int y) σ = some (.int (x - y), σ) := rfl
theorem i_add (x y : Int) : binop .Add (.int x) (.int y) σ = some (.int (x + y), σ) := rfl

noncomputable def add2 (fd : Fd) (a b : F16) : Fd := addF (addF fd (true, dif a b) a) (false, dif b a) b
theorem body_step (S : Sp T) {x0 : F16} {xs' : List F16} (hx : xs = x0 :: xs') (L : LS σ t hs f o1 o2 xs ys fd) (a b : F16) (v5 v6 v7 v8 v9 v10 v11 v12 v13 v14 : Option PV) :
    ∃ w6 w7 w8 w9 w10 w11 w12 w13 σ', bnd (setT ⟨[some (.obj 0), some (.obj o1), some (.obj o2), some (.obj f), some (iv a), v5, v6, v7, v8, v9, v10, v11, v12, v13, v14], [1]⟩ (iv b) (.one (.loc 5))) (fun fm'' => exs T b_236_4_0 fm'') σ =
      some ((⟨[some (.obj 0), some (.obj o1), some (.obj o2), some (.obj f), some (iv a), some (iv b), w6, w7, w8, w9, w10, w11, w12, w13, v14], [1]⟩, none), σ') ∧ LS σ' t hs f o1 o2 xs ys (add2 fd a b) := by
  -- the first statements
  obtain ⟨nms, hn⟩ : ∃ c : Cell, c = .lst [.str (nm (true, dif a b)), .str (nm (false, dif b a))] := ⟨_, rfl⟩
  have hq : (σ ++ [nms])[σ.length]? = some nms := q_last _ rfl
  have a1 : ∀ r, exs T (.cons s_236_4_0_0 (.cons s_236_4_0_1 (.cons s_236_4_0_2 (.cons s_236_4_0_3 (.cons s_236_4_0_4 (.cons s_236_4_0_5 r)))))) ⟨[some (.obj 0), some (.obj o1), some (.obj o2), some (.obj f), some (iv a), some (iv b), v6, v7, v8, v9, v10, v11, v12, v13, v14], [1]⟩ σ =
      exs T r ⟨[some (.obj 0), some (.obj o1), some (.obj o2), some (.obj f), some (iv a), some (iv b), some (.str (word a)), some (.str (word b)), some (.obj σ.length), some (.str (rowsOf (dif a b) (dif b a))), some (.int (priceOf (dif a b) (dif b a))), v11, v12, v13, v14], [1]⟩ (σ ++ [nms]) := by
    intro r
    have j0 : (lstAt (σ ++ [nms]) σ.length).bind strsO = some [nm (true, dif a b), nm (false, dif b a)] := by
      have hq' : (σ ++ [nms])[σ.length]? = some (.lst [.str (nm (true, dif a b)), .str (nm (false, dif b a))]) := by rw [hq, hn]
      simp only [lstAt, hq', Option.bind_some, strsO, Option.map_some]
    have j1 := bi_join j0 (f_join (dif a b) (dif b a))
    have j2 : (priceOf (dif a b) (dif b a)) = (rowsOf (dif a b) (dif b a)).length - 2 + Txt.count (rowsOf (dif a b) (dif b a)) ("d" : Str) := by rw [priceOf]
    have j3 : Txt.join ("" : Str) [nm (true, dif a b), nm (false, dif b a)] = rowsOf (dif a b) (dif b a) := by rw [rowsOf]
    rw [j3] at j1
    unfold s_236_4_0_0 s_236_4_0_1 s_236_4_0_2 s_236_4_0_3 s_236_4_0_4 s_236_4_0_5
    simp only [↓q_scons, ↓q_snil, ↓q_cond, ↓q_ret, ↓q_set, ↓q_aug, ↓q_seti, ↓q_seta, ↓q_expr, ↓q_bnd, ↓q_rt, ↓q_ite, ↓q_cst, ↓q_var, ↓q_gl, ↓q_gc, ↓q_lift, ↓q_look, ↓q_and, ↓q_or, ↓q_not, ↓q_iteE, ↓q_bin, ↓q_cmp, ↓q_list, ↓q_tup, ↓q_call, ↓q_meth, ↓q_attr, ↓q_idx, ↓q_slc, ↓q_nil, ↓q_cons, ↓q_knil, ↓q_kcons, ↓q_cnil, ↓q_ccons, ↓q_sTn, ↓q_sTc, ↓q_sT1, ↓q_sTt, ↓q_sVn, ↓q_sVc, ↓q_alloc, ↓q_inil, ↓q_icons, ↓q_lvl, ↓q_elt, List.getElem?_cons_succ, List.getElem?_cons_zero, Option.join_some, List.set_cons_succ, List.set_cons_zero, plainC, ↓reduceIte, Bool.false_eq_true, e_eqs, e_tru, e_trs, List.length_cons, List.length_nil, S.p203, S.p217, e_m, e_n, show (2 : Nat) ≤ 1000 by decide, ← hn, S.mjoin, S.join, j1, S.len, bi_lens, i_sub, S.mcount, S.count, bi_count, i_add, ← j2, S.p59, e_nei]
  have i0 : item (σ ++ [nms]) (.obj o1) (.int 0) = some (iv x0) := by
    have h1 : (σ ++ [nms])[o1]? = some (.lst (iv x0 :: xs'.map iv)) := by rw [q_app _ (lt_of_get L.l1), L.l1, hx, List.map_cons]
    have h2 : idxAt 0 (iv x0 :: xs'.map iv).length = some 0 := by
      have : seqIndex? 0 (iv x0 :: xs'.map iv).length = some 0 := by simp [seqIndex?]
      show (if small 0 = true then seqIndex? 0 _ else none) = _
      rw [if_pos (by decide), this]
    simp only [item, lstAt, h1, h2, List.getElem?_cons_zero]
  have a2 : ∃ σ₂, σ ++ [nms] <+: σ₂ ∧ ∀ r, exs T (.cons s_236_4_0_6 r) ⟨[some (.obj 0), some (.obj o1), some (.obj o2), some (.obj f), some (iv a), some (iv b), some (.str (word a)), some (.str (word b)), some (.obj σ.length), some (.str (rowsOf (dif a b) (dif b a))), some (.int (priceOf (dif a b) (dif b a))), v11, v12, v13, v14], [1]⟩ (σ ++ [nms]) =
      exs T r ⟨[some (.obj 0), some (.obj o1), some (.obj o2), some (.obj f), some (iv a), some (iv b), some (.str (word a)), some (.str (word b)), some (.obj σ.length), some (.str (rowsOf (dif a b) (dif b a))), some (.int (priceOf (dif a b) (dif b a))), v11, v12, v13, v14], [1]⟩ σ₂ := by
    by_cases hc : (a.val : Int) = x0.val
    · have c1 : cmpop (σ ++ [nms]) .Eq (iv a) (iv x0) = some true := by
        simp only [cmpop, cmpI, cmpIS, inO, iv, e_eqi, hc, beq_self_eq_true]
      have c2 : cmpop ((σ ++ [nms]) ++ [nms]) .NotEq (.obj σ.length) (.obj (σ ++ [nms]).length) = some false := by
        refine e_lst (xs := [.str (nm (true, dif a b)), .str (nm (false, dif b a))]) ?_ ?_ (mapO_str 4 [nm (true, dif a b), nm (false, dif b a)]) (eqv_strs _)
        · rw [q_app _ (by simp), hq, hn]
        · rw [q_last _ rfl, hn]
      refine ⟨(σ ++ [nms]) ++ [nms], List.prefix_append _ _, fun r => ?_⟩
      unfold s_236_4_0_6
      simp only [↓q_scons, ↓q_snil, ↓q_cond, ↓q_ret, ↓q_set, ↓q_aug, ↓q_seti, ↓q_seta, ↓q_expr, ↓q_bnd, ↓q_rt, ↓q_ite, ↓q_cst, ↓q_var, ↓q_gl, ↓q_gc, ↓q_lift, ↓q_look, ↓q_and, ↓q_or, ↓q_not, ↓q_iteE, ↓q_bin, ↓q_cmp, ↓q_list, ↓q_tup, ↓q_call, ↓q_meth, ↓q_attr, ↓q_idx, ↓q_slc, ↓q_nil, ↓q_cons, ↓q_knil, ↓q_kcons, ↓q_cnil, ↓q_ccons, ↓q_sTn, ↓q_sTc, ↓q_sT1, ↓q_sTt, ↓q_sVn, ↓q_sVc, ↓q_alloc, ↓q_inil, ↓q_icons, ↓q_lvl, ↓q_elt, List.getElem?_cons_succ, List.getElem?_cons_zero, Option.join_some, List.set_cons_succ, List.set_cons_zero, plainC, ↓reduceIte, Bool.false_eq_true, e_eqs, e_tru, e_trs, List.length_cons, List.length_nil, i0, c1, S.p224, e_m, e_n, show (2 : Nat) ≤ 1000 by decide, ← hn, c2]
    · have c1 : cmpop (σ ++ [nms]) .Eq (iv a) (iv x0) = some false := by
        simp only [cmpop, cmpI, cmpIS, inO, iv, e_eqi]
        rw [beq_eq_false_iff_ne.mpr hc]
      refine ⟨σ ++ [nms], List.prefix_refl _, fun r => ?_⟩
      unfold s_236_4_0_6
      simp only [↓q_scons, ↓q_snil, ↓q_cond, ↓q_ret, ↓q_set, ↓q_aug, ↓q_seti, ↓q_seta, ↓q_expr, ↓q_bnd, ↓q_rt, ↓q_ite, ↓q_cst, ↓q_var, ↓q_gl, ↓q_gc, ↓q_lift, ↓q_look, ↓q_and, ↓q_or, ↓q_not, ↓q_iteE, ↓q_bin, ↓q_cmp, ↓q_list, ↓q_tup, ↓q_call, ↓q_meth, ↓q_attr, ↓q_idx, ↓q_slc, ↓q_nil, ↓q_cons, ↓q_knil, ↓q_kcons, ↓q_cnil, ↓q_ccons, ↓q_sTn, ↓q_sTc, ↓q_sT1, ↓q_sTt, ↓q_sVn, ↓q_sVc, ↓q_alloc, ↓q_inil, ↓q_icons, ↓q_lvl, ↓q_elt, List.getElem?_cons_succ, List.getElem?_cons_zero, Option.join_some, List.set_cons_succ, List.set_cons_zero, plainC, ↓reduceIte, Bool.false_eq_true, e_eqs, e_tru, e_trs, List.length_cons, List.length_nil, i0, c1]
  obtain ⟨σ₂, p2, a2⟩ := a2
  have p3 : σ <+: σ₂ := (List.prefix_append _ _).trans p2
  have L2 := L.pre p3
  have hq2 : σ₂[σ.length]? = some (.lst [.str (nm (true, dif a b)), .str (nm (false, dif b a))]) := by rw [get_pre p2 hq, hn]
  -- the two names
  obtain ⟨wds, hw⟩ : ∃ c : Cell, c = .lst [.str (word a), .str (word b)] := ⟨_, rfl⟩
  have hl1 : (σ₂ ++ [wds])[σ.length]? = some (.lst [.str (nm (true, dif a b)), .str (nm (false, dif b a))]) := by rw [q_app _ (lt_of_get hq2), hq2]
  have hl2 : (σ₂ ++ [wds])[σ₂.length]? = some (.lst [.str (word a), .str (word b)]) := by rw [q_last _ rfl, hw]
  have z1 : evI T (.zip (.cons (.var (.loc 8)) (.cons (.list (.cons (.var (.loc 6)) (.cons (.var (.loc 7)) .nil))) .nil))) ⟨[some (.obj 0), some (.obj o1), some (.obj o2), some (.obj f), some (iv a), some (iv b), some (.str (word a)), some (.str (word b)), some (.obj σ.length), some (.str (rowsOf (dif a b) (dif b a))), some (.int (priceOf (dif a b) (dif b a))), v11, v12, v13, v14], [1]⟩ σ₂ =
      some (.zip [.obj σ.length, .obj σ₂.length] (σ₂.length + 1), (σ₂ ++ [wds]) ++ [.own 2]) := by
    simp only [q_izip, ↓q_scons, ↓q_snil, ↓q_cond, ↓q_ret, ↓q_set, ↓q_aug, ↓q_seti, ↓q_seta, ↓q_expr, ↓q_bnd, ↓q_rt, ↓q_ite, ↓q_cst, ↓q_var, ↓q_gl, ↓q_gc, ↓q_lift, ↓q_look, ↓q_and, ↓q_or, ↓q_not, ↓q_iteE, ↓q_bin, ↓q_cmp, ↓q_list, ↓q_tup, ↓q_call, ↓q_meth, ↓q_attr, ↓q_idx, ↓q_slc, ↓q_nil, ↓q_cons, ↓q_knil, ↓q_kcons, ↓q_cnil, ↓q_ccons, ↓q_sTn, ↓q_sTc, ↓q_sT1, ↓q_sTt, ↓q_sVn, ↓q_sVc, ↓q_alloc, ↓q_inil, ↓q_icons, ↓q_lvl, ↓q_elt, List.getElem?_cons_succ, List.getElem?_cons_zero, Option.join_some, List.set_cons_succ, List.set_cons_zero, plainC, ↓reduceIte, Bool.false_eq_true, e_eqs, e_tru, e_trs, List.length_cons, List.length_nil, show (2 : Nat) ≤ 1000 by decide, ← hw, List.all_cons, List.all_nil, zipable, nth1, lstAt, hl1, hl2, List.getElem?_cons_zero, Option.isSome_some, Bool.and_self, Nat.zero_add, beq_self_eq_true, Bool.true_or, q_len]
    rw [hw]
    rfl
  have hs1 : hs < σ₂.length := lt_of_get L2.hd.lst
  have hs2 : f < σ₂.length := lt_of_get L2.fnd
  have p4 : σ₂ <+: (σ₂ ++ [wds]) ++ [.own 2] := (List.prefix_append _ _).trans (List.prefix_append _ _)
  have hne1 : σ.length ≠ hs := fun e => by have := lt_of_get L.hd.lst; omega
  have hne2 : σ.length ≠ f := fun e => by have := lt_of_get L.fnd; omega
  have key := loop_rule (γ := PV) (src := .zip [.obj σ.length, .obj σ₂.length] (σ₂.length + 1)) (body := fun v fm' => bnd (setT fm' v (.tup [.loc 11, .loc 12])) fun fm'' => exs T b_236_4_0_7 fm'')
    (xs := [.tup [.str (nm (true, dif a b)), .str (word a)], .tup [.str (nm (false, dif b a)), .str (word b)]])
    (fun i m σ' => (∃ v11 v12 v13, m = ⟨[some (.obj 0), some (.obj o1), some (.obj o2), some (.obj f), some (iv a), some (iv b), some (.str (word a)), some (.str (word b)), some (.obj σ.length), some (.str (rowsOf (dif a b) (dif b a))), some (.int (priceOf (dif a b) (dif b a))), v11, v12, v13, v14], [1]⟩) ∧
      LS σ' t hs f o1 o2 xs ys (if i = 0 then fd else if i = 1 then addF fd (true, dif a b) a else add2 fd a b) ∧ Kp ((σ₂ ++ [wds]) ++ [.own 2]) σ' hs f)
    (fun i m σ' hI => by
      obtain ⟨_, _, kp⟩ := hI
      refine nth_zip2 (kp.2 _ _ hne1 hne2 ?_) (kp.2 _ _ (by omega) (by omega) ?_) (kp.2 _ _ (by omega) (by omega) ?_) i
      · rw [q_app _ (by have := lt_of_get hq2; simp; omega)]; exact hl1
      · rw [q_app _ (by simp)]; exact hl2
      · exact q_last _ (by simp))
    (fun i hi m σ' hI => by
      obtain ⟨⟨v11, v12, v13, rfl⟩, L', kp⟩ := hI
      match i, hi with
      | 0, _ =>
        obtain ⟨s13, σ'', e, L'', k''⟩ := inner_step S L' (true, dif a b) a (some (iv a)) (some (iv b)) (some (.str (word a))) (some (.str (word b))) (some (.obj σ.length)) (some (.str (rowsOf (dif a b) (dif b a)))) (some (.int (priceOf (dif a b) (dif b a)))) v11 v12 v13 v14
        exact ⟨_, _, e, ⟨_, _, _, rfl⟩, L'', kp.trans k''⟩
      | 1, _ =>
        obtain ⟨s13, σ'', e, L'', k''⟩ := inner_step S L' (false, dif b a) b (some (iv a)) (some (iv b)) (some (.str (word a))) (some (.str (word b))) (some (.obj σ.length)) (some (.str (rowsOf (dif a b) (dif b a)))) (some (.int (priceOf (dif a b) (dif b a)))) v11 v12 v13 v14
        exact ⟨_, _, e, ⟨_, _, _, rfl⟩, L'', kp.trans k''⟩
      | i + 2, h => simp at h; omega)
    fuel 0 _ _ ⟨⟨v11, v12, v13, rfl⟩, L2.pre p4, Kp.pre (List.prefix_refl _)⟩ (by omega) (by simp [fuel])
  obtain ⟨m, σ', ke, ⟨w11, w12, w13, rfl⟩, L3, _⟩ := key
  refine ⟨some (.str (word a)), some (.str (word b)), some (.obj σ.length), some (.str (rowsOf (dif a b) (dif b a))), some (.int (priceOf (dif a b) (dif b a))), w11, w12, w13, σ', ?_, by simpa using L3⟩
  unfold b_236_4_0
  simp only [↓q_bnd, ↓q_sT1, List.set_cons_succ, List.set_cons_zero, a1, a2]
  rw [q_scons]
  unfold s_236_4_0_7
  rw [q_loop]
  simp only [↓q_bnd, z1, ke, ↓q_snil]
end
end Mine
end

section
set_option tactic.hygienic false
namespace Mine
open PySem PyProof.Rows
section
variable {σ σ' : St} {t hs n f o1 o2 : Nat} {xs ys : List F16} {fd : Fd} {T : Tab}
noncomputable def fdRow (fd : Fd) (a : F16) (l : List F16) : Fd := l.foldl (fun fd b => add2 fd a b) fd
noncomputable def fdAll (ys : List F16) (fd : Fd) (l : List F16) : Fd := l.foldl (fun fd a => fdRow fd a ys) fd
theorem row_step (S : Sp T) {x0 : F16} {xs' : List F16} (hx : xs = x0 :: xs') (hy : ys.length < 80) (L : LS σ t hs f o1 o2 xs ys fd) (a : F16) (v4 v5 v6 v7 v8 v9 v10 v11 v12 v13 v14 : Option PV) :
    ∃ w5 w6 w7 w8 w9 w10 w11 w12 w13 σ', bnd (setT ⟨[some (.obj 0), some (.obj o1), some (.obj o2), some (.obj f), v4, v5, v6, v7, v8, v9, v10, v11, v12, v13, v14], [1]⟩ (iv a) (.one (.loc 4))) (fun fm'' => exs T b_236_4 fm'') σ =
      some ((⟨[some (.obj 0), some (.obj o1), some (.obj o2), some (.obj f), some (iv a), w5, w6, w7, w8, w9, w10, w11, w12, w13, v14], [1]⟩, none), σ') ∧ LS σ' t hs f o1 o2 xs ys (fdRow fd a ys) := by
  have key := loop_rule (γ := PV) (src := .one (.obj o2)) (body := fun v fm' => bnd (setT fm' v (.one (.loc 5))) fun fm'' => exs T b_236_4_0 fm'') (xs := ys.map iv)
    (fun i m σ' => (∃ w5 w6 w7 w8 w9 w10 w11 w12 w13, m = ⟨[some (.obj 0), some (.obj o1), some (.obj o2), some (.obj f), some (iv a), w5, w6, w7, w8, w9, w10, w11, w12, w13, v14], [1]⟩) ∧ LS σ' t hs f o1 o2 xs ys (fdRow fd a (ys.take i)))
    (fun i m σ' hI => nth_lst hI.2.l2)
    (fun i hi m σ' hI => by
      obtain ⟨⟨w5, w6, w7, w8, w9, w10, w11, w12, w13, rfl⟩, L'⟩ := hI
      have hi' : i < ys.length := by simpa using hi
      have ex : (ys.map iv)[i] = iv ys[i] := by simp
      obtain ⟨u6, u7, u8, u9, u10, u11, u12, u13, σ'', e, L''⟩ := body_step S hx L' a ys[i] w5 w6 w7 w8 w9 w10 w11 w12 w13 v14
      rw [ex]
      refine ⟨_, _, e, ⟨_, _, _, _, _, _, _, _, _, rfl⟩, ?_⟩
      have : fdRow fd a (ys.take (i + 1)) = add2 (fdRow fd a (ys.take i)) a ys[i] := by
        unfold fdRow; rw [List.take_succ_eq_append_getElem hi', List.foldl_append]; rfl
      rw [this]; exact L'')
    fuel 0 ⟨[some (.obj 0), some (.obj o1), some (.obj o2), some (.obj f), some (iv a), v5, v6, v7, v8, v9, v10, v11, v12, v13, v14], [1]⟩ σ ⟨⟨_, _, _, _, _, _, _, _, _, rfl⟩, L⟩ (by omega) (by simp [fuel]; omega)
  obtain ⟨m, σ', ke, ⟨w5, w6, w7, w8, w9, w10, w11, w12, w13, rfl⟩, L'⟩ := key
  rw [List.length_map, List.take_length] at L'
  refine ⟨w5, w6, w7, w8, w9, w10, w11, w12, w13, σ', ?_, L'⟩
  have e5 : evI T (.val (.var (.loc 2))) ⟨[some (.obj 0), some (.obj o1), some (.obj o2), some (.obj f), some (iv a), v5, v6, v7, v8, v9, v10, v11, v12, v13, v14], [1]⟩ σ = some (.one (.obj o2), σ) := evI_lst (by simp only [↓q_scons, ↓q_snil, ↓q_cond, ↓q_ret, ↓q_set, ↓q_aug, ↓q_seti, ↓q_seta, ↓q_expr, ↓q_bnd, ↓q_rt, ↓q_ite, ↓q_cst, ↓q_var, ↓q_gl, ↓q_gc, ↓q_lift, ↓q_look, ↓q_and, ↓q_or, ↓q_not, ↓q_iteE, ↓q_bin, ↓q_cmp, ↓q_list, ↓q_tup, ↓q_call, ↓q_meth, ↓q_attr, ↓q_idx, ↓q_slc, ↓q_nil, ↓q_cons, ↓q_knil, ↓q_kcons, ↓q_cnil, ↓q_ccons, ↓q_sTn, ↓q_sTc, ↓q_sT1, ↓q_sTt, ↓q_sVn, ↓q_sVc, ↓q_alloc, ↓q_inil, ↓q_icons, ↓q_lvl, ↓q_elt, List.getElem?_cons_succ, List.getElem?_cons_zero, Option.join_some, List.set_cons_succ, List.set_cons_zero, plainC, ↓reduceIte, Bool.false_eq_true, e_eqs, e_tru, e_trs, List.length_cons, List.length_nil]) L.l2
  unfold b_236_4 s_236_4_0
  simp only [↓q_scons, ↓q_snil, ↓q_cond, ↓q_ret, ↓q_set, ↓q_aug, ↓q_seti, ↓q_seta, ↓q_expr, ↓q_bnd, ↓q_rt, ↓q_ite, ↓q_cst, ↓q_var, ↓q_gl, ↓q_gc, ↓q_lift, ↓q_look, ↓q_and, ↓q_or, ↓q_not, ↓q_iteE, ↓q_bin, ↓q_cmp, ↓q_list, ↓q_tup, ↓q_call, ↓q_meth, ↓q_attr, ↓q_idx, ↓q_slc, ↓q_nil, ↓q_cons, ↓q_knil, ↓q_kcons, ↓q_cnil, ↓q_ccons, ↓q_sTn, ↓q_sTc, ↓q_sT1, ↓q_sTt, ↓q_sVn, ↓q_sVc, ↓q_alloc, ↓q_inil, ↓q_icons, ↓q_lvl, ↓q_elt, List.getElem?_cons_succ, List.getElem?_cons_zero, Option.join_some, List.set_cons_succ, List.set_cons_zero, plainC, ↓reduceIte, Bool.false_eq_true, e_eqs, e_tru, e_trs, List.length_cons, List.length_nil, ↓q_loop, e5, ke]

theorem all_step (S : Sp T) (hxl : xs.length < 80) (hy : ys.length < 80) (L : LS σ t hs f o1 o2 xs ys []) :
    ∃ w4 w5 w6 w7 w8 w9 w10 w11 w12 w13 σ', LS σ' t hs f o1 o2 xs ys (fdAll ys [] xs) ∧ ∀ r, exs T (.cons s_236_4 r) ⟨[some (.obj 0), some (.obj o1), some (.obj o2), some (.obj f), none, none, none, none, none, none, none, none, none, none, none], [1]⟩ σ =
      exs T r ⟨[some (.obj 0), some (.obj o1), some (.obj o2), some (.obj f), w4, w5, w6, w7, w8, w9, w10, w11, w12, w13, none], [1]⟩ σ' := by
  have key := loop_rule (γ := PV) (src := .one (.obj o1)) (body := fun v fm' => bnd (setT fm' v (.one (.loc 4))) fun fm'' => exs T b_236_4 fm'') (xs := xs.map iv)
    (fun i m σ' => (∃ w4 w5 w6 w7 w8 w9 w10 w11 w12 w13, m = ⟨[some (.obj 0), some (.obj o1), some (.obj o2), some (.obj f), w4, w5, w6, w7, w8, w9, w10, w11, w12, w13, none], [1]⟩) ∧ LS σ' t hs f o1 o2 xs ys (fdAll ys [] (xs.take i)))
    (fun i m σ' hI => nth_lst hI.2.l1)
    (fun i hi m σ' hI => by
      obtain ⟨⟨w4, w5, w6, w7, w8, w9, w10, w11, w12, w13, rfl⟩, L'⟩ := hI
      have hi' : i < xs.length := by simpa using hi
      have ex : (xs.map iv)[i] = iv xs[i] := by simp
      obtain ⟨x0, xs', hx⟩ : ∃ x0 xs', xs = x0 :: xs' := by
        cases hxs : xs with
        | nil => rw [hxs] at hi'; simp at hi'
        | cons x0 xs' => exact ⟨_, _, rfl⟩
      obtain ⟨u5, u6, u7, u8, u9, u10, u11, u12, u13, σ'', e, L''⟩ := row_step S hx hy L' xs[i] w4 w5 w6 w7 w8 w9 w10 w11 w12 w13 none
      rw [ex]
      refine ⟨_, _, e, ⟨_, _, _, _, _, _, _, _, _, _, rfl⟩, ?_⟩
      have : fdAll ys [] (xs.take (i + 1)) = fdRow (fdAll ys [] (xs.take i)) xs[i] ys := by
        unfold fdAll; rw [List.take_succ_eq_append_getElem hi', List.foldl_append]; rfl
      rw [this]; exact L'')
    fuel 0 ⟨[some (.obj 0), some (.obj o1), some (.obj o2), some (.obj f), none, none, none, none, none, none, none, none, none, none, none], [1]⟩ σ ⟨⟨_, _, _, _, _, _, _, _, _, _, rfl⟩, L⟩ (by omega) (by simp [fuel]; omega)
  obtain ⟨m, σ', ke, ⟨w4, w5, w6, w7, w8, w9, w10, w11, w12, w13, rfl⟩, L'⟩ := key
  rw [List.length_map, List.take_length] at L'
  refine ⟨w4, w5, w6, w7, w8, w9, w10, w11, w12, w13, σ', L', fun r => ?_⟩
  have e5 : evI T (.val (.var (.loc 1))) ⟨[some (.obj 0), some (.obj o1), some (.obj o2), some (.obj f), none, none, none, none, none, none, none, none, none, none, none], [1]⟩ σ = some (.one (.obj o1), σ) := evI_lst (by simp only [↓q_scons, ↓q_snil, ↓q_cond, ↓q_ret, ↓q_set, ↓q_aug, ↓q_seti, ↓q_seta, ↓q_expr, ↓q_bnd, ↓q_rt, ↓q_ite, ↓q_cst, ↓q_var, ↓q_gl, ↓q_gc, ↓q_lift, ↓q_look, ↓q_and, ↓q_or, ↓q_not, ↓q_iteE, ↓q_bin, ↓q_cmp, ↓q_list, ↓q_tup, ↓q_call, ↓q_meth, ↓q_attr, ↓q_idx, ↓q_slc, ↓q_nil, ↓q_cons, ↓q_knil, ↓q_kcons, ↓q_cnil, ↓q_ccons, ↓q_sTn, ↓q_sTc, ↓q_sT1, ↓q_sTt, ↓q_sVn, ↓q_sVc, ↓q_alloc, ↓q_inil, ↓q_icons, ↓q_lvl, ↓q_elt, List.getElem?_cons_succ, List.getElem?_cons_zero, Option.join_some, List.set_cons_succ, List.set_cons_zero, plainC, ↓reduceIte, Bool.false_eq_true, e_eqs, e_tru, e_trs, List.length_cons, List.length_nil]) L.l1
  unfold s_236_4
  simp only [↓q_scons, ↓q_snil, ↓q_cond, ↓q_ret, ↓q_set, ↓q_aug, ↓q_seti, ↓q_seta, ↓q_expr, ↓q_bnd, ↓q_rt, ↓q_ite, ↓q_cst, ↓q_var, ↓q_gl, ↓q_gc, ↓q_lift, ↓q_look, ↓q_and, ↓q_or, ↓q_not, ↓q_iteE, ↓q_bin, ↓q_cmp, ↓q_list, ↓q_tup, ↓q_call, ↓q_meth, ↓q_attr, ↓q_idx, ↓q_slc, ↓q_nil, ↓q_cons, ↓q_knil, ↓q_kcons, ↓q_cnil, ↓q_ccons, ↓q_sTn, ↓q_sTc, ↓q_sT1, ↓q_sTt, ↓q_sVn, ↓q_sVc, ↓q_alloc, ↓q_inil, ↓q_icons, ↓q_lvl, ↓q_elt, List.getElem?_cons_succ, List.getElem?_cons_zero, Option.join_some, List.set_cons_succ, List.set_cons_zero, plainC, ↓reduceIte, Bool.false_eq_true, e_eqs, e_tru, e_trs, List.length_cons, List.length_nil, ↓q_loop, e5, ke]

/-! ### the last statements -/
noncomputable def lowt : PV → PV
  | .tup [.str a, b] => .tup [.str (low a), b]
  | v => v
noncomputable def mM : PV → Bool
  | .str s => match item [] (.str s) (.int 0) with
    | some (.str c) => Txt.contains ("mM" : Str) c
    | _ => false
  | _ => false
theorem item_str (s : Str) (v : PV) : item σ (.str s) v = item [] (.str s) v := by
  cases v <;> rfl
theorem c_in (x y : Str) : cmpop σ .In (.str x) (.str y) = some (Txt.contains y x) := rfl
set_option tactic.hygienic true in
theorem mM_fst (y : Nm) (b : Bool) : ∃ c, item [] (.str (if b then upp (nm y) else nm y)) (.int 0) = some (.str c) ∧ Txt.contains ("mM" : Str) c = y.1 := by
  have := f_fst y.1 y.2 b
  split at this
  · rename_i c e
    exact ⟨c, e, by simpa using this⟩
  · cases this
theorem mM_at (y : Nm) (b : Bool) : mM (.str (if b then upp (nm y) else nm y)) = y.1 := by
  obtain ⟨c, e1, e2⟩ := mM_fst y b
  simp only [mM, e1, e2]
theorem cnt : ∀ (fd : Fd) (q : Nat → Bool), ((((fp fd).mapIdx fun i p => (if q i then upp p.1 else p.1, p.2)).map fun p => PV.str p.1).flatMap fun x => if mM x then [x] else []).length = (fd.filter (·.1.1)).length
  | [], _ => rfl
  | y :: fd, q => by
    have ih := cnt fd (fun i => q (i + 1))
    simp only [fp, List.map_cons, List.mapIdx_cons, List.flatMap_cons, List.length_append, List.filter_cons] at ih ⊢
    rw [ih, mM_at y.1 (q 0)]
    cases y.1.1 <;> simp <;> omega
theorem e_mul (x y : Nat) (hx : x < 1000) (hy : y < 1000) : binop .Mult (.int (x : Int)) (.int (y : Int)) σ = some (.int ((x * y : Nat) : Int), σ) := by
  have h1 : (x : Int).natAbs < 1000000 := by omega
  have h2 : (y : Int).natAbs < 1000000 := by omega
  simp only [binop, addM, subM, mulM, fdivM, modM, bitM, h1, h2, decide_true, Bool.and_self, if_true, rt, Int.natCast_mul]
theorem e_ge (x y : Nat) (h : y ≤ x) : cmpop σ .GtE (.int (x : Int)) (.int (y : Int)) = some true := by
  have : (x : Int) ≥ (y : Int) := by omega
  simp only [cmpop, cmpI, cmpIS, inO, this, decide_true]

theorem tail (S : Sp T) (L : LS σ t hs f o1 o2 xs ys fd) (hxl : xs.length ≤ 4) (hyl : ys.length ≤ 4) (hN : xs.length * ys.length ≤ (fd.filter (·.1.1)).length * (fd.length - (fd.filter (·.1.1)).length)) (v4 v5 v6 v7 v8 v9 v10 v11 v12 v13 v14 : Option PV) :
    ∃ m σ', exs T (.cons s_236_5 (.cons s_236_6 (.cons s_236_7 (.cons s_236_8 .nil)))) ⟨[some (.obj 0), some (.obj o1), some (.obj o2), some (.obj f), v4, v5, v6, v7, v8, v9, v10, v11, v12, v13, v14], [1]⟩ σ = some ((m, some (.bool true)), σ') := by
  obtain ⟨fm, hfm⟩ : ∃ fm : Fm, fm = ⟨[some (.obj 0), some (.obj o1), some (.obj o2), some (.obj f), v4, v5, v6, v7, v8, v9, v10, v11, v12, v13, v14], [1]⟩ := ⟨_, rfl⟩
  have hl : fd.length ≤ 32 := fd_len L.nd
  -- items
  have a5 : ∃ σ₁, σ <+: σ₁ ∧ ∀ r, exs T (.cons s_236_5 r) fm σ = exs T r fm σ₁ := by
    have c0 := celAt_1 L.cel
    have e5 : evI T (.val (.meth (.var (.cel 0)) "items" .nil .nil)) fm σ = some (.one (.obj σ.length), σ ++ [.lst ((hp fd).map tp)]) := by
      subst hfm
      exact evI_lst (by simp only [↓q_scons, ↓q_snil, ↓q_cond, ↓q_ret, ↓q_set, ↓q_aug, ↓q_seti, ↓q_seta, ↓q_expr, ↓q_bnd, ↓q_rt, ↓q_ite, ↓q_cst, ↓q_var, ↓q_gl, ↓q_gc, ↓q_lift, ↓q_look, ↓q_and, ↓q_or, ↓q_not, ↓q_iteE, ↓q_bin, ↓q_cmp, ↓q_list, ↓q_tup, ↓q_call, ↓q_meth, ↓q_attr, ↓q_idx, ↓q_slc, ↓q_nil, ↓q_cons, ↓q_knil, ↓q_kcons, ↓q_cnil, ↓q_ccons, ↓q_sTn, ↓q_sTc, ↓q_sT1, ↓q_sTt, ↓q_sVn, ↓q_sVc, ↓q_alloc, ↓q_inil, ↓q_icons, ↓q_lvl, ↓q_elt, List.getElem?_cons_succ, List.getElem?_cons_zero, Option.join_some, List.set_cons_succ, List.set_cons_zero, plainC, ↓reduceIte, Bool.false_eq_true, e_eqs, e_tru, e_trs, List.length_cons, List.length_nil, c0, S.mitems L.hd.obj, S.items L.hd]) (q_last _ rfl)
    have key := comp_rule (nl := 3) (frees := []) (g := .lvl (.tup [.loc 1, .loc 2]) .nil (.elt (.tup (.cons (.meth (.var (.loc 1)) "lower" .nil .nil) (.cons (.var (.loc 2)) .nil))))) (fun x => [lowt x]) (fun fm' => ∃ a b c, fm' = ⟨[a, b, c], []⟩) e5 (q_last _ rfl) rfl ⟨_, _, _, rfl⟩ (by rw [List.length_map, hp_len]; omega) (fun _ _ => by simp) (fun x hx fm' zs hF hz => by
      obtain ⟨a, b, c, rfl⟩ := hF
      obtain ⟨p, hp, rfl⟩ := List.mem_map.mp hx
      have u0 := bi_lower (σ := (σ ++ [Cell.lst ((Mine.hp fd).map tp)]) ++ [Cell.lst zs]) (okN_l (hp_ok fd p hp))
      simp only [↓q_scons, ↓q_snil, ↓q_cond, ↓q_ret, ↓q_set, ↓q_aug, ↓q_seti, ↓q_seta, ↓q_expr, ↓q_bnd, ↓q_rt, ↓q_ite, ↓q_cst, ↓q_var, ↓q_gl, ↓q_gc, ↓q_lift, ↓q_look, ↓q_and, ↓q_or, ↓q_not, ↓q_iteE, ↓q_bin, ↓q_cmp, ↓q_list, ↓q_tup, ↓q_call, ↓q_meth, ↓q_attr, ↓q_idx, ↓q_slc, ↓q_nil, ↓q_cons, ↓q_knil, ↓q_kcons, ↓q_cnil, ↓q_ccons, ↓q_sTn, ↓q_sTc, ↓q_sT1, ↓q_sTt, ↓q_sVn, ↓q_sVc, ↓q_alloc, ↓q_inil, ↓q_icons, ↓q_lvl, ↓q_elt, List.getElem?_cons_succ, List.getElem?_cons_zero, Option.join_some, List.set_cons_succ, List.set_cons_zero, plainC, ↓reduceIte, Bool.false_eq_true, e_eqs, e_tru, e_trs, List.length_cons, List.length_nil, tp, S.mlower, S.lower, u0, show (2 : Nat) ≤ 1000 by decide, push_last (show zs.length ≤ 10000 by omega), lowt]
      exact ⟨_, rfl, _, _, _, rfl⟩)
    rw [flat_map] at key
    have e6 : ((hp fd).map tp).map lowt = (fp fd).map tp := by
      rw [← hp_low, List.map_map, List.map_map]; rfl
    rw [e6] at key
    have p1 : σ <+: (σ ++ [Cell.lst ((hp fd).map tp)]) ++ [.lst ((fp fd).map tp)] := (List.prefix_append _ _).trans (List.prefix_append _ _)
    have e7 := e_lst (n := (σ ++ [Cell.lst ((hp fd).map tp)]).length) (m := f) (σ := (σ ++ [.lst ((hp fd).map tp)]) ++ [.lst ((fp fd).map tp)]) (q_last _ rfl) (get_pre p1 L.fnd) (mapO_tp 4 _) (eqv_tps _)
    refine ⟨_, p1, fun r => ?_⟩
    unfold s_236_5
    simp only [↓q_scons, ↓q_snil, ↓q_cond, ↓q_ret, ↓q_set, ↓q_aug, ↓q_seti, ↓q_seta, ↓q_expr, ↓q_bnd, ↓q_rt, ↓q_ite, ↓q_cst, ↓q_var, ↓q_gl, ↓q_gc, ↓q_lift, ↓q_look, ↓q_and, ↓q_or, ↓q_not, ↓q_iteE, ↓q_bin, ↓q_cmp, ↓q_list, ↓q_tup, ↓q_call, ↓q_meth, ↓q_attr, ↓q_idx, ↓q_slc, ↓q_nil, ↓q_cons, ↓q_knil, ↓q_kcons, ↓q_cnil, ↓q_ccons, ↓q_sTn, ↓q_sTc, ↓q_sT1, ↓q_sTt, ↓q_sVn, ↓q_sVc, ↓q_alloc, ↓q_inil, ↓q_icons, ↓q_lvl, ↓q_elt, List.getElem?_cons_succ, List.getElem?_cons_zero, Option.join_some, List.set_cons_succ, List.set_cons_zero, plainC, ↓reduceIte, Bool.false_eq_true, e_eqs, e_tru, e_trs, List.length_cons, List.length_nil, key]
    subst hfm
    simp only [↓q_scons, ↓q_snil, ↓q_cond, ↓q_ret, ↓q_set, ↓q_aug, ↓q_seti, ↓q_seta, ↓q_expr, ↓q_bnd, ↓q_rt, ↓q_ite, ↓q_cst, ↓q_var, ↓q_gl, ↓q_gc, ↓q_lift, ↓q_look, ↓q_and, ↓q_or, ↓q_not, ↓q_iteE, ↓q_bin, ↓q_cmp, ↓q_list, ↓q_tup, ↓q_call, ↓q_meth, ↓q_attr, ↓q_idx, ↓q_slc, ↓q_nil, ↓q_cons, ↓q_knil, ↓q_kcons, ↓q_cnil, ↓q_ccons, ↓q_sTn, ↓q_sTc, ↓q_sT1, ↓q_sTt, ↓q_sVn, ↓q_sVc, ↓q_alloc, ↓q_inil, ↓q_icons, ↓q_lvl, ↓q_elt, List.getElem?_cons_succ, List.getElem?_cons_zero, Option.join_some, List.set_cons_succ, List.set_cons_zero, plainC, ↓reduceIte, Bool.false_eq_true, e_eqs, e_tru, e_trs, List.length_cons, List.length_nil, e7]
  obtain ⟨σ₁, p1, a5⟩ := a5
  have L1 := L.pre p1
  -- get
  have a6 : ∃ σ₂, σ₁ <+: σ₂ ∧ ∀ r, exs T (.cons s_236_6 r) fm σ₁ = exs T r fm σ₂ := by
    have e5 : evI T (.val (.var (.loc 3))) fm σ₁ = some (.one (.obj f), σ₁) := by
      subst hfm
      exact evI_lst (by simp only [↓q_scons, ↓q_snil, ↓q_cond, ↓q_ret, ↓q_set, ↓q_aug, ↓q_seti, ↓q_seta, ↓q_expr, ↓q_bnd, ↓q_rt, ↓q_ite, ↓q_cst, ↓q_var, ↓q_gl, ↓q_gc, ↓q_lift, ↓q_look, ↓q_and, ↓q_or, ↓q_not, ↓q_iteE, ↓q_bin, ↓q_cmp, ↓q_list, ↓q_tup, ↓q_call, ↓q_meth, ↓q_attr, ↓q_idx, ↓q_slc, ↓q_nil, ↓q_cons, ↓q_knil, ↓q_kcons, ↓q_cnil, ↓q_ccons, ↓q_sTn, ↓q_sTc, ↓q_sT1, ↓q_sTt, ↓q_sVn, ↓q_sVc, ↓q_alloc, ↓q_inil, ↓q_icons, ↓q_lvl, ↓q_elt, List.getElem?_cons_succ, List.getElem?_cons_zero, Option.join_some, List.set_cons_succ, List.set_cons_zero, plainC, ↓reduceIte, Bool.false_eq_true, e_eqs, e_tru, e_trs, List.length_cons, List.length_nil]) L1.fnd
    have hfs : (([0] : List Nat).mapM fun i => fm.cs[i]?).map List.reverse = some [1] := by subst hfm; rfl
    have key := comp_rule (nl := 3) (frees := [0]) (g := .lvl (.tup [.loc 1, .loc 2]) .nil (.elt (.meth (.var (.cel 0)) "get" (.cons (.meth (.var (.loc 1)) "upper" .nil .nil) .nil) .nil))) (fun x => [snd' x]) (fun fm' => ∃ a b c, fm' = ⟨[a, b, c], [1]⟩) e5 L1.fnd hfs ⟨_, _, _, rfl⟩ (by rw [List.length_map, fp_len]; omega) (fun _ _ => by simp) (fun x hx fm' zs hF hz => by
      obtain ⟨a, b, c, rfl⟩ := hF
      obtain ⟨p, hp', rfl⟩ := List.mem_map.mp hx
      obtain ⟨y, hy, rfl⟩ := List.mem_map.mp hp'
      have L2 := L1.pre (List.prefix_append σ₁ [Cell.lst zs])
      have c0 := celAt_1 L2.cel
      have u0 := bi_upper (σ := σ₁ ++ [Cell.lst zs]) (n_upp y.1)
      have g0 := S.get L2.hd (n_okU y.1)
      rw [n_lowU, get_hp, key_at L.nd hy] at g0
      simp only [↓q_scons, ↓q_snil, ↓q_cond, ↓q_ret, ↓q_set, ↓q_aug, ↓q_seti, ↓q_seta, ↓q_expr, ↓q_bnd, ↓q_rt, ↓q_ite, ↓q_cst, ↓q_var, ↓q_gl, ↓q_gc, ↓q_lift, ↓q_look, ↓q_and, ↓q_or, ↓q_not, ↓q_iteE, ↓q_bin, ↓q_cmp, ↓q_list, ↓q_tup, ↓q_call, ↓q_meth, ↓q_attr, ↓q_idx, ↓q_slc, ↓q_nil, ↓q_cons, ↓q_knil, ↓q_kcons, ↓q_cnil, ↓q_ccons, ↓q_sTn, ↓q_sTc, ↓q_sT1, ↓q_sTt, ↓q_sVn, ↓q_sVc, ↓q_alloc, ↓q_inil, ↓q_icons, ↓q_lvl, ↓q_elt, List.getElem?_cons_succ, List.getElem?_cons_zero, Option.join_some, List.set_cons_succ, List.set_cons_zero, plainC, ↓reduceIte, Bool.false_eq_true, e_eqs, e_tru, e_trs, List.length_cons, List.length_nil, tp, c0, S.mupper, S.upper, u0, S.mget L2.hd.obj, g0, push_last (show zs.length ≤ 10000 by omega), snd']
      exact ⟨_, rfl, _, _, _, rfl⟩)
    rw [flat_map] at key
    have e6 : ((fp fd).map tp).map snd' = ((fp fd).map (·.2)).map PV.str := by
      rw [List.map_map, List.map_map]; rfl
    rw [e6] at key
    have p2 : σ₁ <+: σ₁ ++ [.lst (((fp fd).map (·.2)).map PV.str)] := List.prefix_append _ _
    have e5' : evI T (.val (.var (.loc 3))) fm (σ₁ ++ [.lst (((fp fd).map (·.2)).map PV.str)]) = some (.one (.obj f), σ₁ ++ [.lst (((fp fd).map (·.2)).map PV.str)]) := by
      subst hfm
      exact evI_lst (by simp only [↓q_scons, ↓q_snil, ↓q_cond, ↓q_ret, ↓q_set, ↓q_aug, ↓q_seti, ↓q_seta, ↓q_expr, ↓q_bnd, ↓q_rt, ↓q_ite, ↓q_cst, ↓q_var, ↓q_gl, ↓q_gc, ↓q_lift, ↓q_look, ↓q_and, ↓q_or, ↓q_not, ↓q_iteE, ↓q_bin, ↓q_cmp, ↓q_list, ↓q_tup, ↓q_call, ↓q_meth, ↓q_attr, ↓q_idx, ↓q_slc, ↓q_nil, ↓q_cons, ↓q_knil, ↓q_kcons, ↓q_cnil, ↓q_ccons, ↓q_sTn, ↓q_sTc, ↓q_sT1, ↓q_sTt, ↓q_sVn, ↓q_sVc, ↓q_alloc, ↓q_inil, ↓q_icons, ↓q_lvl, ↓q_elt, List.getElem?_cons_succ, List.getElem?_cons_zero, Option.join_some, List.set_cons_succ, List.set_cons_zero, plainC, ↓reduceIte, Bool.false_eq_true, e_eqs, e_tru, e_trs, List.length_cons, List.length_nil]) (get_pre p2 L1.fnd)
    have key2 := comp_rule (nl := 3) (frees := []) (g := .lvl (.tup [.loc 1, .loc 2]) .nil (.elt (.var (.loc 2)))) (fun x => [snd' x]) (fun fm' => ∃ a b c, fm' = ⟨[a, b, c], []⟩) e5' (get_pre p2 L1.fnd) rfl ⟨_, _, _, rfl⟩ (by rw [List.length_map, fp_len]; omega) (fun _ _ => by simp) (fun x hx fm' zs hF hz => by
      obtain ⟨a, b, c, rfl⟩ := hF
      obtain ⟨p, hp', rfl⟩ := List.mem_map.mp hx
      simp only [↓q_scons, ↓q_snil, ↓q_cond, ↓q_ret, ↓q_set, ↓q_aug, ↓q_seti, ↓q_seta, ↓q_expr, ↓q_bnd, ↓q_rt, ↓q_ite, ↓q_cst, ↓q_var, ↓q_gl, ↓q_gc, ↓q_lift, ↓q_look, ↓q_and, ↓q_or, ↓q_not, ↓q_iteE, ↓q_bin, ↓q_cmp, ↓q_list, ↓q_tup, ↓q_call, ↓q_meth, ↓q_attr, ↓q_idx, ↓q_slc, ↓q_nil, ↓q_cons, ↓q_knil, ↓q_kcons, ↓q_cnil, ↓q_ccons, ↓q_sTn, ↓q_sTc, ↓q_sT1, ↓q_sTt, ↓q_sVn, ↓q_sVc, ↓q_alloc, ↓q_inil, ↓q_icons, ↓q_lvl, ↓q_elt, List.getElem?_cons_succ, List.getElem?_cons_zero, Option.join_some, List.set_cons_succ, List.set_cons_zero, plainC, ↓reduceIte, Bool.false_eq_true, e_eqs, e_tru, e_trs, List.length_cons, List.length_nil, tp, push_last (show zs.length ≤ 10000 by omega), snd']
      exact ⟨_, rfl, _, _, _, rfl⟩)
    rw [flat_map, e6] at key2
    have p3 : σ₁ <+: (σ₁ ++ [Cell.lst (((fp fd).map (·.2)).map PV.str)]) ++ [.lst (((fp fd).map (·.2)).map PV.str)] := p2.trans (List.prefix_append _ _)
    have e7 := e_lst (n := σ₁.length) (m := (σ₁ ++ [Cell.lst (((fp fd).map (·.2)).map PV.str)]).length) (σ := (σ₁ ++ [.lst (((fp fd).map (·.2)).map PV.str)]) ++ [.lst (((fp fd).map (·.2)).map PV.str)]) (by rw [q_app _ (by simp)]; exact q_last _ rfl) (q_last _ rfl) (mapO_str 4 _) (eqv_strs _)
    refine ⟨_, p3, fun r => ?_⟩
    unfold s_236_6
    simp only [↓q_scons, ↓q_snil, ↓q_cond, ↓q_ret, ↓q_set, ↓q_aug, ↓q_seti, ↓q_seta, ↓q_expr, ↓q_bnd, ↓q_rt, ↓q_ite, ↓q_cst, ↓q_var, ↓q_gl, ↓q_gc, ↓q_lift, ↓q_look, ↓q_and, ↓q_or, ↓q_not, ↓q_iteE, ↓q_bin, ↓q_cmp, ↓q_list, ↓q_tup, ↓q_call, ↓q_meth, ↓q_attr, ↓q_idx, ↓q_slc, ↓q_nil, ↓q_cons, ↓q_knil, ↓q_kcons, ↓q_cnil, ↓q_ccons, ↓q_sTn, ↓q_sTc, ↓q_sT1, ↓q_sTt, ↓q_sVn, ↓q_sVc, ↓q_alloc, ↓q_inil, ↓q_icons, ↓q_lvl, ↓q_elt, List.getElem?_cons_succ, List.getElem?_cons_zero, Option.join_some, List.set_cons_succ, List.set_cons_zero, plainC, ↓reduceIte, Bool.false_eq_true, e_eqs, e_tru, e_trs, List.length_cons, List.length_nil, key, key2, e7]
  obtain ⟨σ₂, p2, a6⟩ := a6
  have L2 := L1.pre p2
  -- how many
  have a7 : ∃ σ₃, σ₂ <+: σ₃ ∧ ∀ r, exs T (.cons s_236_7 r) fm σ₂ = exs T r ⟨fm.ρ.set 14 (some (.int ((fd.filter (·.1.1)).length : Int))), [1]⟩ σ₃ := by
    have c0 := celAt_1 L2.cel
    have e5 : evI T (.val (.meth (.var (.cel 0)) "keys" .nil .nil)) fm σ₂ = some (.one (.obj σ₂.length), σ₂ ++ [.lst ((hp fd).map fun p => .str p.1)]) := by
      subst hfm
      exact evI_lst (by simp only [↓q_scons, ↓q_snil, ↓q_cond, ↓q_ret, ↓q_set, ↓q_aug, ↓q_seti, ↓q_seta, ↓q_expr, ↓q_bnd, ↓q_rt, ↓q_ite, ↓q_cst, ↓q_var, ↓q_gl, ↓q_gc, ↓q_lift, ↓q_look, ↓q_and, ↓q_or, ↓q_not, ↓q_iteE, ↓q_bin, ↓q_cmp, ↓q_list, ↓q_tup, ↓q_call, ↓q_meth, ↓q_attr, ↓q_idx, ↓q_slc, ↓q_nil, ↓q_cons, ↓q_knil, ↓q_kcons, ↓q_cnil, ↓q_ccons, ↓q_sTn, ↓q_sTc, ↓q_sT1, ↓q_sTt, ↓q_sVn, ↓q_sVc, ↓q_alloc, ↓q_inil, ↓q_icons, ↓q_lvl, ↓q_elt, List.getElem?_cons_succ, List.getElem?_cons_zero, Option.join_some, List.set_cons_succ, List.set_cons_zero, plainC, ↓reduceIte, Bool.false_eq_true, e_eqs, e_tru, e_trs, List.length_cons, List.length_nil, c0, S.mkeys L2.hd.obj, S.keys L2.hd]) (q_last _ rfl)
    have key := comp_rule (nl := 2) (frees := []) (g := .lvl (.one (.loc 1)) (.cons (.cmp (.idx (.var (.loc 1)) (.cst (.int 0))) (.cons .In (.cst (.str "mM")) .nil)) .nil) (.elt (.var (.loc 1)))) (fun x => if mM x then [x] else []) (fun fm' => ∃ a b, fm' = ⟨[a, b], []⟩) e5 (q_last _ rfl) rfl ⟨_, _, rfl⟩ (by rw [List.length_map, hp_len]; omega) (fun _ _ => by split <;> simp) (fun x hx fm' zs hF hz => by
      obtain ⟨a, b, rfl⟩ := hF
      obtain ⟨p, hp', rfl⟩ := List.mem_map.mp hx
      obtain ⟨i, hi, rfl⟩ := List.mem_iff_getElem.mp hp'
      have hi' : i < fd.length := by rw [hp_len] at hi; exact hi
      have e1 : (hp fd)[i].1 = if decide (i % 2 = 1) = true then upp (nm fd[i].1) else nm fd[i].1 := by
        simp only [hp, fp, List.getElem_mapIdx, List.getElem_map, decide_eq_true_eq]
      rw [e1]
      obtain ⟨c, e2, e3⟩ := mM_fst fd[i].1 (decide (i % 2 = 1))
      have e4 := mM_at fd[i].1 (decide (i % 2 = 1))
      rw [e4]
      by_cases h1 : fd[i].1.1 = true
      · rw [h1] at e3
        simp only [↓q_scons, ↓q_snil, ↓q_cond, ↓q_ret, ↓q_set, ↓q_aug, ↓q_seti, ↓q_seta, ↓q_expr, ↓q_bnd, ↓q_rt, ↓q_ite, ↓q_cst, ↓q_var, ↓q_gl, ↓q_gc, ↓q_lift, ↓q_look, ↓q_and, ↓q_or, ↓q_not, ↓q_iteE, ↓q_bin, ↓q_cmp, ↓q_list, ↓q_tup, ↓q_call, ↓q_meth, ↓q_attr, ↓q_idx, ↓q_slc, ↓q_nil, ↓q_cons, ↓q_knil, ↓q_kcons, ↓q_cnil, ↓q_ccons, ↓q_sTn, ↓q_sTc, ↓q_sT1, ↓q_sTt, ↓q_sVn, ↓q_sVc, ↓q_alloc, ↓q_inil, ↓q_icons, ↓q_lvl, ↓q_elt, List.getElem?_cons_succ, List.getElem?_cons_zero, Option.join_some, List.set_cons_succ, List.set_cons_zero, plainC, ↓reduceIte, Bool.false_eq_true, e_eqs, e_tru, e_trs, List.length_cons, List.length_nil, item_str, e2, c_in, e3, push_last (show zs.length ≤ 10000 by omega), h1]
        exact ⟨_, rfl, _, _, rfl⟩
      · rw [Bool.not_eq_true] at h1
        rw [h1] at e3
        simp only [↓q_scons, ↓q_snil, ↓q_cond, ↓q_ret, ↓q_set, ↓q_aug, ↓q_seti, ↓q_seta, ↓q_expr, ↓q_bnd, ↓q_rt, ↓q_ite, ↓q_cst, ↓q_var, ↓q_gl, ↓q_gc, ↓q_lift, ↓q_look, ↓q_and, ↓q_or, ↓q_not, ↓q_iteE, ↓q_bin, ↓q_cmp, ↓q_list, ↓q_tup, ↓q_call, ↓q_meth, ↓q_attr, ↓q_idx, ↓q_slc, ↓q_nil, ↓q_cons, ↓q_knil, ↓q_kcons, ↓q_cnil, ↓q_ccons, ↓q_sTn, ↓q_sTc, ↓q_sT1, ↓q_sTt, ↓q_sVn, ↓q_sVc, ↓q_alloc, ↓q_inil, ↓q_icons, ↓q_lvl, ↓q_elt, List.getElem?_cons_succ, List.getElem?_cons_zero, Option.join_some, List.set_cons_succ, List.set_cons_zero, plainC, ↓reduceIte, Bool.false_eq_true, e_eqs, e_tru, e_trs, List.length_cons, List.length_nil, item_str, e2, c_in, e3, h1, List.append_nil]
        exact ⟨_, rfl, _, _, rfl⟩)
    have hc := cnt fd (fun i => decide (i % 2 = 1))
    have hc' : (((hp fd).map fun p => PV.str p.1).flatMap fun x => if mM x then [x] else []).length = (fd.filter (·.1.1)).length := by
      rw [← hc]; simp only [hp, decide_eq_true_eq]
    have l0 := bi_lenl (σ := (σ₂ ++ [.lst ((hp fd).map fun p => .str p.1)]) ++ [.lst (((hp fd).map fun p => PV.str p.1).flatMap fun x => if mM x then [x] else [])]) (q_last _ rfl)
    rw [hc'] at l0
    refine ⟨(σ₂ ++ [.lst ((hp fd).map fun p => .str p.1)]) ++ [.lst (((hp fd).map fun p => PV.str p.1).flatMap fun x => if mM x then [x] else [])], (List.prefix_append _ _).trans (List.prefix_append _ _), fun r => ?_⟩
    unfold s_236_7
    simp only [↓q_scons, ↓q_snil, ↓q_cond, ↓q_ret, ↓q_set, ↓q_aug, ↓q_seti, ↓q_seta, ↓q_expr, ↓q_bnd, ↓q_rt, ↓q_ite, ↓q_cst, ↓q_var, ↓q_gl, ↓q_gc, ↓q_lift, ↓q_look, ↓q_and, ↓q_or, ↓q_not, ↓q_iteE, ↓q_bin, ↓q_cmp, ↓q_list, ↓q_tup, ↓q_call, ↓q_meth, ↓q_attr, ↓q_idx, ↓q_slc, ↓q_nil, ↓q_cons, ↓q_knil, ↓q_kcons, ↓q_cnil, ↓q_ccons, ↓q_sTn, ↓q_sTc, ↓q_sT1, ↓q_sTt, ↓q_sVn, ↓q_sVc, ↓q_alloc, ↓q_inil, ↓q_icons, ↓q_lvl, ↓q_elt, List.getElem?_cons_succ, List.getElem?_cons_zero, Option.join_some, List.set_cons_succ, List.set_cons_zero, plainC, ↓reduceIte, Bool.false_eq_true, e_eqs, e_tru, e_trs, List.length_cons, List.length_nil, key, S.len, l0]
    subst hfm
    rfl
  obtain ⟨σ₃, p3, a7⟩ := a7
  have L3 := L2.pre p3
  rw [← hfm, a5, a6, a7]
  subst hfm
  have c0 := celAt_1 L3.cel
  have p4 : σ₃ <+: σ₃ ++ [.lst ((hp fd).map fun p => .str p.1)] := List.prefix_append _ _
  have L4 := L3.pre p4
  have l0 := bi_lenl (q_last (σ := σ₃) (.lst ((hp fd).map fun p => .str p.1)) rfl)
  rw [List.length_map, hp_len] at l0
  have l1 := bi_lenl L4.l1
  have l2 := bi_lenl L4.l2
  rw [List.length_map] at l1 l2
  have hfl : (fd.filter (·.1.1)).length ≤ fd.length := List.length_filter_le _ _
  have hsub : (fd.length : Int) - ((fd.filter (·.1.1)).length : Int) = ((fd.length - (fd.filter (·.1.1)).length : Nat) : Int) := by omega
  have m1 := e_mul (σ := σ₃ ++ [.lst ((hp fd).map fun p => .str p.1)]) (fd.filter (·.1.1)).length (fd.length - (fd.filter (·.1.1)).length) (by omega) (by omega)
  have m2 := e_mul (σ := σ₃ ++ [.lst ((hp fd).map fun p => .str p.1)]) xs.length ys.length (by omega) (by omega)
  have g1 := e_ge (σ := σ₃ ++ [.lst ((hp fd).map fun p => .str p.1)]) _ _ hN
  unfold s_236_8
  simp only [↓q_scons, ↓q_snil, ↓q_cond, ↓q_ret, ↓q_set, ↓q_aug, ↓q_seti, ↓q_seta, ↓q_expr, ↓q_bnd, ↓q_rt, ↓q_ite, ↓q_cst, ↓q_var, ↓q_gl, ↓q_gc, ↓q_lift, ↓q_look, ↓q_and, ↓q_or, ↓q_not, ↓q_iteE, ↓q_bin, ↓q_cmp, ↓q_list, ↓q_tup, ↓q_call, ↓q_meth, ↓q_attr, ↓q_idx, ↓q_slc, ↓q_nil, ↓q_cons, ↓q_knil, ↓q_kcons, ↓q_cnil, ↓q_ccons, ↓q_sTn, ↓q_sTc, ↓q_sT1, ↓q_sTt, ↓q_sVn, ↓q_sVc, ↓q_alloc, ↓q_inil, ↓q_icons, ↓q_lvl, ↓q_elt, List.getElem?_cons_succ, List.getElem?_cons_zero, Option.join_some, List.set_cons_succ, List.set_cons_zero, plainC, ↓reduceIte, Bool.false_eq_true, e_eqs, e_tru, e_trs, List.length_cons, List.length_nil, c0, S.mkeys L3.hd.obj, S.keys L3.hd, S.len, l0, i_sub, hsub, m1, l1, l2, m2, g1]
  exact ⟨_, _, rfl⟩
end
end Mine
end

section
set_option tactic.hygienic false
namespace Mine
open PySem PyProof.Rows
/-! ### the number fact -/
noncomputable def enc (a b c d : Bool) : F16 := ⟨(if a then 8 else 0) + (if b then 4 else 0) + (if c then 2 else 0) + (if d then 1 else 0), by cases a <;> cases b <;> cases c <;> cases d <;> decide⟩
noncomputable def ind (L : List F16) (a b c d : Bool) : Nat := if enc a b c d ∈ L then 1 else 0
theorem S1_add (f g : Bool → Nat) : S1 (fun a => f a + g a) = S1 f + S1 g := Nat.add_add_add_comm _ _ _ _
theorem S4_add (f g : Bool → Bool → Bool → Bool → Nat) : S4 (fun a b c d => f a b c d + g a b c d) = S4 f + S4 g := by
  simp only [S4, S1_add]
theorem S1_not (f : Bool → Nat) : S1 (fun a => f (!a)) = S1 f := Nat.add_comm _ _
theorem S4_not (f : Bool → Bool → Bool → Bool → Nat) : S4 (fun a b c d => f (!a) (!b) (!c) (!d)) = S4 f :=
  (S1_not fun a => S1 fun b => S1 fun c => S1 fun d => f a (!b) (!c) (!d)).trans (congrArg S1 (funext fun a =>
    (S1_not fun b => S1 fun c => S1 fun d => f a b (!c) (!d)).trans (congrArg S1 (funext fun b =>
      (S1_not fun c => S1 fun d => f a b c (!d)).trans (congrArg S1 (funext fun c => S1_not (f a b c)))))))
theorem ind_one : ∀ x : F16, S4 (ind [x]) = 1 := by decide +kernel
theorem ind_len : ∀ L : List F16, L.Nodup → S4 (ind L) = L.length
  | [], _ => by decide +kernel
  | x :: L, h => by
    rw [List.nodup_cons] at h
    have e : ind (x :: L) = fun a b c d => ind [x] a b c d + ind L a b c d := by
      funext a b c d
      unfold ind
      by_cases h1 : enc a b c d = x
      · have : enc a b c d ∉ L := by rw [h1]; exact h.1
        simp [h1, h.1]
      · simp [h1]
    rw [e, S4_add, ind_one, ind_len L h.2, List.length_cons]; omega
theorem dif_enc : ∀ a b c d a' b' c' d' : Bool, dif (enc a b c d) (enc (!a') (!b') (!c') (!d')) = enc (a && a') (b && b') (c && c') (d && d') ∧ dif (enc (!a') (!b') (!c') (!d')) (enc a b c d) = enc (!(a || a')) (!(b || b')) (!(c || c')) (!(d || d')) := by decide +kernel
theorem marica {xs ys D1 D2 : List F16} (hx : xs.Nodup) (hy : ys.Nodup) (h1 : D1.Nodup) (h2 : D2.Nodup) (H1 : ∀ a ∈ xs, ∀ b ∈ ys, dif a b ∈ D1) (H2 : ∀ a ∈ xs, ∀ b ∈ ys, dif b a ∈ D2) : xs.length * ys.length ≤ D1.length * D2.length := by
  have key := four4 (f := ind xs) (g := fun a b c d => ind ys (!a) (!b) (!c) (!d)) (h := fun a b c d => ind D2 (!a) (!b) (!c) (!d)) (k := ind D1) (fun a b c d a' b' c' d' => by
    obtain ⟨e1, e2⟩ := dif_enc a b c d a' b' c' d'
    by_cases q1 : enc a b c d ∈ xs
    · by_cases q2 : enc (!a') (!b') (!c') (!d') ∈ ys
      · have r1 := H1 _ q1 _ q2
        have r2 := H2 _ q1 _ q2
        rw [e1] at r1; rw [e2] at r2
        simp only [ind, if_pos r1, if_pos r2, if_pos q1, if_pos q2]
        exact Nat.le_refl _
      · simp [ind, q2]
    · simp [ind, q1])
  rw [S4_not, S4_not, ind_len _ hx, ind_len _ hy, ind_len _ h1, ind_len _ h2] at key
  rw [Nat.mul_comm D1.length]; exact key

section
variable {fd : Fd}
noncomputable abbrev ks (fd : Fd) : List Nm := fd.map (·.1)
theorem add2_old {a b : F16} {y : Nm} (h : y ∈ ks fd) : y ∈ ks (add2 fd a b) := addF_old (addF_old h)
theorem row_old : ∀ (l : List F16) {fd : Fd} {a : F16} {y : Nm}, y ∈ ks fd → y ∈ ks (fdRow fd a l)
  | [], _, _, _, h => h
  | b :: l, fd, a, y, h => row_old l (fd := add2 fd a b) (add2_old h)
theorem row_new : ∀ (l : List F16) {fd : Fd} {a b : F16}, b ∈ l → (true, dif a b) ∈ ks (fdRow fd a l) ∧ (false, dif b a) ∈ ks (fdRow fd a l)
  | c :: l, fd, a, b, h => by
    rcases List.mem_cons.mp h with rfl | h
    · exact ⟨row_old l (fd := add2 fd a b) (addF_old addF_new), row_old l (fd := add2 fd a b) addF_new⟩
    · exact row_new l (fd := add2 fd a c) h
theorem all_old {ys : List F16} : ∀ (l : List F16) {fd : Fd} {y : Nm}, y ∈ ks fd → y ∈ ks (fdAll ys fd l)
  | [], _, _, h => h
  | b :: l, fd, y, h => all_old l (fd := fdRow fd b ys) (row_old ys h)
theorem all_new {ys : List F16} : ∀ (l : List F16) {fd : Fd} {a b : F16}, a ∈ l → b ∈ ys → (true, dif a b) ∈ ks (fdAll ys fd l) ∧ (false, dif b a) ∈ ks (fdAll ys fd l)
  | c :: l, fd, a, b, ha, hb => by
    rcases List.mem_cons.mp ha with rfl | ha
    · have := row_new ys (fd := fd) (a := a) hb
      exact ⟨all_old l this.1, all_old l this.2⟩
    · exact all_new l (fd := fdRow fd c ys) ha hb

theorem side_nd (s : Bool) (hn : (ks fd).Nodup) : ((fd.filter fun x => x.1.1 == s).map fun x => x.1.2).Nodup := by
  induction fd with
  | nil => exact List.nodup_nil
  | cons y fd ih =>
    simp only [ks, List.map_cons, List.nodup_cons] at hn
    rw [List.filter_cons]
    split
    · rename_i hy
      rw [List.map_cons, List.nodup_cons]
      refine ⟨fun h => ?_, ih hn.2⟩
      obtain ⟨z, hz, e⟩ := List.mem_map.mp h
      rw [List.mem_filter] at hz
      apply hn.1
      have e2 : z.1 = y.1 := by
        have h1 : z.1.1 = y.1.1 := by rw [beq_iff_eq.mp hz.2, beq_iff_eq.mp hy]
        exact Prod.ext h1 e
      exact e2 ▸ List.mem_map_of_mem hz.1
    · exact ih hn.2
theorem side_mem {s : Bool} {m : F16} (h : (s, m) ∈ ks fd) : m ∈ ((fd.filter fun x => x.1.1 == s).map fun x => x.1.2) := by
  obtain ⟨y, hy, e⟩ := List.mem_map.mp h
  refine List.mem_map.mpr ⟨y, List.mem_filter.mpr ⟨hy, ?_⟩, ?_⟩
  · rw [show y.1 = (s, m) from e]; simp
  · rw [show y.1 = (s, m) from e]
theorem side_len : (fd.filter fun x => x.1.1 == false).length = fd.length - (fd.filter (·.1.1)).length := by
  induction fd with
  | nil => rfl
  | cons y fd ih =>
    have := List.length_filter_le (fun x : Nm × F16 => x.1.1) fd
    simp only [beq_false] at ih ⊢
    rw [List.filter_cons, List.filter_cons]
    cases h : y.1.1 <;> simp <;> omega
theorem number {xs ys : List F16} (hx : xs.Nodup) (hy : ys.Nodup) (hn : (ks (fdAll ys [] xs)).Nodup) :
    xs.length * ys.length ≤ ((fdAll ys [] xs).filter (·.1.1)).length * ((fdAll ys [] xs).length - ((fdAll ys [] xs).filter (·.1.1)).length) := by
  have key := marica hx hy (side_nd true hn) (side_nd false hn) (fun a ha b hb => side_mem (all_new xs ha hb).1) (fun a ha b hb => side_mem (all_new xs ha hb).2)
  rw [List.length_map, List.length_map, side_len] at key
  have e : (fun x : Nm × F16 => x.1.1 == true) = fun x => x.1.1 := by funext x; simp
  rw [e] at key
  exact key
end
end Mine
end

section
set_option tactic.hygienic false
namespace Mine
open PySem PyProof.Rows
section
variable {σ σ' : St} {T : Tab}
/-! ### the head of the law -/
theorem pick_map (ws : List Int) (ks : List Nat) : ks.filterMap (fun k => (ws.map PV.int)[k]?) = (ks.filterMap fun k => ws[k]?).map PV.int := by
  induction ks with
  | nil => rfl
  | cons k ks ih =>
    rw [List.filterMap_cons, List.filterMap_cons, ih, List.getElem?_map]
    cases ws[k]? <;> rfl
theorem slice_ints (ws : List Int) (a b c : Option Int) : slicePV (ws.map PV.int) a b c = ((sliceRange (sliceBounds a b c ws.length).1 (sliceBounds a b c ws.length).2.1 (sliceBounds a b c ws.length).2.2).filterMap fun k => ws[k]?).map PV.int := by
  unfold slicePV
  rw [List.length_map]
  exact pick_map ws _
theorem few0 : ∀ n : _root_.Fin 7, (sliceRange (sliceBounds (some 0) none (some 2) n.val).1 (sliceBounds (some 0) none (some 2) n.val).2.1 (sliceBounds (some 0) none (some 2) n.val).2.2).length ≤ 6 := by decide +kernel
theorem few1 : ∀ n : _root_.Fin 7, (sliceRange (sliceBounds (some 1) none (some 2) n.val).1 (sliceBounds (some 1) none (some 2) n.val).2.1 (sliceBounds (some 1) none (some 2) n.val).2.2).length ≤ 6 := by decide +kernel

theorem mod16 (x : Int) : ∃ a : F16, Int.fmod x 16 = (a.val : Int) := by
  have h1 : 0 ≤ Int.fmod x 16 := Int.fmod_nonneg_of_pos _ (by decide)
  have h2 : Int.fmod x 16 < 16 := Int.fmod_lt_of_pos _ (by decide)
  refine ⟨⟨(Int.fmod x 16).toNat, by omega⟩, ?_⟩
  show _ = (((Int.fmod x 16).toNat : Nat) : Int)
  omega
theorem once_fin (ys : List Int) : ∃ xs : List F16, (once ys).map PV.int = xs.map iv ∧ xs.Nodup := by
  have : ∀ (ys : List Int) (r : List Int), (∃ xs : List F16, r = xs.map (fun a => (a.val : Int)) ∧ xs.Nodup) → ∃ xs : List F16, ys.foldl (fun r x => if Int.fmod x 16 ∈ r then r else r ++ [Int.fmod x 16]) r = xs.map (fun a => (a.val : Int)) ∧ xs.Nodup := by
    intro ys
    induction ys with
    | nil => intro r h; exact h
    | cons y ys ih =>
      intro r ⟨xs, e, hn⟩
      rw [List.foldl_cons]
      apply ih
      by_cases h : Int.fmod y 16 ∈ r
      · rw [if_pos h]; exact ⟨xs, e, hn⟩
      · rw [if_neg h]
        obtain ⟨a, ha⟩ := mod16 y
        refine ⟨xs ++ [a], by rw [e, ha]; simp, ?_⟩
        rw [List.nodup_append]
        refine ⟨hn, by simp, ?_⟩
        intro b hb c hc e'
        simp at hc
        subst hc; subst e'
        apply h
        rw [e, ha]
        exact List.mem_map_of_mem hb
  obtain ⟨xs, e, hn⟩ := this ys [] ⟨[], rfl, List.nodup_nil⟩
  refine ⟨xs, ?_, hn⟩
  show (List.map PV.int (ys.foldl _ [])) = _
  rw [e, List.map_map]; rfl

theorem lot (S : Sp T) {zz : List Int} {fm : Fm} (h0 : σ[0]? = some (.const (zz.map .int))) (hf : fm.ρ[0]?.join = some (.obj 0)) (i : Int) (p q : Int) (hi : small i = true) (hw : ∀ n : _root_.Fin 7, (sliceRange (sliceBounds (some i) none (some 2) n.val).1 (sliceBounds (some i) none (some 2) n.val).2.1 (sliceBounds (some i) none (some 2) n.val).2.2).length ≤ 6) :
    ∃ (xs : List F16) (n : Nat) (σ' : St), xs.Nodup ∧ xs.length ≤ 4 ∧ σ <+: σ' ∧ σ'[n]? = some (.lst (xs.map iv)) ∧
      ev T (.slc (.call (.cst (.top (.ref 210))) (.cons (.bin .Add (.slc (.slc (.var (.loc 0)) (.cst .none) (.cst (.int 6)) (.cst .none)) (.cst (.int i)) (.cst .none) (.cst (.int 2))) (.list (.cons (.cst (.int p)) (.cons (.cst (.int q)) .nil)))) .nil) .nil) (.cst .none) (.cst (.int 4)) (.cst .none)) fm σ = some (.obj n, σ') := by
  have e1 : slice (.obj 0) .none (.int 6) .none σ = some (.obj σ.length, σ ++ [.lst ((zz.take 6).map .int)]) := by
    rw [slice_const 6 6 rfl (by decide +kernel) h0, List.map_take]
  obtain ⟨zs, hz⟩ : ∃ zs, zs = (sliceRange (sliceBounds (some i) none (some 2) (zz.take 6).length).1 (sliceBounds (some i) none (some 2) (zz.take 6).length).2.1 (sliceBounds (some i) none (some 2) (zz.take 6).length).2.2).filterMap fun k => (zz.take 6)[k]? := ⟨_, rfl⟩
  have hzl : zs.length ≤ 6 := by
    rw [hz]
    refine Nat.le_trans (List.length_filterMap_le _ _) ?_
    exact hw ⟨(zz.take 6).length, by rw [List.length_take]; omega⟩
  have e2 : slice (.obj σ.length) (.int i) .none (.int 2) (σ ++ [.lst ((zz.take 6).map .int)]) = some (.obj (σ ++ [Cell.lst ((zz.take 6).map .int)]).length, (σ ++ [.lst ((zz.take 6).map .int)]) ++ [.lst (zs.map .int)]) := by
    rw [slice_gen (o_int _ hi) o_none (o_int 2 (by decide +kernel)) rfl (q_last _ rfl), slice_ints, ← hz]
  obtain ⟨σ₁, h1⟩ : ∃ σ₁, σ₁ = σ ++ [Cell.lst ((zz.take 6).map .int)] := ⟨_, rfl⟩
  rw [← h1] at e1 e2
  obtain ⟨σ₂, h2⟩ : ∃ σ₂, σ₂ = σ₁ ++ [Cell.lst (zs.map .int)] := ⟨_, rfl⟩
  rw [← h2] at e2
  obtain ⟨σ₃, h3⟩ : ∃ σ₃, σ₃ = σ₂ ++ [Cell.lst [.int p, .int q]] := ⟨_, rfl⟩
  have e3 : binop .Add (.obj σ₁.length) (.obj σ₂.length) σ₃ = some (.obj σ₃.length, σ₃ ++ [.lst ((zs ++ [p, q]).map .int)]) := by
    have g1 : σ₃[σ₁.length]? = some (.lst (zs.map .int)) := by rw [h3, q_app _ (by rw [h2]; simp), h2]; exact q_last _ rfl
    have g2 : σ₃[σ₂.length]? = some (.lst [.int p, .int q]) := by rw [h3]; exact q_last _ rfl
    have hle : (zs.map PV.int).length + [PV.int p, PV.int q].length ≤ 10000 := by simp; omega
    simp only [binop, addM, subM, mulM, fdivM, modM, bitM, lstAt, g1, g2, if_pos hle, alloc, List.map_append, List.map_cons, List.map_nil]
  obtain ⟨σ₄, h4⟩ : ∃ σ₄, σ₄ = σ₃ ++ [Cell.lst ((zs ++ [p, q]).map .int)] := ⟨_, rfl⟩
  rw [← h4] at e3
  have e4 := S.once (σ := σ₄) (n := σ₃.length) (ys := zs ++ [p, q]) (by rw [h4]; exact q_last _ rfl) (by simp; omega)
  obtain ⟨xs, hx, hn⟩ := once_fin (zs ++ [p, q])
  rw [hx] at e4
  obtain ⟨σ₅, h5⟩ : ∃ σ₅, σ₅ = σ₄ ++ [Cell.lst (xs.map iv)] := ⟨_, rfl⟩
  rw [← h5] at e4
  have e5 : slice (.obj σ₄.length) .none (.int 4) .none σ₅ = some (.obj σ₅.length, σ₅ ++ [.lst ((xs.take 4).map iv)]) := by
    rw [slice_take 4 4 rfl (by decide +kernel) (by rw [h5]; exact q_last _ rfl), List.map_take]
  refine ⟨xs.take 4, σ₅.length, σ₅ ++ [.lst ((xs.take 4).map iv)], (List.take_sublist _ _).nodup hn, by rw [List.length_take]; omega, ?_, q_last _ rfl, ?_⟩
  · rw [h5, h4, h3, h2, h1]
    simp only [List.append_assoc]
    exact List.prefix_append _ _
  · simp only [↓q_scons, ↓q_snil, ↓q_cond, ↓q_ret, ↓q_set, ↓q_aug, ↓q_seti, ↓q_seta, ↓q_expr, ↓q_bnd, ↓q_rt, ↓q_ite, ↓q_cst, ↓q_var, ↓q_gl, ↓q_gc, ↓q_lift, ↓q_look, ↓q_and, ↓q_or, ↓q_not, ↓q_iteE, ↓q_bin, ↓q_cmp, ↓q_list, ↓q_tup, ↓q_call, ↓q_meth, ↓q_attr, ↓q_idx, ↓q_slc, ↓q_nil, ↓q_cons, ↓q_knil, ↓q_kcons, ↓q_cnil, ↓q_ccons, ↓q_sTn, ↓q_sTc, ↓q_sT1, ↓q_sTt, ↓q_sVn, ↓q_sVc, ↓q_alloc, ↓q_inil, ↓q_icons, ↓q_lvl, ↓q_elt, List.getElem?_cons_succ, List.getElem?_cons_zero, Option.join_some, List.set_cons_succ, List.set_cons_zero, plainC, ↓reduceIte, Bool.false_eq_true, e_eqs, e_tru, e_trs, List.length_cons, List.length_nil, hf, e1, e2, show (2 : Nat) ≤ 1000 by decide, ← h3, e3, e4, e5]

theorem law_true (S : Sp T) (zz : List Int) : ∃ σ', k_236.run T [.obj 0] [.const (zz.map .int)] = some (.bool true, σ') := by
  obtain ⟨σ, hσ⟩ : ∃ σ : St, σ = [.const (zz.map .int), .cel none] := ⟨_, rfl⟩
  have h0 : σ[0]? = some (.const (zz.map .int)) := by rw [hσ]; rfl
  have h1 : σ[1]? = some (.cel none) := by rw [hσ]; rfl
  -- the two lots
  obtain ⟨xs, o1, σ₁, nx, lx, p1, g1, e1⟩ := lot S (fm := ⟨[some (.obj 0), none, none, none, none, none, none, none, none, none, none, none, none, none, none], [1]⟩) h0 rfl 0 3 5 (by decide +kernel) few0
  obtain ⟨ys, o2, σ₂, ny, ly, p2, g2, e2⟩ := lot S (fm := ⟨[some (.obj 0), some (.obj o1), none, none, none, none, none, none, none, none, none, none, none, none, none], [1]⟩) (get_pre p1 h0) rfl 1 12 10 (by decide +kernel) few1
  have h1' := get_pre p2 (get_pre p1 h1)
  have e3 := S.new σ₂
  obtain ⟨σ₃, h3⟩ : ∃ σ₃, σ₃ = (σ₂ ++ [Cell.inst 192 [("_headers", .obj (σ₂.length + 1))]]) ++ [.lst []] := ⟨_, rfl⟩
  rw [← h3] at e3
  have p3 : σ₂ <+: σ₃ := by rw [h3]; exact (List.prefix_append _ _).trans (List.prefix_append _ _)
  have e4 (fm : Fm) (hc : fm.cs = [1]) : setV fm (.obj σ₂.length) (.cel 0) σ₃ = some (fm, σ₃.set 1 (.cel (some (.obj σ₂.length)))) := by
    simp only [setV, hc, List.getElem?_cons_zero, get_pre p3 h1']
  obtain ⟨σ₄, h4⟩ : ∃ σ₄, σ₄ = σ₃.set 1 (.cel (some (.obj σ₂.length))) := ⟨_, rfl⟩
  have hl2 : 1 < σ₂.length := lt_of_get h1'
  have g3 : ∀ k c, k ≠ 1 → σ₃[k]? = some c → σ₄[k]? = some c := fun k c hk h => by rw [h4, get_set hk]; exact h
  have q1 : ∀ {k c}, k ≠ 1 → σ₂[k]? = some c → σ₄[k]? = some c := fun hk h => g3 _ _ hk (get_pre p3 h)
  have hlen4 : σ₄.length = σ₂.length + 2 := by rw [h4, h3]; simp
  have no1 : o1 ≠ 1 := fun e => by have := get_pre p1 h1; rw [e] at g1; rw [g1] at this; cases this
  have no2 : o2 ≠ 1 := fun e => by rw [e] at g2; rw [g2] at h1'; cases h1'
  have L : LS (σ₄ ++ [.lst []]) σ₂.length (σ₂.length + 1) σ₄.length o1 o2 xs ys [] := by
    refine LS.mk (get_pre (List.prefix_append _ _) ?_) (HdAt.pre (HdAt.mk (ps := hp []) ?_ ?_ (hp_ok []) (by decide)) (List.prefix_append _ _)) (q_last _ rfl) (get_pre (List.prefix_append _ _) (q1 no1 (get_pre p2 g1))) (get_pre (List.prefix_append _ _) (q1 no2 g2)) (by omega) ?_ ?_ List.nodup_nil
    · rw [h4]; exact get_set_same (get_pre p3 h1')
    · refine g3 _ _ (by omega) ?_
      rw [h3, q_app _ (by simp)]; exact q_last _ rfl
    · refine g3 _ _ (by omega) ?_
      rw [h3]; exact q_last _ (by simp)
    · have := lt_of_get g1; have := p2.length_le; omega
    · have := lt_of_get g2; omega
  obtain ⟨w4, w5, w6, w7, w8, w9, w10, w11, w12, w13, σ₅, L5, e5⟩ := all_step S (by omega) (by omega) L
  obtain ⟨m, σ₆, e6⟩ := tail S L5 lx ly (number nx ny L5.nd) w4 w5 w6 w7 w8 w9 w10 w11 w12 w13 none
  have main : exs T b_236 ⟨[some (.obj 0), none, none, none, none, none, none, none, none, none, none, none, none, none, none], [1]⟩ σ = some ((m, some (.bool true)), σ₆) := by
    unfold b_236
    have t0 : ∀ r, exs T (.cons s_236_0 r) ⟨[some (.obj 0), none, none, none, none, none, none, none, none, none, none, none, none, none, none], [1]⟩ σ = exs T r ⟨[some (.obj 0), some (.obj o1), none, none, none, none, none, none, none, none, none, none, none, none, none], [1]⟩ σ₁ := by
      intro r
      unfold s_236_0
      rw [q_scons, q_set]
      simp only [↓q_bnd, e1, ↓q_sTc, ↓q_sT1, ↓q_sTn, ↓q_rt, List.set_cons_succ, List.set_cons_zero]
    have t1 : ∀ r, exs T (.cons s_236_1 r) ⟨[some (.obj 0), some (.obj o1), none, none, none, none, none, none, none, none, none, none, none, none, none], [1]⟩ σ₁ = exs T r ⟨[some (.obj 0), some (.obj o1), some (.obj o2), none, none, none, none, none, none, none, none, none, none, none, none], [1]⟩ σ₂ := by
      intro r
      unfold s_236_1
      rw [q_scons, q_set]
      simp only [↓q_bnd, e2, ↓q_sTc, ↓q_sT1, ↓q_sTn, ↓q_rt, List.set_cons_succ, List.set_cons_zero]
    have t2 : ∀ r, exs T (.cons s_236_2 r) ⟨[some (.obj 0), some (.obj o1), some (.obj o2), none, none, none, none, none, none, none, none, none, none, none, none], [1]⟩ σ₂ = exs T r ⟨[some (.obj 0), some (.obj o1), some (.obj o2), none, none, none, none, none, none, none, none, none, none, none, none], [1]⟩ σ₄ := by
      intro r
      unfold s_236_2
      have := e4 ⟨[some (.obj 0), some (.obj o1), some (.obj o2), none, none, none, none, none, none, none, none, none, none, none, none], [1]⟩ rfl
      rw [← h4] at this
      simp only [↓q_scons, ↓q_snil, ↓q_cond, ↓q_ret, ↓q_set, ↓q_aug, ↓q_seti, ↓q_seta, ↓q_expr, ↓q_bnd, ↓q_rt, ↓q_ite, ↓q_cst, ↓q_var, ↓q_gl, ↓q_gc, ↓q_lift, ↓q_look, ↓q_and, ↓q_or, ↓q_not, ↓q_iteE, ↓q_bin, ↓q_cmp, ↓q_list, ↓q_tup, ↓q_call, ↓q_meth, ↓q_attr, ↓q_idx, ↓q_slc, ↓q_nil, ↓q_cons, ↓q_knil, ↓q_kcons, ↓q_cnil, ↓q_ccons, ↓q_sTn, ↓q_sTc, ↓q_sT1, ↓q_sTt, ↓q_sVn, ↓q_sVc, ↓q_alloc, ↓q_inil, ↓q_icons, ↓q_lvl, ↓q_elt, List.getElem?_cons_succ, List.getElem?_cons_zero, Option.join_some, List.set_cons_succ, List.set_cons_zero, plainC, ↓reduceIte, Bool.false_eq_true, e_eqs, e_tru, e_trs, List.length_cons, List.length_nil, e3, setT, this]
    have t3 : ∀ r, exs T (.cons s_236_3 r) ⟨[some (.obj 0), some (.obj o1), some (.obj o2), none, none, none, none, none, none, none, none, none, none, none, none], [1]⟩ σ₄ = exs T r ⟨[some (.obj 0), some (.obj o1), some (.obj o2), some (.obj σ₄.length), none, none, none, none, none, none, none, none, none, none, none], [1]⟩ (σ₄ ++ [.lst []]) := by
      intro r
      unfold s_236_3
      simp only [↓q_scons, ↓q_snil, ↓q_cond, ↓q_ret, ↓q_set, ↓q_aug, ↓q_seti, ↓q_seta, ↓q_expr, ↓q_bnd, ↓q_rt, ↓q_ite, ↓q_cst, ↓q_var, ↓q_gl, ↓q_gc, ↓q_lift, ↓q_look, ↓q_and, ↓q_or, ↓q_not, ↓q_iteE, ↓q_bin, ↓q_cmp, ↓q_list, ↓q_tup, ↓q_call, ↓q_meth, ↓q_attr, ↓q_idx, ↓q_slc, ↓q_nil, ↓q_cons, ↓q_knil, ↓q_kcons, ↓q_cnil, ↓q_ccons, ↓q_sTn, ↓q_sTc, ↓q_sT1, ↓q_sTt, ↓q_sVn, ↓q_sVc, ↓q_alloc, ↓q_inil, ↓q_icons, ↓q_lvl, ↓q_elt, List.getElem?_cons_succ, List.getElem?_cons_zero, Option.join_some, List.set_cons_succ, List.set_cons_zero, plainC, ↓reduceIte, Bool.false_eq_true, e_eqs, e_tru, e_trs, List.length_cons, List.length_nil, show (0 : Nat) ≤ 1000 by decide]
    rw [t0, t1, t2, t3, e5, e6]
  refine ⟨σ₆, ?_⟩
  show run T 15 1 [.loc 0] b_236 [.obj 0] [.const (zz.map .int)] = _
  have e7 : run T 15 1 [.loc 0] b_236 [.obj 0] [.const (zz.map .int)] = bnd (exs T b_236 ⟨[some (.obj 0), none, none, none, none, none, none, none, none, none, none, none, none, none, none], [1]⟩) (fun r => rt (r.2.getD .none)) σ := by rw [hσ]; rfl
  rw [e7]
  simp only [↓q_bnd, main, ↓q_rt, Option.getD_some]
end
end Mine
end

section
set_option tactic.hygienic false
namespace Mine
open PySem PyProof.Rows
theorem inv_const {h : Heap} {l : Addr} {vals : List Value} {xs : List PV} (hL : h.IsList l vals.toArray) (hv : RVs [(l, l)] h xs vals) (hz : xs.length ≤ 20000) : Inv h [(l, l)] [.const xs] h where
  base := fun _ _ e => e
  sz := Nat.le_refl _
  low := fun i p c hp hc hn => by
    cases i with
    | zero => simp at hc; subst hc; cases hn
    | succ i => simp at hc
  len := rfl
  nd := by simp
  at_ := fun i c p hc hp => by
    cases i with
    | zero =>
      simp at hc hp; subst hc; subst hp
      exact ⟨rfl, hz, vals, hL, hv⟩
    | succ i => simp at hc
end Mine
end

section
set_option tactic.hygienic false
namespace Mine
open PySem PyProof.Rows
theorem rvs_ints {φ : Phi} {h : Heap} {vals : List Value} {zz : List Int} (H : IntsAre vals zz) : RVs φ h (zz.map PV.int) vals := by
  induction H with
  | nil => exact .nil
  | cons _ _ _ ih => exact .cons (.int _ _) ih
theorem room_caller : Room 6 callerA := ⟨by decide +kernel, by decide +kernel, rfl⟩
theorem lawJoin {prog : Program} {w : World} {s₁ : Shared} {mg mb : Str → Option Value} (KX : (K1 w.params).In s₁.heap) (hg : s₁.heap.Ns mainGlobals mg) (hb : s₁.heap.Ns builtinsNs mb) (hbb : ∀ x : Str, x ≠ "__name__" → mb x = bootBuiltins x) (hl : s₁.heap.NoLimit) {l : Addr} {vals : List Value} {zz : List Int}
    (hL : s₁.heap.IsList l vals.toArray) (hI : IntsAre vals zz) (hz : zz.length ≤ 20000) :
    W prog w callerA (call (.ref 236) [.ref l] []) s₁ (fun u h' => u = .bool true ∧ ∀ b o, s₁.heap.get? b = some o → h'.get? b = some o) := by
  have D := wd_e (prog := prog) (w := w) KX hl (globs_of KX hg hb hbb (g1_ok _))
  obtain ⟨σ', e⟩ := law_true sp_e zz
  rw [← ke_236] at e
  have I := inv_const hL (rvs_ints hI) (by rw [List.length_map]; exact hz)
  have q : RVs [(l, l)] s₁.heap [.obj 0] [.ref l] := .cons (.obj (p := (l, l)) rfl) .nil
  refine (cf_sound D (pl_236.fn KX hl) pl_236.cf e room_caller I (bo_236 [.obj 0] [] [.obj 0] rfl callerA.in1 s₁ [(l, l)] _ [.ref l] [] I q .nil)).mono fun u h' r => ?_
  obtain ⟨φ', S, I', q'⟩ := r
  cases q'
  exact ⟨rfl, I'.base⟩
end Mine
end

set_option tactic.hygienic false
open PySem PySem.W PyProof.Rows
noncomputable def Mine.law1.tw9452547445585764089 : Program := Challenge.pw_st0030_01
theorem Mine.law1.te9452547445585764089 : Challenge.pw_st0030_01 = Mine.law1.tw9452547445585764089 := by kernel_rfl
set_option tactic.hygienic true in
set_option Elab.async true in
theorem Mine.law1 : PySem.Challenge.rw_st0030_01.Holds := by
  w_on
  o_law
  k_head
  (case hw => w_witness2)
  k_fill
  intro w s₀ s₁ mg mb G Y fa o pm cd doc dV kV ho hdd hcd hD hmg hg args vals as hpre hlay hrd hwl hlo
  have KX : (Mine.K1 w.params).In s₁.heap := kIn_of Y
  refine Ground.open G ?_
  intro T B D TE TW
  wrow_args hpre hlay hrd hwl hlo
  rename_i zz hs hlay0 hL1 hr1 hl2 as1 as2 l vs as3 hL ra w1 r0 hI hr hcond hcond2
  x_fa T KX hmg
  refine wpAny_mono (Mine.lawJoin KX T.g T.b T.builtins T.nolimit hL hI (by omega)) (fun u s' hu => ?_) (fun _ _ e => ?_)
  · obtain ⟨h', tk, rfl, rfl, hk⟩ := hu
    refine GoodW.toG ⟨.inl ⟨_, .bool true, [], rfl, fun _ => rfl, ?_, ?_, ?_⟩, hk, rfl, hg⟩
    · exact ReadsW.bool true
    · kernel_rfl
    · exact fun _ => ⟨List.nodup_nil, fun _ hm => (nomatch hm)⟩
  · cases e
theorem PySem.Challenge.cw_st0030_01_holds : PySem.Challenge.rw_st0030_01.Holds :=
  Mine.law1
