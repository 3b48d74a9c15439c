import PyProof.Rows.All
import Wide.All
import OpenK.AllK
import KE.KIntText
import KE.KSortKey
import KE.KLam
import Wide.FinOn
import PySem.Challenge.RW_st0030_02
set_option Elab.async false
set_option genInjectivity false
set_option genSizeOf false
set_option maxRecDepth 1000000
set_option maxHeartbeats 8000000
set_option linter.unusedSimpArgs false
set_option linter.unusedVariables false
section
namespace Mine
theorem byc {G : Prop} (h : ¬G → False) : G := Classical.byContradiction h
theorem nsm {α : Type _} {x : α} {P : Prop} (h : none = some x) : P := nomatch h
theorem smi {α : Type _} {a b : α} (h : some a = some b) : a = b := Option.some.inj h
theorem smp {α : Type _} {β : Type _} {a c : α} {b d : β} (h : some (a, b) = some (c, d)) : a = c ∧ b = d := Prod.mk.inj (Option.some.inj h)
theorem nil0 {α : Type _} {Y : List α} : ∀ x, x ∈ [] → x ∈ Y := nofun
theorem nil1 {α : Type _} {X : List α} : ∀ x, x ∈ X → ¬x ∈ [] := nofun
theorem nil2 {α : Type _} {P : α → Prop} : ∀ x, x ∈ [] → P x := nofun
theorem one1 {α : Type _} {a : α} {X : List α} : ∀ x, x ∈ [a] → x ∈ a :: X := fun x h => List.mem_singleton.1 h ▸ List.mem_cons_self
theorem one2 {α : Type _} {a b : α} {X : List α} : ∀ x, x ∈ [a] → x ∈ b :: a :: X := fun x h => .tail _ (List.mem_singleton.1 h ▸ List.mem_cons_self)
inductive OB {α : Type _} {β : Type _} (o : Option α) (f : α → Option β) (b : β) : Prop
  | mk (a : α) (h1 : o = some a) (h2 : f a = some b)
theorem obind {α : Type _} {β : Type _} {o : Option α} {f : α → Option β} {b : β} (h : o.bind f = some b) : OB o f b := by
  cases o with
  | none => exact nsm h
  | some a => exact ⟨a, rfl, h⟩
inductive OM {α : Type _} {β : Type _} (o : Option α) (f : α → β) (b : β) : Prop
  | mk (a : α) (h1 : o = some a) (h2 : f a = b)
theorem omap {α : Type _} {β : Type _} {o : Option α} {f : α → β} {b : β} (h : o.map f = some b) : OM o f b := by
  cases o with
  | none => exact nsm h
  | some a => exact ⟨a, rfl, smi h⟩
inductive IfS (c : Prop) {α : Type _} (o : Option α) (b : α) : Prop
  | mk (h1 : c) (h2 : o = some b)
theorem ifS {c : Prop} [Decidable c] {α : Type _} {o : Option α} {b : α} (h : (if c then o else none) = some b) : IfS c o b := by
  by_cases hc : c
  · exact ⟨hc, (if_pos hc).symm.trans h⟩
  · exact nsm ((if_neg hc).symm.trans h)
theorem ifO {c : Prop} [Decidable c] {α : Type _} {a b : Option α} {r : α} (h : (if c then a else b) = some r) : (c ∧ a = some r) ∨ b = some r := by
  by_cases hc : c
  · exact .inl ⟨hc, (if_pos hc).symm.trans h⟩
  · exact .inr ((if_neg hc).symm.trans h)
theorem ifN {c : Prop} [Decidable c] {α : Type _} {o : Option α} {b : α} (h : (if c then none else o) = some b) : IfS (¬c) o b := by
  by_cases hc : c
  · exact nsm ((if_pos hc).symm.trans h)
  · exact ⟨hc, (if_neg hc).symm.trans h⟩
end Mine
end
section
namespace Mine
open PySem PySem.W PyProof.Rows
noncomputable def pre.tw428184282938912 : Program := Challenge.pw_st0030_02
theorem pre.te428184282938912 : Challenge.pw_st0030_02 = pre.tw428184282938912 := by kernel_rfl
theorem of_holds (_ : Challenge.rw_st0030_02.Holds) : (True ∧ True) = True := by simp
set_option Elab.async true in
theorem pre : (True ∧ True) ∧ 0 + 0 = 0 := by
  simp (discharger := (w_on; o_law; k_head; (case hw => w_witness2))) only [of_holds, Nat.add_zero]
  decide
end Mine
end
set_option tactic.hygienic false
section
set_option genInjectivity false
set_option genSizeOf false
namespace Mine
open PySem PyProof.Rows
inductive PV where
  | none | bool (b : Bool) | int (i : Int) | str (s : Str) | tup (xs : List PV) | obj (n : Nat) | top (v : Value) | range (a b c : Int)
inductive Cell where
  | lst (xs : List PV) | inst (C : Addr) (as : List (Str × PV)) | cel (v : Option PV) | own (n : Nat) | const (xs : List PV) | tab (fresh : Bool)
inductive MV where
  | loc (i : Nat) | cel (i : Nat)
inductive MT where
  | one (x : MV) | tup (xs : List MV)
mutual
inductive ME where
  | cst (v : PV)
  | var (x : MV)
  | and (a b : ME)
  | or (a b : ME)
  | not (a : ME)
  | ite (t b o : ME)
  | bin (op : Operator) (a b : ME)
  | cmp (a : ME) (r : MC)
  | list (es : MEs)
  | tup (es : MEs)
  | comp (nl nc : Nat) (frees : List Nat) (it : MI) (g : MG)
  | call (f : ME) (es : MEs) (ks : MK)
  | meth (o : ME) (x : Str) (es : MEs) (ks : MK)
  | attr (o : ME) (x : Str)
  | idx (o i : ME)
  | slc (o l u s : ME)
inductive MEs where
  | nil
  | cons (e : ME) (r : MEs)
inductive MK where
  | nil
  | cons (x : Str) (e : ME) (r : MK)
inductive MC where
  | nil
  | cons (op : CmpOp) (e : ME) (r : MC)
inductive MI where
  | val (e : ME)
  | zip (es : MEs)
inductive MG where
  | lvl (t : MT) (ifs : MEs) (r : MG)
  | elt (e : ME)
  | nest (it : MI) (g : MG)
end
mutual
inductive MS where
  | bad
  | expr (e : ME)
  | ret (e : ME)
  | set (ts : List MT) (e : ME)
  | aug (x : MV) (op : Operator) (e : ME)
  | seti (o i e : ME)
  | seta (o : ME) (x : Str) (e : ME)
  | cond (t : ME) (b o : MSs)
  | whil (t : ME) (b : MSs)
  | loop (t : MT) (it : MI) (b : MSs)
inductive MSs where
  | nil
  | cons (s : MS) (r : MSs)
end
noncomputable abbrev St := List Cell
noncomputable abbrev M (α : Type) := St → Option (α × St)
noncomputable def rt {α : Type} (a : α) : M α := fun σ => some (a, σ)
noncomputable def fail {α : Type} : M α := fun _ => none
noncomputable def bnd {α β : Type} (m : M α) (f : α → M β) : M β := fun σ => match m σ with
  | some (a, σ') => f a σ'
  | none => none
noncomputable def lift {α : Type} (o : Option α) : M α := fun σ => o.map fun a => (a, σ)
noncomputable def look {α : Type} (f : St → Option α) : M α := fun σ => (f σ).map fun a => (a, σ)
noncomputable def cellV : Cell → Option PV
  | .cel v => v
  | _ => none
noncomputable def isCel : Cell → Bool
  | .cel _ => true
  | _ => false
noncomputable def alloc (c : Cell) : M PV := fun σ => some (.obj σ.length, σ ++ [c])
noncomputable def put (n : Nat) (c : Cell) : M Unit := fun σ => some ((), σ.set n c)
structure Fm where
  ρ : List (Option PV)
  cs : List Nat
noncomputable def getV (fm : Fm) : MV → M PV
  | .loc i => lift (fm.ρ[i]?.join)
  | .cel i => look fun σ => (fm.cs[i]?).bind fun k => (σ[k]?).bind cellV
noncomputable def setV (fm : Fm) (v : PV) : MV → M Fm
  | .loc i => rt ⟨fm.ρ.set i (some v), fm.cs⟩
  | .cel i => fun σ => (fm.cs[i]?).bind fun k => (σ[k]?).bind fun c => if isCel c = true then some (fm, σ.set k (.cel (some v))) else none
noncomputable def setVs (fm : Fm) : List MV → List PV → M Fm
  | [], [] => rt fm
  | x :: xs, v :: vs => bnd (setV fm v x) fun fm' => setVs fm' xs vs
  | _, _ => fail
noncomputable def setT (fm : Fm) (v : PV) : MT → M Fm
  | .one x => setV fm v x
  | .tup xs => match v with
    | .tup vs => setVs fm xs vs
    | _ => fail
noncomputable def setTs (v : PV) : List MT → Fm → M Fm
  | [], fm => rt fm
  | t :: ts, fm => bnd (setT fm v t) fun fm' => setTs v ts fm'
noncomputable def cellS : Cell → Option (List PV)
  | .lst xs => some xs
  | _ => none
noncomputable def truth (σ : St) : PV → Option Bool
  | .none => some false
  | .bool b => some b
  | .int i => some (i != 0)
  | .str s => some (s.length != 0)
  | .obj n => ((σ[n]?).bind cellS).map fun xs => !xs.isEmpty
  | _ => none
noncomputable def small (i : Int) : Bool := decide (-4611686018427387904 < i) && decide (i < 4611686018427387904)
noncomputable def lstAt (σ : St) (n : Nat) : Option (List PV) := (σ[n]?).bind cellS
noncomputable def fits (s : Str) : Bool := decide (s.length ≤ 1000000) && PyData.strOk s
noncomputable def mapO {α β : Type} (f : α → Option β) : List α → Option (List β)
  | [] => some []
  | x :: xs => match f x, mapO f xs with
    | some y, some ys => some (y :: ys)
    | _, _ => none
noncomputable def deep (σ : St) : Nat → PV → Option PyData
  | 0, v => match v with
    | .none => some .none
    | .bool b => some (.bool b)
    | .int i => some (.int i)
    | .str s => some (.str s)
    | _ => none
  | n + 1, v => match v with
    | .none => some .none
    | .bool b => some (.bool b)
    | .int i => some (.int i)
    | .str s => some (.str s)
    | .tup xs => (mapO (deep σ n) xs).map .tuple
    | .obj k => (lstAt σ k).bind fun xs => (mapO (deep σ n) xs).map .list
    | _ => none
noncomputable def eqTop (σ : St) (a b : PV) : Option Bool := (deep σ 6 a).bind fun x => (deep σ 6 b).map (PyData.eqv x)
noncomputable def isIn (σ : St) (x : PV) (ys : List PV) : Option Bool := (deep σ 6 x).bind fun d => (mapO (deep σ 5) ys).map fun ds => ds.any fun y => PyData.eqv y d
noncomputable def cmpIS (fi : Int → Int → Bool) (fs : Str → Str → Bool) (a b : PV) : Option Bool := match a, b with
  | .int x, .int y => some (fi x y)
  | .str x, .str y => some (fs x y)
  | _, _ => none
noncomputable def noneQ : PV → Option Bool
  | .none => some true
  | .str _ => some false
  | .obj _ => some false
  | _ => none
noncomputable def isNone : PV → Bool
  | .none => true
  | _ => false
noncomputable def tyOf : PV → Option String
  | .top (.type x) => some x
  | _ => none
noncomputable def isO (a b : PV) : Option Bool := if isNone b = true then noneQ a else (tyOf a).bind fun x => (tyOf b).map fun y => x == y
noncomputable def strOf : PV → Option Str
  | .str x => some x
  | _ => none
noncomputable def inO (σ : St) (a b : PV) : Option Bool := match b with
  | .str y => (strOf a).map (Txt.contains y)
  | .tup ys => isIn σ a ys
  | .obj n => (lstAt σ n).bind (isIn σ a)
  | _ => none
noncomputable def cmpop (σ : St) (op : CmpOp) (a b : PV) : Option Bool := match op with
  | .Eq => eqTop σ a b
  | .NotEq => (eqTop σ a b).map (!·)
  | .Lt => cmpIS (fun x y => decide (x < y)) (fun x y => decide (x.cps.toList < y.cps.toList)) a b
  | .LtE => none
  | .Gt => cmpIS (fun x y => decide (x > y)) (fun x y => decide (y.cps.toList < x.cps.toList)) a b
  | .GtE => none
  | .Is => isO a b
  | .IsNot => (isO a b).map (!·)
  | .In => inO σ a b
  | .NotIn => (inO σ a b).map (!·)
noncomputable def intOf : PV → Option Int
  | .int i => some i
  | .bool b => some (if b then 1 else 0)
  | _ => none
noncomputable def addM (a b : PV) : M PV := match a, b with
  | .str x, .str y => if fits (x ++ y) then rt (.str (x ++ y)) else fail
  | .obj i, .obj j => fun σ => (lstAt σ i).bind fun xs => (lstAt σ j).bind fun ys => if xs.length + ys.length ≤ 10000 then alloc (.lst (xs ++ ys)) σ else none
  | .int x, .int y => rt (.int (x + y))
  | _, _ => fail
noncomputable def int2 (f : Int → Int → M PV) (a b : PV) : M PV := match a, b with
  | .int x, .int y => f x y
  | _, _ => fail
noncomputable def subM (a b : PV) : M PV := match a, b with
  | .int x, .int y => rt (.int (x - y))
  | .bool x, .bool y => rt (.int ((if x then 1 else 0) - if y then 1 else 0))
  | _, _ => fail
noncomputable def mulM (a b : PV) : M PV := int2 (fun x y => if decide (x.natAbs < 1000000) && decide (y.natAbs < 1000000) then rt (.int (x * y)) else fail) a b
noncomputable def fdivM (a b : PV) : M PV := int2 (fun x y => if decide (0 < y) && small x && small y then rt (.int (Int.fdiv x y)) else fail) a b
noncomputable def modM (a b : PV) : M PV := match a, b with
  | .int x, .int y => if decide (0 < y) then rt (.int (Int.fmod x y)) else fail
  | .str x, .int y => if x == Str.ofString "%d" && decide (0 ≤ y) && decide (y < 1000) && fits (Str.ofString (toString y)) then rt (.str (Str.ofString (toString y))) else fail
  | _, _ => fail
noncomputable def bitM (a b : PV) : M PV := int2 (fun x y => rt (.int (Builtin.bitAnd x y))) a b
noncomputable def binop (op : Operator) (a b : PV) : M PV := match op with
  | .Add => addM a b
  | .Sub => subM a b
  | .Mult => mulM a b
  | .FloorDiv => fdivM a b
  | .Mod => modM a b
  | .BitAnd => bitM a b
  | _ => fail
noncomputable def augop (op : Operator) (a b : PV) : M PV := match op with
  | .Add => match a, b with
    | .str x, .str y => if fits (x ++ y) then rt (.str (x ++ y)) else fail
    | .int x, .int y => rt (.int (x + y))
    | _, _ => fail
  | .Sub => int2 (fun x y => rt (.int (x - y))) a b
  | _ => fail
noncomputable def idxAt (i : Int) (n : Nat) : Option Nat := if small i then seqIndex? i n else none
noncomputable def intOnly : PV → Option Int
  | .int i => some i
  | _ => none
noncomputable def item (σ : St) (o i : PV) : Option PV := (intOnly i).bind fun i => match o with
  | .str s => (idxAt i s.length).bind fun k => (s.cps[k]?).map fun c => .str ⟨#[c]⟩
  | .tup xs => (idxAt i xs.length).bind fun k => xs[k]?
  | .obj n => (lstAt σ n).bind fun xs => (idxAt i xs.length).bind fun k => xs[k]?
  | _ => none
noncomputable def optInt : PV → Option (Option Int)
  | .none => some none
  | .int i => if small i then some (some i) else none
  | _ => none
noncomputable def slicePV (xs : List PV) (l u s : Option Int) : List PV :=
  let b := sliceBounds l u s xs.length
  (sliceRange b.1 b.2.1 b.2.2).filterMap (fun k => xs[k]?)
noncomputable def cellL : Cell → Option (List PV)
  | .lst xs => some xs
  | .const xs => some xs
  | _ => none
noncomputable def sliceAt (o : PV) (l u s : Option Int) : M PV := match o with
  | .str x =>
    let ks := Builtin.Str.strSliceIndices l u (s.getD 1) x.length
    if s.getD 1 == 1 && ks.length == x.length then rt (.str x) else
      if fits ⟨(ks.filterMap (x.cps[·]?)).toArray⟩ then rt (.str ⟨(ks.filterMap (x.cps[·]?)).toArray⟩) else fail
  | .obj n => fun σ => ((σ[n]?).bind cellL).bind fun xs => alloc (.lst (slicePV xs l u s)) σ
  | _ => fail
noncomputable def slice (o l u s : PV) : M PV := fun σ => (optInt l).bind fun l => (optInt u).bind fun u => (optInt s).bind fun s => if s == some 0 then none else sliceAt o l u s σ
noncomputable abbrev Ap := PV → List PV → List (Str × PV) → M PV
noncomputable abbrev Mt := St → PV → Str → Option Value
structure Tab where
  ap : Ap
  mt : Mt
  at_ : Addr → Str → Bool
  si : PV → PV → PV → M Unit
inductive PI where
  | one (v : PV) | zip (vs : List PV) (k : Nat)
noncomputable def nth1 (σ : St) (v : PV) (i : Nat) : Option (Option PV) := match v with
  | .str s => some (s.cps[i]?.map fun c => .str ⟨#[c]⟩)
  | .obj n => (lstAt σ n).map (·[i]?)
  | .range a b c => some (if a + c * i < b then some (.int (a + c * i)) else none)
  | _ => none
noncomputable def nths (σ : St) (i : Nat) : List PV → Option (Option (List PV))
  | [] => some (some [])
  | v :: vs => (nth1 σ v i).bind fun o => match o with
    | some x => (nths σ i vs).map (·.map (x :: ·))
    | none => some none
noncomputable def cellO : Cell → Option Nat
  | .own m => some m
  | _ => none
noncomputable def isOwn (σ : St) (k n : Nat) : Bool := (σ[k]?).bind cellO == some n
noncomputable def zipable : PV → Bool
  | .str _ => true
  | _ => false
noncomputable def nth (σ : St) (it : PI) (i : Nat) : Option (Option PV) := match it with
  | .one v => nth1 σ v i
  | .zip vs k => if isOwn σ k vs.length = true then (nths σ i vs).map (·.map .tup) else none
noncomputable def loopM {β γ : Type} (src : PI) (body : PV → β → M (β × Option γ)) : Nat → Nat → β → M (β × Option γ)
  | 0, _, _ => fail
  | n + 1, i, b => fun σ => match nth σ src i with
    | none => none
    | some none => some ((b, none), σ)
    | some (some v) => match body v b σ with
      | none => none
      | some ((b', some r), σ') => some ((b', some r), σ')
      | some ((b', none), σ') => loopM src body n (i + 1) b' σ'
noncomputable def whileM {β γ : Type} (test : β → M Bool) (body : β → M (β × Option γ)) : Nat → β → M (β × Option γ)
  | 0, _ => fail
  | n + 1, b => bnd (test b) fun t => if t then bnd (body b) fun r => match r with
      | (b', some v) => rt (b', some v)
      | (b', none) => whileM test body n b'
    else rt (b, none)
noncomputable def fuel : Nat := 100
noncomputable def allocCells : Nat → M (List Nat)
  | 0 => rt []
  | n + 1 => fun σ => match allocCells n (σ ++ [.cel none]) with
    | some (ks, σ') => some (ks ++ [σ.length], σ')
    | none => none
noncomputable def push (acc : PV) (v : PV) : M Unit := match acc with
  | .obj n => fun σ => (lstAt σ n).bind fun xs => if xs.length ≤ 10000 then some ((), σ.set n (.lst (xs ++ [v]))) else none
  | _ => fail
noncomputable def plainC : PV → Bool
  | .tup _ => false
  | .obj _ => false
  | .range _ _ _ => false
  | _ => true
noncomputable def isTop : PV → Bool
  | .top _ => true
  | _ => false
noncomputable def cellI : Cell → Option (Addr × List (Str × PV))
  | .inst C as => some (C, as)
  | _ => none
noncomputable def attrM (at_ : Addr → Str → Bool) (ov : PV) (x : Str) : M PV := match ov with
  | .obj n => look fun σ => ((σ[n]?).bind cellI).bind fun p => if at_ p.1 x = true then (p.2.lookup x).bind fun v => if isTop v = true then none else some v else none
  | _ => fail
section
variable (T : Tab)
mutual
noncomputable def ev : ME → Fm → M PV
  | .cst v, _ => if plainC v then rt v else fail
  | .var x, fm => getV fm x
  | .and a b, fm => bnd (ev a fm) fun v => bnd (look (truth · v)) fun t => if t then ev b fm else rt v
  | .or a b, fm => bnd (ev a fm) fun v => bnd (look (truth · v)) fun t => if t then rt v else ev b fm
  | .not a, fm => bnd (ev a fm) fun v => bnd (look (truth · v)) fun t => rt (.bool (!t))
  | .ite t b o, fm => bnd (ev t fm) fun v => bnd (look (truth · v)) fun c => if c then ev b fm else ev o fm
  | .bin op a b, fm => bnd (ev a fm) fun x => bnd (ev b fm) fun y => binop op x y
  | .cmp a r, fm => bnd (ev a fm) fun x => bnd (evC r x fm) fun b => rt (.bool b)
  | .list es, fm => bnd (evs es fm) fun vs => if vs.length ≤ 1000 then alloc (.lst vs) else fail
  | .tup es, fm => bnd (evs es fm) fun vs => if vs.length ≤ 1000 then rt (.tup vs) else fail
  | .comp nl nc frees it g, fm => bnd (evI it fm) fun src => bnd (alloc (.lst [])) fun acc => bnd (allocCells nc) fun ks =>
      bnd (lift ((frees.mapM fun i => fm.cs[i]?).map List.reverse)) fun fs =>
      bnd (loopM (γ := Unit) src (fun v fm' => bnd (evG g acc (some v) fm') fun fm'' => rt (fm'', none)) fuel 0 ⟨List.replicate nl none, ks ++ fs⟩) fun _ => rt acc
  | .call f es ks, fm => bnd (ev f fm) fun fv => bnd (evs es fm) fun vs => bnd (evK ks fm) fun kvs => T.ap fv vs kvs
  | .meth o x es ks, fm => bnd (ev o fm) fun ov => bnd (look fun σ => T.mt σ ov x) fun fv => bnd (evs es fm) fun vs => bnd (evK ks fm) fun kvs => T.ap (.top fv) (ov :: vs) kvs
  | .attr o x, fm => bnd (ev o fm) fun ov => attrM T.at_ ov x
  | .idx o i, fm => bnd (ev o fm) fun ov => bnd (ev i fm) fun iv => look fun σ => item σ ov iv
  | .slc o l u s, fm => bnd (ev o fm) fun ov => bnd (ev l fm) fun lv => bnd (ev u fm) fun uv => bnd (ev s fm) fun sv => slice ov lv uv sv
noncomputable def evs : MEs → Fm → M (List PV)
  | .nil, _ => rt []
  | .cons e r, fm => bnd (ev e fm) fun v => bnd (evs r fm) fun vs => rt (v :: vs)
noncomputable def evK : MK → Fm → M (List (Str × PV))
  | .nil, _ => rt []
  | .cons x e r, fm => bnd (ev e fm) fun v => bnd (evK r fm) fun vs => rt ((x, v) :: vs)
noncomputable def evC : MC → PV → Fm → M Bool
  | .nil, _, _ => rt true
  | .cons op e _, a, fm => bnd (ev e fm) fun b => bnd (look fun σ => cmpop σ op a b) rt
noncomputable def evI : MI → Fm → M PI
  | .val e, fm => bnd (ev e fm) fun v => fun σ => if (nth1 σ v 0).isSome then some (.one v, σ) else none
  | .zip es, fm => bnd (evs es fm) fun vs => fun σ => if vs.length == 2 && vs.all zipable then some (.zip vs σ.length, σ ++ [.own vs.length]) else none
noncomputable def evIfs : MEs → Fm → M Bool
  | .nil, _ => rt true
  | .cons e r, fm => bnd (ev e fm) fun v => bnd (look (truth · v)) fun t => if t then evIfs r fm else rt false
noncomputable def evG : MG → PV → Option PV → Fm → M Fm
  | .lvl t ifs r, acc, v, fm => match v with
    | some v => bnd (setT fm v t) fun fm' => bnd (evIfs ifs fm') fun ok => if ok then evG r acc none fm' else rt fm'
    | none => fail
  | .elt e, acc, _, fm => bnd (ev e fm) fun v => bnd (push acc v) fun _ => rt fm
  | .nest it g, acc, _, fm => bnd (evI it fm) fun src => bnd (loopM (γ := Unit) src (fun v fm' => bnd (evG g acc (some v) fm') fun fm'' => rt (fm'', none)) fuel 0 fm) fun r => rt r.1
end
noncomputable def seti (o i v : PV) : M Unit := match o with
  | .obj n => fun σ => (intOnly i).bind fun i => (lstAt σ n).bind fun xs => (idxAt i xs.length).bind fun k => some ((), σ.set n (.lst (xs.set k v)))
  | _ => fail
noncomputable def putA (x : Str) (v : PV) : List (Str × PV) → List (Str × PV)
  | [] => [(x, v)]
  | (y, u) :: r => if x == y then (y, v) :: r else (y, u) :: putA x v r
noncomputable def seta (o : PV) (x : Str) (v : PV) : M Unit := match o with
  | .obj n => fun σ => ((σ[n]?).bind cellI).bind fun p => if (T.at_ p.1 x && decide (p.2.length ≤ 100)) = true then some ((), σ.set n (.inst p.1 (putA x v p.2))) else none
  | _ => fail
mutual
noncomputable def ex : MS → Fm → M (Fm × Option PV)
  | .bad, _ => fail
  | .expr e, fm => bnd (ev T e fm) fun _ => rt (fm, none)
  | .ret e, fm => bnd (ev T e fm) fun v => rt (fm, some v)
  | .set ts e, fm => bnd (ev T e fm) fun v => bnd (setTs v ts fm) fun fm' => rt (fm', none)
  | .aug x op e, fm => bnd (getV fm x) fun a => bnd (ev T e fm) fun b => bnd (augop op a b) fun v => bnd (setV fm v x) fun fm' => rt (fm', none)
  | .seti o i e, fm => bnd (ev T e fm) fun v => bnd (ev T o fm) fun ov => bnd (ev T i fm) fun iv => bnd (T.si ov iv v) fun _ => rt (fm, none)
  | .seta o x e, fm => bnd (ev T e fm) fun v => bnd (ev T o fm) fun ov => bnd (seta T ov x v) fun _ => rt (fm, none)
  | .cond t b o, fm => bnd (ev T t fm) fun v => bnd (look (truth · v)) fun c => if c then exs b fm else exs o fm
  | .whil t b, fm => whileM (fun fm => bnd (ev T t fm) fun v => look (truth · v)) (fun fm => exs b fm) fuel fm
  | .loop t it b, fm => bnd (evI T it fm) fun src => loopM src (fun v fm' => bnd (setT fm' v t) fun fm'' => exs b fm'') fuel 0 fm
noncomputable def exs : MSs → Fm → M (Fm × Option PV)
  | .nil, fm => rt (fm, none)
  | .cons s r, fm => bnd (ex s fm) fun x => match x with
    | (fm', some v) => rt (fm', some v)
    | (fm', none) => exs r fm'
end
end
end Mine
end
section
namespace Mine
open PySem PyProof.Rows
theorem runs_size {M : Model} {Γ : Ctx} {p : Pos} {t : Sem Fin} {fs : List Frame} {s s' : Shared} {e : End} (h : Runs M Γ p t fs s e s') :
    s.heap.objs.size ≤ s'.heap.objs.size := by
  induction h <;> (try simp only [Shared.setGen, Heap.size_push, Heap.size_after_update] at *) <;> omega
theorem returns_size {M : Model} {Γ : Ctx} {p : Pos} {s s' : Shared} {r : Result} (h : Returns M Γ p s r s') :
    s.heap.objs.size ≤ s'.heap.objs.size := runs_size h
theorem wakes_size {M : Model} {Γ : Ctx} {p : Pos} {g : Nat} {r : Resume} {s s' : Shared} {res : GenResult} (h : Wakes M Γ p g r s res s') :
    s.heap.objs.size ≤ s'.heap.objs.size := by
  unfold Wakes at h
  split at h
  · exact h.elim
  · split at h
    · obtain ⟨e₁, s₁, hr, _, _, rfl⟩ := h; exact (runs_size hr : (s.setGen g .running).heap.objs.size ≤ s₁.heap.objs.size)
    · rw [h.2]; exact Nat.le_refl _
    · rw [h.2]; exact Nat.le_refl _
  · obtain ⟨e₁, s₁, hr, _, _, rfl⟩ := h; exact (runs_size hr : (s.setGen g .running).heap.objs.size ≤ s₁.heap.objs.size)
  · rw [h.2]; exact Nat.le_refl _
  · rw [h.2]; exact Nat.le_refl _
theorem wp_size {α : Type} (M : Model) (Γ : Ctx) (n : Nat) (t : Sem α) : ∀ (Q : α → Pos → Shared → Prop) (E : Value → Pos → Shared → Prop) (p : Pos) (s : Shared),
    n ≤ s.heap.objs.size → Sem.wp M Γ t Q E p s →
    Sem.wp M Γ t (fun a p' s' => n ≤ s'.heap.objs.size ∧ Q a p' s') (fun e p' s' => n ≤ s'.heap.objs.size ∧ E e p' s') p s := by
  induction t with
  | pure a => intro Q E p s hn h; exact ⟨hn, h⟩
  | raise e => intro Q E p s hn h; exact ⟨hn, h⟩
  | unsupported _ => intro Q E p s _ h; exact h
  | finish _ => intro Q E p s _ h; exact h
  | rule _ k ih => intro Q E p s hn h; exact ih () Q E p s hn h
  | «at» p' k ih => intro Q E p s hn h; exact ih () Q E p' s hn h
  | load a _ k ih => intro Q E p s hn h; obtain ⟨o, ho, h⟩ := h; exact ⟨o, ho, ih o Q E p s hn h⟩
  | update a _ f k ih => intro Q E p s hn h; exact ⟨h.1, ih () Q E p _ (by simpa using hn) h.2⟩
  | loadIfAlive a k ih => intro Q E p s hn h; exact ih _ Q E p s hn h
  | point _ k ih => intro Q E p s hn h; exact ih () Q E p s hn h
  | register _ _ => intro Q E p s _ h; exact h
  | alloc o k ih => intro Q E p s hn h; exact ih _ Q E p _ (by simp only [Heap.size_push]; exact Nat.le_succ_of_le (by assumption)) h
  | fresh k ih => intro Q E p s hn h; exact ih _ Q E p _ hn h
  | ask k ih => intro Q E p s hn h; exact ih _ Q E p s hn h
  | choose src m k ih => intro Q E p s hn h; exact ⟨h.1, ih _ Q E p _ hn h.2⟩
  | os q _ k ih => intro Q E p s hn h; exact ih _ Q E p _ hn h
  | call c hd _ _ k ih => intro Q E p s hn h; obtain ⟨r, s', hr, h⟩ := h; exact ⟨r, s', hr, ih r Q E p s' (Nat.le_trans hn (returns_size hr)) h⟩
  | handled own k ih => intro Q E p s hn h; exact ih _ Q E p s hn h
  | genState g k ih => intro Q E p s hn h; obtain ⟨st, hs, h⟩ := h; exact ⟨st, hs, ih _ Q E p s hn h⟩
  | newGen c k ih => intro Q E p s hn h; exact ih _ Q E p _ hn h
  | resume g r _ k ih => intro Q E p s hn h; obtain ⟨res, s', hw, h⟩ := h; exact ⟨res, s', hw, ih res Q E p s' (Nat.le_trans hn (wakes_size hw)) h⟩
  | yield _ _ _ _ => intro Q E p s _ h; exact h
  | stack k ih => intro Q E p s hn h; exact ih _ Q E p s hn h
  | fork _ _ => intro Q E p s _ h; exact h
  | thread k ih => intro Q E p s hn h; exact ih _ Q E p s hn h
  | await _ _ _ _ _ => intro Q E p s _ h; exact h
noncomputable def bot : Value → Shared → Prop := fun _ _ => False
noncomputable def W {α : Type} (prog : Program) (w : World) (A : Around) (t : Sem α) (s : Shared) (Q : α → Heap → Prop) : Prop :=
  wpAny (model prog w) A t (fun a s' => ∃ h' tk, s' = { s with heap := h', toks := tk } ∧ Q a h') bot s
section
variable {α β : Type} {prog : Program} {w : World} {A : Around} {s : Shared}
theorem sized {t : Sem α} {Q : α → Shared → Prop} (h : wpAny (model prog w) A t (fun a s' => s.heap.objs.size ≤ s'.heap.objs.size → Q a s') bot s) :
    wpAny (model prog w) A t Q bot s :=
  wpAny_mono (Q := fun a s' => s.heap.objs.size ≤ s'.heap.objs.size ∧ (s.heap.objs.size ≤ s'.heap.objs.size → Q a s')) (E := fun e s' => s.heap.objs.size ≤ s'.heap.objs.size ∧ bot e s')
    (fun Γ p hΓ => wp_size _ Γ _ t _ _ p s (Nat.le_refl _) (h Γ p hΓ)) (fun _ _ x => x.2 x.1) (fun _ _ x => x.2)
theorem bot_any {t : Sem α} {Q : α → Shared → Prop} {E : Value → Shared → Prop} (h : wpAny (model prog w) A t Q bot s) : wpAny (model prog w) A t Q E s :=
  wpAny_mono h (fun _ _ x => x) (fun _ _ x => x.elim)
end
noncomputable abbrev Phi := List (Addr × Addr)
mutual
inductive RV (φ : Phi) (h : Heap) : PV → Value → Prop where
  | none : RV φ h .none .none
  | bool (b : Bool) : RV φ h (.bool b) (.bool b)
  | int (i : Int) (t : Tok) : RV φ h (.int i) (.int i t)
  | str {s : Str} (hs : fits s = true) (t : Tok) : RV φ h (.str s) (.str s t)
  | tup {xs : List PV} {us : List Value} {a : Addr} {n : Nat} : h.get? a = some { cls := .type "tuple", dict := none, data := .seq us.toArray n, slots := #[] } →
      (∀ p ∈ φ, p.2 ≠ a) → RVs φ h xs us → RV φ h (.tup xs) (.ref a)
  | obj {n : Nat} {p : Addr × Addr} : φ[n]? = some p → RV φ h (.obj n) (.ref p.1)
  | top (v : Value) : RV φ h (.top v) v
  | range {a b c : Int} {r : Addr} {t u v : Tok} : IsRange h r a b c t u v → small a = true → small b = true → small c = true → 0 < c → RV φ h (.range a b c) (.ref r)
inductive RVs (φ : Phi) (h : Heap) : List PV → List Value → Prop where
  | nil : RVs φ h [] []
  | cons {x : PV} {xs : List PV} {u : Value} {us : List Value} : RV φ h x u → RVs φ h xs us → RVs φ h (x :: xs) (u :: us)
end
noncomputable def Imm (o : Obj) : Prop := match o.data with
  | .plain => True
  | .seq _ _ => o.cls = .type "tuple"
  | .fields _ => o.cls = .type "range"
  | _ => False
theorem imm_plain {o : Obj} (h : o.data = .plain) : Imm o := by unfold Imm; rw [h]; trivial
theorem imm_dict {o : Obj} {es : Array DictEntry} {n : Nat} (h : o.data = .dict es n) : ¬ Imm o := by unfold Imm; rw [h]; exact id
theorem imm_cell {o : Obj} {v : Option Value} (h : o.data = .cell v) : ¬ Imm o := by unfold Imm; rw [h]; exact id
structure Grow (φ φ' : Phi) (h h' : Heap) : Prop where
  ext : φ <+: φ'
  new : ∀ p ∈ φ', p ∈ φ ∨ h.objs.size ≤ p.2
  imm : ∀ b o, h.get? b = some o → Imm o → (o.cls = .type "tuple" → ∀ p ∈ φ, p.2 ≠ b) → h'.get? b = some o
theorem Grow.off {φ φ' : Phi} {h h' : Heap} (g : Grow φ φ' h h') {b : Addr} {o : Obj} (e : h.get? b = some o) (hb : ∀ p ∈ φ, p.2 ≠ b) : ∀ p ∈ φ', p.2 ≠ b := fun p hp z => by
  rcases g.new p hp with q | q
  · exact hb p q z
  · exact Nat.lt_irrefl _ (Nat.lt_of_lt_of_le (Heap.lt_size e) (z ▸ q))
theorem imm_tuple {us : Array Value} {n : Nat} : Imm { cls := .type "tuple", dict := none, data := .seq us n, slots := #[] } := rfl
theorem Grow.get {φ φ' : Phi} {h h' : Heap} (g : Grow φ φ' h h') {n : Nat} {p : Addr × Addr} (e : φ[n]? = some p) : φ'[n]? = some p := by
  obtain ⟨ψ, rfl⟩ := g.ext
  rw [List.getElem?_append_left (List.getElem?_eq_some_iff.mp e).1]; exact e
theorem RV.mono {φ φ' : Phi} {h h' : Heap} (g : Grow φ φ' h h') {x : PV} {u : Value} (r : RV φ h x u) : RV φ' h' x u :=
  RV.rec (motive_1 := fun x u _ => RV φ' h' x u) (motive_2 := fun xs us _ => RVs φ' h' xs us) .none .bool .int .str (fun e hn _ r => .tup (g.imm _ _ e imm_tuple fun _ => hn) (g.off e hn) r) (fun e => .obj (g.get e)) .top
    (fun e h1 h2 h3 h4 => .range (g.imm _ _ e rfl (fun x => by simp at x)) h1 h2 h3 h4) .nil (fun _ _ a r => .cons a r) r
theorem RVs.mono {φ φ' : Phi} {h h' : Heap} (g : Grow φ φ' h h') {xs : List PV} {us : List Value} (r : RVs φ h xs us) : RVs φ' h' xs us := by
  induction xs generalizing us with
  | nil => cases r; exact .nil
  | cons x xs ih => cases r with | cons a r => exact .cons (a.mono g) (ih r)
section
variable {φ : Phi} {h : Heap} {u : Value}
theorem RV.inv {v : PV} (q : RV φ h v u) : match v with
  | .none => u = .none
  | .bool b => u = .bool b
  | .int i => ∃ t, u = .int i t
  | .str x => fits x = true ∧ ∃ t, u = .str x t
  | .tup xs => ∃ a us n, h.get? a = Option.some { cls := .type "tuple", dict := Option.none, data := .seq (List.toArray us) n, slots := #[] } ∧ (∀ p ∈ φ, p.2 ≠ a) ∧ RVs φ h xs us ∧ u = .ref a
  | .obj n => ∃ p, φ[n]? = Option.some p ∧ u = .ref p.1
  | .top x => u = x
  | .range a b c => ∃ r t u' w, IsRange h r a b c t u' w ∧ small a = true ∧ small b = true ∧ small c = true ∧ 0 < c ∧ u = .ref r := by
  induction q using RV.casesOn with
  | none => rfl
  | bool => rfl
  | int i t => exact ⟨t, rfl⟩
  | str e t => exact ⟨e, t, rfl⟩
  | tup e o r => exact ⟨_, _, _, e, o, r, rfl⟩
  | obj e => exact ⟨_, e, rfl⟩
  | top => rfl
  | range e h1 h2 h3 h4 => exact ⟨_, _, _, _, e, h1, h2, h3, h4, rfl⟩
theorem RV.i_bool {b : Bool} (q : RV φ h (.bool b) u) : u = .bool b := q.inv
theorem RV.i_int {i : Int} (q : RV φ h (.int i) u) : ∃ t, u = .int i t := q.inv
theorem RV.i_str {x : Str} (q : RV φ h (.str x) u) : fits x = true ∧ ∃ t, u = .str x t := q.inv
theorem RV.i_obj {n : Nat} (q : RV φ h (.obj n) u) : ∃ p, φ[n]? = Option.some p ∧ u = .ref p.1 := q.inv
theorem RV.i_top {x : Value} (q : RV φ h (.top x) u) : u = x := q.inv
theorem RV.i_none (q : RV φ h .none u) : u = .none := q.inv
theorem RVs.i_nil {us : List Value} (r : RVs φ h [] us) : us = [] := by cases r; rfl
inductive ConsS (φ : Phi) (h : Heap) (x : PV) (xs : List PV) (us : List Value) : Prop where
  | mk (u : Value) (us' : List Value) (q : RV φ h x u) (r : RVs φ h xs us') (e : us = u :: us') : ConsS φ h x xs us
theorem RVs.i_cons {x : PV} {xs : List PV} {us : List Value} (r : RVs φ h (x :: xs) us) : ConsS φ h x xs us := by
  cases r with | cons q r => exact ⟨_, _, q, r, rfl⟩
end
theorem RVs.length {φ : Phi} {h : Heap} {xs : List PV} {us : List Value} (r : RVs φ h xs us) : xs.length = us.length := by
  induction xs generalizing us with
  | nil => cases r; rfl
  | cons x xs ih => cases r with | cons a r => exact congrArg (· + 1) (ih r)
theorem RVs.get {φ : Phi} {h : Heap} {xs : List PV} {us : List Value} (r : RVs φ h xs us) {i : Nat} {x : PV} (e : xs[i]? = some x) : ∃ u, us[i]? = some u ∧ RV φ h x u := by
  induction xs generalizing us i with
  | nil => exact nomatch e
  | cons y xs ih =>
    cases r with
    | cons a r =>
      induction i with
      | zero => exact ⟨_, rfl, smi e ▸ a⟩
      | succ i => exact ih r e
theorem RVs.append {φ : Phi} {h : Heap} {xs : List PV} {us : List Value} {ys : List PV} {vs : List Value} (r : RVs φ h xs us) (q : RVs φ h ys vs) : RVs φ h (xs ++ ys) (us ++ vs) := by
  induction xs generalizing us with
  | nil => cases r; exact q
  | cons x xs ih => cases r with | cons a r => exact .cons a (ih r)
theorem RVs.set {φ : Phi} {h : Heap} {xs : List PV} {us : List Value} {i : Nat} {x : PV} {u : Value} (r : RVs φ h xs us) (q : RV φ h x u) : RVs φ h (xs.set i x) (us.set i u) := by
  induction xs generalizing us i with
  | nil => cases r; exact .nil
  | cons y xs ih =>
    cases r with
    | cons a r =>
      induction i with
      | zero => exact .cons q r
      | succ i => exact .cons a (ih r)
theorem RVs.at {φ : Phi} {h : Heap} {xs : List PV} {us : List Value} (r : RVs φ h xs us) {i : Nat} (hi : i < us.length) : ∃ x, xs[i]? = some x ∧ RV φ h x us[i] := by
  have hx : i < xs.length := by rw [r.length]; exact hi
  refine byc fun nh => ?_
  obtain ⟨u, hu, q⟩ := r.get (List.getElem?_eq_getElem hx)
  refine nh ?_
  refine ⟨xs[i], List.getElem?_eq_getElem hx, ?_⟩
  replace hu := (List.getElem?_eq_getElem hi) ▸ hu
  cases hu; exact q
noncomputable def CelV (φ : Phi) (h : Heap) : Option PV → Option Value → Prop
  | none, none => True
  | some v, some u => RV φ h v u
  | _, _ => False
noncomputable def AttrsAt (φ : Phi) (h : Heap) (as : List (Str × PV)) (m : Str → Option Value) : Prop :=
  ∀ x, match as.lookup x with
    | some v => ∃ u, m x = some u ∧ RV φ h v u
    | none => m x = none
section
variable (φ : Phi) (h : Heap) (p : Addr × Addr)
inductive LstC (xs : List PV) : Prop
  | mk (e : p.1 = p.2) (hz : xs.length ≤ 20000) (us : List Value) (n : Nat) (g : h.get? p.1 = some { cls := .type "list", dict := none, data := .seq (List.toArray us) n, slots := #[] }) (r : RVs φ h xs us)
inductive InstC (C : Addr) (as : List (Str × PV)) : Prop
  | mk (ho : ∃ o, h.get? p.1 = some o ∧ o.cls = .ref C ∧ o.data = .plain ∧ o.dict = some p.2) (hne : p.1 ≠ p.2) (hd : ∃ od, h.get? p.2 = some od ∧ ∃ es n, od.data = .dict es n) (m : Str → Option Value) (hm : h.Ns1 p.2 m) (ha : AttrsAt φ h as m)
inductive CelC (v : Option PV) : Prop
  | mk (e : p.1 = p.2) (o : Obj) (ov : Option Value) (g : h.get? p.1 = some o) (d : o.data = .cell ov) (q : CelV φ h v ov)
inductive OwnC (k : Nat) : Prop
  | mk (e : p.1 = p.2) (us : Array Value) (n : Nat) (g : h.get? p.1 = some { cls := .type "tuple", dict := none, data := .seq us n, slots := #[] }) (hk : us.size = k)
inductive ConstC (xs : List PV) : Prop
  | mk (e : p.1 = p.2) (hz : xs.length ≤ 20000) (us : List Value) (g : h.IsList p.1 (List.toArray us)) (r : RVs φ h xs us)
inductive TabC (b : Bool) : Prop
  | mk (e : p.1 = p.2) (ps : Array Value) (g : h.get? p.1 = some { cls := .none, dict := none, data := .fields ps, slots := #[] }) (hb : b = true → ps = #[])
end
noncomputable def CellAt (φ : Phi) (h : Heap) (p : Addr × Addr) : Cell → Prop
  | .lst xs => LstC φ h p xs
  | .inst C as => InstC φ h p C as
  | .cel v => CelC φ h p v
  | .own k => OwnC h p k
  | .const xs => ConstC φ h p xs
  | .tab b => TabC h p b
noncomputable def isConst : Cell → Bool
  | .const _ => true
  | .tab _ => true
  | _ => false
structure Inv (h₀ : Heap) (φ : Phi) (σ : St) (h : Heap) : Prop where
  base : ∀ b o, h₀.get? b = some o → h.get? b = some o
  sz : h₀.objs.size ≤ h.objs.size
  low : ∀ (i : Nat) p c, φ[i]? = some p → σ[i]? = some c → isConst c = false → h₀.objs.size ≤ p.2
  len : φ.length = σ.length
  nd : (φ.map (·.2)).Nodup
  at_ : ∀ (i : Nat) c p, σ[i]? = some c → φ[i]? = some p → CellAt φ h p c
structure Step (X : List Addr) (φ φ' : Phi) (h h' : Heap) : Prop extends Grow φ φ' h h' where
  size : h.objs.size ≤ h'.objs.size
  keep : ∀ b o, h.get? b = some o → b ∉ X → (∀ p ∈ φ, p.2 ≠ b) → h'.get? b = some o
theorem Grow.refl (φ : Phi) (h : Heap) : Grow φ φ h h := ⟨List.prefix_refl _, fun _ hp => .inl hp, fun _ _ e _ _ => e⟩
theorem Grow.trans {φ φ' φ'' : Phi} {h h' h'' : Heap} (a : Grow φ φ' h h') (hz : h.objs.size ≤ h'.objs.size) (b : Grow φ' φ'' h' h'') : Grow φ φ'' h h'' where
  ext := a.ext.trans b.ext
  new := fun p hp => by
    rcases b.new p hp with q | q
    · exact a.new p q
    · exact .inr (Nat.le_trans hz q)
  imm := fun c o e hi ht => b.imm c o (a.imm c o e hi ht) hi fun z => a.off e (ht z)
theorem Step.refl (X : List Addr) (φ : Phi) (h : Heap) : Step X φ φ h h :=
  ⟨Grow.refl φ h, Nat.le_refl _, fun _ _ e _ _ => e⟩
theorem Step.trans {X : List Addr} {φ φ' φ'' : Phi} {h h' h'' : Heap} (a : Step X φ φ' h h') (b : Step X φ' φ'' h' h'') : Step X φ φ'' h h'' where
  ext := a.ext.trans b.ext
  size := Nat.le_trans a.size b.size
  new := fun p hp => by
    rcases b.new p hp with q | q
    · exact a.new p q
    · exact .inr (Nat.le_trans a.size q)
  imm := fun c o e hi ht => b.imm c o (a.imm c o e hi ht) hi fun z => a.toGrow.off e (ht z)
  keep := fun c o e hx hp => b.keep c o (a.keep c o e hx hp) hx (a.toGrow.off e hp)
theorem Step.less {X Y : List Addr} {φ φ' : Phi} {h h' : Heap} (a : Step Y φ φ' h h') (hY : ∀ y ∈ Y, y ∈ X ∨ h.objs.size ≤ y) : Step X φ φ' h h' :=
  { a with keep := fun c o e hx hp => a.keep c o e (fun hc => by
      rcases hY c hc with q | q
      · exact hx q
      · exact Nat.lt_irrefl _ (Nat.lt_of_lt_of_le (Heap.lt_size e) q)) hp }
theorem Step.more {X Y : List Addr} {φ φ' : Phi} {h h' : Heap} (a : Step X φ φ' h h') (hX : ∀ x ∈ X, x ∈ Y) : Step Y φ φ' h h' :=
  a.less fun y hy => .inl (hX y hy)
theorem Step.nil {X : List Addr} {φ φ' : Phi} {h h' : Heap} (a : Step [] φ φ' h h') : Step X φ φ' h h' := a.more (by exact nil0)
theorem Step.rv {X : List Addr} {φ φ' : Phi} {h h' : Heap} (a : Step X φ φ' h h') {x : PV} {u : Value} (r : RV φ h x u) : RV φ' h' x u := r.mono a.toGrow
theorem Step.rvs {X : List Addr} {φ φ' : Phi} {h h' : Heap} (a : Step X φ φ' h h') {x : List PV} {u : List Value} (r : RVs φ h x u) : RVs φ' h' x u := r.mono a.toGrow
structure Ext (X : List Addr) (h h' : Heap) : Prop where
  size : h.objs.size ≤ h'.objs.size
  imm : ∀ b o, h.get? b = some o → Imm o → h'.get? b = some o
  keep : ∀ b o, h.get? b = some o → b ∉ X → h'.get? b = some o
theorem Ext.grow {X : List Addr} {φ : Phi} {h h' : Heap} (a : Ext X h h') : Grow φ φ h h' := ⟨List.prefix_refl _, fun _ hp => .inl hp, fun b o e i _ => a.imm b o e i⟩
theorem Ext.step {X : List Addr} {φ : Phi} {h h' : Heap} (a : Ext X h h') : Step X φ φ h h' :=
  ⟨a.grow, a.size, fun b o e hx _ => a.keep b o e hx⟩
theorem Ext.refl (X : List Addr) (h : Heap) : Ext X h h := ⟨Nat.le_refl _, fun _ _ e _ => e, fun _ _ e _ => e⟩
theorem Ext.push (h : Heap) (o : Obj) : Ext [] h (h.push o) :=
  ⟨by simp, fun _ _ e _ => Heap.get?_push_of_some _ e, fun _ _ e _ => Heap.get?_push_of_some _ e⟩
theorem Ext.trans {X : List Addr} {h h' h'' : Heap} (a : Ext X h h') (b : Ext X h' h'') : Ext X h h'' :=
  ⟨Nat.le_trans a.size b.size, fun c o e hi => b.imm c o (a.imm c o e hi) hi, fun c o e hx => b.keep c o (a.keep c o e hx) hx⟩
theorem Ext.nil {X : List Addr} {h h' : Heap} (a : Ext [] h h') : Ext X h h' := ⟨a.size, a.imm, fun b o e _ => a.keep b o e (by exact List.not_mem_nil)⟩
theorem Ext.more {X Y : List Addr} {h h' : Heap} (a : Ext X h h') (hX : ∀ x ∈ X, x ∈ Y) : Ext Y h h' := ⟨a.size, a.imm, fun b o e hb => a.keep b o e fun z => hb (hX b z)⟩
theorem Ext.but {a : Addr} {h h' : Heap} (hs : Heap.ExtBut a h h') (hz : h.objs.size ≤ h'.objs.size) (hi : ∀ o, h.get? a = some o → ¬ Imm o) : Ext [a] h h' := by
  refine ⟨hz, fun b o e i => hs b o ?_ e, fun b o e hb => hs b o (by simpa using hb) e⟩
  rintro rfl
  exact hi o e i
theorem Ext.same {a : Addr} {h h' : Heap} (hs : Heap.SameBut a h h') (hi : ∀ o, h.get? a = some o → ¬ Imm o) : Ext [a] h h' :=
  Ext.but hs.extBut (Nat.le_of_eq hs.1.symm) hi
theorem CelV.mono {φ φ' : Phi} {h h' : Heap} (g : Grow φ φ' h h') : ∀ {v : Option PV} {u : Option Value}, CelV φ h v u → CelV φ' h' v u
  | none, none, _ => trivial
  | some _, some _, r => RV.mono g r
  | none, some _, r => r.elim
  | some _, none, r => r.elim
theorem AttrsAt.mono {φ φ' : Phi} {h h' : Heap} (g : Grow φ φ' h h') {as : List (Str × PV)} {m : Str → Option Value} (r : AttrsAt φ h as m) : AttrsAt φ' h' as m := by
  intro x
  have q := r x
  split <;> rename_i e <;> rw [e] at q
  · obtain ⟨u, hu, z⟩ := q; exact ⟨u, hu, z.mono g⟩
  · exact q
theorem CellAt.mono {φ φ' : Phi} {h h' : Heap} {p : Addr × Addr} {c : Cell} (r : CellAt φ h p c) (gr : Grow φ φ' h h')
    (hp : ∀ o, h.get? p.2 = some o → h'.get? p.2 = some o) : CellAt φ' h' p c := by
  induction c with
  | lst xs =>
    refine byc fun nh => ?_
    obtain ⟨e, hz, us, n, g, q⟩ := r
    refine nh ?_
    exact ⟨e, hz, us, n, by rw [e] at g ⊢; exact hp _ g, q.mono gr⟩
  | inst C as =>
    refine byc fun nh => ?_
    obtain ⟨⟨o, g, hc, hd, hdx⟩, hne, ⟨od, gd, r2⟩, m, hm, q⟩ := r
    refine nh ?_
    exact ⟨⟨o, gr.imm _ _ g (imm_plain hd) (fun z => by rw [hc] at z; cases z), hc, hd, hdx⟩, hne, ⟨od, hp _ gd, r2⟩, m, hm.at hp, q.mono gr⟩
  | cel v =>
    refine byc fun nh => ?_
    obtain ⟨e, o, ov, g, hd, q⟩ := r
    refine nh ?_
    exact ⟨e, o, ov, by rw [e] at g ⊢; exact hp _ g, hd, q.mono gr⟩
  | own k =>
    refine byc fun nh => ?_
    obtain ⟨e, us, n, g, z⟩ := r
    refine nh ?_
    exact ⟨e, us, n, by rw [e] at g ⊢; exact hp _ g, z⟩
  | const xs =>
    refine byc fun nh => ?_
    obtain ⟨e, hz, us, ⟨o, g, r⟩, q⟩ := r
    refine nh ?_
    exact ⟨e, hz, us, ⟨o, by rw [e] at g ⊢; exact hp _ g, r⟩, q.mono gr⟩
  | tab b =>
    refine byc fun nh => ?_
    obtain ⟨e, ps, g, r⟩ := r
    refine nh ?_
    exact ⟨e, ps, by rw [e] at g ⊢; exact hp _ g, r⟩
theorem CellAt.not_imm {φ : Phi} {h : Heap} {p : Addr × Addr} {c : Cell} (r : CellAt φ h p c) : ∃ o, h.get? p.2 = some o ∧ (Imm o → o.cls = .type "tuple") := by
  induction c with
  | lst xs =>
    refine byc fun nh => ?_
    obtain ⟨e, _, us, n, g, _⟩ := r
    refine nh ?_
    exact ⟨_, e ▸ g, fun z => by simp [Imm] at z⟩
  | inst C as =>
    refine byc fun nh => ?_
    obtain ⟨_, _, ⟨od, gd, es, n, r2⟩, _⟩ := r
    refine nh ?_
    exact ⟨_, gd, fun z => absurd z (imm_dict r2)⟩
  | cel v =>
    refine byc fun nh => ?_
    obtain ⟨e, o, ov, g, hd, _⟩ := r
    refine nh ?_
    exact ⟨_, e ▸ g, fun z => absurd z (imm_cell hd)⟩
  | own k =>
    refine byc fun nh => ?_
    obtain ⟨e, us, n, g, _⟩ := r
    refine nh ?_
    exact ⟨_, e ▸ g, fun _ => rfl⟩
  | const xs =>
    refine byc fun nh => ?_
    obtain ⟨e, _, us, ⟨o, g, hc, n, hd⟩, _⟩ := r
    refine nh ?_
    exact ⟨_, e ▸ g, fun z => by unfold Imm at z; rw [hd, hc] at z; simp at z⟩
  | tab b =>
    refine byc fun nh => ?_
    obtain ⟨e, ps, g, _⟩ := r
    refine nh ?_
    exact ⟨_, e ▸ g, fun z => by simp [Imm] at z⟩
theorem Inv.cell {h₀ : Heap} {φ : Phi} {σ : St} {h : Heap} (I : Inv h₀ φ σ h) {i : Nat} {c : Cell} (e : σ[i]? = some c) : ∃ p, φ[i]? = some p ∧ CellAt φ h p c := by
  have hi : i < φ.length := by rw [I.len]; exact (List.getElem?_eq_some_iff.mp e).1
  exact ⟨φ[i], List.getElem?_eq_getElem hi, I.at_ i c _ e (List.getElem?_eq_getElem hi)⟩
theorem Inv.cell' {h₀ : Heap} {φ : Phi} {σ : St} {h : Heap} (I : Inv h₀ φ σ h) {i : Nat} {p : Addr × Addr} (e : φ[i]? = some p) : ∃ c, σ[i]? = some c ∧ CellAt φ h p c := by
  have hi : i < σ.length := by rw [← I.len]; exact (List.getElem?_eq_some_iff.mp e).1
  exact ⟨σ[i], List.getElem?_eq_getElem hi, I.at_ i _ p (List.getElem?_eq_getElem hi) e⟩
theorem Inv.there {h₀ : Heap} {φ : Phi} {σ : St} {h : Heap} (I : Inv h₀ φ σ h) {p : Addr × Addr} (hp : p ∈ φ) : ∃ o, h.get? p.2 = some o ∧ (Imm o → o.cls = .type "tuple") := by
  refine byc fun nh => ?_
  obtain ⟨i, hi, e⟩ := List.getElem_of_mem hp
  obtain ⟨c, _, r⟩ := I.cell' (i := i) (p := p) (by rw [← e]; exact List.getElem?_eq_getElem hi)
  refine nh ?_
  exact r.not_imm
theorem Inv.ext {h₀ : Heap} {φ : Phi} {σ : St} {h h' : Heap} {X : List Addr} (I : Inv h₀ φ σ h) (x : Ext X h h') (hX : ∀ a ∈ X, h₀.objs.size ≤ a) (hφ : ∀ a ∈ X, ∀ p ∈ φ, p.2 ≠ a) : Inv h₀ φ σ h' where
  base := fun b o e => x.keep b o (I.base b o e) fun hb => Nat.lt_irrefl _ (Nat.lt_of_lt_of_le (Heap.lt_size e) (hX b hb))
  sz := Nat.le_trans I.sz x.size
  low := I.low
  len := I.len
  nd := I.nd
  at_ := fun i _ p hc hp => (I.at_ i _ p hc hp).mono x.grow fun o e => x.keep _ o e fun hm => hφ _ hm p (List.mem_of_getElem? hp) rfl
theorem Inv.ext0 {h₀ : Heap} {φ : Phi} {σ : St} {h h' : Heap} (I : Inv h₀ φ σ h) (x : Ext [] h h') : Inv h₀ φ σ h' := I.ext x (by exact nil2) (by exact nil2)
theorem Inv.fresh {h₀ : Heap} {φ : Phi} {σ : St} {h : Heap} (I : Inv h₀ φ σ h) {a : Addr} (ha : h.objs.size ≤ a) : ∀ p ∈ φ, p.2 ≠ a := fun p hp z => by
  obtain ⟨o, e, _⟩ := I.there hp
  exact Nat.lt_irrefl _ (Nat.lt_of_lt_of_le (Heap.lt_size e) (z ▸ ha))
theorem Inv.alloc {h₀ : Heap} {φ : Phi} {σ : St} {h h' : Heap} {c : Cell} {p : Addr × Addr} (I : Inv h₀ φ σ h) (x : Ext [] h h') (hp : h.objs.size ≤ p.2)
    (hc : CellAt (φ ++ [p]) h' p c) : Inv h₀ (φ ++ [p]) (σ ++ [c]) h' ∧ Step [] φ (φ ++ [p]) h h' := by
  have I' := I.ext0 x
  have gr : Grow φ (φ ++ [p]) h h' := ⟨⟨[p], rfl⟩, fun q hq => by
      rcases List.mem_append.mp hq with z | z
      · exact .inl z
      · simp at z; subst z; exact .inr hp, fun b o e i _ => x.imm b o e i⟩
  refine ⟨⟨I'.base, I'.sz, ?_, by simp [I.len], ?_, ?_⟩, ⟨gr, x.size, fun b o e _ _ => x.keep b o e (by exact (by assumption))⟩⟩
  · intro i q c' hq hc' hn
    by_cases hi : i < φ.length
    · replace hq := (List.getElem?_append_left hi) ▸ hq
      replace hc' := (List.getElem?_append_left (by rw [← I.len]; exact hi)) ▸ hc'
      exact I.low i q c' hq hc' hn
    · have hi' : i = φ.length := by
        have := (List.getElem?_eq_some_iff.mp hq).1
        simp at this; omega
      subst hi'
      replace hq := (List.getElem?_concat_length) ▸ hq
      obtain rfl := smi hq
      exact Nat.le_trans I.sz hp
  · rw [List.map_append, List.nodup_append]
    refine ⟨I.nd, by simp, ?_⟩
    intro a ha b hb'
    simp at hb'
    subst hb'
    refine byc fun nh => ?_
    obtain ⟨q, hq, rfl⟩ := List.mem_map.mp ha
    refine nh ?_
    exact I.fresh hp q hq
  · intro i c' q hc' hq
    by_cases hi : i < σ.length
    · replace hc' := (List.getElem?_append_left hi) ▸ hc'
      replace hq := (List.getElem?_append_left (by rw [I.len]; exact hi)) ▸ hq
      exact (I.at_ i c' q hc' hq).mono gr fun o e => x.keep _ o e (by exact List.not_mem_nil)
    · have hi' : i = σ.length := by
        have := (List.getElem?_eq_some_iff.mp hc').1
        simp at this; omega
      subst hi'
      replace hc' := (List.getElem?_concat_length) ▸ hc'
      rw [← I.len, List.getElem?_concat_length] at hq
      cases hc'; cases hq
      exact hc
theorem SameBut.grow {h₀ : Heap} {φ : Phi} {σ : St} {h h' : Heap} {p : Addr × Addr} (I : Inv h₀ φ σ h) (hm : p ∈ φ) (hs : Heap.SameBut p.2 h h') : Grow φ φ h h' := by
  obtain ⟨o₀, e₀, n₀⟩ := I.there hm
  refine ⟨List.prefix_refl _, fun _ hq => .inl hq, fun b o e i ht => hs.extBut b o ?_ e⟩
  rintro rfl
  rw [e₀] at e; cases e
  exact ht (n₀ i) p hm rfl
theorem low_set {h₀ : Heap} {φ : Phi} {σ : St} {h : Heap} {c : Cell} {p : Addr × Addr} {i : Nat} (I : Inv h₀ φ σ h) (hi : φ[i]? = some p) {c₁ : Cell} (hσ₁ : σ[i]? = some c₁) (hn₁ : isConst c₁ = false) :
    ∀ (j : Nat) q c', φ[j]? = some q → (σ.set i c)[j]? = some c' → isConst c' = false → h₀.objs.size ≤ q.2 := by
  intro j q c' hq hc' hn
  by_cases hj : j = i
  · subst hj
    rw [hi] at hq; cases hq
    exact I.low _ _ _ hi hσ₁ hn₁
  · rw [List.getElem?_set_ne (Ne.symm hj)] at hc'
    exact I.low j q c' hq hc' hn
theorem Inv.put {h₀ : Heap} {φ : Phi} {σ : St} {h h' : Heap} {c : Cell} {p : Addr × Addr} {i : Nat} (I : Inv h₀ φ σ h) (hi : φ[i]? = some p) {c₁ : Cell} (hσ₁ : σ[i]? = some c₁) (hn₁ : isConst c₁ = false)
    (hs : Heap.SameBut p.2 h h') (hc : CellAt φ h' p c) : Inv h₀ φ (σ.set i c) h' ∧ Step [] φ φ h h' := by
  refine byc fun nh => ?_
  obtain ⟨c₀, hc₀, _⟩ := I.cell' hi
  have hm := List.mem_of_getElem? hi
  have gr : Grow φ φ h h' := SameBut.grow I hm hs
  have sz : h.objs.size ≤ h'.objs.size := Nat.le_of_eq hs.1.symm
  refine nh ?_
  refine ⟨⟨?_, Nat.le_trans I.sz sz, low_set I hi hσ₁ hn₁, by simp [I.len], I.nd, ?_⟩, ⟨gr, sz, fun b o e _ hb => hs.extBut b o (Ne.symm (hb p hm)) e⟩⟩
  · intro b o e
    refine hs.extBut b o ?_ (I.base b o e)
    exact Nat.ne_of_lt (Nat.lt_of_lt_of_le (Heap.lt_size e) (I.low i p c₁ hi hσ₁ hn₁))
  · intro j c' q hc' hq
    by_cases hj : j = i
    · subst hj
      rw [hi] at hq; cases hq
      replace hc' := (List.getElem?_set_self (List.getElem?_eq_some_iff.mp hc₀).1) ▸ hc'
      cases hc'; exact hc
    · replace hc' := (List.getElem?_set_ne (Ne.symm hj)) ▸ hc'
      refine (I.at_ j c' q hc' hq).mono gr fun o e => hs.extBut _ o ?_ e
      intro z
      apply hj
      have h1 : (φ.map (·.2))[j]? = some q.2 := by rw [List.getElem?_map, hq]; rfl
      have h2 : (φ.map (·.2))[i]? = some p.2 := by rw [List.getElem?_map, hi]; rfl
      have hjl : j < (φ.map (·.2)).length := (List.getElem?_eq_some_iff.mp h1).1
      exact (List.getElem?_inj hjl I.nd).mp (by rw [h1, h2, z])
theorem Inv.turn {h₀ : Heap} {φ : Phi} {σ : St} {h h' : Heap} {c : Cell} {p : Addr × Addr} {i : Nat} (I : Inv h₀ φ σ h) (hi : φ[i]? = some p) (hσ : σ[i]? = some c) (hn₁ : isConst c = false)
    (hs : Heap.SameBut p.2 h h') (hc : CellAt φ h' p c) : Inv h₀ φ σ h' ∧ Step [] φ φ h h' := by
  have := I.put hi hσ hn₁ hs hc
  have e : σ.set i c = σ := by
    apply List.ext_getElem?
    intro j
    by_cases hj : i = j
    · subst hj
      rw [hσ, List.getElem?_set_self (List.getElem?_eq_some_iff.mp hσ).1]
    · rw [List.getElem?_set_ne hj]
  rwa [e] at this
end Mine
end
section
namespace Mine
open PySem PyProof.Rows
structure Gm where
  names : List (Str × NameKind)
  locs : List Str
  cells : List Str
noncomputable def place (xs : List Str) (x : Str) : Option Nat := xs.findIdx? (x == ·)
noncomputable def mv (γ : Gm) (x : Str) : Option MV := (γ.names.lookup x).bind fun k => match k with
  | .local => (place γ.locs x).map .loc
  | .cell => (place γ.cells x).map .cel
  | .free => (place γ.cells x).map .cel
  | _ => none
noncomputable def namesOf (k : NameKind) (names : List (Str × NameKind)) : List Str := (names.filter (·.2 == k)).map (·.1)
noncomputable def relab (γ : Gm) (names : List (Str × NameKind)) : List (Str × NameKind) :=
  names.map fun (n, k) => if (k == .free && true && γ.names.lookup n == some .cell) then (n, .cell) else (n, k)
noncomputable def inner (γ : Gm) (sc : Scope) : Gm :=
  ⟨relab γ sc.names, namesOf .local sc.names, (namesOf .cell sc.names).reverse ++ (namesOf .free sc.names).reverse⟩
noncomputable def blockOk (names : List (Str × NameKind)) : Bool :=
  decide (namesOf .local names).Nodup && names.all fun x => x.2 != .local || names.lookup x.1 == some .local
inductive EV where
  | name (x : Str) (p : Pos) | tup (es : List Expr) (k : Nat) (p : Pos) | lst | call (f : Expr) (es : List Expr) (ks : List Keyword) (p : Pos) | attr (o : Expr) (x : Str) (p : Pos)
  | sub (o i : Expr) (p : Pos) | slc (l u t : Option Expr) (p : Pos) | comp | other
noncomputable def view : Expr → EV
  | .Name x p => .name x p
  | .Tuple es k p => .tup es k p
  | .List _ _ => .lst
  | .Call f es ks p => .call f es ks p
  | .Attribute o x p => .attr o x p
  | .Subscript o i p => .sub o i p
  | .Slice l u t p => .slc l u t p
  | .ListComp .. => .comp
  | _ => .other
noncomputable def EV.back (e : Expr) : EV → Expr
  | .name x p => .Name x p
  | .tup es k p => .Tuple es k p
  | .call f es ks p => .Call f es ks p
  | .attr o x p => .Attribute o x p
  | .sub o i p => .Subscript o i p
  | .slc l u t p => .Slice l u t p
  | _ => e
theorem back_view (e : Expr) : (view e).back e = e := by cases e <;> rfl
theorem back_of {e : Expr} {v : EV} (h : view e = v) : e = v.back e := h ▸ (back_view e).symm
noncomputable def EV.name? : EV → Option (Str × Pos)
  | .name x p => some (x, p)
  | _ => none
theorem EV.name?_some {v : EV} {q : Str × Pos} (h : v.name? = some q) : v = .name q.1 q.2 := by
  induction v with
  | name => exact smi h ▸ rfl
  | _ => exact nsm h
noncomputable def EV.attr? : EV → Option (Expr × Str × Pos)
  | .attr o x p => some (o, x, p)
  | _ => none
theorem EV.attr?_some {v : EV} {q : Expr × Str × Pos} (h : v.attr? = some q) : v = .attr q.1 q.2.1 q.2.2 := by
  induction v with
  | attr => exact smi h ▸ rfl
  | _ => exact nsm h
noncomputable def EV.sub? : EV → Option (Expr × Expr × Pos)
  | .sub o x p => some (o, x, p)
  | _ => none
theorem EV.sub?_some {v : EV} {q : Expr × Expr × Pos} (h : v.sub? = some q) : v = .sub q.1 q.2.1 q.2.2 := by
  induction v with
  | sub => exact smi h ▸ rfl
  | _ => exact nsm h
noncomputable def EV.slc? : EV → Option (Option Expr × Option Expr × Option Expr × Pos)
  | .slc l u t p => some (l, u, t, p)
  | _ => none
theorem EV.slc?_some {v : EV} {q : Option Expr × Option Expr × Option Expr × Pos} (h : v.slc? = some q) : v = .slc q.1 q.2.1 q.2.2.1 q.2.2.2 := by
  induction v with
  | slc => exact smi h ▸ rfl
  | _ => exact nsm h
noncomputable def EV.isComp : EV → Bool
  | .comp => true
  | _ => false
noncomputable def EV.isCall : EV → Bool
  | .call .. => true
  | _ => false
noncomputable def asName (e : Expr) : Option (Str × Pos) := (view e).name?
theorem asName_some {e : Expr} {q : Str × Pos} (h : asName e = some q) : e = .Name q.1 q.2 := back_of (EV.name?_some h)
noncomputable def notSuper (o : Expr) : Bool := match view o with
  | .call f es ks _ => !((asName f).isSome && es.isEmpty && ks.isEmpty)
  | _ => true
noncomputable def seqL : List (Option ME) → Option MEs
  | [] => some .nil
  | some e :: r => (seqL r).map (.cons e)
  | none :: _ => none
noncomputable def opA (op : BoolOp) (a b : ME) : ME := match op with
  | .And => .and a b
  | .Or => .or a b
noncomputable def orL (op : BoolOp) : List (Option ME) → Option ME
  | [] => none
  | [e] => e
  | some e :: r => (orL op r).map (opA op e)
  | none :: _ => none
noncomputable def seqC (ops : List CmpOp) (r : List (Option ME)) : Option MC := match ops with
  | [op] => match r with
    | [e] => e.map fun e => .cons op e .nil
    | _ => none
  | _ => none
noncomputable def nameTarget (γ : Gm) (e : Expr) : Option MV := (asName e).bind fun q => mv γ q.1
noncomputable def EV.target (γ : Gm) : EV → Option MT
  | .name x _ => (mv γ x).map .one
  | .tup es _ _ => (es.mapM (nameTarget γ)).map .tup
  | _ => none
noncomputable def target (γ : Gm) (e : Expr) : Option MT := (view e).target γ
noncomputable def isZip (G : List (Str × PV)) (γ : Gm) (e : Expr) : Bool := ((asName e).map fun q => (q.1 == ("zip" : Str)) && (γ.names.lookup q.1 == some .globalImplicit) && ((G.lookup q.1).bind tyOf == some "zip")) == some true
noncomputable def constOf : Const → Option PV
  | .none => some .none
  | .bool b => some (.bool b)
  | .int i => some (.int i)
  | .str s => if fits s then some (.str s) else none
  | _ => none
noncomputable def optE (c : Expr → Option ME) : Option Expr → Option ME
  | none => some (.cst .none)
  | some e => c e
noncomputable def bind2 {α β γ' : Type} (a : Option α) (b : Option β) (f : α → β → Option γ') : Option γ' := match a, b with
  | some x, some y => f x y
  | _, _ => none
noncomputable def bind3 {α β γ' δ : Type} (a : Option α) (b : Option β) (c : Option γ') (f : α → β → γ' → Option δ) : Option δ := match a, b, c with
  | some x, some y, some z => f x y z
  | _, _, _ => none
noncomputable def bind4 {α β γ' δ ε : Type} (a : Option α) (b : Option β) (c : Option γ') (d : Option δ) (f : α → β → γ' → δ → Option ε) : Option ε := match a, b, c, d with
  | some x, some y, some z, some u => f x y z u
  | _, _, _, _ => none
section
variable (G : List (Str × PV))
noncomputable def zipT : MT → MI → Bool
  | .one _, .zip _ => false
  | _, _ => true
noncomputable def pick {α β : Type} (q : Option α) (f : α → Option β) (e : Option β) : Option β := match q with
  | some x => f x
  | none => e
theorem pick_some {α β : Type} {q : Option α} {f : α → Option β} {e : Option β} {r : β} (h : pick q f e = some r) : (∃ x, q = some x ∧ f x = some r) ∨ (q = none ∧ e = some r) := by
  induction q with
  | none => exact .inr ⟨rfl, h⟩
  | some x => exact .inl ⟨x, rfl, h⟩
noncomputable def EV.zipped (γ : Gm) : EV → Option (List Expr)
  | .call f es ks _ => if (isZip G γ f && ks.isEmpty) = true then some es else none
  | _ => none
noncomputable def cI (c : Expr → Option ME) (γ : Gm) (it : Expr) : Option MI := pick ((view it).zipped G γ) (fun es => (seqL (es.map c)).map .zip) ((c it).map .val)
noncomputable def cG (c : Gm → Expr → Option ME) (γ : Gm) (elt : Expr) : List Comprehension → Option MG
  | [] => (c γ elt).map .elt
  | ⟨t, it, ifs, a⟩ :: r => if a != 0 then none else bind4 (cI G (c γ) γ it) (target γ t) (seqL (ifs.map (c γ))) (cG c γ elt r) fun i t fs g => if zipT t i = true then some (.nest i (.lvl t fs g)) else none
theorem opt2 {α β γ' : Type} {a : Option α} {b : Option β} {f : α → β → Option γ'} {r : γ'} (h : bind2 a b f = some r) : ∃ x y, a = some x ∧ b = some y ∧ f x y = some r := by
  induction a with
  | none => cases h
  | some x => cases b with
    | none => cases h
    | some y => exact ⟨x, y, rfl, rfl, h⟩
theorem opt3 {α β γ' δ : Type} {a : Option α} {b : Option β} {c : Option γ'} {f : α → β → γ' → Option δ} {r : δ} (h : bind3 a b c f = some r) : ∃ x y z, a = some x ∧ b = some y ∧ c = some z ∧ f x y z = some r := by
  induction a with
  | none => cases h
  | some x => cases b with
    | none => cases h
    | some y => cases c with
      | none => cases h
      | some z => exact ⟨x, y, z, rfl, rfl, rfl, h⟩
theorem opt4 {α β γ' δ ε : Type} {a : Option α} {b : Option β} {c : Option γ'} {d : Option δ} {f : α → β → γ' → δ → Option ε} {r : ε} (h : bind4 a b c d f = some r) : ∃ x y z u, a = some x ∧ b = some y ∧ c = some z ∧ d = some u ∧ f x y z u = some r := by
  induction a with
  | none => cases h
  | some x => cases b with
    | none => cases h
    | some y => cases c with
      | none => cases h
      | some z => cases d with
        | none => cases h
        | some u => exact ⟨x, y, z, u, rfl, rfl, rfl, rfl, h⟩
theorem ift {α : Type} {c : Bool} {a : Option α} {r : α} (h : (if c = true then a else none) = some r) : c = true ∧ a = some r := by
  cases c
  · exact nsm h
  · exact ⟨rfl, h⟩
theorem iff' {α : Type} {c : Bool} {a : Option α} {r : α} (h : (if c = true then none else a) = some r) : c = false ∧ a = some r := by
  cases c
  · exact ⟨rfl, h⟩
  · exact nsm h
noncomputable def asAttr (f : Expr) : Option (Expr × Str × Pos) := (view f).attr?
theorem asAttr_some {f o : Expr} {x : Str} {ap : Pos} (h : asAttr f = some (o, x, ap)) : f = .Attribute o x ap := back_of (EV.attr?_some h)
theorem asAttr_none {f : Expr} (h : asAttr f = none) : ∀ o x ap, f ≠ .Attribute o x ap := by
  rintro o x ap rfl; cases h
noncomputable def asSub (f : Expr) : Option (Expr × Expr × Pos) := (view f).sub?
theorem asSub_some {f o i : Expr} {q : Pos} (h : asSub f = some (o, i, q)) : f = .Subscript o i q := back_of (EV.sub?_some h)
noncomputable def asSlc (f : Expr) : Option (Option Expr × Option Expr × Option Expr × Pos) := (view f).slc?
theorem asSlc_some {f : Expr} {l u t : Option Expr} {q : Pos} (h : asSlc f = some (l, u, t, q)) : f = .Slice l u t q := back_of (EV.slc?_some h)
noncomputable def cName (γ : Gm) (x : Str) : Option ME := if (x == ("__debug__" : Str)) = true then some (.cst (.bool true)) else if (x == ("__classdict__" : Str)) = true then none else pick (mv γ x) (fun v => some (.var v)) (if (γ.names.lookup x == some .globalImplicit) = true then (G.lookup x).map .cst else none)
noncomputable def cComp (it : Option MI) (fs : Option (List Nat)) (t : Option MT) (ifs : Option MEs) (g : Option MG) (bad : Bool) (sc : Scope) : Option ME := if bad = true then none else
  fs.bind fun fs => bind4 it t ifs g fun i t ifs g => if zipT t i = true then some (.comp (namesOf .local sc.names).length (namesOf .cell sc.names).length fs i (.lvl t ifs g)) else none
noncomputable def cCmp (a : ME) : MC → Option ME
  | .cons op e r => some (.cmp a (.cons op e r))
  | .nil => none
noncomputable def cCall (f : Option ME) (es : Option MEs) (ks : Option MK) (c : Bool) : Option ME := if c = true then bind3 f es ks fun f es ks => some (.call f es ks) else none
noncomputable def cE : Nat → Gm → Expr → Option ME
  | 0, _, _ => none
  | n + 1, γ, e => match e with
    | .Constant k _ _ => (constOf k).map .cst
    | .Name x _ => cName G γ x
    | .BoolOp op vs _ => orL op (vs.map (cE n γ))
    | .BinOp l op r _ => bind2 (cE n γ l) (cE n γ r) fun a b => some (.bin op a b)
    | .UnaryOp op x _ => match op with
      | .Not => (cE n γ x).map .not
      | _ => none
    | .IfExp t b o _ => bind3 (cE n γ t) (cE n γ b) (cE n γ o) fun t b o => some (.ite t b o)
    | .List es _ => (seqL (es.map (cE n γ))).map .list
    | .Tuple es _ _ => (seqL (es.map (cE n γ))).map .tup
    | .ListComp elt gens sc _ => match gens with
      | ⟨t, it, ifs, a⟩ :: r => cComp (cI G (cE n γ) γ it) ((namesOf .free sc.names).mapM (place γ.cells)) (target (inner γ sc) t) (seqL (ifs.map (cE n (inner γ sc)))) (cG G (cE n) (inner γ sc) elt r) (a != 0 || sc.kind != .function || !blockOk sc.names) sc
      | [] => none
    | .Compare l ops cs _ => bind2 (cE n γ l) (seqC ops (cs.map (cE n γ))) cCmp
    | .Call f es ks p => pick (asAttr f) (fun q => if (notSuper q.1 && q.2.2.endLine == p.line && decide (es.length + ks.length < 20)) = true then bind3 (cE n γ q.1) (seqL (es.map (cE n γ))) (seqK (cE n γ) ks) fun o es ks => some (.meth o q.2.1 es ks) else none)
      (cCall (cE n γ f) (seqL (es.map (cE n γ))) (seqK (cE n γ) ks) (decide (es.length + ks.length < 10)))
    | .Attribute o x _ => if (notSuper o) = true then (cE n γ o).map (.attr · x) else none
    | .Subscript o i _ => pick (asSlc i) (fun q => bind4 (cE n γ o) (optE (cE n γ) q.1) (optE (cE n γ) q.2.1) (optE (cE n γ) q.2.2.1) fun o l u s => some (.slc o l u s))
      (bind2 (cE n γ o) (cE n γ i) fun o i => some (.idx o i))
    | _ => none
where
  seqK (c : Expr → Option ME) : List Keyword → Option MK
    | [] => some .nil
    | ⟨some x, e, _⟩ :: r => (c e).bind fun e => (seqK c r).map (.cons x e)
    | ⟨none, _, _⟩ :: _ => none
noncomputable def seqS : List (Option MS) → Option MSs
  | [] => some .nil
  | some s :: r => (seqS r).map (.cons s)
  | none :: _ => none
noncomputable def isCall (e : Expr) : Bool := (view e).isCall
noncomputable def isSlice (e : Expr) : Bool := (asSlc e).isSome
noncomputable def pairOk (targets : List Expr) (value : Expr) : Bool := match targets with
  | [t] => match view t with
    | .tup ts _ _ => match view value with
      | .tup vs _ _ => ts.length == 2 && vs.length == 2 && !vs.all (constantsAlone 8)
      | _ => true
    | .lst => false
    | _ => true
  | _ => true
noncomputable def same : MV → MV → Bool
  | .loc i, .loc j => i == j
  | .cel i, .cel j => i == j
  | _, _ => false
noncomputable def distinct : MT → Bool
  | .tup [x, y] => !same x y
  | _ => true
noncomputable def isComp (e : Expr) : Bool := (view e).isComp
noncomputable def cSet (e' : Option ME) (ts' : Option (List MT)) (ts : List Expr) (e : Expr) : Option MS := bind2 e' ts' fun e' ts' => if (pairOk ts e && ts'.all distinct && (!isComp e || ts.length == 1)) = true then some (.set ts' e') else none
noncomputable def cS : Nat → Gm → Stmt → Option MS
  | 0, _, _ => none
  | n + 1, γ, s => match s with
    | .Expr e _ => if isCall e = true then (cE G n γ e).map .expr else none
    | .Return o _ => match o with
      | some e => (cE G n γ e).map .ret
      | none => none
    | .Assign ts e _ => match ts with
      | [t] => pick (asSub t) (fun q => if (isSlice q.2.1 || isComp e) = true then none else bind3 (cE G n γ q.1) (cE G n γ q.2.1) (cE G n γ e) fun o i e => some (.seti o i e))
        (pick (asAttr t) (fun q => if isComp e = true then none else bind2 (cE G n γ q.1) (cE G n γ e) fun o e => some (.seta o q.2.1 e))
          (cSet (cE G n γ e) ([t].mapM (target γ)) [t] e))
      | ts => cSet (cE G n γ e) (ts.mapM (target γ)) ts e
    | .AugAssign t op e _ => match t with
      | .Name x _ => bind2 (mv γ x) (cE G n γ e) fun v e => if (x != "__classdict__") = true then some (.aug v op e) else none
      | _ => none
    | .If t b o _ => bind3 (cE G n γ t) (seqS (b.map (cS n γ))) (seqS (o.map (cS n γ))) fun t b o => some (.cond t b o)
    | .While t b o _ => match o with
      | [] => bind2 (cE G n γ t) (seqS (b.map (cS n γ))) fun t b => some (.whil t b)
      | _ => none
    | .For t it b o _ => match o with
      | [] => bind3 (target γ t) (cI G (cE G n γ) γ it) (seqS (b.map (cS n γ))) fun t it b => if zipT t it = true then some (.loop t it b) else none
      | _ => none
    | .Raise .. => some .bad
    | _ => none
end
end Mine
end
section
namespace Mine
open PySem PyProof.Rows
section
variable {α β : Type} {prog : Program} {w : World} {A : Around} {s : Shared}
theorem W.go {t : Sem α} {Q : α → Heap → Prop} {G : α → Shared → Prop} (h : W prog w A t s Q) (k : ∀ a h' tk, Q a h' → G a { s with heap := h', toks := tk }) :
    wpAny (model prog w) A t G bot s :=
  wpAny_mono h (fun a s' ⟨h', tk, e, q⟩ => by subst e; exact k a h' tk q) (fun _ _ x => x)
theorem wq {M : Model} {t : Sem α} {Q : α → Shared → Prop} {E : Value → Shared → Prop} (h : ∀ R : α → Shared → Prop, (∀ a s', Q a s' → R a s') → wpAny M A t R E s) : wpAny M A t Q E s := h Q fun _ _ q => q
theorem hid {t : Sem α} {Q : α → Heap → Prop} (h : ∀ R : α → Shared → Prop, (∀ a h' tk, Q a h' → R a { s with heap := h', toks := tk }) → wpAny (model prog w) A t R bot s) : W prog w A t s Q := h _ fun a h' tk q => ⟨h', tk, rfl, q⟩
theorem W.mono {t : Sem α} {Q Q' : α → Heap → Prop} (h : W prog w A t s Q) (k : ∀ a h', Q a h' → Q' a h') : W prog w A t s Q' :=
  h.go fun a h' tk q => ⟨h', tk, rfl, k a h' q⟩
theorem W.pure {a : α} {Q : α → Heap → Prop} (h : Q a s.heap) : W prog w A (pure a) s Q := wpAny_pure ⟨_, _, rfl, h⟩
theorem W.bind {t : Sem α} {f : α → Sem β} {Q : α → Heap → Prop} {Q' : β → Heap → Prop} (h : W prog w A t s Q)
    (k : ∀ a h' tk, Q a h' → W prog w A (f a) { s with heap := h', toks := tk } Q') : W prog w A (t >>= f) s Q' :=
  wpAny_bind (h.go fun a h' tk q => (k a h' tk q).go fun b h'' tk' q' => ⟨h'', tk', rfl, q'⟩)
end
structure Room (d : Nat) (A : Around) : Prop where
  depth : A.depth + d < recursionLimit
  units : A.units + 20 * d + 200 < cLine
  free : A.handled = none
theorem Room.le {d d' : Nat} {A : Around} (r : Room d A) (h : d' ≤ d) : Room d' A :=
  ⟨by have := r.depth; omega, by have := r.units; omega, r.free⟩
inductive Ret (h₀ : Heap) (X : List Addr) (φ : Phi) (h : Heap) (v : PV) (σ' : St) (u : Value) (h' : Heap) : Prop where
  | mk (φ' : Phi) (S : Step X φ φ' h h') (I : Inv h₀ φ' σ' h') (q : RV φ' h' v u) : Ret h₀ X φ h v σ' u h'
theorem Ret.before {h₀ : Heap} {X : List Addr} {φ φ₁ : Phi} {h h₁ : Heap} {v : PV} {σ' : St} {u : Value} {h' : Heap} (S : Step X φ φ₁ h h₁) (r : Ret h₀ X φ₁ h₁ v σ' u h') : Ret h₀ X φ h v σ' u h' :=
  by obtain ⟨φ', S', I, q⟩ := r; exact ⟨φ', S.trans S', I, q⟩
theorem Ret.here {h₀ : Heap} {X : List Addr} {φ : Phi} {h : Heap} {v : PV} {σ : St} {u : Value} (I : Inv h₀ φ σ h) (q : RV φ h v u) : Ret h₀ X φ h v σ u h :=
  ⟨φ, Step.refl _ _ _, I, q⟩
inductive RetP {β : Type} (h₀ : Heap) (X : List Addr) (φ : Phi) (h : Heap) (σ' : St) (P : β → Prop) (u : β) (h' : Heap) : Prop where
  | mk (φ' : Phi) (S : Step X φ φ' h h') (I : Inv h₀ φ' σ' h') (q : P u) : RetP h₀ X φ h σ' P u h'
inductive CellsAt (φ : Phi) : List Str → List (Str × Addr) → List Nat → Prop where
  | nil : CellsAt φ [] [] []
  | cons {x : Str} {a : Addr} {k : Nat} {xs es ks} : φ[k]? = some (a, a) → CellsAt φ xs es ks → CellsAt φ (x :: xs) ((x, a) :: es) (k :: ks)
theorem CellsAt.mono {φ φ' : Phi} (he : φ <+: φ') {xs es ks} (c : CellsAt φ xs es ks) : CellsAt φ' xs es ks := by
  induction c with
  | nil => exact .nil
  | cons e _ ih =>
    refine .cons ?_ ih
    obtain ⟨ψ, rfl⟩ := he
    rw [List.getElem?_append_left (List.getElem?_eq_some_iff.mp e).1]; exact e
theorem CellsAt.get {φ : Phi} {xs es ks} (c : CellsAt φ xs es ks) {x : Str} {i : Nat} (h : place xs x = some i) : ∃ a k, es.lookup x = some a ∧ ks[i]? = some k ∧ φ[k]? = some (a, a) := by
  induction c generalizing i with
  | nil => simp [place] at h
  | @cons y a k xs es ks e _ ih =>
    unfold place at h ih
    rw [List.findIdx?_cons] at h
    by_cases hx : (x == y) = true
    · rw [hx] at h; simp at h; subst h
      exact ⟨a, k, by simp [List.lookup_cons, hx], by exact rfl, e⟩
    · have hx' : (x == y) = false := by simpa using hx
      replace h := (hx') ▸ h
      simp at h
      refine byc fun nh => ?_
      obtain ⟨j, hj, rfl⟩ := h
      obtain ⟨a', k', h1, h2, h3⟩ := ih hj
      refine nh ?_
      exact ⟨a', k', by simp [List.lookup_cons, hx', h1], by simpa using h2, h3⟩
structure EnvOk (γ : Gm) (env : Env) : Prop where
  kind : env.scope.kind = .function
  names : env.scope.names = γ.names
  globals : env.globals = mainGlobals
  builtins : env.builtins = builtinsNs
  locs : γ.locs.Nodup
theorem EnvOk.kindOf {γ : Gm} {env : Env} (E : EnvOk γ env) (x : Str) : env.kindOf x = γ.names.lookup x := by unfold Env.kindOf; rw [E.names]
theorem EnvOk.plain {γ : Gm} {env : Env} (E : EnvOk γ env) : (env.scope.kind == .class || (env.scope.kind == .module && env.locals != env.globals)) = false := by rw [E.kind]; rfl
noncomputable def LocsAt (γ : Gm) (φ : Phi) (h : Heap) (ρ : List (Option PV)) (m : Str → Option Value) : Prop :=
  ∀ (i : Nat) x v, γ.locs[i]? = some x → ρ[i]? = some (some v) → ∃ u, m x = some u ∧ RV φ h v u
structure FrAt (h₀ : Heap) (γ : Gm) (env : Env) (fm : Fm) (φ : Phi) (h : Heap) : Prop where
  ns : ∃ m, h.Ns env.locals m ∧ LocsAt γ φ h fm.ρ m
  len : fm.ρ.length = γ.locs.length
  low : h₀.objs.size ≤ env.locals
  off : ∀ p ∈ φ, p.2 ≠ env.locals
  cells : CellsAt φ γ.cells env.cells fm.cs
theorem FrAt.there {h₀ : Heap} {γ : Gm} {env : Env} {fm : Fm} {φ : Phi} {h : Heap} (F : FrAt h₀ γ env fm φ h) : ∃ o, h.get? env.locals = some o ∧ ¬ Imm o := by
  refine byc fun nh => ?_
  obtain ⟨m, ⟨o, es, ep, e, d, _⟩, _⟩ := F.ns
  refine nh ?_
  exact ⟨o, e, imm_dict d⟩
theorem FrAt.step {h₀ : Heap} {γ : Gm} {env : Env} {fm : Fm} {φ φ' : Phi} {h h' : Heap} {X : List Addr} (F : FrAt h₀ γ env fm φ h) (S : Step X φ φ' h h') (hX : env.locals ∉ X) : FrAt h₀ γ env fm φ' h' where
  ns := by
    obtain ⟨m, hn, hl⟩ := F.ns
    refine ⟨m, hn.at' fun o e => S.keep _ o e hX F.off, fun i x v hx hv => ?_⟩
    obtain ⟨u, hu, q⟩ := hl i x v hx hv
    exact ⟨u, hu, S.rv q⟩
  len := F.len
  low := F.low
  off := fun p hp z => by
    rcases S.new p hp with q | q
    · exact F.off p q z
    · obtain ⟨o, e, _⟩ := F.there
      exact Nat.lt_irrefl _ (Nat.lt_of_lt_of_le (Heap.lt_size e) (z ▸ q))
  cells := F.cells.mono S.ext
theorem FrAt.step0 {h₀ : Heap} {γ : Gm} {env : Env} {fm : Fm} {φ φ' : Phi} {h h' : Heap} (F : FrAt h₀ γ env fm φ h) (S : Step [] φ φ' h h') : FrAt h₀ γ env fm φ' h' := F.step S (by exact List.not_mem_nil)
structure Globs (h₀ : Heap) (G : List (Str × PV)) : Prop where
  ns : ∃ mg mb, h₀.Ns mainGlobals mg ∧ h₀.Ns builtinsNs mb ∧ ∀ x v, G.lookup x = some v → ∃ u, (mg x = some u ∨ (mg x = none ∧ mb x = some u)) ∧ ∀ φ h, RV φ h v u
section
variable {prog : Program} {w : World} {A : Around} {s : Shared} {h₀ : Heap} {γ : Gm} {env : Env} {fm : Fm} {φ : Phi} {σ : St}
theorem place_get {xs : List Str} {x : Str} {i : Nat} (h : place xs x = some i) : xs[i]? = some x := by
  unfold place at h
  obtain ⟨hi, hp, _⟩ := List.findIdx?_eq_some_iff_getElem.mp h
  rw [List.getElem?_eq_getElem hi]
  rw [beq_iff_eq.mp hp]
theorem mv_loc {x : Str} {i : Nat} (h : mv γ x = some (.loc i)) : γ.names.lookup x = some .local ∧ γ.locs[i]? = some x := by
  obtain ⟨k, e, h⟩ := obind h
  induction k with
  | «local» => obtain ⟨j, q, e2⟩ := omap h; cases e2; exact ⟨e, place_get q⟩
  | cell => obtain ⟨j, q, e2⟩ := omap h; cases e2
  | free => obtain ⟨j, q, e2⟩ := omap h; cases e2
  | _ => exact nsm h
theorem mv_cel {x : Str} {i : Nat} (h : mv γ x = some (.cel i)) : (γ.names.lookup x = some .cell ∨ γ.names.lookup x = some .free) ∧ place γ.cells x = some i := by
  obtain ⟨k, e, h⟩ := obind h
  induction k with
  | «local» => obtain ⟨j, q, e2⟩ := omap h; cases e2
  | cell => obtain ⟨j, q, e2⟩ := omap h; cases e2; exact ⟨.inl e, q⟩
  | free => obtain ⟨j, q, e2⟩ := omap h; cases e2; exact ⟨.inr e, q⟩
  | _ => exact nsm h
theorem cellV_some {c : Cell} {v : PV} (h : cellV c = some v) : c = .cel (some v) := by
  induction c with
  | cel v' => exact congrArg Cell.cel h
  | _ => exact nsm h
theorem cellS_some {c : Cell} {xs : List PV} (h : cellS c = some xs) : c = .lst xs := by
  induction c with
  | lst => exact smi h ▸ rfl
  | _ => exact nsm h
theorem lstAt_get {n : Nat} {xs : List PV} (h : lstAt σ n = some xs) : σ[n]? = some (.lst xs) := by
  obtain ⟨c, e, h⟩ := obind h
  exact cellS_some h ▸ e
theorem getV_cel {fm : Fm} {i k : Nat} {v : PV} (h1 : fm.cs[i]? = some k) (h2 : σ[k]? = some (.cel (some v))) : getV fm (.cel i) σ = some (v, σ) := by
  show ((fm.cs[i]?).bind fun k => (σ[k]?).bind cellV).map _ = _
  rw [h1]
  show ((σ[k]?).bind cellV).map _ = _
  rw [h2]; rfl
theorem lst_of {n : Nat} {xs : List PV} (h : σ[n]? = some (.lst xs)) : lstAt σ n = some xs := by
  show (σ[n]?).bind cellS = _
  rw [h]; rfl
theorem getV_sound {x : Str} {mx : MV} {v : PV} {σ' : St} (E : EnvOk γ env) (hx : mv γ x = some mx) (hv : getV fm mx σ = some (v, σ')) (I : Inv h₀ φ σ s.heap) (F : FrAt h₀ γ env fm φ s.heap)
    (hc : (x == ("__classdict__" : Str)) = false) :
    σ' = σ ∧ W prog w A (loadName env x) s fun u h' => h' = s.heap ∧ RV φ s.heap v u := by
  induction mx with
  | loc i =>
    refine byc fun nh => ?_
    obtain ⟨hk, hi⟩ := mv_loc hx
    obtain ⟨v', e, he⟩ := omap hv
    obtain ⟨v2, e', rfl⟩ := obind e
    cases he
    obtain ⟨m, hn, hl⟩ := F.ns
    obtain ⟨u, hu, q⟩ := hl i x v hi e'
    refine nh ?_
    exact ⟨rfl, wpAny_loadName_local E.kind (by rw [E.kindOf, hk]) hn hu ⟨_, _, rfl, rfl, q⟩⟩
  | cel i =>
    refine byc fun nh => ?_
    obtain ⟨hk, hp⟩ := mv_cel hx
    obtain ⟨a, k, h1, h2, h3⟩ := F.cells.get hp
    obtain ⟨v', e, he⟩ := omap hv
    cases he
    obtain ⟨k', h2', e'⟩ := obind e
    refine nh ?_
    cases h2.symm.trans h2'
    obtain ⟨c0, e', hc0⟩ := obind e'
    obtain rfl := cellV_some hc0
    obtain ⟨p, hp', c⟩ := I.cell e'
    cases h3.symm.trans hp'
    obtain ⟨_, o, ov, g, d, q⟩ := c
    induction ov with
    | none => exact q.elim
    | some u =>
      refine ⟨rfl, ?_⟩
      have hc' : s.heap.IsCell a (some u) := ⟨o, g, d⟩
      rcases hk with hk | hk
      · exact wpAny_loadName_cell E.kind (by rw [E.kindOf, hk]) h1 hc' ⟨_, _, rfl, rfl, q⟩
      · exact wpAny_loadName_free E.kind (by rw [E.kindOf, hk]) h1 hc' ⟨_, _, rfl, rfl, q⟩ hc
theorem LocsAt.set {m : Str → Option Value} {ρ : List (Option PV)} {h : Heap} {i : Nat} {x : Str} {v : PV} {u : Value} (L : LocsAt γ φ h ρ m) (hn : γ.locs.Nodup) (hi : γ.locs[i]? = some x) (q : RV φ h v u) :
    LocsAt γ φ h (ρ.set i (some v)) (fun y => if y = x then some u else m y) := by
  intro j y v' hj hv'
  by_cases hji : j = i
  · subst hji
    rw [hi] at hj; cases hj
    have : j < ρ.length := by
      have := (List.getElem?_eq_some_iff.mp hv').1
      simpa using this
    replace hv' := (List.getElem?_set_self this) ▸ hv'
    cases hv'
    exact ⟨u, by simp, q⟩
  · rw [List.getElem?_set_ne (Ne.symm hji)] at hv'
    obtain ⟨u', hu', q'⟩ := L j y v' hj hv'
    have : y ≠ x := fun z => hji ((List.getElem?_inj (List.getElem?_eq_some_iff.mp hj).1 hn).mp (by rw [hj, hi, z]))
    exact ⟨u', by simp [this, hu'], q'⟩
theorem store_free {env : Env} {x : Str} {u : Value} (hE : env.scope.kind = .function) (hk : env.kindOf x = some .free) : (do cellSet (← cellOf env x) (some u)) = storeName env x u := by
  unfold storeName
  rw [hk, hE]; rfl
structure Stored (h₀ : Heap) (γ : Gm) (env : Env) (φ : Phi) (h : Heap) (fm' : Fm) (σ' : St) (h' : Heap) : Prop where
  S : Step [env.locals] φ φ h h'
  I : Inv h₀ φ σ' h'
  F : FrAt h₀ γ env fm' φ h'
theorem Stored.before {h₀ : Heap} {γ : Gm} {env : Env} {φ : Phi} {h h₁ h' : Heap} {fm' : Fm} {σ' : St} (S : Step [env.locals] φ φ h h₁) (r : Stored h₀ γ env φ h₁ fm' σ' h') : Stored h₀ γ env φ h fm' σ' h' :=
  ⟨S.trans r.S, r.I, r.F⟩
theorem setV_sound {x : Str} {mx : MV} {v : PV} {u : Value} {fm' : Fm} {σ' : St} (E : EnvOk γ env) (hx : mv γ x = some mx) (hv : setV fm v mx σ = some (fm', σ')) (I : Inv h₀ φ σ s.heap) (F : FrAt h₀ γ env fm φ s.heap)
    (q : RV φ s.heap v u) :
    W prog w A (storeName env x u) s fun _ h' => Stored h₀ γ env φ s.heap fm' σ' h' := by
  induction mx with
  | loc i =>
    refine byc fun nh => ?_
    obtain ⟨hk, hi⟩ := mv_loc hx
    obtain ⟨rfl, rfl⟩ := smp hv
    obtain ⟨m, hn, hl⟩ := F.ns
    obtain ⟨oL, eL, nL⟩ := F.there
    refine nh ?_
    refine wpAny_storeName_local (by rw [E.kindOf, hk]) hn (fun h' hn' hs => ⟨h', _, rfl, ?_⟩) E.plain
    have x1 : Ext [env.locals] s.heap h' := Ext.same hs fun o e => by rw [eL] at e; cases e; exact nL
    refine ⟨x1.step, I.ext x1 (by simpa using F.low) (by simpa using F.off), ⟨⟨_, hn', ?_⟩, by simpa using F.len, F.low, F.off, F.cells⟩⟩
    have := LocsAt.set (ρ := fm.ρ) (m := m) hl E.locs hi q
    intro j y v' hj hv'
    refine byc fun nh => ?_
    obtain ⟨u', h1, h2⟩ := this j y v' hj hv'
    refine nh ?_
    exact ⟨u', h1, h2.mono x1.grow⟩
  | cel i =>
    refine byc fun nh => ?_
    obtain ⟨hk, hp⟩ := mv_cel hx
    obtain ⟨a, k, h1, h2, h3⟩ := F.cells.get hp
    refine nh ?_
    obtain ⟨k', h2', e⟩ := obind hv
    cases h2.symm.trans h2'
    obtain ⟨c0, e', hc0⟩ := obind e
    obtain ⟨hcl, hc1⟩ := ifS hc0
    obtain ⟨rfl, rfl⟩ := smp hc1
    obtain ⟨p, hp', c⟩ := I.cell e'
    cases h3.symm.trans hp'
    induction c0 with
    | cel ov =>
      obtain ⟨_, o, ov', g, d, _⟩ := c
      have hc' : s.heap.IsCell a ov' := ⟨o, g, d⟩
      have go : ∀ h', h'.IsCell a (some u) → Heap.SameBut a s.heap h' → ∃ h2 tk, ({ s with heap := h' } : Shared) = { s with heap := h2, toks := tk } ∧ Stored h₀ γ env φ s.heap fm (σ.set k (.cel (some v))) h2 := fun h' hc'' hs => by
        obtain ⟨o', g', d'⟩ := hc''
        obtain ⟨I', S'⟩ := I.put h3 e' rfl hs (c := .cel (some v)) ⟨rfl, o', some u, g', d', q.mono (SameBut.grow I (List.mem_of_getElem? h3) hs)⟩
        exact ⟨h', _, rfl, S'.nil, I', F.step0 S'⟩
      rcases hk with hk | hk
      · exact wpAny_storeName_cell E.kind (by rw [E.kindOf, hk]) h1 hc' go
      · exact store_free E.kind (by rw [E.kindOf, hk]) ▸ wpAny_bind (wpAny_cellOf h1 (wpAny_cellSet hc' go))
    | _ => exact Bool.noConfusion hcl
theorem glob_sound {G : List (Str × PV)} (K : Globs h₀ G) (E : EnvOk γ env) {x : Str} {v : PV} (hk : γ.names.lookup x = some .globalImplicit) (hv : G.lookup x = some v) (I : Inv h₀ φ σ s.heap) :
    W prog w A (loadName env x) s fun u h' => h' = s.heap ∧ RV φ s.heap v u := by
  refine hid fun Rq hRq => ?_
  refine byc fun nh => ?_
  obtain ⟨mg, mb, hg, hb, hG⟩ := K.ns
  obtain ⟨u, hu, q⟩ := hG x v hv
  refine nh ?_
  refine Eq.symm (PyProof.Rows.loadName_read E.kind (by rw [E.kindOf, hk])) ▸ ?_
  rcases hu with hu | ⟨h1, h2⟩
  · exact Calls.loadGlobal_global (by rw [E.globals]; exact hg.keeps I.base) hu (hRq _ _ _ ⟨rfl, q _ _⟩)
  · exact Calls.loadGlobal_builtin (by rw [E.globals]; exact hg.keeps I.base) h1 (by rw [E.builtins]; exact hb.keeps I.base) h2 (hRq _ _ _ ⟨rfl, q _ _⟩)
theorem fits_le {x : Str} (h : fits x = true) : x.length ≤ 1000000 := by simp [fits] at h; exact h.1
theorem fits_ok {x : Str} (h : fits x = true) : PyData.strOk x = true := by simp [fits] at h; exact h.2
theorem fits_sign {x : Str} (h : fits x = true) {i c : Nat} (hc : x.cps[i]? = some c) : fits ⟨#[c]⟩ = true := by
  have := fits_ok h
  unfold PyData.strOk at this
  have h2 := Array.all_eq_true'.mp this c (Array.mem_of_getElem? hc)
  simp [fits, PyData.strOk, Str.length] at h2 ⊢
  exact h2
set_option tactic.hygienic true in
theorem truth_sound {v : PV} {u : Value} {b : Bool} (hv : truth σ v = some b) (I : Inv h₀ φ σ s.heap) (q : RV φ s.heap v u) :
    W prog w A (truthy u) s fun c h' => c = b ∧ h' = s.heap := by
  induction q using RV.casesOn with
  | none => cases hv; exact PyProof.Rows.truthy_none ⟨_, _, rfl, rfl, rfl⟩
  | bool b => cases hv; exact wpAny_truthy_bool ⟨_, _, rfl, rfl, rfl⟩
  | int i t => cases hv; exact P.truthy_int ⟨_, _, rfl, rfl, rfl⟩
  | str hs t =>
    obtain rfl := smi hv
    refine P.truthy_str (by have := fits_le hs; omega) ⟨_, _, rfl, ?_, rfl⟩
    rename_i x
    cases x.length <;> rfl
  | tup => cases hv
  | obj e =>
    obtain ⟨xs, e', rfl⟩ := omap hv
    obtain ⟨p, hp, c⟩ := I.cell (lstAt_get e')
    cases e.symm.trans hp
    obtain ⟨_, hz, us, n, g, r⟩ := c
    have hl := r.length
    refine wpAny_truthy_list (items := us.toArray) ⟨_, g, rfl, n, rfl⟩ (by simp; omega) ⟨_, _, rfl, ?_, rfl⟩
    cases r <;> rfl
  | top => cases hv
  | range => exact nsm hv
end
end Mine
end
section
namespace Mine
open PySem PyProof.Rows
section
variable {prog : Program} {w : World} {A : Around} {s : Shared} {h₀ : Heap} {φ : Phi} {σ : St}
theorem fits_line {x : Str} (h : fits x = true) : x.length ≤ sizeLine := by have := fits_le h; rw [sizeLine_eq]; exact Nat.le_trans (by assumption) (by decide)
theorem newList_at {h : Heap} {us : List Value} {xs : List PV} (I : Inv h₀ φ σ h) (r : RVs φ h xs us) (hz : xs.length ≤ 20000) :
    Ret h₀ [] φ h (.obj σ.length) (σ ++ [.lst xs]) (.ref h.objs.size) (h.push { cls := .type "list", data := .seq us.toArray }) := by
  obtain ⟨I', S'⟩ := I.alloc (Ext.push h _) (p := (h.objs.size, h.objs.size)) (Nat.le_refl _) (c := .lst xs)
    ⟨rfl, hz, us, 0, Heap.get?_push_size _ rfl, r.mono ⟨⟨_, rfl⟩, fun q hq => by
      rcases List.mem_append.mp hq with z | z
      · exact .inl z
      · simp at z; subst z; exact .inr (Nat.le_refl _), fun _ _ e _ _ => Heap.get?_push_of_some _ e⟩⟩
  refine ⟨_, S', I', ?_⟩
  have : (φ ++ [(h.objs.size, h.objs.size)])[σ.length]? = some (h.objs.size, h.objs.size) := by rw [← I.len]; simp
  exact RV.obj (p := (h.objs.size, h.objs.size)) this
theorem newTuple_at {h : Heap} {us : List Value} {xs : List PV} (I : Inv h₀ φ σ h) (r : RVs φ h xs us) :
    Ret h₀ [] φ h (.tup xs) σ (.ref h.objs.size) (h.push { cls := .type "tuple", data := .seq us.toArray }) :=
  ⟨φ, (Ext.push h _).step, I.ext0 (Ext.push h _), .tup (Heap.get?_push_size _ rfl) (I.fresh (Nat.le_refl _)) (r.mono (Ext.push h _).grow)⟩
inductive ListAt (φ : Phi) (h : Heap) (n : Nat) (xs : List PV) (u : Value) : Prop where
  | mk (a : Addr) (us : List Value) (k : Nat) (h1 : u = .ref a) (h2 : φ[n]? = some (a, a)) (h3 : xs.length ≤ 20000) (h4 : h.get? a = some { cls := .type "list", dict := none, data := .seq (List.toArray us) k, slots := #[] }) (h5 : RVs φ h xs us) : ListAt φ h n xs u
theorem list_at {h : Heap} {n : Nat} {xs : List PV} {u : Value} (hl : lstAt σ n = some xs) (I : Inv h₀ φ σ h) (q : RV φ h (.obj n) u) : ListAt φ h n xs u := by
  cases q with
  | @obj _ p e =>
    obtain ⟨p', hp, c⟩ := I.cell (lstAt_get hl)
    rw [e] at hp; cases hp
    obtain ⟨e', hz, us, k, g, r⟩ := c
    obtain ⟨a, b⟩ := p
    dsimp only at e'
    subst e'
    exact ⟨a, us, k, rfl, e, hz, g, r⟩
theorem Ret.int {h : Heap} {X : List Addr} (I : Inv h₀ φ σ h) (i : Int) (t : Tok) : Ret h₀ X φ h (.int i) σ (.int i t) h := Ret.here I (.int i t)
theorem Ret.str {h : Heap} {X : List Addr} (I : Inv h₀ φ σ h) {x : Str} (hx : fits x = true) (t : Tok) : Ret h₀ X φ h (.str x) σ (.str x t) h := Ret.here I (.str hx t)
theorem Ret.bool {h : Heap} {X : List Addr} (I : Inv h₀ φ σ h) (b : Bool) : Ret h₀ X φ h (.bool b) σ (.bool b) h := Ret.here I (.bool b)
theorem rt_eq {α : Type} {a b : α} {σ σ' : St} (h : rt a σ = some (b, σ')) : b = a ∧ σ' = σ := by cases h; exact ⟨rfl, rfl⟩
theorem ifM {α : Type} {c : Prop} [Decidable c] {m : M α} {σ : St} {r : α × St} (h : (if c then m else fail) σ = some r) : IfS c (m σ) r := by
  by_cases hc : c
  · exact ⟨hc, (congrFun (if_pos hc) σ).symm.trans h⟩
  · exact nsm ((congrFun (if_neg hc) σ).symm.trans h)
theorem if_rt {α : Type} {c : Prop} [Decidable c] {a b : α} {σ σ' : St} (h : (if c then rt a else fail) σ = some (b, σ')) : c ∧ b = a ∧ σ' = σ := by
  obtain ⟨hc, h⟩ := ifM h
  exact ⟨hc, rt_eq h⟩
theorem str_empty {x : Str} (h : (x.length == 0) = true) : x = Str.empty := by
  obtain ⟨⟨l⟩⟩ := x
  induction l with
  | nil => rfl
  | cons a l => simp [Str.length] at h
theorem glue_post {x y : Str} {t u : Tok} {Q : Value → Shared → Prop} (hf : fits (x ++ y) = true) (h : ∀ t' k, Q (.str (x ++ y) t') { s with toks := k }) :
    (if x.length == 0 then Made.val (.str y u) else if y.length == 0 then Made.val (.str x t) else Made.str (x ++ y)).post Q s := by
  split
  · rename_i e
    have := str_empty e
    subst this
    have z : (Str.empty ++ y : Str) = y := Str.empty_append y
    rw [z] at h
    exact h u s.toks
  · split
    · rename_i e
      have := str_empty e
      subst this
      have z : (x ++ Str.empty : Str) = x := Str.append_empty x
      rw [z] at h
      exact h t s.toks
    · exact ⟨fits_line hf, h _ _⟩
inductive I2 (P : Int → Int → Prop) : PV → PV → Value → Value → Prop
  | mk {x y : Int} {t u : Tok} (h : P x y) : I2 P (.int x) (.int y) (.int x t) (.int y u)
theorem int2_snd {h : Heap} {f : Int → Int → M PV} {a b : PV} {ua ub : Value} {r : PV × St} (hv : int2 f a b σ = some r) (qa : RV φ h a ua) (qb : RV φ h b ub) : I2 (fun x y => f x y σ = some r) a b ua ub := by
  induction qa using RV.casesOn with
  | int x t =>
    induction qb using RV.casesOn with
    | int y u => exact .mk hv
    | _ => exact nsm hv
  | _ => exact nsm hv
theorem cat_snd {M' : Value → Value → Sem Value} (P1 : ∀ {x y : Str} {t u : Tok} {Q : Value → Shared → Prop}, (if x.length == 0 then Made.val (.str y u) else if y.length == 0 then Made.val (.str x t) else Made.str (x ++ y)).post Q s → wpAny (model prog w) A (M' (.str x t) (.str y u)) Q bot s)
    {x y : Str} {t u : Tok} {v : PV} {σ' : St} (hv : (if fits (x ++ y) then rt (.str (x ++ y)) else fail : M PV) σ = some (v, σ')) (I : Inv h₀ φ σ s.heap) : W prog w A (M' (.str x t) (.str y u)) s (Ret h₀ [] φ s.heap v σ') := by
  refine hid fun Rq hRq => ?_
  refine byc fun nh => ?_
  obtain ⟨hf, rfl, rfl⟩ := if_rt hv
  refine nh ?_
  exact P1 (glue_post hf fun t' k => (hRq _ _ _ (Ret.str I hf t')))
theorem augop_sound {op : Operator} {a b v : PV} {ua ub : Value} {σ' : St} (hv : augop op a b σ = some (v, σ')) (I : Inv h₀ φ σ s.heap) (qa : RV φ s.heap a ua) (qb : RV φ s.heap b ub) :
    W prog w A (inplaceOp op ua ub) s (Ret h₀ [] φ s.heap v σ') := by
  revert hv
  induction op with
  | Add =>
    intro hv
    induction qa using RV.casesOn with
    | str h1 t1 =>
      revert hv
      induction qb using RV.casesOn with
      | str h2 t2 => intro hv; exact cat_snd (M' := inplaceOp .Add) P.iadd_str hv I
      | _ => exact nsm
    | int x t1 =>
      induction qb using RV.casesOn with
      | int y t2 =>
        obtain ⟨rfl, rfl⟩ := rt_eq hv
        exact AutoIntOps.iadd_0 ⟨_, _, rfl, Ret.int I _ _⟩
      | _ => exact nsm hv
    | _ => exact nsm hv
  | Sub =>
    intro hv
    refine hid fun Rq hRq => ?_
    have zq1 := int2_snd hv qa qb
    induction zq1 with | mk hv =>
    obtain ⟨rfl, rfl⟩ := rt_eq hv
    exact AutoIntOps.isub_0 (hRq _ _ _ (Ret.int I _ _))
  | _ => exact nsm
theorem small_iff {i : Int} (h : small i = true) : -4611686018427387904 < i ∧ i < 4611686018427387904 := by
  simpa [small] using h
section
variable {a b v : PV} {ua ub : Value} {σ' : St}
theorem add_snd (hv : addM a b σ = some (v, σ')) (I : Inv h₀ φ σ s.heap) (qa : RV φ s.heap a ua) (qb : RV φ s.heap b ub) : W prog w A (binaryOp .Add ua ub) s (Ret h₀ [] φ s.heap v σ') := by
  revert hv
  cases a with
  | str x =>
    intro hv
    revert hv
    cases b with
    | str y =>
      intro hv
      obtain ⟨h1, t1, rfl⟩ := qa.i_str
      obtain ⟨h2, t2, rfl⟩ := qb.i_str
      exact cat_snd (M' := binaryOp .Add) P.add_str hv I
    | _ => exact nsm
  | obj i =>
    intro hv
    revert hv
    cases b with
    | obj j =>
      intro hv
      obtain ⟨xs, e1, hv1⟩ := obind hv
      obtain ⟨ys, e2, hv2⟩ := obind hv1
      obtain ⟨hz, hv3⟩ := ifS hv2
      clear hv hv1 hv2
      cases hv3
      obtain ⟨a, us, k, rfl, _, _, g1, r1⟩ := list_at e1 I qa
      obtain ⟨b, us', k', rfl, _, _, g2, r2⟩ := list_at e2 I qb
      refine P.add_list (l := a) (b := b) g1 g2 ⟨_, _, rfl, ?_⟩ (by have := r1.length; have := r2.length; rw [sizeLine_eq]; simp; omega)
      have := newList_at I (r1.append r2) (by simp; exact Nat.le_trans (by assumption) (by decide))
      simpa using this
    | _ => exact nsm
  | int x =>
    intro hv
    revert hv
    cases b with
    | int y =>
      intro hv
      refine hid fun Rq hRq => ?_
      obtain ⟨rfl, rfl⟩ := rt_eq hv
      obtain ⟨t1, rfl⟩ := qa.i_int
      obtain ⟨t2, rfl⟩ := qb.i_int
      exact AutoIntOps.add_0 (hRq _ _ _ (Ret.int I _ _))
    | _ => exact nsm
  | _ => exact nsm
theorem sub_snd (hv : subM a b σ = some (v, σ')) (I : Inv h₀ φ σ s.heap) (qa : RV φ s.heap a ua) (qb : RV φ s.heap b ub) : W prog w A (binaryOp .Sub ua ub) s (Ret h₀ [] φ s.heap v σ') := by
  induction qa using RV.casesOn with
  | int x t1 =>
    revert hv
    induction qb using RV.casesOn with
    | int y t2 =>
      intro hv
      obtain ⟨rfl, rfl⟩ := rt_eq hv
      exact AutoIntOps.sub_0 ⟨_, _, rfl, Ret.int I _ _⟩
    | _ => exact nsm
  | bool x =>
    induction qb using RV.casesOn with
    | bool y =>
      obtain ⟨rfl, rfl⟩ := rt_eq hv
      exact PyProof.Rows.sub_bool ⟨_, _, rfl, Ret.int I _ _⟩
    | _ => exact nsm hv
  | _ => exact nsm hv
theorem mul_snd (hv : mulM a b σ = some (v, σ')) (I : Inv h₀ φ σ s.heap) (qa : RV φ s.heap a ua) (qb : RV φ s.heap b ub) : W prog w A (binaryOp .Mult ua ub) s (Ret h₀ [] φ s.heap v σ') := by
  refine hid fun Rq hRq => ?_
  have zq1 := int2_snd hv qa qb
  induction zq1 with | mk hv =>
  obtain ⟨hc, rfl, rfl⟩ := if_rt hv
  rw [Bool.and_eq_true, decide_eq_true_eq, decide_eq_true_eq] at hc
  exact AutoIntOps.mul_0 (hRq _ _ _ (Ret.int I _ _)) (IntMulOk.of_left (intBits_le_64 (by omega) (by omega)))
theorem fdiv_snd (hv : fdivM a b σ = some (v, σ')) (I : Inv h₀ φ σ s.heap) (qa : RV φ s.heap a ua) (qb : RV φ s.heap b ub) : W prog w A (binaryOp .FloorDiv ua ub) s (Ret h₀ [] φ s.heap v σ') := by
  refine hid fun Rq hRq => ?_
  have zq1 := int2_snd hv qa qb
  induction zq1 with | @mk x  y  t1  t2  hv =>
  obtain ⟨hc, rfl, rfl⟩ := if_rt hv
  simp only [Bool.and_eq_true, decide_eq_true_eq] at hc
  have h2 := small_iff hc.2
  refine AutoIntOps.floordiv_1 (by simp; omega) ?_ (hRq _ _ _ (Ret.int I _ _))
  rw [PyProof.noPylong_of_log2 (by
    have : y.natAbs.log2 < 64 := by
      by_cases z : y.natAbs = 0
      · rw [z]; decide
      · exact (Nat.log2_lt z).mpr (by omega)
    exact Nat.lt_of_lt_of_le (by assumption) (by decide))]
  simp
theorem mod_snd (hv : modM a b σ = some (v, σ')) (I : Inv h₀ φ σ s.heap) (qa : RV φ s.heap a ua) (qb : RV φ s.heap b ub) : W prog w A (binaryOp .Mod ua ub) s (Ret h₀ [] φ s.heap v σ') := by
  induction qa using RV.casesOn with
  | int x t1 =>
    induction qb using RV.casesOn with
    | int y t2 =>
      obtain ⟨hc, rfl, rfl⟩ := if_rt hv
      rw [decide_eq_true_eq] at hc
      exact AutoIntOps.mod_1 (by simp; exact Int.ne_of_gt (by assumption)) ⟨_, _, rfl, Ret.int I _ _⟩
    | _ => exact nsm hv
  | str h1 t1 =>
    revert hv
    induction qb using RV.casesOn with
    | int y t2 =>
      intro hv
      refine hid fun Rq hRq => ?_
      obtain ⟨hc, rfl, rfl⟩ := if_rt hv
      simp only [Bool.and_eq_true, decide_eq_true_eq, beq_iff_eq] at hc
      obtain ⟨⟨⟨hx, h0⟩, h1'⟩, hf⟩ := hc
      subst hx
      exact PySem.W.KPc.mod_int (T := fun n => Str.ofString (toString n)) rfl h0 (Int.lt_trans h1' (by decide)) (by kpc_run) fun t' k => (hRq _ _ _ (Ret.str I hf t'))
    | _ => exact nsm
  | _ => exact nsm hv
theorem bit_snd (hv : bitM a b σ = some (v, σ')) (I : Inv h₀ φ σ s.heap) (qa : RV φ s.heap a ua) (qb : RV φ s.heap b ub) : W prog w A (binaryOp .BitAnd ua ub) s (Ret h₀ [] φ s.heap v σ') := by
  refine hid fun Rq hRq => ?_
  have zq1 := int2_snd hv qa qb
  induction zq1 with | mk hv =>
  obtain ⟨rfl, rfl⟩ := rt_eq hv
  exact PyProof.Rows.and_int (hRq _ _ _ (Ret.int I _ _))
theorem binop_sound {op : Operator} (hv : binop op a b σ = some (v, σ')) (I : Inv h₀ φ σ s.heap) (qa : RV φ s.heap a ua) (qb : RV φ s.heap b ub) : W prog w A (binaryOp op ua ub) s (Ret h₀ [] φ s.heap v σ') := by
  revert hv
  induction op with
  | Add => intro hv; exact add_snd hv I qa qb
  | Sub => intro hv; exact sub_snd hv I qa qb
  | Mult => intro hv; exact mul_snd hv I qa qb
  | FloorDiv => intro hv; exact fdiv_snd hv I qa qb
  | Mod => intro hv; exact mod_snd hv I qa qb
  | BitAnd => intro hv; exact bit_snd hv I qa qb
  | _ => exact nsm
end
end
end Mine
end
section
namespace Mine
open PySem PyProof.Rows
section
variable {prog : Program} {w : World} {A : Around} {s : Shared} {h₀ : Heap} {φ : Phi} {σ : St}
theorem and_tt {a b : Bool} (h1 : a = true) (h2 : b = true) : (a && b) = true := by rw [h1, h2]; rfl
inductive MapC {α β : Type} (f : α → Option β) (x : α) (xs : List α) (ys : List β) : Prop
  | mk (z : β) (zs : List β) (h1 : f x = some z) (h2 : mapO f xs = some zs) (e : ys = z :: zs)
theorem mapO_cons {α β : Type} {f : α → Option β} {x : α} {xs : List α} {ys : List β} : mapO f (x :: xs) = some ys → MapC f x xs ys := by
  show (match f x, mapO f xs with
    | some y, some ys => some (y :: ys)
    | _, _ => none) = _ → _
  cases h1 : f x with
  | none => exact nsm
  | some z =>
    cases h2 : mapO f xs with
    | none => exact nsm
    | some zs => exact fun h => ⟨z, zs, h1, h2, (smi h).symm⟩
theorem all_reads {h : Heap} {n : Nat} {f : PV → Option PyData} (hf : ∀ v u d, f v = some d → RV φ h v u → ∃ as, Reads h u d as ∧ d.canLay0 = true ∧ d.depth ≤ n) :
    ∀ xs us ds, mapO f xs = some ds → RVs φ h xs us → ∃ as, ReadsAll h us ds as ∧ PyData.canLayAll0 ds = true ∧ PyData.depthAll ds ≤ n := by
  intro xs
  induction xs with
  | nil => intro us ds hd r; cases r; cases hd; exact ⟨[], .nil, rfl, Nat.zero_le _⟩
  | cons x xs ih =>
    intro us ds hd r
    cases r with
    | cons r1 r2 =>
      refine byc fun nh => ?_
      obtain ⟨y, ys, e1, e2, rfl⟩ := mapO_cons hd
      obtain ⟨as, a1, a2, a3⟩ := hf _ _ _ e1 r1
      obtain ⟨bs, b1, b2, b3⟩ := ih _ _ e2 r2
      refine nh ?_
      exact ⟨as ++ bs, .cons a1 b1, and_tt a2 b2, Nat.max_le.2 ⟨a3, b3⟩⟩
theorem deep_reads {h : Heap} (I : Inv h₀ φ σ h) : ∀ n v u d, deep σ n v = some d → RV φ h v u → ∃ as, Reads h u d as ∧ d.canLay0 = true ∧ d.depth ≤ n := by
  intro n
  induction n with
  | zero =>
    intro v u d hd r
    induction r using RV.casesOn with
    | none => cases hd; exact ⟨_, .none, rfl, Nat.le_refl _⟩
    | bool b => cases hd; exact ⟨_, .bool b, rfl, Nat.le_refl _⟩
    | int i t => cases hd; exact ⟨_, .int i t, rfl, Nat.le_refl _⟩
    | str hs t => cases hd; exact ⟨_, .str _ t, fits_ok hs, Nat.le_refl _⟩
    | tup _ _ => cases hd
    | obj _ => cases hd
    | top _ => cases hd
    | range _ => exact nsm hd
  | succ n ih =>
    intro v u d hd r
    induction r using RV.casesOn with
    | none => cases hd; exact ⟨_, .none, rfl, Nat.zero_le _⟩
    | bool b => cases hd; exact ⟨_, .bool b, rfl, Nat.zero_le _⟩
    | int i t => cases hd; exact ⟨_, .int i t, rfl, Nat.zero_le _⟩
    | str hs t => cases hd; exact ⟨_, .str _ t, fits_ok hs, Nat.zero_le _⟩
    | @tup xs us a k g _ r =>
      refine byc fun nh => ?_
      obtain ⟨ds, e, rfl⟩ := omap (show (mapO (deep σ n) xs).map PyData.tuple = some d from hd)
      obtain ⟨as, h1, h2, h3⟩ := all_reads ih _ _ _ e r
      refine nh ?_
      exact ⟨_, .tuple g rfl rfl h1, h2, Nat.succ_le_succ h3⟩
    | @obj k p e =>
      obtain ⟨xs, hl, hd⟩ := obind (show ((lstAt σ k).bind fun xs => (mapO (deep σ n) xs).map PyData.list) = some d from hd)
      obtain ⟨ds, e', rfl⟩ := omap hd
      obtain ⟨a, us, k', hu, _, _, g, r⟩ := list_at hl I (.obj e)
      obtain ⟨as, h1, h2, h3⟩ := all_reads ih _ _ _ e' r
      refine Eq.symm (hu) ▸ ?_
      exact ⟨_, .list g rfl rfl h1, h2, Nat.succ_le_succ h3⟩
    | top _ => cases hd
    | range _ => exact nsm hd
theorem Room.cline {d : Nat} (R : Room d A) : A.units + 200 < cLine := by have := R.units; omega
theorem Room.shallow {d k : Nat} (R : Room d A) (h : k ≤ 200) : A.units + k < cLine := Nat.lt_of_le_of_lt (Nat.add_le_add_left h _) R.cline
theorem eqTop_sound {a b : PV} {ua ub : Value} {c : Bool} (R : Room 0 A) (hv : eqTop σ a b = some c) (I : Inv h₀ φ σ s.heap) (qa : RV φ s.heap a ua) (qb : RV φ s.heap b ub) :
    (W prog w A (compareOp .Eq ua ub) s fun u h' => h' = s.heap ∧ u = .bool c) ∧ W prog w A (compareOp .NotEq ua ub) s fun u h' => h' = s.heap ∧ u = .bool !c := by
  refine byc fun nh => ?_
  obtain ⟨x, e1, hv⟩ := obind hv
  obtain ⟨y, e2, rfl⟩ := omap hv
  obtain ⟨as, a1, a2, a3⟩ := deep_reads I _ _ _ _ e1 qa
  obtain ⟨bs, b1, b2, b3⟩ := deep_reads I _ _ _ _ e2 qb
  have hu := R.shallow (Nat.le_trans (Nat.min_le_left x.depth y.depth) (Nat.le_trans a3 (by decide)))
  refine nh ?_
  exact ⟨SeqAt.compareEq_reads a1 b1 a2 b2 hu ⟨_, _, rfl, rfl, rfl⟩, SeqAt.compareNe_reads a1 b1 a2 b2 hu ⟨_, _, rfl, rfl, rfl⟩⟩
theorem in_sound {x ys' : PV} {ux uc : Value} {ys : List PV} {c : Bool} (R : Room 0 A) (hv : isIn σ x ys = some c) (hy : ys' = .tup ys ∨ ∃ n, ys' = .obj n ∧ lstAt σ n = some ys) (I : Inv h₀ φ σ s.heap) (qx : RV φ s.heap x ux) (qc : RV φ s.heap ys' uc) :
    (W prog w A (compareOp .In ux uc) s fun u h' => h' = s.heap ∧ u = .bool c) ∧ W prog w A (compareOp .NotIn ux uc) s fun u h' => h' = s.heap ∧ u = .bool !c := by
  obtain ⟨d, e1, hv⟩ := obind hv
  obtain ⟨ds, e2, rfl⟩ := omap hv
  obtain ⟨as, a1, a2, a3⟩ := deep_reads I _ _ _ _ e1 qx
  have hu : A.units + 1 + min (PyData.depthAll ds) d.depth < cLine := by
    rw [Nat.add_assoc]
    exact R.shallow (Nat.le_trans (Nat.add_le_add_left (Nat.le_trans (Nat.min_le_right _ _) a3) 1) (by decide))
  rcases hy with rfl | ⟨n, rfl, hl⟩
  · cases qc with
    | tup g _ r =>
      obtain ⟨bs, b1, b2, b3⟩ := all_reads (deep_reads I 5) _ _ _ e2 r
      exact ⟨SeqAt.in_tuple_reads (.tuple g rfl rfl b1) a1 b2 a2 hu ⟨_, _, rfl, rfl, rfl⟩, SeqAt.notIn_tuple_reads (.tuple g rfl rfl b1) a1 b2 a2 hu ⟨_, _, rfl, rfl, rfl⟩⟩
  · obtain ⟨a, us, k', rfl, _, _, g, r⟩ := list_at hl I qc
    obtain ⟨bs, b1, b2, b3⟩ := all_reads (deep_reads I 5) _ _ _ e2 r
    exact ⟨SeqAt.in_list_reads (.list g rfl rfl b1) a1 b2 a2 hu ⟨_, _, rfl, rfl, rfl⟩, SeqAt.notIn_list_reads (.list g rfl rfl b1) a1 b2 a2 hu ⟨_, _, rfl, rfl, rfl⟩⟩
theorem type_beq (x y : String) : (Value.type x == Value.type y) = (x == y) := by
  by_cases h : x = y
  · subst h; simp
  · rw [beq_eq_false_iff_ne.mpr h, beq_eq_false_iff_ne.mpr (by intro e; cases e; exact h rfl)]
theorem two_ints {x y : Int} {h : Heap} {ua ub : Value} (qa : RV φ h (.int x) ua) (qb : RV φ h (.int y) ub) {P : Value → Value → Prop} (k : ∀ t1 t2, P (.int x t1) (.int y t2)) : P ua ub := by
  obtain ⟨t1, rfl⟩ := qa.i_int
  obtain ⟨t2, rfl⟩ := qb.i_int
  exact k t1 t2
theorem two_strs {x y : Str} {h : Heap} {ua ub : Value} (qa : RV φ h (.str x) ua) (qb : RV φ h (.str y) ub) {P : Value → Value → Prop} (k : ∀ t1 t2, P (.str x t1) (.str y t2)) : P ua ub := by
  obtain ⟨_, t1, rfl⟩ := qa.i_str
  obtain ⟨_, t2, rfl⟩ := qb.i_str
  exact k t1 t2
theorem cmpIS_some {fi : Int → Int → Bool} {fs : Str → Str → Bool} {P : PV → PV → Bool → Prop} (hi : ∀ x y, P (.int x) (.int y) (fi x y)) (hs : ∀ x y, P (.str x) (.str y) (fs x y)) (a b : PV) (c : Bool) (h : cmpIS fi fs a b = some c) : P a b c := by
  cases a with
  | int x =>
    cases b with
    | int y => exact smi h ▸ hi x y
    | _ => exact nsm h
  | str x =>
    cases b with
    | str y => exact smi h ▸ hs x y
    | _ => exact nsm h
  | _ => exact nsm h
theorem tyOf_some {a : PV} {x : String} (h : tyOf a = some x) : a = .top (.type x) := by
  cases a with
  | top v =>
    induction v with
    | type y => exact smi h ▸ rfl
    | _ => exact nsm h
  | _ => exact nsm h
theorem strOf_some {a : PV} {x : Str} (h : strOf a = some x) : a = .str x := by
  cases a with
  | str y => exact smi h ▸ rfl
  | _ => exact nsm h
theorem intOnly_some {a : PV} {x : Int} (h : intOnly a = some x) : a = .int x := by
  cases a with
  | int y => exact smi h ▸ rfl
  | _ => exact nsm h
theorem isO_ok {h : Heap} {a b : PV} {ua ub : Value} {c : Bool} (hv : isO a b = some c) (qa : RV φ h a ua) (qb : RV φ h b ub) : plainIs ua ub = true ∧ (ua == ub) = c := by
  by_cases hn : isNone b = true
  · replace hv := (if_pos hn).symm.trans hv
    induction qb using RV.casesOn with
    | none =>
      induction qa using RV.casesOn with
      | none => exact ⟨rfl, smi hv⟩
      | str => exact ⟨rfl, smi hv⟩
      | obj => exact ⟨rfl, smi hv⟩
      | _ => exact nsm hv
    | _ => exact Bool.noConfusion hn
  · obtain ⟨x, e1, hv⟩ := obind ((if_neg hn).symm.trans hv)
    obtain ⟨y, e2, rfl⟩ := omap hv
    obtain rfl := tyOf_some e1
    obtain rfl := tyOf_some e2
    cases qa; cases qb
    exact ⟨rfl, type_beq _ _⟩
theorem not_of {o : Option Bool} {c : Bool} (h : o.map (!·) = some c) : ∃ c', o = some c' ∧ c = !c' := by
  rw [Option.map_eq_some_iff] at h
  exact h.imp fun _ x => ⟨x.1, x.2.symm⟩
theorem inO_sound {a b : PV} {ua ub : Value} {c : Bool} (R : Room 0 A) (hv : inO σ a b = some c) (I : Inv h₀ φ σ s.heap) (qa : RV φ s.heap a ua) (qb : RV φ s.heap b ub) :
    (W prog w A (compareOp .In ua ub) s fun u h' => h' = s.heap ∧ u = .bool c) ∧ W prog w A (compareOp .NotIn ua ub) s fun u h' => h' = s.heap ∧ u = .bool !c := by
  cases b with
  | str y =>
    obtain ⟨x, e, rfl⟩ := omap hv
    obtain rfl := strOf_some e
    apply two_strs qa qb
    exact fun _ _ => ⟨P.in_str ⟨_, _, rfl, rfl, rfl⟩, P.notIn_str ⟨_, _, rfl, rfl, rfl⟩⟩
  | tup ys => exact in_sound R hv (.inl rfl) I qa qb
  | obj n =>
    obtain ⟨ys, e, hv⟩ := obind hv
    exact in_sound R hv (.inr ⟨_, rfl, e⟩) I qa qb
  | _ => exact nsm hv
theorem cmpop_sound {op : CmpOp} {a b : PV} {ua ub : Value} {c : Bool} (R : Room 0 A) (hv : cmpop σ op a b = some c) (I : Inv h₀ φ σ s.heap) (qa : RV φ s.heap a ua) (qb : RV φ s.heap b ub) :
    W prog w A (compareOp op ua ub) s fun u h' => h' = s.heap ∧ u = .bool c := by
  revert qa qb
  induction op with
  | Eq => exact fun qa qb => (eqTop_sound R hv I qa qb).1
  | NotEq => exact fun qa qb => have ⟨_, e, hc⟩ := not_of hv; hc ▸ (eqTop_sound R e I qa qb).2
  | Lt =>
    apply cmpIS_some ?_ ?_ _ _ _ hv
    · intro x y qa qb; apply two_ints qa qb; exact fun _ _ => P.lt_int ⟨_, _, rfl, rfl, rfl⟩
    · intro x y qa qb; apply two_strs qa qb; exact fun _ _ => P.lt_str ⟨_, _, rfl, rfl, rfl⟩
  | LtE => exact nsm hv
  | Gt =>
    apply cmpIS_some ?_ ?_ _ _ _ hv
    · intro x y qa qb; apply two_ints qa qb; exact fun _ _ => P.gt_int ⟨_, _, rfl, rfl, rfl⟩
    · intro x y qa qb; apply two_strs qa qb; exact fun _ _ => P.gt_str ⟨_, _, rfl, rfl, rfl⟩
  | GtE => exact nsm hv
  | Is => exact fun qa qb => have ⟨h1, h2⟩ := isO_ok hv qa qb; wpAny_is_plain h1 ⟨_, _, rfl, rfl, by rw [h2]⟩
  | IsNot => exact fun qa qb => have ⟨_, e, hc⟩ := not_of hv; have ⟨h1, h2⟩ := isO_ok e qa qb; wpAny_isNot_plain h1 ⟨_, _, rfl, rfl, by rw [h2, hc]⟩
  | In => exact fun qa qb => (inO_sound R hv I qa qb).1
  | NotIn => exact fun qa qb => have ⟨_, e, hc⟩ := not_of hv; hc ▸ (inO_sound R e I qa qb).2
theorem idxAt_get {i : Int} {n k : Nat} (h : idxAt i n = some k) : small i = true ∧ seqIndex? i n = some k ∧ k < n ∧ ((0 ≤ i ∧ k = i.toNat) ∨ (i < 0 ∧ -(n : Int) ≤ i ∧ k = (i + n).toNat)) := by
  unfold idxAt at h
  split at h
  · rename_i hs
    refine ⟨hs, h, ?_⟩
    unfold seqIndex? at h
    dsimp only at h
    by_cases h0 : i < 0
    · rw [if_pos h0] at h
      by_cases hj : (decide (0 ≤ i + (n : Int)) && decide (i + (n : Int) < n)) = true
      · rw [if_pos hj] at h
        simp only [Bool.and_eq_true, decide_eq_true_eq] at hj
        have h' := (Option.some.inj h).symm
        exact ⟨by omega, .inr ⟨h0, by omega, h'⟩⟩
      · rw [if_neg hj] at h; exact nsm h
    · rw [if_neg h0] at h
      by_cases hj : (decide (0 ≤ i) && decide (i < (n : Int))) = true
      · rw [if_pos hj] at h
        simp only [Bool.and_eq_true, decide_eq_true_eq] at hj
        have h' := (Option.some.inj h).symm
        exact ⟨by omega, .inl ⟨by omega, h'⟩⟩
      · rw [if_neg hj] at h; exact nsm h
  · exact nsm h
theorem item_sound {o i v : PV} {uo ui : Value} (hv : item σ o i = some v) (I : Inv h₀ φ σ s.heap) (qo : RV φ s.heap o uo) (qi : RV φ s.heap i ui) :
    W prog w A (getItem uo ui) s fun u h' => h' = s.heap ∧ RV φ s.heap v u := by
  obtain ⟨i, hi, hw⟩ := obind hv
  clear hv
  obtain rfl := intOnly_some hi
  clear hi
  cases qi with | int _ t' =>
  cases o with
  | str x =>
    obtain ⟨k, hk, hv⟩ := obind hw
    obtain ⟨c, hc, rfl⟩ := omap hv
    cases qo with | str hs t =>
    obtain ⟨h1, h2, _⟩ := idxAt_get hk
    have h3 := small_iff h1
    exact P.getItem_str (by simp; omega) (by rw [h2]; exact hc) ⟨_, _, rfl, rfl, .str (fits_sign hs hc) _⟩
  | tup xs =>
    obtain ⟨k, hk, hv⟩ := obind hw
    cases qo with | tup g _ r =>
    obtain ⟨h1, h2, _⟩ := idxAt_get hk
    have h3 := small_iff h1
    obtain ⟨u, hu, q⟩ := r.get hv
    rw [r.length] at h2
    exact P.getItem_tuple g (by omega) (by omega) h2 (by simpa using hu) ⟨_, _, rfl, rfl, q⟩
  | obj n =>
    obtain ⟨xs, hl, hv⟩ := obind hw
    obtain ⟨k, hk, hv⟩ := obind hv
    obtain ⟨a, us, k', rfl, _, _, g, r⟩ := list_at hl I qo
    obtain ⟨h1, _, h2, h4⟩ := idxAt_get hk
    have h3 := small_iff h1
    obtain ⟨u, hu, q⟩ := r.get hv
    have hl' : s.heap.IsList a us.toArray := ⟨_, g, rfl, _, rfl⟩
    rcases h4 with ⟨h0, rfl⟩ | ⟨h0, h5, rfl⟩
    · exact wpAny_getItem_list hl' h0 (by omega) (by simpa using hu) ⟨_, _, rfl, rfl, q⟩
    · rw [r.length] at h5 hu
      exact wpAny_getItem_list_neg hl' h0 (by simpa using h5) (by omega) (by simpa using hu) ⟨_, _, rfl, rfl, q⟩
  | _ => exact nsm hw
end
end Mine
end
section
namespace Mine
open PySem PyProof.Rows
section
variable {prog : Program} {w : World} {A : Around} {s : Shared} {h₀ : Heap} {φ : Phi} {σ : St}
theorem subscripted_ops (slice : Expr) (o i : Value) : ∃ ops, subscripted slice false o i = operate ops (getItem o i) := by
  cases slice with
  | Slice a b c p => cases c <;> exact ⟨_, rfl⟩
  | _ => exact ⟨_, rfl⟩
theorem tail_item {value slice : Expr} {o i v : PV} {uo ui : Value} (hv : item σ o i = some v) (I : Inv h₀ φ σ s.heap) (qo : RV φ s.heap o uo) (qi : RV φ s.heap i ui) :
    W prog w A (subscriptTail value slice uo ui) s fun u h' => h' = s.heap ∧ RV φ s.heap v u := by
  have G : W prog w A (getItem uo ui) s fun u h' => h' = s.heap ∧ RV φ s.heap v u := item_sound hv I qo qi
  refine byc fun nh => ?_
  obtain ⟨ops, hs⟩ := subscripted_ops slice uo ui
  obtain ⟨i, hi, hw⟩ := obind hv
  cases o with
  | str x => refine nh ?_; cases qo; exact tail_any (typeIs_str s _ _) PySem.F.slot_str_getitem.lookup G hs
  | tup xs =>
    cases qo with
    | tup g => refine nh ?_; exact tail_any ⟨_, g, rfl⟩ PySem.F.slot_tuple_getitem.lookup G hs
  | obj n =>
    obtain ⟨xs, hl, _⟩ := obind hw
    obtain ⟨a, us, k', rfl, _, _, g, r⟩ := list_at hl I qo
    refine nh ?_
    exact tail_any ⟨_, g, rfl⟩ PySem.F.slot_list_getitem.lookup G hs
  | _ => refine nh ?_; exact nsm hw
theorem optInt_part {v : PV} {u : Value} {h : Heap} {k : Option Int} (hk : optInt v = some k) (q : RV φ h v u) : IsPart u k ∧ ∃ p : Option (Int × Tok), p.map (·.1) = k ∧ u = partValue p := by
  induction q using RV.casesOn with
  | none => cases hk; exact ⟨.none, none, rfl, rfl⟩
  | int i t =>
    refine byc fun nh => ?_
    obtain ⟨_, hk⟩ := ifS hk
    obtain rfl := smi hk
    refine nh ?_
    exact ⟨.int _ t, some (_, t), rfl, rfl⟩
  | _ => exact nsm hk
theorem RVs.filterMap {h : Heap} {xs : List PV} {us : List Value} (r : RVs φ h xs us) : ∀ ks : List Nat, RVs φ h (ks.filterMap (xs[·]?)) (ks.filterMap (us[·]?))
  | [] => .nil
  | k :: ks => by
    refine Eq.symm (List.filterMap_cons) ▸ ?_
    refine Eq.symm (List.filterMap_cons) ▸ ?_
    cases e : xs[k]? with
    | none =>
      have : us[k]? = none := by
        rw [List.getElem?_eq_none_iff] at e ⊢
        rw [← r.length]; exact e
      refine Eq.symm (this) ▸ ?_
      exact RVs.filterMap r ks
    | some x =>
      refine byc fun nh => ?_
      obtain ⟨u, hu, q⟩ := r.get e
      refine nh ?_
      refine Eq.symm (hu) ▸ ?_
      exact .cons q (RVs.filterMap r ks)
inductive SliceSome (σ : St) (o l u t : PV) (r : PV × St) : Prop
  | mk (kl ku kt : Option Int) (h1 : optInt l = some kl) (h2 : optInt u = some ku) (h3 : optInt t = some kt) (h0 : kt ≠ some 0) (h : sliceAt o kl ku kt σ = some r)
theorem slice_some {o l u t : PV} {r : PV × St} (h : slice o l u t σ = some r) : SliceSome σ o l u t r := by
  refine byc fun nh => ?_
  obtain ⟨kl, h1, h⟩ := obind h
  obtain ⟨ku, h2, h⟩ := obind h
  obtain ⟨kt, h3, h⟩ := obind h
  obtain ⟨h0, h⟩ := ifN h
  refine nh ?_
  exact ⟨kl, ku, kt, h1, h2, h3, fun e => h0 (by rw [e]; rfl), h⟩
theorem slice_str {value sl : Expr} {x : Str} {v : PV} {ul uu ut : Value} {tx : Tok} {σ' : St} {kl ku kt : Option Int} (hv : sliceAt (.str x) kl ku kt σ = some (v, σ')) (h0 : kt ≠ some 0) (I : Inv h₀ φ σ s.heap) (hx : fits x = true) (p1 : IsPart ul kl) (p2 : IsPart uu ku) (p3 : IsPart ut kt)
    {a1 a2 a3 : Option (Int × Tok)} (b1 : a1.map (·.1) = kl) (b2 : a2.map (·.1) = ku) (b3 : a3.map (·.1) = kt) (c1 : ul = partValue a1) (c2 : uu = partValue a2) (c3 : ut = partValue a3) :
    W prog w A (subscriptTail value sl (.str x tx) (.ref s.heap.objs.size)) { s with heap := s.heap.push { cls := .type "slice", data := .fields #[ul, uu, ut] } } (Ret h₀ [] φ s.heap v σ') := by
  obtain ⟨ops, hs⟩ := subscripted_ops sl (.str x tx) (.ref s.heap.objs.size)
  have x1 := Ext.push s.heap { cls := .type "slice", data := .fields #[ul, uu, ut] }
  have I1 := I.ext0 x1
  have hsl : (s.heap.push { cls := .type "slice", data := .fields #[ul, uu, ut] }).IsSlice s.heap.objs.size a1 a2 a3 := ⟨_, Heap.get?_push_size _ rfl, rfl, by rw [c1, c2, c3]⟩
  refine tail_any (typeIs_str _ _ _) PySem.F.slot_str_getitem.lookup (wpAny_getItem_str_slice hsl ?_ ?_) hs
  · refine Eq.symm (b3) ▸ ?_
    induction kt with
    | none => rfl
    | some z => exact beq_eq_false_iff_ne.mpr fun e => h0 (congrArg some e)
  · unfold sliceMade slicePicked
    refine Eq.symm (b1) ▸ ?_
    refine Eq.symm (b2) ▸ ?_
    refine Eq.symm (b3) ▸ ?_
    by_cases hc : (kt.getD 1 == 1 && (Builtin.Str.strSliceIndices kl ku (kt.getD 1) x.length).length == x.length) = true
    · refine Eq.symm (if_pos hc) ▸ ?_
      obtain ⟨rfl, rfl⟩ := rt_eq ((congrFun (if_pos hc) σ).symm.trans hv)
      exact ⟨_, _, rfl, (Ret.str I1 hx tx).before x1.step⟩
    · refine Eq.symm (if_neg hc) ▸ ?_
      refine byc fun nh => ?_
      obtain ⟨hf, rfl, rfl⟩ := if_rt ((congrFun (if_neg hc) σ).symm.trans hv)
      refine nh ?_
      exact ⟨fits_line hf, ⟨_, _, rfl, (Ret.str I1 hf _).before x1.step⟩⟩
inductive SliceL (φ : Phi) (h : Heap) (σ : St) (kl ku kt : Option Int) (uo : Value) (v : PV) (σ' : St) : Prop
  | mk (xs : List PV) (a : Addr) (us : List Value) (h1 : uo = .ref a) (h2 : xs.length ≤ 20000) (h3 : h.IsList a (List.toArray us)) (h4 : RVs φ h xs us) (h5 : v = .obj σ.length) (h6 : σ' = σ ++ [.lst (slicePV xs kl ku kt)])
theorem sliceAt_list {n : Nat} {v : PV} {σ' : St} {kl ku kt : Option Int} {uo : Value} (hv : sliceAt (.obj n) kl ku kt σ = some (v, σ')) (I : Inv h₀ φ σ s.heap) (qo : RV φ s.heap (.obj n) uo) : SliceL φ s.heap σ kl ku kt uo v σ' := by
  refine byc fun nh => ?_
  obtain ⟨xs, hx, hv⟩ := obind hv
  obtain ⟨c, hσ, hc⟩ := obind hx
  obtain ⟨rfl, rfl⟩ := smp hv
  obtain ⟨p, e, rfl⟩ := qo.i_obj
  obtain ⟨p', hp, c'⟩ := I.cell hσ
  obtain rfl := smi (e.symm.trans hp)
  induction c with
  | lst ys =>
    obtain rfl := smi hc
    obtain ⟨e', hz, us, k, g, r⟩ := c'
    refine nh ?_
    exact ⟨ys, p.1, us, rfl, hz, ⟨_, g, rfl, _, rfl⟩, r, rfl, rfl⟩
  | const ys =>
    obtain rfl := smi hc
    obtain ⟨_, hz, us, g, r⟩ := c'
    refine nh ?_
    exact ⟨ys, p.1, us, rfl, hz, g, r, rfl, rfl⟩
  | _ => refine nh ?_; exact nsm hc
theorem slice_list {value sl : Expr} {xs : List PV} {ul uu ut : Value} {kl ku kt : Option Int} {a : Addr} {us : List Value} (h0 : kt ≠ some 0) (I : Inv h₀ φ σ s.heap) (p1 : IsPart ul kl) (p2 : IsPart uu ku) (p3 : IsPart ut kt)
    (hz : xs.length ≤ 20000) (hl : s.heap.IsList a (List.toArray us)) (r : RVs φ s.heap xs us) :
    W prog w A (subscriptTail value sl (.ref a) (.ref s.heap.objs.size)) { s with heap := s.heap.push { cls := .type "slice", data := .fields #[ul, uu, ut] } } (Ret h₀ [] φ s.heap (.obj σ.length) (σ ++ [.lst (slicePV xs kl ku kt)])) := by
  refine hid fun Rq hRq => ?_
  refine byc fun nh => ?_
  obtain ⟨ops, hs⟩ := subscripted_ops sl (.ref a) (.ref s.heap.objs.size)
  have x1 := Ext.push s.heap { cls := .type "slice", data := .fields #[ul, uu, ut] }
  obtain ⟨ol, g, gc, gn, gd⟩ := hl
  have g1 := Heap.get?_push_of_some { cls := .type "slice", data := .fields #[ul, uu, ut] } g
  have hl' : (s.heap.push { cls := .type "slice", data := .fields #[ul, uu, ut] }).IsList a us.toArray := ⟨_, g1, gc, _, gd⟩
  have hsl : (s.heap.push { cls := .type "slice", data := .fields #[ul, uu, ut] }).IsSliceOf s.heap.objs.size ul uu ut := Heap.IsSliceOf.new _ _ _ _
  have hr := r.length
  have hsz : us.toArray.size ≤ 20000 := by rw [List.size_toArray, ← hr]; exact hz
  refine nh ?_
  refine tail_any ⟨_, g1, gc⟩ PySem.F.slot_list_getitem.lookup (wpAny_getItem_list_slice hl' hsl p1 p2 p3 h0 ?_ (Nat.le_trans hsz (by rw [sizeLine_eq]; decide))) hs
  refine (hRq _ _ _ (Ret.before x1.step ?_))
  have r' := (x1.step.rvs r).filterMap (sliceRange (sliceBounds kl ku kt xs.length).1 (sliceBounds kl ku kt xs.length).2.1 (sliceBounds kl ku kt xs.length).2.2)
  have e : slicePick us.toArray kl ku kt = ((sliceRange (sliceBounds kl ku kt xs.length).1 (sliceBounds kl ku kt xs.length).2.1 (sliceBounds kl ku kt xs.length).2.2).filterMap (us[·]?)).toArray := by
    unfold slicePick
    simp only [List.size_toArray, hr, List.getElem?_toArray]
  refine Eq.symm (e) ▸ ?_
  refine newList_at (I.ext0 x1) r' ?_
  have h1 := slicePick_size_le us.toArray kl ku kt
  replace h1 := (e) ▸ h1
  exact Nat.le_trans (Nat.le_of_eq r'.length) (Nat.le_trans h1 hsz)
theorem tail_slice {value sl : Expr} {o l u t v : PV} {uo ul uu ut : Value} {σ' : St} (hv : slice o l u t σ = some (v, σ')) (I : Inv h₀ φ σ s.heap) (qo : RV φ s.heap o uo) (ql : RV φ s.heap l ul) (qu : RV φ s.heap u uu) (qt : RV φ s.heap t ut) :
    W prog w A (subscriptTail value sl uo (.ref s.heap.objs.size)) { s with heap := s.heap.push { cls := .type "slice", data := .fields #[ul, uu, ut] } } (Ret h₀ [] φ s.heap v σ') := by
  refine byc fun nh => ?_
  obtain ⟨kl, ku, kt, e1, e2, e3, h0, hv⟩ := slice_some hv
  obtain ⟨p1, a1, b1, c1⟩ := optInt_part e1 ql
  obtain ⟨p2, a2, b2, c2⟩ := optInt_part e2 qu
  obtain ⟨p3, a3, b3, c3⟩ := optInt_part e3 qt
  cases o with
  | str x =>
    obtain ⟨hx, tx, rfl⟩ := qo.i_str
    refine nh ?_
    exact slice_str hv h0 I hx p1 p2 p3 b1 b2 b3 c1 c2 c3
  | obj n =>
    obtain ⟨xs, a, us, rfl, hz, hl, r, rfl, rfl⟩ := sliceAt_list hv I qo
    refine nh ?_
    exact slice_list h0 I p1 p2 p3 hz hl r
  | _ => refine nh ?_; exact nsm hv
theorem SameBut.lst {h h' : Heap} {n : Nat} {a : Addr} {xs : List PV} {us : List Value} {k : Nat} (I : Inv h₀ φ σ h) (hi : φ[n]? = some (a, a)) {ys : List PV} (hl : lstAt σ n = some ys) (hs : Heap.SameBut a h h') (hz : xs.length ≤ 20000)
    (g : h'.get? a = some { cls := .type "list", dict := none, data := .seq us.toArray k, slots := #[] }) (r : RVs φ h xs us) : Inv h₀ φ (σ.set n (.lst xs)) h' ∧ Step [] φ φ h h' :=
  I.put hi (lstAt_get hl) rfl hs (c := .lst xs) ⟨rfl, hz, us, k, g, r.mono (SameBut.grow I (p := (a, a)) (List.mem_of_getElem? hi) hs)⟩
theorem seti_sound {o i v : PV} {uo ui u : Value} {x : Unit} {σ' : St} (hv : seti o i v σ = some (x, σ')) (I : Inv h₀ φ σ s.heap) (qo : RV φ s.heap o uo) (qi : RV φ s.heap i ui) (q : RV φ s.heap v u) :
    W prog w A (setItem uo ui u) s fun _ h' => Step [] φ φ s.heap h' ∧ Inv h₀ φ σ' h' := by
  cases o with
  | obj n =>
    obtain ⟨i, hi, hv1⟩ := obind hv
    obtain ⟨xs, hl, hv2⟩ := obind hv1
    obtain ⟨k, hk, hv3⟩ := obind hv2
    clear hv hv1 hv2
    obtain rfl := intOnly_some hi
    clear hi
    obtain ⟨rfl, rfl⟩ := smp hv3
    clear hv3
    cases qi with | int _ t' =>
    obtain ⟨a, us, k', rfl, hi, hz, g, r⟩ := list_at hl I qo
    obtain ⟨h1, _, h2, h4⟩ := idxAt_get hk
    have h3 := small_iff h1
    have fin : ∀ j, j = k → (∃ h' tk, ({ s with heap := s.heap.update a (Obj.mapSeq (·.setIfInBounds j u)) } : Shared) = { s with heap := h', toks := tk } ∧ (Step [] φ φ s.heap h' ∧ Inv h₀ φ (σ.set _ (.lst (xs.set k v))) h')) := fun j hj => by
      subst hj
      obtain ⟨a1, a2⟩ := SameBut.lst (us := us.set j u) (k := k') I hi hl (Heap.SameBut.update ..) (h' := s.heap.update a (Obj.mapSeq (·.setIfInBounds j u))) (xs := xs.set j v) (by rw [List.length_set]; exact hz) (by
        rw [Heap.get?_update_self _ g rfl]
        simp [Obj.mapSeq]) (r.set q)
      exact ⟨_, _, rfl, a2, a1⟩
    have hr := r.length
    rcases h4 with ⟨h0, hj⟩ | ⟨h0, h5, hj⟩
    · exact PySem.W.ki_setAt g h0 (by omega) (by simp; omega) (fin _ hj.symm)
    · exact PySem.W.ki_setBack g h0 (by simp; omega) (by omega) (fin _ (by rw [hj, hr]; simp))
  | _ => exact nsm hv
theorem push_sound {acc v : PV} {ua u : Value} {x : Unit} {σ' : St} (hv : push acc v σ = some (x, σ')) (I : Inv h₀ φ σ s.heap) (qo : RV φ s.heap acc ua) (q : RV φ s.heap v u) :
    W prog w A (call (.builtin "list.append") [ua, u]) s fun r h' => r = .none ∧ Step [] φ φ s.heap h' ∧ Inv h₀ φ σ' h' := by
  refine hid fun Rq hRq => ?_
  cases acc with
  | obj n =>
    refine byc fun nh => ?_
    obtain ⟨xs, hl, hv1⟩ := obind hv
    obtain ⟨hlen, hv2⟩ := ifS hv1
    clear hv hv1
    obtain ⟨rfl, rfl⟩ := smp hv2
    obtain ⟨a, us, k', rfl, hi, hz, g, r⟩ := list_at hl I qo
    refine nh ?_
    refine wpAny_list_append_plain (items := us.toArray) ⟨_, g⟩ (fun h' hp hs => ?_) (by have := r.length; rw [sizeLine_eq]; simp; exact Nat.le_trans (Nat.le_of_eq (Eq.symm (by assumption))) (Nat.le_trans (by assumption) (by decide)))
    refine byc fun nh => ?_
    obtain ⟨k'', g'⟩ := hp
    obtain ⟨a1, a2⟩ := SameBut.lst (us := us ++ [u]) (k := k'') (xs := xs ++ [v]) I hi hl hs (by rw [List.length_append]; exact Nat.le_trans (Nat.succ_le_succ hlen) (by decide)) (by rw [g']; simp) (r.append (.cons q .nil))
    refine nh ?_
    exact (hRq _ _ _ ⟨rfl, a2, a1⟩)
  | _ => exact nsm hv
end
end Mine
end
section
namespace Mine
open PySem PyProof.Rows
theorem rangeSize_lt {a b c : Int} (hc : 0 < c) (i : Nat) : 0 < Builtin.Range.rangeSize a b c - i ↔ a + c * i < b := by
  unfold Builtin.Range.rangeSize
  rw [if_pos hc]
  by_cases hab : a < b
  · rw [if_pos hab]
    have h1 : (0 : Int) < (b - a - 1) / c + 1 - i ↔ (i : Int) ≤ (b - a - 1) / c := by omega
    rw [h1, Int.le_ediv_iff_mul_le hc]
    have : (i : Int) * c = c * i := Int.mul_comm _ _
    rw [this]; omega
  · rw [if_neg hab]
    have : 0 ≤ c * (i : Int) := Int.mul_nonneg (by exact Int.le_of_lt (by assumption)) (by exact Int.natCast_nonneg _)
    constructor <;> intro h <;> omega
inductive IterAt (φ : Phi) (h : Heap) : PV → Addr → Nat → Prop where
  | str {x : Str} {t : Tok} {it : Addr} {i : Nat} {kind : String} : h.IsStrIter it kind x t i → kind = "str_ascii_iterator" ∨ kind = "str_iterator" → fits x = true → IterAt φ h (.str x) it i
  | lst {n : Nat} {a it : Addr} {i : Nat} : h.IsListIter it a i → φ[n]? = some (a, a) → IterAt φ h (.obj n) it i
  | range {a b c : Int} {it : Addr} {i : Nat} : IsRangeIter h it (a + c * i) (Builtin.Range.rangeSize a b c - i) c → 0 < c → IterAt φ h (.range a b c) it i
theorem imm_fields {o : Obj} {vs : Array Value} (h : o.data = .fields vs) (hc : o.cls ≠ .type "range") : ¬ Imm o := by unfold Imm; rw [h]; exact hc
theorem IterAt.there {φ : Phi} {h : Heap} {v : PV} {it : Addr} {i : Nat} (x : IterAt φ h v it i) : ∃ o, h.get? it = some o ∧ ¬ Imm o := by
  induction x with
  | str e hk _ =>
    obtain ⟨o, g, c, d⟩ := e
    refine ⟨o, g, imm_fields d ?_⟩
    rw [c]; rcases hk with rfl | rfl <;> simp
  | lst e => obtain ⟨o, g, c, d⟩ := e; exact ⟨o, g, imm_fields d (by rw [c]; simp)⟩
  | range e => exact ⟨_, e, imm_fields rfl (by simp)⟩
theorem IterAt.grow {φ φ' : Phi} {h h' : Heap} {v : PV} {it : Addr} {i : Nat} (x : IterAt φ h v it i) (g : Grow φ φ' h h') (hk : ∀ o, h.get? it = some o → h'.get? it = some o) : IterAt φ' h' v it i := by
  induction x with
  | str e hk' hs => obtain ⟨o, g1, c, d⟩ := e; exact .str ⟨o, hk _ g1, c, d⟩ hk' hs
  | lst e e2 =>
    obtain ⟨o, g1, c, d⟩ := e
    refine .lst ⟨o, hk _ g1, c, d⟩ ?_
    obtain ⟨ψ, rfl⟩ := g.ext
    rw [List.getElem?_append_left (List.getElem?_eq_some_iff.mp e2).1]; exact e2
  | range e hc => exact .range (hk _ e) hc
theorem IterAt.step {φ φ' : Phi} {h h' : Heap} {v : PV} {it : Addr} {i : Nat} {X : List Addr} (x : IterAt φ h v it i) (S : Step X φ φ' h h') (hX : it ∉ X) (ho : ∀ p ∈ φ, p.2 ≠ it) : IterAt φ' h' v it i :=
  x.grow S.toGrow fun o e => S.keep _ o e hX ho
section
variable {prog : Program} {w : World} {A : Around} {s : Shared} {h₀ : Heap} {φ : Phi} {σ : St}
theorem ifE {c : Prop} [Decidable c] {α : Type} {a : α} (h : (if c then some a else none) = none) : ¬c := fun hc => nomatch (if_pos hc).symm.trans h
theorem RVs.no_get {h : Heap} {xs : List PV} {us : List Value} (r : RVs φ h xs us) {i : Nat} (hx : xs[i]? = none) : us[i]? = none :=
  List.getElem?_eq_none_iff.2 (r.length ▸ List.getElem?_eq_none_iff.1 hx)
theorem range_small {a b c : Int} (h1 : small a = true) (h2 : small b = true) (h3 : small c = true) (hc : 0 < c) : Builtin.Range.small a b c = true := by
  have a1 := small_iff h1
  have a2 := small_iff h2
  have a3 := small_iff h3
  have hz : Builtin.Range.rangeSize a b c ≤ 9223372036854775806 ∧ 0 ≤ Builtin.Range.rangeSize a b c := by
    unfold Builtin.Range.rangeSize
    refine Eq.symm (if_pos hc) ▸ ?_
    split
    · have := Int.ediv_le_self c (show 0 ≤ b - a - 1 by omega)
      have := Int.ediv_nonneg (show 0 ≤ b - a - 1 by omega) (show 0 ≤ c by exact Int.le_of_lt (by assumption))
      omega
    · decide
  unfold Builtin.Range.small Builtin.Range.rangeFitsLong
  rw [if_pos hc]
  simp only [Bool.and_eq_true, decide_eq_true_eq, Bool.or_eq_true]
  exact ⟨⟨⟨⟨by omega, by omega⟩, by omega⟩, by omega⟩, .inr (by omega)⟩
theorem kind_or (x : Str) : strIterType x = "str_ascii_iterator" ∨ strIterType x = "str_iterator" := by
  unfold strIterType
  by_cases h : x.cps.all (· < 128) = true
  · rw [if_pos h]; exact .inl rfl
  · rw [if_neg h]; exact .inr rfl
theorem nth1_lst {n i : Nat} {xs : List PV} (h : σ[n]? = some (.lst xs)) : nth1 σ (.obj n) i = some xs[i]? := by
  show (lstAt σ n).map _ = _
  rw [lst_of h]; rfl
theorem pyIter_sound {v : PV} {u : Value} {r : Option PV} (hv : nth1 σ v 0 = some r) (I : Inv h₀ φ σ s.heap) (q : RV φ s.heap v u) :
    W prog w A (pyIter u) s fun it h' => it = .ref s.heap.objs.size ∧ Ext [] s.heap h' ∧ IterAt φ h' v s.heap.objs.size 0 ∧ h'.objs.size = s.heap.objs.size + 1 := by
  induction q using RV.casesOn with
  | str hs t =>
    exact wpAny_pyIter_strU ⟨_, _, rfl, rfl, Ext.push _ _, .str (kind := strIterType _) ⟨_, Heap.get?_push_size _ rfl, rfl, rfl⟩ (kind_or _) hs, Heap.size_push ..⟩
  | obj e =>
    obtain ⟨xs, hl, _⟩ := omap hv
    obtain ⟨a, us, k', e1, hi, hz, g, r⟩ := list_at hl I (.obj e)
    exact e1 ▸ wpAny_pyIter_list (items := us.toArray) ⟨_, g, rfl, _, rfl⟩ ⟨_, _, rfl, rfl, Ext.push _ _, .lst ⟨_, Heap.get?_push_size _ rfl, rfl, rfl⟩ hi, Heap.size_push ..⟩
  | range e h1 h2 h3 h4 =>
    refine wpAny_pyIter_range e (range_small h1 h2 h3 h4) ⟨_, _, rfl, rfl, Ext.push _ _, .range ?_ h4, Heap.size_push ..⟩
    rw [IsRangeIter, Heap.get?_push_size _ rfl]
    simp
  | _ => exact nsm hv
theorem pyIter_iter {v : PV} {it : Addr} {i : Nat} (x : IterAt φ s.heap v it i) : W prog w A (pyIter (.ref it)) s fun u h' => u = .ref it ∧ h' = s.heap := by
  induction x with
  | str e hk hs => rcases hk with rfl | rfl
                   · exact wpAny_pyIter_striter_ascii e ⟨_, _, rfl, rfl, rfl⟩
                   · exact wpAny_pyIter_striter_wide e ⟨_, _, rfl, rfl, rfl⟩
  | lst e => exact wpAny_pyIter_listiter e ⟨_, _, rfl, rfl, rfl⟩
  | range e => exact wpAny_pyIter_rangeiter e ⟨_, _, rfl, rfl, rfl⟩
theorem pyNext_some {v x : PV} {it : Addr} {i : Nat} (hv : nth1 σ v i = some (some x)) (I : Inv h₀ φ σ s.heap) (y : IterAt φ s.heap v it i) (ho : ∀ p ∈ φ, p.2 ≠ it) :
    W prog w A (pyNext (.ref it)) s fun r h' => ∃ u, r = some u ∧ RV φ h' x u ∧ Heap.SameBut it s.heap h' ∧ IterAt φ h' v it (i + 1) := by
  obtain ⟨oi, gi, ni⟩ := y.there
  have G : ∀ h', Heap.SameBut it s.heap h' → Grow φ φ s.heap h' := fun h' hs => (Ext.same hs (fun o e => by cases gi.symm.trans e; exact ni)).grow
  cases y with
  | @str xx t _ _ kind e hk hs =>
    obtain ⟨c, hc, rfl⟩ := omap (smi hv)
    rcases hk with rfl | rfl
    · exact wpAny_pyNext_ascii_item e hc fun h' e' hsb => ⟨_, _, rfl, _, rfl, .str (fits_sign hs hc) _, hsb, .str e' (.inl rfl) hs⟩
    · exact wpAny_pyNext_wide_item e hc fun h' e' hsb => ⟨_, _, rfl, _, rfl, .str (fits_sign hs hc) _, hsb, .str e' (.inr rfl) hs⟩
  | @lst n a _ _ e hi =>
    refine byc fun nh => ?_
    obtain ⟨xs, hl, hx⟩ := omap hv
    obtain ⟨a', us, k', hu', hi', hz, g, r⟩ := list_at hl I (.obj hi)
    cases hu'
    obtain ⟨u, hu, q⟩ := r.get hx
    refine nh ?_
    exact wpAny_pyNext_list_item (items := us.toArray) e ⟨_, g, rfl, _, rfl⟩ (List.getElem?_toArray.trans hu) fun h' e' hsb => ⟨_, _, rfl, _, rfl, q.mono (G h' hsb), hsb, .lst e' hi⟩
  | @range a b c _ _ e hc =>
    refine byc fun nh => ?_
    obtain ⟨hlt, hv⟩ := ifS (smi hv)
    obtain rfl := smi hv
    refine nh ?_
    refine wpAny_pyNext_range_item e ((rangeSize_lt hc i).mpr hlt) fun h' e' hsb => ⟨_, _, rfl, _, rfl, .int _ _, hsb, .range ?_ hc⟩
    have h1 : a + c * ((i + 1 : Nat) : Int) = a + c * i + c := by rw [Int.natCast_succ, Int.mul_add, Int.mul_one, Int.add_assoc]
    have h2 : Builtin.Range.rangeSize a b c - ((i + 1 : Nat) : Int) = Builtin.Range.rangeSize a b c - i - 1 := by omega
    rw [h1, h2]; exact e'
theorem Ext.butS {a : Addr} {h h' : Heap} (hs : Heap.ExtBut a h h') (hz : h.objs.size ≤ h'.objs.size) {o₀ : Obj} (e₀ : h.get? a = some o₀) (n₀ : ¬ Imm o₀) : Ext [a] h h' :=
  Ext.but hs hz fun o e => by rw [e₀] at e; cases e; exact n₀
theorem pyNext_none {v : PV} {it : Addr} {i : Nat} (hA : A.handled = none) (hv : nth1 σ v i = some none) (I : Inv h₀ φ σ s.heap) (y : IterAt φ s.heap v it i) :
    W prog w A (pyNext (.ref it)) s fun r h' => r = none ∧ Ext [it] s.heap h' := by
  refine byc fun nh => ?_
  obtain ⟨oi, gi, ni⟩ := y.there
  have G : ∀ h', Heap.ExtBut it s.heap h' → ∀ r, r = (none : Option Value) → (s.heap.objs.size ≤ h'.objs.size → ∃ h'' tk, ({ s with heap := h' } : Shared) = { s with heap := h'', toks := tk } ∧ r = none ∧ Ext [it] s.heap h'') :=
    fun h' hs r hr hz => ⟨_, _, rfl, hr, Ext.butS hs hz gi ni⟩
  refine nh ?_
  refine sized ?_
  cases y with
  | @str xx t _ _ kind e hk hs =>
    have hv := Option.map_eq_none_iff.1 (smi hv)
    rcases hk with rfl | rfl
    · exact wpAny_pyNext_ascii_end hA e hv fun h' hs => G h' hs _ rfl
    · exact wpAny_pyNext_wide_end hA e hv fun h' hs => G h' hs _ rfl
  | @lst n a _ _ e hi =>
    refine byc fun nh => ?_
    obtain ⟨xs, hl, hx⟩ := omap hv
    obtain ⟨a', us, k', hu', hi', hz, g, r⟩ := list_at hl I (.obj hi)
    cases hu'
    refine nh ?_
    exact wpAny_pyNext_list_end (items := us.toArray) hA e ⟨_, g, rfl, _, rfl⟩ (List.getElem?_toArray.trans (r.no_get hx)) fun h' hs => G h' hs _ rfl
  | @range a b c _ _ e hc =>
    exact wpAny_pyNext_range_end hA e (Int.not_lt.1 fun h => (ifE (smi hv)) ((rangeSize_lt hc i).1 h)) fun h' hs => G h' hs _ rfl
end
end Mine
end
section
namespace Mine
open PySem PyProof.Rows
noncomputable abbrev Tup (h : Heap) (a : Addr) (us : Array Value) (n : Nat) : Prop := h.get? a = some { cls := .type "tuple", dict := none, data := .seq us n, slots := #[] }
structure Its (φ : Phi) (h₀ h : Heap) (i : Nat) (v : PV) (it : Addr) : Prop where
  at_ : IterAt φ h v it i
  ok : zipable v = true
  off : ∀ p ∈ φ, p.2 ≠ it
  low : h₀.objs.size ≤ it
theorem Its.grow {φ φ' : Phi} {h₀ h h' : Heap} {i : Nat} {v : PV} {it : Addr} (x : Its φ h₀ h i v it) (g : Grow φ φ' h h') (hk : ∀ o, h.get? it = some o → h'.get? it = some o) : Its φ' h₀ h' i v it :=
  let ⟨_, e, _⟩ := x.at_.there; ⟨x.at_.grow g hk, x.ok, g.off e x.off, x.low⟩
section
variable {prog : Program} {w : World} {A : Around} {s : Shared} {h₀ : Heap} {φ : Phi} {σ : St}
theorem nextOf_some {v x : PV} {it : Addr} {i : Nat} {E : Value → Shared → Prop} {Q : Value → Shared → Prop} (y : Its φ h₀ s.heap i v it) (hv : nth1 σ v i = some (some x)) (I : Inv h₀ φ σ s.heap)
    (k : ∀ u h' tk, RV φ h' x u → Heap.SameBut it s.heap h' → IterAt φ h' v it (i + 1) → Q u { s with heap := h', toks := tk }) :
    wpAny (model prog w) A (Builtin.SmallTypes.nextOf (.ref it)) Q E s := by
  obtain ⟨y, hz, ho, _⟩ := y
  obtain ⟨oi, gi, ni⟩ := y.there
  have G : ∀ h', Heap.SameBut it s.heap h' → Grow φ φ s.heap h' := fun h' hs => (Ext.same hs (fun o e => by rw [gi] at e; cases e; exact ni)).grow
  induction y with
  | @str xx t _ _ kind e hk hs =>
    obtain ⟨c, hc, rfl⟩ := omap (smi hv)
    rcases hk with rfl | rfl
    · exact wpAny_nextOf_ascii_item e hc fun h' e' hsb => k _ _ _ (.str (fits_sign hs hc) _) hsb (.str e' (.inl rfl) hs)
    · exact wpAny_nextOf_wide_item e hc fun h' e' hsb => k _ _ _ (.str (fits_sign hs hc) _) hsb (.str e' (.inr rfl) hs)
  | _ => exact Bool.noConfusion hz
theorem sizedE {α : Type} {t : Sem α} {Q : α → Shared → Prop} {E : Value → Shared → Prop} (h : wpAny (model prog w) A t Q (fun e s' => s.heap.objs.size ≤ s'.heap.objs.size → E e s') s) :
    wpAny (model prog w) A t Q E s :=
  wpAny_mono (Q := fun a s' => s.heap.objs.size ≤ s'.heap.objs.size ∧ Q a s') (E := fun e s' => s.heap.objs.size ≤ s'.heap.objs.size ∧ (s.heap.objs.size ≤ s'.heap.objs.size → E e s'))
    (fun Γ p hΓ => wp_size _ Γ _ t _ _ p s (Nat.le_refl _) (h Γ p hΓ)) (fun _ _ x => x.2) (fun _ _ x => x.2 x.1)
theorem nextOf_none {v : PV} {it : Addr} {i : Nat} {E : Value → Shared → Prop} {Q : Value → Shared → Prop} (hA : A.handled = none) (y : Its φ h₀ s.heap i v it) (hv : nth1 σ v i = some none) (I : Inv h₀ φ σ s.heap)
    (k : ∀ h' e, Ext [it] s.heap h' → (∃ o, h'.get? e = some o ∧ o.cls = .type "StopIteration") → E (.ref e) { s with heap := h' }) :
    wpAny (model prog w) A (Builtin.SmallTypes.nextOf (.ref it)) Q E s := by
  refine byc fun nh => ?_
  obtain ⟨y, hz, ho, _⟩ := y
  obtain ⟨oi, gi, ni⟩ := y.there
  refine nh ?_
  refine sizedE ?_
  have K : ∀ h' e, Heap.ExtBut it s.heap h' → (∃ o, h'.get? e = some o ∧ o.cls = .type "StopIteration") → s.heap.objs.size ≤ h'.objs.size → E (.ref e) { s with heap := h' } :=
    fun h' e hs ho hz => k h' e (Ext.butS hs hz gi ni) ho
  induction y with
  | @str xx t _ _ kind e hk hs =>
    have hv := Option.map_eq_none_iff.1 (smi hv)
    rcases hk with rfl | rfl
    · exact wpAny_nextOf_ascii_end hA e hv fun h' e' hs he => K h' e' hs he
    · exact wpAny_nextOf_wide_end hA e hv fun h' e' hs he => K h' e' hs he
  | _ => exact Bool.noConfusion hz
theorem draw_facts {v x : PV} {u : Value} {it TO : Addr} {i kk n m j : Nat} {us : Array Value} {h h₂ : Heap} (I : Inv h₀ φ σ h) (hk : φ[kk]? = some (TO, TO)) (hσ : σ[kk]? = some (.own n)) (y : Its φ h₀ h i v it)
    (hs : Heap.SameBut it h h₂) (y' : IterAt φ h₂ v it (i + 1)) (q : RV φ h₂ x u) (hTO : Tup h TO us m) (hn : us.size = n) :
    Tup h₂ TO us m ∧
    Inv h₀ φ σ (h₂.update TO (Obj.mapSeq (·.setIfInBounds j u))) ∧ Grow φ φ h (h₂.update TO (Obj.mapSeq (·.setIfInBounds j u))) ∧ RV φ (h₂.update TO (Obj.mapSeq (·.setIfInBounds j u))) x u ∧
    Its φ h₀ (h₂.update TO (Obj.mapSeq (·.setIfInBounds j u))) (i + 1) v it ∧ Tup (h₂.update TO (Obj.mapSeq (·.setIfInBounds j u))) TO (us.setIfInBounds j u) m ∧
    (h₂.update TO (Obj.mapSeq (·.setIfInBounds j u))).objs.size = h.objs.size ∧ ∀ b o, b ≠ it → b ≠ TO → h.get? b = some o → (h₂.update TO (Obj.mapSeq (·.setIfInBounds j u))).get? b = some o := by
  have hne : TO ≠ it := y.off _ (List.mem_of_getElem? hk)
  refine byc fun nh => ?_
  obtain ⟨oi, gi, ni⟩ := y.at_.there
  have x1 : Ext [it] h h₂ := Ext.same hs fun o e => by rw [gi] at e; cases e; exact ni
  have I2 : Inv h₀ φ σ h₂ := I.ext x1 (by simpa using y.low) (by simpa using y.off)
  have hTO₂ : Tup h₂ TO us m := hs.extBut _ _ hne hTO
  have hs3 : Heap.SameBut TO h₂ (h₂.update TO (Obj.mapSeq (·.setIfInBounds j u))) := Heap.SameBut.update ..
  have hTO₃ : Tup (h₂.update TO (Obj.mapSeq (·.setIfInBounds j u))) TO (us.setIfInBounds j u) m := by
    unfold Tup
    rw [Heap.get?_update_self _ hTO₂ rfl]
    simp [Obj.mapSeq]
  obtain ⟨I3, S3⟩ := I2.turn (p := (TO, TO)) hk hσ rfl hs3 ⟨rfl, _, _, hTO₃, by simpa using hn⟩
  have y2 : Its φ h₀ h₂ (i + 1) v it := ⟨y', y.ok, y.off, y.low⟩
  have g3 : Grow φ φ h (h₂.update TO (Obj.mapSeq (·.setIfInBounds j u))) := (x1.step.trans (S3.more (Y := [it]) (by exact nil0))).toGrow
  refine nh ?_
  refine ⟨hTO₂, I3, g3, q.mono S3.toGrow, y2.grow S3.toGrow fun o e => hs3.extBut _ o hne.symm e, hTO₃, ?_, fun b o h1 h2 e => hs3.extBut b o h2 (hs.extBut b o h1 e)⟩
  rw [hs3.1, hs.1]
inductive Zits (φ : Phi) (h₀ h : Heap) (i : Nat) : List PV → List Addr → Prop where
  | nil : Zits φ h₀ h i [] []
  | cons {v : PV} {it : Addr} {vs its} : Its φ h₀ h i v it → Zits φ h₀ h i vs its → Zits φ h₀ h i (v :: vs) (it :: its)
theorem Zits.grow {φ φ' : Phi} {h₀ h h' : Heap} {i : Nat} {vs : List PV} {its : List Addr} (x : Zits φ h₀ h i vs its) (g : Grow φ φ' h h') (hk : ∀ it ∈ its, ∀ o, h.get? it = some o → h'.get? it = some o) : Zits φ' h₀ h' i vs its := by
  induction x with
  | nil => exact .nil
  | cons y _ ih => exact .cons (y.grow g (hk _ (by exact List.mem_cons_self))) (ih fun it hi => hk it (by simp [hi]))
theorem Zits.mem {φ : Phi} {h₀ h : Heap} {i : Nat} {vs : List PV} {its : List Addr} (x : Zits φ h₀ h i vs its) {it : Addr} (hi : it ∈ its) : ∃ v, Its φ h₀ h i v it := by
  induction x with
  | nil => simp at hi
  | cons y _ ih =>
    rcases List.mem_cons.mp hi with rfl | hi
    · exact ⟨_, y⟩
    · exact ih hi
theorem Zits.length {φ : Phi} {h₀ h : Heap} {i : Nat} {vs : List PV} {its : List Addr} (x : Zits φ h₀ h i vs its) : its.length = vs.length := by
  induction x with
  | nil => rfl
  | cons _ _ ih => exact congrArg (· + 1) ih
theorem Zits.snoc {φ : Phi} {h₀ h : Heap} {i : Nat} {vs : List PV} {its : List Addr} {v : PV} {it : Addr} (x : Zits φ h₀ h i vs its) (y : Its φ h₀ h i v it) : Zits φ h₀ h i (vs ++ [v]) (its ++ [it]) := by
  induction x with
  | nil => exact .cons y .nil
  | cons z _ ih => exact .cons z ih
structure ZipAt (φ : Phi) (h₀ h : Heap) (vs : List PV) (k : Nat) (z : Addr) (f0 : Value) (TI TO : Addr) (its : List Addr) (i : Nat) : Prop where
  own : φ[k]? = some (TO, TO)
  rec_ : IsZip h z TI TO f0
  ti : ∃ n, Tup h TI (its.map Value.ref).toArray n
  tiOff : ∀ p ∈ φ, p.2 ≠ TI
  zs : Zits φ h₀ h i vs its
  nd : its.Nodup
  zoff : ∀ p ∈ φ, p.2 ≠ z
  zlow : h₀.objs.size ≤ z
theorem zip_imm {h : Heap} {z TI TO : Addr} {f0 : Value} (e : IsZip h z TI TO f0) : ∀ o, h.get? z = some o → ¬ Imm o := fun o e' => by
  rw [e] at e'; cases e'; exact imm_fields rfl (by simp)
theorem ZipAt.grow {φ φ' : Phi} {h₀ h h' : Heap} {vs : List PV} {k i : Nat} {z TI TO : Addr} {f0 : Value} {its : List Addr} (x : ZipAt φ h₀ h vs k z f0 TI TO its i) (g : Grow φ φ' h h') (hk : ∀ b ∈ z :: its, ∀ o, h.get? b = some o → h'.get? b = some o) :
    ZipAt φ' h₀ h' vs k z f0 TI TO its i := by
  obtain ⟨n, hn⟩ := x.ti
  refine ⟨?_, hk z (by exact List.mem_cons_self) _ x.rec_, ⟨n, g.imm _ _ hn imm_tuple fun _ => x.tiOff⟩, g.off hn x.tiOff, x.zs.grow g fun it hi => hk it (by simp [hi]), x.nd, g.off x.rec_ x.zoff, x.zlow⟩
  obtain ⟨ψ, rfl⟩ := g.ext
  rw [List.getElem?_append_left (List.getElem?_eq_some_iff.mp x.own).1]; exact x.own
theorem ZipAt.step {φ φ' : Phi} {h₀ h h' : Heap} {vs : List PV} {k i : Nat} {z TI TO : Addr} {f0 : Value} {its : List Addr} {X : List Addr} (x : ZipAt φ h₀ h vs k z f0 TI TO its i) (S : Step X φ φ' h h') (hX : ∀ b ∈ z :: its, b ∉ X) :
    ZipAt φ' h₀ h' vs k z f0 TI TO its i :=
  x.grow S.toGrow fun b hb o e => S.keep b o e (hX b hb) (by
    rcases List.mem_cons.mp hb with rfl | hb
    · exact x.zoff
    · obtain ⟨_, y⟩ := x.zs.mem hb; exact y.off)
theorem ZipAt.apart {φ : Phi} {h₀ h : Heap} {vs : List PV} {k i : Nat} {z TI TO : Addr} {f0 : Value} {its : List Addr} (x : ZipAt φ h₀ h vs k z f0 TI TO its i) :
    TO ≠ z ∧ TI ≠ TO ∧ TI ≠ z ∧ ∀ it ∈ its, it ≠ z ∧ it ≠ TO ∧ it ≠ TI := by
  have hm := List.mem_of_getElem? x.own
  obtain ⟨n, hn⟩ := x.ti
  refine ⟨x.zoff _ hm, (x.tiOff _ hm).symm, ?_, ?_⟩
  · rintro rfl
    exact zip_imm x.rec_ _ hn imm_tuple
  · intro it hi
    obtain ⟨v, y⟩ := x.zs.mem hi
    refine ⟨?_, (y.off _ hm).symm, ?_⟩
    · rintro rfl
      have e := x.rec_
      induction y.at_ with
      | str q hk _ => obtain ⟨o, g, c, _⟩ := q; rw [e] at g; cases g; rcases hk with rfl | rfl <;> simp at c
      | _ => exact Bool.noConfusion (y.ok)
    · rintro rfl
      refine byc fun nh => ?_
      obtain ⟨o, g, ni⟩ := y.at_.there
      refine nh ?_
      rw [hn] at g; cases g
      exact ni imm_tuple
noncomputable def ZipOut (h₀ : Heap) (φ : Phi) (σ : St) (h : Heap) (vs : List PV) (k : Nat) (z TI TO : Addr) (its : List Addr) (i : Nat) (xs : List PV) (r : Option Value) (h' : Heap) : Prop :=
  ∃ T : Addr, r = some (.ref T) ∧ RV φ h' (.tup xs) (.ref T) ∧ Inv h₀ φ σ h' ∧ Step (z :: its) φ φ h h' ∧ ZipAt φ h₀ h' vs k z (rawInt T) TI TO its (i + 1)
theorem nths_cons {σ : St} {i : Nat} {v : PV} {vs : List PV} {r : Option (List PV)} (h : nths σ i (v :: vs) = some r) : (∃ x rr, nth1 σ v i = some (some x) ∧ nths σ i vs = some rr ∧ r = rr.map (x :: ·)) ∨ (nth1 σ v i = some none ∧ r = none) := by
  refine byc fun nh => ?_
  obtain ⟨o, h1, h⟩ := obind h
  induction o with
  | none => refine nh ?_; exact .inr ⟨h1, (smi h).symm⟩
  | some x =>
    obtain ⟨rr, h2, e⟩ := omap h
    refine nh ?_
    exact .inl ⟨x, rr, h1, h2, e.symm⟩
theorem take_set {us : Array Value} {j : Nat} {u : Value} (h : j < us.size) : (us.setIfInBounds j u).toList.take (j + 1) = us.toList.take j ++ [u] := by
  obtain ⟨l⟩ := us
  simp only [List.setIfInBounds_toArray]
  rw [List.take_add_one, List.getElem?_set_self h, List.take_set_of_le (Nat.le_refl _)]
  rfl
inductive ZAt (h₀ : Heap) (φ : Phi) (σ : St) (h₁ : Heap) (vs : List PV) (TO : Addr) (m : Nat) (its : List Addr) (i : Nat) (r : Option (List PV)) (rest : List (Value × Nat)) (h : Heap) : Prop
  | mk (td tr : List Addr) (vd vr : List PV) (us : Array Value) (xs : List PV) (rr : Option (List PV)) (e1 : its = td ++ tr) (e2 : vs = vd ++ vr) (e3 : rest = (tr.map Value.ref).zipIdx td.length)
    (Zd : Zits φ h₀ h (i + 1) vd td) (Zr : Zits φ h₀ h i vr tr) (T : Tup h TO us m) (sz : us.size = its.length) (q : RVs φ h xs (us.toList.take td.length)) (I : Inv h₀ φ σ h) (g : Grow φ φ h₁ h) (z : h.objs.size = h₁.objs.size)
    (k : ∀ b o, b ∉ its → b ≠ TO → h₁.get? b = some o → h.get? b = some o) (n : nths σ i vr = some rr) (er : r = rr.map (xs ++ ·)) : ZAt h₀ φ σ h₁ vs TO m its i r rest h
noncomputable def ZRes (h₀ : Heap) (φ : Phi) (σ : St) (h : Heap) (vs : List PV) (k : Nat) (z TI TO : Addr) (its : List Addr) (i : Nat) : Option (List PV) → Option Value → Heap → Prop
  | some xs, u, h' => ZipOut h₀ φ σ h vs k z TI TO its i xs u h'
  | none, u, h' => u = none ∧ Inv h₀ φ σ h' ∧ Step (z :: its) φ φ h h'
set_option maxHeartbeats 2000000 in
theorem zip_next {vs : List PV} {k i : Nat} {z TI TO : Addr} {its : List Addr} {r : Option (List PV)} (hA : A.handled = none) (hne : vs ≠ []) (hlen : vs.length ≤ 3) (hσ : σ[k]? = some (.own vs.length)) (hr : nths σ i vs = some r) (I : Inv h₀ φ σ s.heap)
    (Z : ZipAt φ h₀ s.heap vs k z .none TI TO its i) : W prog w A (pyNext (.ref z)) s (ZRes h₀ φ σ s.heap vs k z TI TO its i r) := by
  obtain ⟨dTO, dTI, dTz, dits⟩ := Z.apart
  obtain ⟨own, hz, ⟨n, hTI⟩, tiOff, zits, nd, zoff, zlow⟩ := id Z
  have hm := List.mem_of_getElem? own
  have hzi : z ∉ its := fun hi => (dits z hi).1 rfl
  have hOi : TO ∉ its := fun hi => (dits TO hi).2.1 rfl
  have hIi : TI ∉ its := fun hi => (dits TI hi).2.2 rfl
  have hil := zits.length
  obtain ⟨p, hp, _, us, m, hTO, hsz⟩ := I.cell hσ
  obtain rfl := Option.some.inj (own.symm.trans hp)
  have hT : s.TypeIs (.ref z) "zip" := ⟨_, hz, rfl⟩
  refine wq fun Rq hRq => ?_
  unfold pyNext
  refine wpAny_bind (wpAny_attempt (wpAny_callSpecial?_slot (name := Str.ofString "__next__") hT PySem.F.slot_zip_next
    (wpAny_call_entry PySem.F.slot_zip_next hT PySem.F.entry_zip_next ?_ (PySem.F.args_zip_next_1 _))))
  show wpAny _ _ (field (.ref z) 2 >>= _) _ _ _
  refine wpAny_bind (wpAny_field hz rfl (x := .bool false) rfl ?_)
  refine wpAny_bind (wpAny_field hz rfl (x := .ref TI) rfl ?_)
  refine wpAny_bind (wpAny_seqItems hTI rfl ?_)
  have hemp : (its.map Value.ref).toArray.isEmpty = false := by
    induction its with
    | nil => exact absurd (List.length_eq_zero_iff.mp hil.symm) hne
    | cons => rfl
  dsimp only
  rw [hemp]
  refine wpAny_bind ?_
  unfold Builtin.SmallTypes.ownedTupleIsFree
  refine wpAny_bind (wpAny_field hz rfl (x := .none) rfl (wpAny_pure ?_))
  simp only [if_true]
  refine wpAny_bind (wpAny_rule ?_)
  refine wpAny_bind (wpAny_field hz rfl (x := .ref TO) rfl ?_)
  refine wpAny_bind (wpAny_setField_rec hz (by exact Nat.zero_lt_succ _) fun h₁ hz₁ hs₁ => ?_)
  replace hz₁ : IsZip h₁ z TI TO .ellipsis := hz₁
  have x1 : Ext [z] s.heap h₁ := Ext.same hs₁ (zip_imm hz)
  have I1 : Inv h₀ φ σ h₁ := I.ext x1 (by simpa using zlow) (by simpa using zoff)
  refine wpAny_bind ?_
  refine wpAny_forIn_list _ (fun l b s' => b = _ ∧ ∃ h tk, s' = { s with heap := h, toks := tk } ∧ ZAt h₀ φ σ h₁ vs TO m its i r l h) _ (fun x rest b s' J => ?_) (fun b s' J => ?_) _ _
    ⟨rfl, h₁, s.toks, rfl, ⟨[], its, [], vs, us, [], r, rfl, rfl, rfl, .nil, zits.grow x1.grow fun it hi o e => hs₁.extBut it o (dits it hi).1 e, hs₁.extBut _ _ dTO hTO, hsz.trans hil.symm, .nil, I1, (Step.refl [] _ _).toGrow, rfl, fun _ _ _ _ e => e, hr, by cases r <;> rfl⟩⟩
  · refine wq fun R2 hR2 => ?_
    obtain ⟨rfl, h, tk, rfl, td, tr, vd, vr, us', xs, rr, e1, e2, e3, Zd, Zr, T, sz, q, I2, g, hzz, kk, hn, er⟩ := J
    cases Zr with
    | nil => exact nomatch e3
    | @cons v it vr tr y Zr =>
    obtain ⟨hx, hrest⟩ := List.cons.inj e3
    subst hx
    have hit : it ∈ its := by rw [e1]; simp
    obtain ⟨diz, diO, diI⟩ := dits it hit
    have hus : us'.size = vs.length := sz.trans hil
    have h3 : us'.size ≤ 3 := hus ▸ hlen
    have hj : td.length < us'.size := by rw [sz, e1]; simp
    have ndl : ∀ b ∈ td, b ≠ it := fun b hb z => by
      rw [e1, List.nodup_append] at nd
      exact nd.2.2 b hb it (by exact List.mem_cons_self) z
    have ndr : ∀ b ∈ tr, b ≠ it := fun b hb z => by
      rw [e1, List.nodup_append] at nd
      exact (List.nodup_cons.mp nd.2.1).1 (z ▸ hb)
    have inl : ∀ b ∈ td, b ∈ its := fun b hb => by rw [e1]; simp [hb]
    have inr : ∀ b ∈ tr, b ∈ its := fun b hb => by rw [e1]; simp [hb]
    refine wpAny_bind (wpAny_onRaise ?_)
    rcases nths_cons hn with ⟨x, rr', hx, hn', rfl⟩ | ⟨hx, rfl⟩
    · refine wpAny_bind (nextOf_some y hx I2 fun u k1h tk1 q1 s1h y1n => wpAny_pure ?_)
      refine byc fun nh => ?_
      obtain ⟨hTOm1, I3, g3, q1', y1h, hTO3, sz3, k3⟩ := draw_facts (j := td.length) I2 own hσ y s1h y1n q1 T hus
      refine nh ?_
      refine wpAny_bind (wpAny_seqItems hTOm1 rfl ?_)
      refine wpAny_bind (wpAny_updateSeq hTOm1 rfl ?_ (Nat.le_trans h3 (by rw [sizeLine_eq]; decide)) (by rw [Array.size_setIfInBounds]; exact Nat.le_trans h3 (by rw [sizeLine_eq]; decide)))
      refine wpAny_bind (wpAny_letGo (wpAny_pure ?_))
      refine hR2 _ _ ⟨rfl, _, _, rfl, td ++ [it], tr, vd ++ [v], vr, _, xs ++ [x], rr', by rw [e1, List.append_assoc]; rfl, by rw [e2, List.append_assoc]; rfl, by rw [hrest, List.length_append]; rfl, ?_, ?_, hTO3, (Array.size_setIfInBounds ..).trans sz, ?_, I3, ?_, sz3.trans hzz,
        fun b o h1 h2 e => k3 b o (fun z => h1 (z ▸ hit)) h2 (kk b o h1 h2 e), hn', ?_⟩
      · exact (Zd.grow g3 fun b hb o e => k3 b o (ndl b hb) (fun z => hOi (z ▸ inl b hb)) e).snoc y1h
      · exact Zr.grow g3 fun b hb o e => k3 b o (ndr b hb) (fun z => hOi (z ▸ inr b hb)) e
      · rw [List.length_append]
        show RVs _ _ _ (List.take (td.length + 1) _)
        rw [take_set hj]
        exact (q.mono g3).append (.cons q1' .nil)
      · exact g.trans (Nat.le_of_eq hzz.symm) g3
      · refine Eq.symm (er) ▸ ?_
        induction rr' with
        | none => rfl
        | some ys => exact congrArg some (List.append_cons xs x ys)
    · refine wpAny_bind (nextOf_none hA y hx I2 fun k9 e x9 he => ?_)
      refine byc fun nh => ?_
      obtain ⟨oe, hoe, hce⟩ := he
      have hz9 : IsZip k9 z TI TO .ellipsis := x9.keep _ _ (kk _ _ hzi dTO.symm hz₁) (by simpa using diz.symm)
      have hez : e ≠ z := fun q => by subst q; rw [hz9] at hoe; cases hoe; simp at hce
      refine nh ?_
      refine wpAny_setField_rec hz9 (by exact Nat.zero_lt_succ _) fun k10 _ hs10 => ?_
      have x10 : Ext [z] k9 k10 := Ext.same hs10 (zip_imm hz9)
      have I10 : Inv h₀ φ σ k10 := (I2.ext x9 (by simpa using y.low) (by simpa using y.off)).ext x10 (by simpa using zlow) (by simpa using zoff)
      have hsz' := Nat.le_trans x1.size (Nat.le_of_eq hzz.symm)
      have S10 : Step (z :: its) φ φ s.heap k10 :=
        ⟨((x1.grow.trans x1.size g).trans hsz' x9.grow).trans (Nat.le_trans hsz' x9.size) x10.grow, Nat.le_trans (Nat.le_trans hsz' x9.size) x10.size, fun b o e hb ho => by
          simp only [List.mem_cons, not_or] at hb
          exact x10.keep b o (x9.keep b o (kk b o hb.2 (fun q => ho _ hm q.symm) (hs₁.extBut b o hb.1 e)) (by simpa using fun z : b = it => hb.2 (z ▸ hit))) (by simpa using hb.1)⟩
      refine wpAny_bind (wpAny_isInstance (T := "StopIteration") (b := true) ⟨oe, hs10.extBut _ _ hez hoe, hce⟩ isSubtype_stop ?_)
      obtain rfl : r = none := er
      exact wpAny_pure (hRq _ _ ⟨_, _, rfl, rfl, I10, S10⟩)
  · obtain ⟨rfl, H, tk, rfl, td, tr, vd, vr, us', xs, rr, e1, e2, e3, Zd, Zr, T, sz, q, I3, g, hzz, kk, hn, er⟩ := J
    induction Zr with
    | cons => exact nomatch e3
    | nil =>
    obtain rfl : rr = some [] := (Option.some.inj hn).symm
    rw [List.append_nil] at e1 e2
    subst e1 e2
    obtain rfl : r = some xs := er.trans (congrArg some (List.append_nil xs))
    rw [← sz, List.take_of_length_le (Nat.le_of_eq (Array.length_toList ..))] at q
    have h3 : us'.size ≤ 3 := (sz.trans hil) ▸ hlen
    refine wpAny_bind (wpAny_seqItems T rfl ?_)
    refine wpAny_bind (wpAny_newTuple ?_ (by rw [Array.length_toList]; exact Nat.le_trans h3 (by rw [sizeLine_eq]; decide)))
    have hzs : s.heap.objs.size ≤ H.objs.size := Nat.le_trans x1.size (Nat.le_of_eq hzz.symm)
    have g0 : Grow φ φ s.heap H := x1.grow.trans x1.size g
    have hz₅ : IsZip H z TI TO .ellipsis := kk _ _ hzi dTO.symm hz₁
    have hTI₅ : Tup H TI _ n := kk _ _ hIi dTI (hs₁.extBut _ _ dTz hTI)
    refine wpAny_bind ?_
    unfold Builtin.SmallTypes.ownedTupleHandOut
    have hz₆ : IsZip (H.push { cls := .type "tuple", data := .seq us'.toList.toArray }) z TI TO .ellipsis := Heap.get?_push_of_some _ hz₅
    refine wpAny_bind (wpAny_setField_rec hz₆ (by exact Nat.zero_lt_succ _) fun h₇ hz₇ hs₇ => ?_)
    replace hz₇ : IsZip h₇ z TI TO (rawInt H.objs.size) := hz₇
    refine wpAny_setField_rec hz₇ (by simp) fun h₈ hz₈ hs₈ => ?_
    replace hz₈ : IsZip h₈ z TI TO (rawInt H.objs.size) := hz₈
    have x7 : Ext [z] _ h₇ := Ext.same hs₇ (zip_imm hz₆)
    have x8 : Ext [z] h₇ h₈ := Ext.same hs₈ (zip_imm hz₇)
    have x58 : Ext [z] H h₈ := ((Ext.push H { cls := .type "tuple", data := .seq us'.toList.toArray }).nil.trans x7).trans x8
    have hzlt : z < H.objs.size := Heap.lt_size hz₅
    have hT₈ : Tup h₈ H.objs.size us'.toList.toArray 0 := hs₈.extBut _ _ (Nat.ne_of_gt hzlt) (hs₇.extBut _ _ (Nat.ne_of_gt hzlt) (Heap.get?_push_size _ rfl))
    have I8 : Inv h₀ φ σ h₈ := I3.ext x58 (by simpa using zlow) (by simpa using zoff)
    have S08 : Step (z :: its) φ φ s.heap h₈ :=
      ⟨g0.trans hzs x58.grow, Nat.le_trans hzs x58.size, fun b o e hb ho => by
        simp only [List.mem_cons, not_or] at hb
        exact x58.keep b o (kk b o hb.2 (fun q => ho _ hm q.symm) (hs₁.extBut b o hb.1 e)) (by simpa using hb.1)⟩
    exact wpAny_pure ⟨_, rfl, wpAny_pure (hRq _ _ ⟨h₈, _, rfl, _, rfl, .tup hT₈ (I3.fresh (Nat.le_refl _)) (q.mono x58.grow), I8, S08, own, hz₈, ⟨n, x58.keep _ _ hTI₅ (by simpa using dTz)⟩, tiOff,
      Zd.grow x58.grow fun b hb o e => x58.keep b o e (by simpa using (dits b hb).1), nd, zoff, zlow⟩)⟩
end
end Mine
end
section
namespace Mine
open PySem PyProof.Rows
inductive SrcAt (φ : Phi) (h₀ h : Heap) (z : Addr) (i : Nat) : PI → List Addr → Prop where
  | one {v : PV} : IterAt φ h v z i → (∀ p ∈ φ, p.2 ≠ z) → h₀.objs.size ≤ z → SrcAt φ h₀ h z i (.one v) [z]
  | zip {vs : List PV} {k : Nat} {TI TO : Addr} {its : List Addr} : ZipAt φ h₀ h vs k z .none TI TO its i → vs.length = 2 → SrcAt φ h₀ h z i (.zip vs k) (z :: its)
inductive MidAt (φ : Phi) (h₀ h : Heap) (z : Addr) (i : Nat) (u : Value) : PI → List Addr → Prop where
  | one {v : PV} : IterAt φ h v z i → (∀ p ∈ φ, p.2 ≠ z) → h₀.objs.size ≤ z → MidAt φ h₀ h z i u (.one v) [z]
  | zip {vs : List PV} {k : Nat} {TI TO : Addr} {its : List Addr} {T : Addr} : u = .ref T → ZipAt φ h₀ h vs k z (rawInt T) TI TO its i → vs.length = 2 → MidAt φ h₀ h z i u (.zip vs k) (z :: its)
theorem SrcAt.off {φ : Phi} {h₀ h : Heap} {z : Addr} {i : Nat} {src : PI} {X : List Addr} (x : SrcAt φ h₀ h z i src X) : ∀ a ∈ X, (∀ p ∈ φ, p.2 ≠ a) ∧ h₀.objs.size ≤ a := by
  induction x with
  | one _ h1 h2 => intro a ha; simp at ha; subst ha; exact ⟨h1, h2⟩
  | zip Z _ =>
    intro a ha
    rcases List.mem_cons.mp ha with rfl | ha
    · exact ⟨Z.zoff, Z.zlow⟩
    · obtain ⟨v, y⟩ := Z.zs.mem ha; exact ⟨y.off, y.low⟩
theorem SrcAt.step {φ φ' : Phi} {h₀ h h' : Heap} {z : Addr} {i : Nat} {src : PI} {X Y : List Addr} (x : SrcAt φ h₀ h z i src X) (S : Step Y φ φ' h h') (hX : ∀ b ∈ X, b ∉ Y) : SrcAt φ' h₀ h' z i src X := by
  induction x with
  | one h1 h2 h3 =>
    obtain ⟨o, e, _⟩ := h1.there
    exact .one (h1.step S (hX _ (by exact List.mem_cons_self)) h2) (S.toGrow.off e h2) h3
  | zip Z hl => exact .zip (Z.step S hX) hl
theorem isOwn_get {σ : St} {k n : Nat} (h : isOwn σ k n = true) : σ[k]? = some (.own n) := by
  obtain ⟨c, e, h⟩ := obind (beq_iff_eq.mp h)
  induction c with
  | own m => exact smi h ▸ e
  | _ => exact nsm h
noncomputable def isPair : Expr → Bool
  | .Tuple .. => true
  | _ => false
noncomputable def pairFor : PI → Expr → Bool
  | .one _, _ => true
  | .zip _ _, e => isPair e
section
variable {prog : Program} {w : World} {A : Around} {s : Shared} {h₀ : Heap} {φ : Phi} {σ : St}
theorem zips_ne {vs : List PV} (h : vs.length = 2) : vs ≠ [] := by
  rintro rfl
  exact absurd h (by decide)
theorem zips_le {vs : List PV} (h : vs.length = 2) : vs.length ≤ 3 := h ▸ by decide
inductive NextS (h₀ : Heap) (φ : Phi) (σ : St) (h : Heap) (X : List Addr) (x : PV) (z : Addr) (i : Nat) (src : PI) (r : Option Value) (h' : Heap) : Prop
  | mk (u : Value) (hr : r = some u) (q : RV φ h' x u) (I : Inv h₀ φ σ h') (S : Step X φ φ h h') (m : MidAt φ h₀ h' z (i + 1) u src X)
inductive NextN (h₀ : Heap) (φ : Phi) (σ : St) (h : Heap) (X : List Addr) (r : Option Value) (h' : Heap) : Prop
  | mk (hr : r = none) (I : Inv h₀ φ σ h') (S : Step X φ φ h h')
inductive GoS (h₀ : Heap) (φ : Phi) (σ : St) (h : Heap) (X : List Addr) (z : Addr) (i : Nat) (src : PI) (h' : Heap) : Prop
  | mk (I : Inv h₀ φ σ h') (S : Step X φ φ h h') (y : SrcAt φ h₀ h' z i src X)
theorem next_some {src : PI} {x : PV} {z : Addr} {i : Nat} {X : List Addr} (hA : A.handled = none) (hv : nth σ src i = some (some x)) (I : Inv h₀ φ σ s.heap) (y : SrcAt φ h₀ s.heap z i src X) :
    W prog w A (pyNext (.ref z)) s (NextS h₀ φ σ s.heap X x z i src) := by
  induction y with
  | one h1 h2 h3 =>
    refine byc fun nh => ?_
    obtain ⟨o, e, ni⟩ := h1.there
    refine nh ?_
    refine (pyNext_some hv I h1 h2).mono ?_
    rintro r h' ⟨u, hr, q, hs, y'⟩
    have x1 : Ext [z] s.heap h' := Ext.same hs fun o' e' => by rw [e] at e'; cases e'; exact ni
    exact ⟨u, hr, q, I.ext x1 (by simpa using h3) (by simpa using h2), x1.step, .one y' h2 h3⟩
  | @zip vs k TI TO its Z hl =>
    refine byc fun nh => ?_
    obtain ⟨ho, hv⟩ := ifS hv
    obtain ⟨o, e, hv⟩ := omap hv
    induction o with
    | none => refine nh ?_; exact nsm hv
    | some xs =>
      obtain rfl := smi hv
      refine nh ?_
      refine (zip_next hA (zips_ne hl) (zips_le hl) (isOwn_get ho) e I Z).mono fun r h' x => ?_
      refine byc fun nh => ?_
      obtain ⟨T, rfl, q, I', S', Z'⟩ := x
      refine nh ?_
      exact ⟨_, rfl, q, I', S', .zip rfl Z' hl⟩
theorem next_none {src : PI} {z : Addr} {i : Nat} {X : List Addr} (hA : A.handled = none) (hv : nth σ src i = some none) (I : Inv h₀ φ σ s.heap) (y : SrcAt φ h₀ s.heap z i src X) :
    W prog w A (pyNext (.ref z)) s (NextN h₀ φ σ s.heap X) := by
  induction y with
  | one h1 h2 h3 =>
    refine (pyNext_none hA hv I h1).mono ?_
    rintro r h' ⟨hr, x1⟩
    exact ⟨hr, I.ext x1 (by simpa using h3) (by simpa using h2), x1.step⟩
  | @zip vs k TI TO its Z hl =>
    refine byc fun nh => ?_
    obtain ⟨ho, hv⟩ := ifS hv
    obtain ⟨o, e, hv⟩ := omap hv
    induction o with
    | none => refine nh ?_; exact (zip_next hA (zips_ne hl) (zips_le hl) (isOwn_get ho) e I Z).mono fun _ _ x => ⟨x.1, x.2.1, x.2.2⟩
    | some xs => refine nh ?_; exact nomatch hv
theorem go_iter {target : Expr} {v : PV} {z : Addr} {i : Nat} {u : Value} (y : IterAt φ s.heap v z i) : W prog w A (letOwnedTupleGo target (.ref z) u) s fun _ h' => h' = s.heap := by
  obtain ⟨o, e, vs, hd, n, hc, hn⟩ : ∃ o, s.heap.get? z = some o ∧ ∃ vs, o.data = .fields vs ∧ ∃ n, o.cls = .type n ∧ (["enumerate", "zip", "dict_itemiterator", "dict_reverseitemiterator", "odict_iterator", "itertools.zip_longest", "itertools.pairwise"].contains n) = false := by
    induction y with
    | str q hk _ =>
      obtain ⟨o, g, c, d⟩ := q
      refine ⟨o, g, _, d, _, c, ?_⟩
      rcases hk with rfl | rfl <;> decide +kernel
    | lst q => obtain ⟨o, g, c, d⟩ := q; exact ⟨o, g, _, d, _, c, by decide +kernel⟩
    | range q => exact ⟨_, q, _, rfl, _, rfl, by decide +kernel⟩
  have tail : ∀ a : Addr, W prog w A (load z >>= fun o => match o.cls, o.data with
      | .type n, .fields vs =>
        if ["enumerate", "zip", "dict_itemiterator", "dict_reverseitemiterator", "odict_iterator", "itertools.zip_longest", "itertools.pairwise"].contains n && vs[0]? == some (rawInt a) then
          (rule "for.unpacks-the-owned-tuple" >>= fun _ => updateField z 0 .none)
        else pure ()
      | _, _ => pure ()) s fun _ h' => h' = s.heap := fun a => by
    refine wpAny_bind (wpAny_load e ?_)
    refine Eq.symm (hc) ▸ ?_
    refine Eq.symm (hd) ▸ ?_
    dsimp only
    rw [hn, Bool.false_and]
    exact wpAny_pure ⟨_, _, rfl, rfl⟩
  cases target with
  | Tuple =>
    induction u with
    | ref a => exact tail a
    | _ => exact wpAny_pure ⟨_, _, rfl, rfl⟩
  | List =>
    induction u with
    | ref a => exact tail a
    | _ => exact wpAny_pure ⟨_, _, rfl, rfl⟩
  | _ => exact wpAny_pure ⟨_, _, rfl, rfl⟩
theorem go_sound {target : Expr} {src : PI} {z : Addr} {i : Nat} {u : Value} {X : List Addr} (y : MidAt φ h₀ s.heap z i u src X) (ht : pairFor src target = true) (I : Inv h₀ φ σ s.heap) :
    W prog w A (letOwnedTupleGo target (.ref z) u) s fun _ h' => GoS h₀ φ σ s.heap X z i src h' := by
  induction y with
  | one h1 h2 h3 => exact (go_iter h1).mono fun _ h' e => by subst e; exact ⟨I, Step.refl _ _ _, .one h1 h2 h3⟩
  | @zip vs k TI TO its T hu Z hl =>
    subst hu
    cases target with
    | Tuple elts c pos =>
      refine wpAny_letOwnedTupleGo_zip Z.rec_ fun h' hz' hs' => ⟨_, _, rfl, ?_⟩
      have x1 : Ext [z] s.heap h' := Ext.same hs' (zip_imm Z.rec_)
      refine byc fun nh => ?_
      obtain ⟨_, _, dz, dits⟩ := Z.apart
      obtain ⟨n, hn⟩ := Z.ti
      refine nh ?_
      exact ⟨I.ext x1 (by simpa using Z.zlow) (by simpa using Z.zoff), (x1.more (by exact one1)).step,
        .zip ⟨Z.own, hz', ⟨n, x1.keep _ _ hn (by simpa using dz)⟩, Z.tiOff, Z.zs.grow x1.grow fun it hi o e => x1.keep _ o e (by simpa using (dits it hi).1), Z.nd, Z.zoff, Z.zlow⟩ hl⟩
    | _ => exact Bool.noConfusion ht
end
end Mine
end
section
namespace Mine
open PySem PyProof.Rows
noncomputable def IterObj (prog : Program) (w : World) (φ : Phi) (h : Heap) (v : PV) (u : Value) (o : Obj) : Prop :=
  o.isFreed = false ∧ 
  (∀ (A : Around) (E : Value → Shared → Prop) (s : Shared) (Q : Value → Shared → Prop), (∀ b ob, h.get? b = some ob → s.heap.get? b = some ob) → Q (.ref s.heap.objs.size) { s with heap := s.heap.push o } → wpAny (model prog w) A (pyIter u) Q E s) ∧
  ∀ φ' h' it, φ <+: φ' → h'.get? it = some o → IterAt φ' h' v it 0
inductive Made (h₀ : Heap) (φ : Phi) (h : Heap) (src : PI) (σ' : St) (u : Value) (h' : Heap) : Prop
  | mk (z : Addr) (X : List Addr) (φ' : Phi) (hu : u = .ref z) (S : Step [] φ φ' h h') (I : Inv h₀ φ' σ' h') (y : SrcAt φ' h₀ h' z 0 src X) (hX : ∀ a ∈ X, h.objs.size ≤ a)
section
variable {prog : Program} {w : World} {A : Around} {s : Shared} {h₀ : Heap} {φ : Phi} {σ : St}
theorem iterObj {h : Heap} {v : PV} {u : Value} (hz : zipable v = true) (q : RV φ h v u) : ∃ o, IterObj prog w φ h v u o := by
  induction q using RV.casesOn with
  | str hs t =>
    refine ⟨_, rfl, fun A E s Q _ hq => wpAny_pyIter_strU hq, fun φ' h' it _ e => .str (kind := strIterType _) ⟨_, e, rfl, rfl⟩ (kind_or _) hs⟩
  | _ => cases hz
noncomputable abbrev zh2 (h : Heap) (o1 o2 : Obj) : Heap := ((((h.push o1).push o2).push { cls := .type "tuple", data := .seq #[.ref h.objs.size, .ref (h.push o1).objs.size] }).push { cls := .type "tuple", data := .seq #[.none, .none] })
theorem push_keep (h : Heap) (o : Obj) : ∀ b ob, h.get? b = some ob → (h.push o).get? b = some ob := fun _ _ e => Heap.get?_push_of_some _ e
theorem meets_zip2 {h : Heap} {v1 v2 : PV} {u1 u2 : Value} {o1 o2 : Obj} (H1 : IterObj prog w φ h v1 u1 o1) (H2 : IterObj prog w φ h v2 u2 o2) :
    MeetsIn prog w (Builtin.«zip.__new__» ⟨[.type "zip", u1, u2], []⟩) (fun _ R s => s.heap = h ∧
      R (.ok (.ret (.ref (zh2 h o1 o2).objs.size))) { s with heap := (zh2 h o1 o2).push { cls := .type "zip", data := .fields #[.none, .bool false, .bool false, .ref ((h.push o1).push o2).objs.size, .ref (((h.push o1).push o2).push { cls := .type "tuple", data := .seq #[.ref h.objs.size, .ref (h.push o1).objs.size] }).objs.size] } }) :=
  .of_wp fun A R s hh => by
    obtain ⟨hp, g, d, tk, os⟩ := s; obtain ⟨e, hh⟩ := hh
    dsimp only at e hh
    subst e
    have hsub := PySem.sub_zip
    have P1 : ∀ {A : Around} {E : Value → Shared → Prop} {Q : Value → Shared → Prop}, Q (.ref hp.objs.size) ⟨hp.push o1, g, d, tk, os⟩ → wpAny (model prog w) A (pyIter u1) Q E ⟨hp, g, d, tk, os⟩ :=
      fun {A E Q} hq => H1.2.1 A E ⟨hp, g, d, tk, os⟩ Q (fun _ _ e => e) hq
    have P2 : ∀ {A : Around} {E : Value → Shared → Prop} {Q : Value → Shared → Prop}, Q (.ref (hp.push o1).objs.size) ⟨(hp.push o1).push o2, g, d, tk, os⟩ → wpAny (model prog w) A (pyIter u2) Q E ⟨hp.push o1, g, d, tk, os⟩ :=
      fun {A E Q} hq => H2.2.1 A E ⟨hp.push o1, g, d, tk, os⟩ Q (push_keep _ _) hq
    wp_walk using P1, P2
    exact ⟨_, rfl, hh⟩
theorem nodup2 {a b : Nat} (h : a < b) : ([a, b] : List Addr).Nodup := by
  have : a ≠ b := by exact Nat.ne_of_lt (by assumption)
  simp [this]
theorem Ext.pushes {h h' : Heap} (x : Ext [] h h') (o : Obj) : Ext [] h (h'.push o) := x.trans (Ext.push h' o)
theorem zip2_make {v1 v2 : PV} {u1 u2 : Value} (z1 : zipable v1 = true) (z2 : zipable v2 = true) (I : Inv h₀ φ σ s.heap) (q1 : RV φ s.heap v1 u1) (q2 : RV φ s.heap v2 u2) :
    W prog w A (call (.type "zip") [u1, u2]) s (Made h₀ φ s.heap (.zip [v1, v2] σ.length) (σ ++ [.own 2])) := by
  obtain ⟨o1, H1⟩ := iterObj (prog := prog) (w := w) z1 q1
  obtain ⟨o2, H2⟩ := iterObj (prog := prog) (w := w) z2 q2
  refine callType_newIn PySem.F.called_zip (by decide) (PySem.F.typeCall_zip_2 _ _) (PySem.F.newCall_zip_2 _ _) (fun obj => PySem.F.args_object_init_3 obj _ _) PySem.F.entry_zip_new (meets_zip2 H1 H2) ⟨rfl, ?_⟩
  have sz1 : (s.heap.push o1).objs.size = s.heap.objs.size + 1 := by rw [Heap.size_push]
  have sz2 : ((s.heap.push o1).push o2).objs.size = s.heap.objs.size + 2 := by rw [Heap.size_push, sz1]
  have szT : (((s.heap.push o1).push o2).push { cls := .type "tuple", data := .seq #[.ref s.heap.objs.size, .ref (s.heap.push o1).objs.size] }).objs.size = s.heap.objs.size + 3 := by rw [Heap.size_push, sz2]
  have szP : (zh2 s.heap o1 o2).objs.size = s.heap.objs.size + 4 := by rw [Heap.size_push, szT]
  have x5 : Ext [] s.heap ((zh2 s.heap o1 o2).push { cls := .type "zip", data := .fields #[.none, .bool false, .bool false, .ref ((s.heap.push o1).push o2).objs.size, .ref (((s.heap.push o1).push o2).push { cls := .type "tuple", data := .seq #[.ref s.heap.objs.size, .ref (s.heap.push o1).objs.size] }).objs.size] }) := ((((Ext.push s.heap o1).pushes o2).pushes _).pushes _).pushes _
  have e1 : ((zh2 s.heap o1 o2).push { cls := .type "zip", data := .fields #[.none, .bool false, .bool false, .ref ((s.heap.push o1).push o2).objs.size, .ref (((s.heap.push o1).push o2).push { cls := .type "tuple", data := .seq #[.ref s.heap.objs.size, .ref (s.heap.push o1).objs.size] }).objs.size] }).get? s.heap.objs.size = some o1 := push_keep _ _ _ _ (push_keep _ _ _ _ (push_keep _ _ _ _ (push_keep _ _ _ _ (Heap.get?_push_size _ H1.1))))
  have e2 : ((zh2 s.heap o1 o2).push { cls := .type "zip", data := .fields #[.none, .bool false, .bool false, .ref ((s.heap.push o1).push o2).objs.size, .ref (((s.heap.push o1).push o2).push { cls := .type "tuple", data := .seq #[.ref s.heap.objs.size, .ref (s.heap.push o1).objs.size] }).objs.size] }).get? (s.heap.push o1).objs.size = some o2 := push_keep _ _ _ _ (push_keep _ _ _ _ (push_keep _ _ _ _ (Heap.get?_push_size _ H2.1)))
  have eT : Tup ((zh2 s.heap o1 o2).push { cls := .type "zip", data := .fields #[.none, .bool false, .bool false, .ref ((s.heap.push o1).push o2).objs.size, .ref (((s.heap.push o1).push o2).push { cls := .type "tuple", data := .seq #[.ref s.heap.objs.size, .ref (s.heap.push o1).objs.size] }).objs.size] }) ((s.heap.push o1).push o2).objs.size #[.ref s.heap.objs.size, .ref (s.heap.push o1).objs.size] 0 := push_keep _ _ _ _ (push_keep _ _ _ _ (Heap.get?_push_size _ rfl))
  have eP : Tup ((zh2 s.heap o1 o2).push { cls := .type "zip", data := .fields #[.none, .bool false, .bool false, .ref ((s.heap.push o1).push o2).objs.size, .ref (((s.heap.push o1).push o2).push { cls := .type "tuple", data := .seq #[.ref s.heap.objs.size, .ref (s.heap.push o1).objs.size] }).objs.size] }) (((s.heap.push o1).push o2).push { cls := .type "tuple", data := .seq #[.ref s.heap.objs.size, .ref (s.heap.push o1).objs.size] }).objs.size #[.none, .none] 0 := push_keep _ _ _ _ (Heap.get?_push_size _ rfl)
  have eZ : IsZip ((zh2 s.heap o1 o2).push { cls := .type "zip", data := .fields #[.none, .bool false, .bool false, .ref ((s.heap.push o1).push o2).objs.size, .ref (((s.heap.push o1).push o2).push { cls := .type "tuple", data := .seq #[.ref s.heap.objs.size, .ref (s.heap.push o1).objs.size] }).objs.size] }) (zh2 s.heap o1 o2).objs.size ((s.heap.push o1).push o2).objs.size (((s.heap.push o1).push o2).push { cls := .type "tuple", data := .seq #[.ref s.heap.objs.size, .ref (s.heap.push o1).objs.size] }).objs.size .none := Heap.get?_push_size _ rfl
  obtain ⟨I', S'⟩ := I.alloc x5 (p := ((((s.heap.push o1).push o2).push { cls := .type "tuple", data := .seq #[.ref s.heap.objs.size, .ref (s.heap.push o1).objs.size] }).objs.size, (((s.heap.push o1).push o2).push { cls := .type "tuple", data := .seq #[.ref s.heap.objs.size, .ref (s.heap.push o1).objs.size] }).objs.size)) (by rw [szT]; exact Nat.le_add_right _ _) (c := .own 2) ⟨rfl, _, _, eP, rfl⟩
  have off : ∀ a, s.heap.objs.size ≤ a → a ≠ (((s.heap.push o1).push o2).push { cls := .type "tuple", data := .seq #[.ref s.heap.objs.size, .ref (s.heap.push o1).objs.size] }).objs.size → ∀ p ∈ φ ++ [((((s.heap.push o1).push o2).push { cls := .type "tuple", data := .seq #[.ref s.heap.objs.size, .ref (s.heap.push o1).objs.size] }).objs.size, (((s.heap.push o1).push o2).push { cls := .type "tuple", data := .seq #[.ref s.heap.objs.size, .ref (s.heap.push o1).objs.size] }).objs.size)], p.2 ≠ a := fun a ha hne p hp => by
    rcases List.mem_append.mp hp with q | q
    · exact I.fresh ha p q
    · simp only [List.mem_singleton] at q; subst q; exact Ne.symm hne
  have lo : h₀.objs.size ≤ s.heap.objs.size := I.sz
  have l0 := Nat.le_refl s.heap.objs.size
  have l1 : s.heap.objs.size ≤ (s.heap.push o1).objs.size := by rw [sz1]; exact Nat.le_add_right _ _
  have l2 : s.heap.objs.size ≤ ((s.heap.push o1).push o2).objs.size := by rw [sz2]; exact Nat.le_add_right _ _
  have l4 : s.heap.objs.size ≤ (zh2 s.heap o1 o2).objs.size := by rw [szP]; exact Nat.le_add_right _ _
  have k1 := Nat.le_trans lo l1
  have k4 := Nat.le_trans lo l4
  have n0 : s.heap.objs.size ≠ (((s.heap.push o1).push o2).push { cls := .type "tuple", data := .seq #[.ref s.heap.objs.size, .ref (s.heap.push o1).objs.size] }).objs.size := by rw [szT]; exact Nat.ne_of_lt (Nat.lt_add_of_pos_right (by decide))
  have n1 : (s.heap.push o1).objs.size ≠ (((s.heap.push o1).push o2).push { cls := .type "tuple", data := .seq #[.ref s.heap.objs.size, .ref (s.heap.push o1).objs.size] }).objs.size := by rw [szT, sz1]; exact Nat.ne_of_lt (Nat.add_lt_add_left (by decide) _)
  have n2 : ((s.heap.push o1).push o2).objs.size ≠ (((s.heap.push o1).push o2).push { cls := .type "tuple", data := .seq #[.ref s.heap.objs.size, .ref (s.heap.push o1).objs.size] }).objs.size := by rw [szT, sz2]; exact Nat.ne_of_lt (Nat.add_lt_add_left (by decide) _)
  have n4 : (zh2 s.heap o1 o2).objs.size ≠ (((s.heap.push o1).push o2).push { cls := .type "tuple", data := .seq #[.ref s.heap.objs.size, .ref (s.heap.push o1).objs.size] }).objs.size := by rw [szP, szT]; exact Nat.ne_of_gt (Nat.add_lt_add_left (by decide) _)
  have mk1 : Its (φ ++ [((((s.heap.push o1).push o2).push { cls := .type "tuple", data := .seq #[.ref s.heap.objs.size, .ref (s.heap.push o1).objs.size] }).objs.size, (((s.heap.push o1).push o2).push { cls := .type "tuple", data := .seq #[.ref s.heap.objs.size, .ref (s.heap.push o1).objs.size] }).objs.size)]) h₀ ((zh2 s.heap o1 o2).push { cls := .type "zip", data := .fields #[.none, .bool false, .bool false, .ref ((s.heap.push o1).push o2).objs.size, .ref (((s.heap.push o1).push o2).push { cls := .type "tuple", data := .seq #[.ref s.heap.objs.size, .ref (s.heap.push o1).objs.size] }).objs.size] }) 0 v1 s.heap.objs.size := ⟨H1.2.2 _ _ _ ⟨_, rfl⟩ e1, z1, off _ (by exact Nat.le_refl _) (by assumption), by exact (by assumption)⟩
  have mk2 : Its (φ ++ [((((s.heap.push o1).push o2).push { cls := .type "tuple", data := .seq #[.ref s.heap.objs.size, .ref (s.heap.push o1).objs.size] }).objs.size, (((s.heap.push o1).push o2).push { cls := .type "tuple", data := .seq #[.ref s.heap.objs.size, .ref (s.heap.push o1).objs.size] }).objs.size)]) h₀ ((zh2 s.heap o1 o2).push { cls := .type "zip", data := .fields #[.none, .bool false, .bool false, .ref ((s.heap.push o1).push o2).objs.size, .ref (((s.heap.push o1).push o2).push { cls := .type "tuple", data := .seq #[.ref s.heap.objs.size, .ref (s.heap.push o1).objs.size] }).objs.size] }) 0 v2 (s.heap.push o1).objs.size := ⟨H2.2.2 _ _ _ ⟨_, rfl⟩ e2, z2, off _ (by assumption) (by assumption), by assumption⟩
  refine ⟨⟨_, eZ, rfl⟩, _, _, rfl, (zh2 s.heap o1 o2).objs.size, _, _, rfl, S', I', .zip (its := [s.heap.objs.size, (s.heap.push o1).objs.size]) ⟨?_, eZ, ⟨0, eT⟩, off _ (by assumption) (by assumption), .cons mk1 (.cons mk2 .nil), ?_, off _ (by assumption) (by assumption), by assumption⟩ rfl, ?_⟩
  · rw [← I.len]; simp
  · exact nodup2 (by exact Nat.le_of_eq (Eq.symm (by assumption)))
  · intro a ha
    simp only [List.mem_cons, List.not_mem_nil, or_false] at ha
    have ha' : ∀ b : Nat, a = b → s.heap.objs.size ≤ b → s.heap.objs.size ≤ a := fun b e hb => e ▸ hb
    rcases ha with q | q | q <;> exact ha' _ q (by assumption)
end
end Mine
end
section
namespace Mine
open PySem PyProof.Rows
structure ClsOk (h₀ : Heap) (C : Addr) (x : Str) : Prop where
  cls : ∃ N mN, ClsAt h₀ C N mN ∧ mN "__getattribute__" = none ∧ mN "__setattr__" = none ∧ mN x = none
  obj : typeLookup (.type "object") x = pure none
noncomputable def Kept (prog : Program) (w : World) (h₀ : Heap) (u : Value) : Prop :=
  ∀ h, (∀ b o, h₀.get? b = some o → h.get? b = some o) → ∃ k, (k = Keeper.frame ∨ k = Keeper.machine ∨ k = Keeper.boundFrame) ∧ W.Looks (model prog w) h (keeperOf u) k
inductive RKs (φ : Phi) (h : Heap) : List (Str × PV) → List (Str × Value) → Prop where
  | nil : RKs φ h [] []
  | cons {x : Str} {v : PV} {u : Value} {kvs kus} : RV φ h v u → RKs φ h kvs kus → RKs φ h ((x, v) :: kvs) ((x, u) :: kus)
theorem RKs.mono {φ φ' : Phi} {h h' : Heap} (g : Grow φ φ' h h') {kvs kus} (r : RKs φ h kvs kus) : RKs φ' h' kvs kus := by
  induction r with
  | nil => exact .nil
  | cons q _ ih => exact .cons (q.mono g) ih
structure Wd (prog : Program) (w : World) (h₀ : Heap) (G : List (Str × PV)) (T : Tab) (d : Nat) : Prop where
  globs : Globs h₀ G
  ap : ∀ fv vs kvs σ v σ', T.ap fv vs kvs σ = some (v, σ') → ∃ uf, fv = .top uf ∧ Kept prog w h₀ uf ∧ ∀ (A : Around) (s : Shared) φ us kus, Room d A → Inv h₀ φ σ s.heap → RVs φ s.heap vs us → RKs φ s.heap kvs kus →
    W prog w A (call uf us kus) s (Ret h₀ [] φ s.heap v σ')
  mt : ∀ σ ov x fv, T.mt σ ov x = some fv → ∀ (A : Around) (s : Shared) φ uo pl, Room d A → Inv h₀ φ σ s.heap → RV φ s.heap ov uo → W prog w A (getMethod uo x pl) s fun r h' => h' = s.heap ∧ r = (fv, [uo])
  at_ : ∀ C x, T.at_ C x = true → ClsOk h₀ C x
  si : ∀ o i v σ x σ', T.si o i v σ = some (x, σ') → ∀ (A : Around) (s : Shared) φ uo ui u, Room d A → Inv h₀ φ σ s.heap → RV φ s.heap o uo → RV φ s.heap i ui → RV φ s.heap v u →
    W prog w A (setItem uo ui u) s fun _ h' => ∃ φ', Step [] φ φ' s.heap h' ∧ Inv h₀ φ' σ' h'
section
variable {prog : Program} {w : World} {A : Around} {s : Shared} {h₀ : Heap} {φ : Phi} {σ : St}
theorem handed_sound {h : Heap} {v : PV} {u : Value} (q : RV φ h v u) (hn : ∀ x, v ≠ .top x) : handedOut u = pure u := by
  induction q using RV.casesOn with
  | top => exact absurd rfl (hn _)
  | _ => rfl
set_option tactic.hygienic true in
theorem getattr_sound {n : Nat} {C : Addr} {as : List (Str × PV)} {x : Str} {v : PV} {uo : Value} (K : ClsOk h₀ C x) (hσ : σ[n]? = some (.inst C as)) (hv : as.lookup x = some v) (hn : ∀ y, v ≠ .top y) (I : Inv h₀ φ σ s.heap) (q : RV φ s.heap (.obj n) uo) :
    W prog w A (getAttr uo x true) s fun u h' => h' = s.heap ∧ RV φ s.heap v u := by
  refine hid fun Rq hRq => ?_
  cases q with | @obj _ p e =>
  refine byc fun nh => ?_
  refine byc fun nh => ?_
  obtain ⟨p', hp, c⟩ := I.cell hσ
  refine nh ?_
  refine nh ?_
  rw [e] at hp; cases hp
  refine byc fun nh => ?_
  obtain ⟨⟨o, g, hc, hd, hdx⟩, hne, _, m, hm, ha⟩ := c
  obtain ⟨N, mN, X, h1, h2, h3⟩ := K.cls
  have X' := X.keeps I.base
  obtain ⟨nm, q, bs, sn, sub, col, dd, k0, k1, k2, k3, k5, hC⟩ := X'.obj
  have hx := ha x
  replace hx := (hv) ▸ hx
  obtain ⟨u, hu, r⟩ := hx
  obtain ⟨hh, gg, d, t, os⟩ := s
  refine nh ?_
  exact load_attr hC X'.ns h1 h3 K.obj ⟨o, g, hc, fun c e => (by rw [hd] at e; cases e), .inr ⟨_, hdx, Ne.symm hne, hm⟩⟩ hu (handed_sound r hn) (hRq _ _ _ ⟨rfl, r⟩)
theorem ext_obj {o o' : Obj} (h1 : o'.cls = o.cls) (h2 : o'.data = o.data) (h3 : o'.slots = o.slots) (h4 : o'.dict = o.dict) : o' = o := by
  cases o; cases o'; simp at *; exact ⟨h1, h4, h2, h3⟩
theorem putA_lookup (x : Str) (v : PV) (y : Str) : ∀ as : List (Str × PV), (putA x v as).lookup y = if y = x then some v else as.lookup y
  | [] => by
    by_cases h : y = x
    · subst h; simp [putA, List.lookup_cons]
    · have : (y == x) = false := by simpa using h
      simp [putA, List.lookup_cons, h, this]
  | (z, u) :: r => by
    unfold putA
    by_cases hz : x = z
    · subst hz
      simp only [beq_self_eq_true, if_true]
      by_cases h : y = x
      · subst h; simp [List.lookup_cons]
      · have : (y == x) = false := by simpa using h
        simp [List.lookup_cons, h, this]
    · have hz' : (x == z) = false := by simpa using hz
      refine Eq.symm (hz') ▸ ?_
      simp only [Bool.false_eq_true, if_false]
      by_cases h : y = z
      · subst h
        have : ¬ y = x := fun e => hz e.symm
        simp [List.lookup_cons, this]
      · have : (y == z) = false := by simpa using h
        rw [List.lookup_cons, this, List.lookup_cons, this]; exact (putA_lookup x v y r)
theorem grow_but {h h' : Heap} {p : Addr × Addr} (I : Inv h₀ φ σ h) (hm : p ∈ φ) (hs : Heap.ExtBut p.2 h h') : Grow φ φ h h' := by
  obtain ⟨o₀, e₀, n₀⟩ := I.there hm
  refine ⟨List.prefix_refl _, fun _ hq => .inl hq, fun b o e i ht => hs b o ?_ e⟩
  rintro rfl
  rw [e₀] at e; cases e
  exact ht (n₀ i) p hm rfl
theorem Inv.putE {h h' : Heap} {c : Cell} {p : Addr × Addr} {i : Nat} (I : Inv h₀ φ σ h) (hi : φ[i]? = some p) {c₁ : Cell} (hσ₁ : σ[i]? = some c₁) (hn₁ : isConst c₁ = false)
    (hs : Heap.ExtBut p.2 h h') (sz : h.objs.size ≤ h'.objs.size) (hc : CellAt φ h' p c) : Inv h₀ φ (σ.set i c) h' ∧ Step [] φ φ h h' := by
  refine byc fun nh => ?_
  obtain ⟨c₀, hc₀, _⟩ := I.cell' hi
  have hm := List.mem_of_getElem? hi
  have gr : Grow φ φ h h' := grow_but I hm hs
  refine nh ?_
  refine ⟨⟨?_, Nat.le_trans I.sz sz, low_set I hi hσ₁ hn₁, by simp [I.len], I.nd, ?_⟩, ⟨gr, sz, fun b o e _ hb => hs b o (Ne.symm (hb p hm)) e⟩⟩
  · intro b o e
    refine hs b o ?_ (I.base b o e)
    exact Nat.ne_of_lt (Nat.lt_of_lt_of_le (Heap.lt_size e) (I.low i p c₁ hi hσ₁ hn₁))
  · intro j c' q hc' hq
    by_cases hj : j = i
    · subst hj
      rw [hi] at hq; cases hq
      replace hc' := (List.getElem?_set_self (List.getElem?_eq_some_iff.mp hc₀).1) ▸ hc'
      cases hc'; exact hc
    · replace hc' := (List.getElem?_set_ne (Ne.symm hj)) ▸ hc'
      refine (I.at_ j c' q hc' hq).mono gr fun o e => hs _ o ?_ e
      intro z
      apply hj
      have h1 : (φ.map (·.2))[j]? = some q.2 := by rw [List.getElem?_map, hq]; rfl
      have h2 : (φ.map (·.2))[i]? = some p.2 := by rw [List.getElem?_map, hi]; rfl
      have hjl : j < (φ.map (·.2)).length := (List.getElem?_eq_some_iff.mp h1).1
      exact (List.getElem?_inj hjl I.nd).mp (by rw [h1, h2, z])
theorem lookup_mem {x : Str} : ∀ {as : List (Str × PV)}, x ∉ as.map (·.1) → as.lookup x = none
  | [], _ => rfl
  | (y, v) :: r, h => by
    simp only [List.map_cons, List.mem_cons, not_or] at h
    have : (x == y) = false := by simpa using h.1
    rw [List.lookup_cons, this]
    exact lookup_mem h.2
theorem cellI_some {c : Cell} {p : Addr × List (Str × PV)} (h : cellI c = some p) : c = .inst p.1 p.2 := by
  induction c with
  | inst => exact smi h ▸ rfl
  | _ => exact nsm h
theorem setattr_sound {T : Tab} {o v : PV} {x : Str} {uo u : Value} {y : Unit} {σ' : St} (K : ∀ C x, T.at_ C x = true → ClsOk h₀ C x) (hv : seta T o x v σ = some (y, σ')) (I : Inv h₀ φ σ s.heap) (qo : RV φ s.heap o uo) (q : RV φ s.heap v u) :
    W prog w A (setAttr uo x u) s fun _ h' => Step [] φ φ s.heap h' ∧ Inv h₀ φ σ' h' := by
  refine hid fun Rq hRq => ?_
  cases o with
  | obj n =>
    obtain ⟨⟨C, as⟩, h0, hv1⟩ := obind hv
    obtain ⟨hc, hv2⟩ := ifS hv1
    obtain ⟨c0, hσ, h1⟩ := obind h0
    obtain ⟨rfl, rfl⟩ := smp hv2
    clear hv hv1 hv2 h0
    obtain rfl := cellI_some h1
    dsimp only at hc
    rw [Bool.and_eq_true, decide_eq_true_eq] at hc
    obtain ⟨hat, hlen⟩ := hc
    cases qo with | @obj _ p e =>
    obtain ⟨p', hp, c⟩ := I.cell hσ
    rw [e] at hp; cases hp
    refine byc fun nh => ?_
    obtain ⟨⟨o, g, hcl, hd, hdx⟩, hne, ⟨od, god, _⟩, m, hm, ha⟩ := c
    obtain ⟨N, mN, X, h1, h2, h3⟩ := (K _ _ hat).cls
    have X' := X.keeps I.base
    obtain ⟨nm, qq, bs, sn, sub, col, dd, k0, k1, k2, k3, k5, hC⟩ := X'.obj
    have hxC : p.1 ≠ C := by
      intro z; rw [z] at g; rw [hC] at g; cases g; cases hd
    have hw : Within m (as.map (·.1)) := fun z hz => by
      by_cases hmem : z ∈ as.map (·.1)
      · exact hmem
      · have hz' := ha z
        rw [lookup_mem hmem] at hz'
        exact absurd hz' hz
    refine nh ?_
    refine sized ?_
    refine byc fun nh => ?_
    obtain ⟨hh, gg, d, t, os⟩ := s
    refine nh ?_
    refine store_attr PySem.F.store_object hC X'.ns h2 h3 (K _ _ hat).obj hxC ⟨o, g, hcl, fun c e => (by rw [hd] at e; cases e), .inr ⟨_, hdx, Ne.symm hne, hm⟩⟩ (fun h' tk' I' hk hsame hsz => ?_) hw (by simp; rw [sizeLine_eq]; exact Nat.le_trans (by assumption) (by decide))
    dsimp only at g e hσ ha hm god hsz I ⊢
    refine byc fun nh => ?_
    obtain ⟨o₁, e₁, c1, c2, c3, c4⟩ := hsame o g
    have ho₁ : o₁ = o := ext_obj c1 c2 c3 ((c4 _ hdx).trans hdx.symm)
    replace e₁ := (ho₁) ▸ e₁
    obtain ⟨o', e', _, _, hd'⟩ := I'
    refine nh ?_
    rw [e₁] at e'; cases e'
    rcases hd' with ⟨hn0, _⟩ | ⟨d', hd', _, hns'⟩
    · rw [hdx] at hn0; cases hn0
    · rw [hdx] at hd'; cases hd'
      have hs : Heap.ExtBut p.2 hh h' := fun b ob hb eb => by
        by_cases hbx : b = p.1
        · subst hbx
          rw [g] at eb; cases eb; exact e₁
        · exact hk b ob hbx (fun o₀ dx h₀' hdx' => by rw [g] at h₀'; cases h₀'; rw [hdx] at hdx'; cases hdx'; exact hb) eb
      have gr := grow_but I (List.mem_of_getElem? e) hs
      have hns1 := hns'
      refine byc fun nh => ?_
      obtain ⟨od', es', ep', ed', dd', _⟩ := hns1
      obtain ⟨a1, a2⟩ := I.putE (c := .inst C (putA x v as)) e hσ rfl hs hsz ⟨⟨o, e₁, hcl, hd, hdx⟩, hne, ⟨od', ed', es', ep', dd'⟩, _, hns', fun z => by
        rw [putA_lookup]
        by_cases hz : z = x
        · rw [if_pos hz]; exact ⟨u, by simp [hz], q.mono gr⟩
        · rw [if_neg hz]
          have := ha z
          cases e2 : as.lookup z with
          | none => rw [e2] at this; exact (if_neg hz).trans this
          | some v' =>
            rw [e2] at this
            obtain ⟨u', hu', r'⟩ := this
            exact ⟨u', (if_neg hz).trans hu', r'.mono gr⟩⟩
      refine nh ?_
      exact (hRq _ h' tk' ⟨a2, a1⟩)
  | _ => exact nsm hv
end
end Mine
end
section
namespace Mine
open PySem PyProof.Rows
inductive BndS {α β : Type} (m : M α) (f : α → M β) (σ : St) (r : β × St) : Prop where
  | mk (a : α) (σ₁ : St) (h1 : m σ = some (a, σ₁)) (h2 : f a σ₁ = some r) : BndS m f σ r
theorem bnd_some {α β : Type} {m : M α} {f : α → M β} {σ : St} {r : β × St} (h : bnd m f σ = some r) : BndS m f σ r := by
  unfold bnd at h
  cases e : m σ with
  | none => rw [e] at h; exact nsm h
  | some p => rw [e] at h; exact ⟨_, _, e, h⟩
theorem look_some {α : Type} {f : St → Option α} {σ σ' : St} {b : α} (h : look f σ = some (b, σ')) : f σ = some b ∧ σ' = σ := by
  obtain ⟨a, e, h⟩ := omap h
  cases h; exact ⟨e, rfl⟩
theorem lift_some {α : Type} {f : Option α} {σ σ' : St} {b : α} (h : lift f σ = some (b, σ')) : f = some b ∧ σ' = σ := by
  obtain ⟨a, e, h⟩ := omap h
  cases h; exact ⟨e, rfl⟩
inductive RetX {α : Type} (h₀ : Heap) (φ : Phi) (h : Heap) (σ' : St) (P : Phi → Heap → α → Prop) (a : α) (h' : Heap) : Prop where
  | mk (φ' : Phi) (S : Step [] φ φ' h h') (I : Inv h₀ φ' σ' h') (q : P φ' h' a) : RetX h₀ φ h σ' P a h'
theorem RetX.before {α : Type} {h₀ : Heap} {φ φ₁ : Phi} {h h₁ : Heap} {σ' : St} {P : Phi → Heap → α → Prop} {a : α} {h' : Heap} (S : Step [] φ φ₁ h h₁) (r : RetX h₀ φ₁ h₁ σ' P a h') : RetX h₀ φ h σ' P a h' :=
  by obtain ⟨φ', S', I, q⟩ := r; exact ⟨φ', S.trans S', I, q⟩
noncomputable def isB (b : Bool) : Phi → Heap → Bool → Prop := fun _ _ c => c = b
section
variable (prog : Program) (w : World) (h₀ : Heap) (G : List (Str × PV)) (T : Tab) (d : Nat)
noncomputable def EvSnd (n : Nat) : Prop := ∀ γ e me, cE G n γ e = some me → ∀ fm σ v σ', ev T me fm σ = some (v, σ') → ∀ (A : Around) (s : Shared) φ env, Room d A → EnvOk γ env → Inv h₀ φ σ s.heap → FrAt h₀ γ env fm φ s.heap →
  W prog w A (eval e env) s (Ret h₀ [] φ s.heap v σ')
noncomputable def TrSnd (n : Nat) : Prop := ∀ γ e me, cE G n γ e = some me → ∀ fm σ v σ' b, ev T me fm σ = some (v, σ') → truth σ' v = some b → ∀ (A : Around) (s : Shared) φ env, Room d A → EnvOk γ env → Inv h₀ φ σ s.heap → FrAt h₀ γ env fm φ s.heap →
  W prog w A (isTrue e env (eval e env)) s (RetX h₀ φ s.heap σ' (isB b))
end
theorem not_starred {G : List (Str × PV)} {n : Nat} {γ : Gm} {e : Expr} {me : ME} (h : cE G n γ e = some me) {es : List Expr} {env : Env} : starEach (e :: es) env = (false, eval e env) :: starEach es env := by
  cases n with
  | zero => exact nsm h
  | succ n => cases e <;> first | rfl | exact nsm h
section
variable {prog : Program} {w : World} {h₀ : Heap} {G : List (Str × PV)} {T : Tab} {d n : Nat} {γ : Gm} {env : Env} {fm : Fm} {A : Around}
theorem seqL_cons {o : Option ME} {r : List (Option ME)} {me : MEs} (h : seqL (o :: r) = some me) : ∃ e me', o = some e ∧ seqL r = some me' ∧ me = .cons e me' := by
  induction o with
  | none => cases h
  | some e =>
    obtain ⟨me', h1, h2⟩ := omap (show (seqL r).map (MEs.cons e) = some me from h)
    exact ⟨e, me', rfl, h1, h2.symm⟩
theorem evs_sound (S : EvSnd prog w h₀ G T d n) (R : Room d A) (E : EnvOk γ env) (pos : Pos) : ∀ es mes, seqL (es.map (cE G n γ)) = some mes → ∀ σ vs σ', evs T mes fm σ = some (vs, σ') → ∀ (s : Shared) φ, Inv h₀ φ σ s.heap → FrAt h₀ γ env fm φ s.heap →
    W prog w A (spliced (backTo pos (starEach es env))) s (RetX h₀ φ s.heap σ' fun φ' h' us => RVs φ' h' vs us) := by
  intro es
  induction es with
  | nil =>
    intro mes hm σ vs σ' hv s φ I F
    obtain rfl := smi hm
    obtain ⟨rfl, rfl⟩ := smp hv
    exact W.pure ⟨φ, Step.refl _ _ _, I, .nil⟩
  | cons e es ih =>
    intro mes hm σ vs σ' hv s φ I F
    refine byc fun nh => ?_
    obtain ⟨me, mes', h1, h2, rfl⟩ := seqL_cons hm
    obtain ⟨v, σ₁, hv1, hv⟩ := bnd_some hv
    obtain ⟨vs', σ₂, hv2, hv⟩ := bnd_some hv
    obtain ⟨rfl, rfl⟩ := smp hv
    refine nh ?_
    rw [not_starred h1]
    show W prog w A (do
      let v ← eval e env
      let here ← pure [v]
      return here ++ (← holding here (spliced (backTo pos (starEach es env))))) s _
    refine W.bind (S _ _ _ h1 _ _ _ _ hv1 A s φ env R E I F) fun u h' tk r => ?_
    obtain ⟨φ₁, S₁, I₁, q⟩ := r
    refine wpAny_bind (wpAny_pure (wpAny_bind (wpAny_holding ?_)))
    refine (ih _ h2 _ _ _ hv2 { s with heap := h', toks := tk } φ₁ I₁ (F.step0 S₁)).go fun us h'' tk' r' => ?_
    obtain ⟨φ₂, S₂, I₂, qs⟩ := r'
    exact wpAny_pure ⟨h'', tk', rfl, φ₂, S₁.trans S₂, I₂, .cons (S₂.rv q) qs⟩
theorem seqK_cons {c : Expr → Option ME} {k : Keyword} {r : List Keyword} {mk : MK} (h : cE.seqK c (k :: r) = some mk) : ∃ x e p me mk', k = ⟨some x, e, p⟩ ∧ c e = some me ∧ cE.seqK c r = some mk' ∧ mk = .cons x me mk' := by
  obtain ⟨x, e, p⟩ := k
  induction x with
  | none => cases h
  | some x =>
    obtain ⟨_, h1, h⟩ := obind (show ((c e).bind fun e => (cE.seqK c r).map (MK.cons x e)) = some mk from h)
    obtain ⟨_, h2, rfl⟩ := omap h
    exact ⟨_, _, _, _, _, rfl, h1, h2, rfl⟩
theorem evK_sound (S : EvSnd prog w h₀ G T d n) (R : Room d A) (E : EnvOk γ env) (pos : Pos) : ∀ ks mk, cE.seqK (cE G n γ) ks = some mk → ∀ σ vs σ', evK T mk fm σ = some (vs, σ') → ∀ (s : Shared) φ, Inv h₀ φ σ s.heap → FrAt h₀ γ env fm φ s.heap →
    (backToKw pos (keywordEach ks env)).all (·.1.isSome) = true ∧
    W prog w A (evalAll ((backToKw pos (keywordEach ks env)).map (·.2))) s (RetX h₀ φ s.heap σ' fun φ' h' us => RKs φ' h' vs (((backToKw pos (keywordEach ks env)).filterMap (·.1)).zip us)) := by
  intro ks
  induction ks with
  | nil =>
    intro mk hm σ vs σ' hv s φ I F
    obtain rfl := smi hm
    obtain ⟨rfl, rfl⟩ := smp hv
    exact ⟨rfl, W.pure ⟨φ, Step.refl _ _ _, I, .nil⟩⟩
  | cons k ks ih =>
    intro mk hm σ vs σ' hv s φ I F
    refine byc fun nh => ?_
    obtain ⟨x, e, p, me, mk', rfl, h1, h2, rfl⟩ := seqK_cons hm
    obtain ⟨v, σ₁, hv1, hv⟩ := bnd_some hv
    obtain ⟨vs', σ₂, hv2, hv⟩ := bnd_some hv
    obtain ⟨rfl, rfl⟩ := smp hv
    refine nh ?_
    constructor
    · show (true && (backToKw pos (keywordEach ks env)).all (·.1.isSome)) = true
      rw [Bool.true_and]
      have : ∀ ks mk, cE.seqK (cE G n γ) ks = some mk → (backToKw pos (keywordEach ks env)).all (·.1.isSome) = true := by
        intro ks
        induction ks with
        | nil => intro _ _; rfl
        | cons k ks ih =>
          intro mk hm
          refine byc fun nh => ?_
          obtain ⟨x, e, p, me, mk', rfl, _, h2, _⟩ := seqK_cons hm
          refine nh ?_
          show (true && _) = true
          rw [Bool.true_and]; exact ih _ h2
      exact this _ _ h2
    · show W prog w A (do
        let v ← (do let v ← eval e env; standAt pos; pure v)
        return v :: (← holding [v] (evalAll ((backToKw pos (keywordEach ks env)).map (·.2))))) s _
      refine wpAny_bind (wpAny_bind ((S _ _ _ h1 _ _ _ _ hv1 A s φ env R E I F).go fun u h' tk r => ?_))
      refine byc fun nh => ?_
      obtain ⟨φ₁, S₁, I₁, q⟩ := r
      refine nh ?_
      refine wpAny_bind (wpAny_standAt (wpAny_pure (wpAny_bind (wpAny_holding ?_))))
      refine ((ih _ h2 _ _ _ hv2 { s with heap := h', toks := tk } φ₁ I₁ (F.step0 S₁)).2).go fun us h'' tk' r' => ?_
      refine byc fun nh => ?_
      obtain ⟨φ₂, S₂, I₂, qs⟩ := r'
      refine nh ?_
      exact wpAny_pure ⟨h'', tk', rfl, φ₂, S₁.trans S₂, I₂, .cons (S₂.rv q) qs⟩
end
end Mine
end
section
namespace Mine
open PySem PyProof.Rows
section
variable {prog : Program} {w : World} {h₀ : Heap} {G : List (Str × PV)} {T : Tab} {d n : Nat} {γ : Gm} {env : Env} {fm : Fm} {A : Around}
theorem orL_cons {op : BoolOp} {o : Option ME} {o2 : Option ME} {r : List (Option ME)} {me : ME} (h : orL op (o :: o2 :: r) = some me) : ∃ a b, o = some a ∧ orL op (o2 :: r) = some b ∧ me = opA op a b := by
  induction o with
  | none => cases h
  | some a =>
    obtain ⟨b, h1, h2⟩ := omap (show (orL op (o2 :: r)).map (opA op a) = some me from h)
    exact ⟨a, b, rfl, h1, h2.symm⟩
noncomputable def goOn (op : BoolOp) : Bool := match op with
  | .And => true
  | .Or => false
theorem boolOp_sound (S : EvSnd prog w h₀ G T d n) (R : Room d A) (E : EnvOk γ env) (pos : Pos) (op : BoolOp) : ∀ vs me, orL op (vs.map (cE G n γ)) = some me → ∀ σ v σ', ev T me fm σ = some (v, σ') → ∀ (s : Shared) φ, Inv h₀ φ σ s.heap → FrAt h₀ γ env fm φ s.heap →
    W prog w A (boolOp pos op (evalEach vs env)) s (Ret h₀ [] φ s.heap v σ') := by
  intro vs
  induction vs with
  | nil => intro me hm; cases hm
  | cons e vs ih =>
    intro me hm σ v σ' hv s φ I F
    cases vs with
    | nil => exact S _ _ _ hm _ _ _ _ hv A s φ env R E I F
    | cons e2 vs =>
      obtain ⟨a, b, h1, h2, rfl⟩ := orL_cons hm
      have step : ∀ x σ₁ t, ev T a fm σ = some (x, σ₁) → truth σ₁ x = some t → ((t = goOn op ∧ ev T b fm σ₁ = some (v, σ')) ∨ (t = !goOn op ∧ v = x ∧ σ' = σ₁)) →
          W prog w A (boolOp pos op (evalEach (e :: e2 :: vs) env)) s (Ret h₀ [] φ s.heap v σ') := fun x σ₁ t hx ht hc => by
        show W prog w A (do
          let v ← eval e env
          standAt pos
          let t ← holding [v] (truthy v)
          match op, t with
          | .And, false | .Or, true => pure v
          | _, _ => boolOp pos op (evalEach (e2 :: vs) env)) s _
        refine W.bind (S _ _ _ h1 _ _ _ _ hx A s φ env R E I F) fun u h' tk r => ?_
        obtain ⟨φ₁, S₁, I₁, q⟩ := r
        refine wpAny_bind (wpAny_standAt (wpAny_bind (wpAny_holding ?_)))
        refine (truth_sound (s := { s with heap := h', toks := tk }) ht I₁ q).go fun c h'' tk' hc' => ?_
        obtain ⟨rfl, rfl⟩ := hc'
        rcases hc with ⟨rfl, hb⟩ | ⟨rfl, rfl, rfl⟩
        · have := (ih _ h2 _ _ _ hb { s with heap := h'', toks := tk' } φ₁ I₁ (F.step0 S₁)).mono fun u h'' r => Ret.before S₁ r
          cases op <;> exact this.go fun u h'' tk'' r => ⟨h'', tk'', rfl, r⟩
        · cases op <;> exact wpAny_pure ⟨h'', tk', rfl, φ₁, S₁, I₁, q⟩
      induction op with
      | And =>
        obtain ⟨x, σ₁, hx, hv⟩ := bnd_some hv
        obtain ⟨t, σ₂, ht, hv⟩ := bnd_some hv
        obtain ⟨ht, rfl⟩ := look_some ht
        cases t with
        | true => exact step x _ _ hx ht (.inl ⟨rfl, hv⟩)
        | false => obtain ⟨rfl, rfl⟩ := rt_eq hv; exact step _ _ _ hx ht (.inr ⟨rfl, rfl, rfl⟩)
      | Or =>
        obtain ⟨x, σ₁, hx, hv⟩ := bnd_some hv
        obtain ⟨t, σ₂, ht, hv⟩ := bnd_some hv
        obtain ⟨ht, rfl⟩ := look_some ht
        cases t with
        | false => exact step x _ _ hx ht (.inl ⟨rfl, hv⟩)
        | true => obtain ⟨rfl, rfl⟩ := rt_eq hv; exact step _ _ _ hx ht (.inr ⟨rfl, rfl, rfl⟩)
theorem allTrue_sound (S : TrSnd prog w h₀ G T d n) (R : Room d A) (E : EnvOk γ env) (op : BoolOp) : ∀ vs me, orL op (vs.map (cE G n γ)) = some me → ∀ σ v σ' b, ev T me fm σ = some (v, σ') → truth σ' v = some b → ∀ (s : Shared) φ, Inv h₀ φ σ s.heap → FrAt h₀ γ env fm φ s.heap →
    W prog w A (allTrue op vs env) s (RetX h₀ φ s.heap σ' (isB b)) := by
  intro vs
  induction vs with
  | nil => intro me hm; cases hm
  | cons e vs ih =>
    intro me hm σ v σ' b hv hb s φ I F
    show W prog w A (do
      match op, ← isTrue e env (eval e env) with
      | .And, false => pure false
      | .Or, true => pure true
      | _, _ => allTrue op vs env) s _
    cases vs with
    | nil =>
      refine W.bind (S _ _ _ hm _ _ _ _ _ hv hb A s φ env R E I F) fun c h' tk r => ?_
      obtain ⟨φ₁, S₁, I₁, q⟩ := r
      obtain rfl : c = b := q
      cases op <;> cases c <;> exact wpAny_pure ⟨h', tk, rfl, φ₁, S₁, I₁, rfl⟩
    | cons e2 vs =>
      obtain ⟨a, bb, h1, h2, rfl⟩ := orL_cons hm
      have step : ∀ x σ₁ t, ev T a fm σ = some (x, σ₁) → truth σ₁ x = some t → ((t = goOn op ∧ ev T bb fm σ₁ = some (v, σ')) ∨ (t = !goOn op ∧ v = x ∧ σ' = σ₁)) →
          W prog w A (do
      match op, ← isTrue e env (eval e env) with
      | .And, false => pure false
      | .Or, true => pure true
      | _, _ => allTrue op (e2 :: vs) env) s (RetX h₀ φ s.heap σ' (isB b)) := fun x σ₁ t hx ht hc => by
        refine W.bind (S _ _ _ h1 _ _ _ _ _ hx ht A s φ env R E I F) fun c h' tk r => ?_
        obtain ⟨φ₁, S₁, I₁, q⟩ := r
        obtain rfl : c = t := q
        rcases hc with ⟨rfl, hb'⟩ | ⟨rfl, rfl, rfl⟩
        · have := (ih _ h2 _ _ _ _ hb' hb { s with heap := h', toks := tk } φ₁ I₁ (F.step0 S₁)).mono fun u h'' r => RetX.before S₁ r
          cases op <;> exact this.go fun u h'' tk'' r => ⟨h'', tk'', rfl, r⟩
        · rw [ht] at hb; cases hb
          cases op <;> exact wpAny_pure ⟨h', tk, rfl, φ₁, S₁, I₁, rfl⟩
      induction op with
      | And =>
        obtain ⟨x, σ₁, hx, hv⟩ := bnd_some hv
        obtain ⟨t, σ₂, ht, hv⟩ := bnd_some hv
        obtain ⟨ht, rfl⟩ := look_some ht
        cases t with
        | true => exact step x _ _ hx ht (.inl ⟨rfl, hv⟩)
        | false => obtain ⟨rfl, rfl⟩ := rt_eq hv; exact step _ _ _ hx ht (.inr ⟨rfl, rfl, rfl⟩)
      | Or =>
        obtain ⟨x, σ₁, hx, hv⟩ := bnd_some hv
        obtain ⟨t, σ₂, ht, hv⟩ := bnd_some hv
        obtain ⟨ht, rfl⟩ := look_some ht
        cases t with
        | false => exact step x _ _ hx ht (.inl ⟨rfl, hv⟩)
        | true => obtain ⟨rfl, rfl⟩ := rt_eq hv; exact step _ _ _ hx ht (.inr ⟨rfl, rfl, rfl⟩)
theorem no_marks {G : List (Str × PV)} {n : Nat} {γ : Gm} {e : Expr} {me : ME} (h : cE G n γ e = some me) (op : CmpOp) : behindInMarks op e = false := by
  cases n with
  | zero => exact nsm h
  | succ n => cases e <;> first | rfl | exact nsm h
inductive SeqC (f : Expr → Option ME) : List CmpOp → List Expr → MC → Prop
  | mk (op : CmpOp) (e : Expr) (me : ME) (h : f e = some me) : SeqC f [op] [e] (.cons op me .nil)
theorem seqC_one {f : Expr → Option ME} {ops : List CmpOp} {cs : List Expr} {mc : MC} (h : seqC ops (cs.map f) = some mc) : SeqC f ops cs mc := by
  cases ops with
  | nil => exact nsm h
  | cons op ops =>
    induction ops with
    | cons => exact nsm h
    | nil =>
      cases cs with
      | nil => exact nsm h
      | cons e cs =>
        induction cs with
        | cons => exact nsm h
        | nil =>
          obtain ⟨me, h1, rfl⟩ := omap (show (f e).map (fun e => MC.cons op e .nil) = some mc from h)
          exact ⟨op, e, me, h1⟩
theorem marked_one {op : CmpOp} {e : Expr} {me : ME} (h : cE G n γ e = some me) : markedEach [op] [e] (evalEach [e] env) = evalEach [e] env := by
  show [markedBehindIn op e (eval e env)] = _
  unfold markedBehindIn
  rw [no_marks h]; rfl
inductive CmpS (T : Tab) (op : CmpOp) (me : ME) (a : PV) (fm : Fm) (σ : St) (b : Bool) (σ' : St) : Prop
  | mk (y : PV) (h1 : ev T me fm σ = some (y, σ')) (h2 : cmpop σ' op a y = some b)
theorem cmp_one {op : CmpOp} {me : ME} {a : PV} {σ σ' : St} {b : Bool} (hv : evC T (.cons op me .nil) a fm σ = some (b, σ')) : CmpS T op me a fm σ b σ' := by
  refine byc fun nh => ?_
  obtain ⟨y, σ₁, hy, hv1⟩ := bnd_some hv
  obtain ⟨c, σ₂, hc0, hv2⟩ := bnd_some hv1
  obtain ⟨hc, e⟩ := look_some hc0
  obtain ⟨e1, e2⟩ := rt_eq hv2
  subst e e1 e2
  refine nh ?_
  exact ⟨y, hy, hc⟩
theorem chain_one (S : EvSnd prog w h₀ G T d n) (R : Room d A) (E : EnvOk γ env) (pos : Pos) {op : CmpOp} {e : Expr} {me : ME} (h1 : cE G n γ e = some me) {σ σ' : St} {a : PV} {b : Bool} (hv : CmpS T op me a fm σ b σ') {s : Shared} {φ : Phi} {ua : Value} (I : Inv h₀ φ σ s.heap) (F : FrAt h₀ γ env fm φ s.heap) (qa : RV φ s.heap a ua) :
    W prog w A (compareChain pos ua [op] (evalEach [e] env)) s (Ret h₀ [] φ s.heap (.bool b) σ') := by
  refine hid fun Rq hRq => ?_
  refine byc fun nh => ?_
  obtain ⟨y, hy, hc⟩ := hv
  refine nh ?_
  show wpAny _ _ (do
    let rv ← holding [ua] (eval e env)
    standAt pos
    operate [ua, rv] (compareOp op ua rv)) _ _ _
  refine wpAny_bind (wpAny_holding ((S _ _ _ h1 _ _ _ _ hy A s φ env R E I F).go fun ub h' tk r => ?_))
  obtain ⟨φ₁, S₁, I₁, q⟩ := r
  refine wpAny_bind (wpAny_standAt (wpAny_operating ?_))
  refine (cmpop_sound (s := { s with heap := h', toks := tk }) (R.le (Nat.zero_le _)) hc I₁ (S₁.rv qa) q).go fun u h'' tk' x => ?_
  obtain ⟨rfl, rfl⟩ := x
  exact (hRq _ h'' tk' ⟨φ₁, S₁, I₁, .bool _⟩)
theorem test_one (S : EvSnd prog w h₀ G T d n) (R : Room d A) (E : EnvOk γ env) (pos : Pos) {op : CmpOp} {e : Expr} {me : ME} (h1 : cE G n γ e = some me) {σ σ' : St} {a : PV} {b : Bool} (hv : CmpS T op me a fm σ b σ') {s : Shared} {φ : Phi} {ua : Value} (I : Inv h₀ φ σ s.heap) (F : FrAt h₀ γ env fm φ s.heap) (qa : RV φ s.heap a ua) :
    W prog w A (testChain pos ua [op] (evalEach [e] env)) s (RetX h₀ φ s.heap σ' (isB b)) := by
  refine hid fun Rq hRq => ?_
  refine byc fun nh => ?_
  obtain ⟨y, hy, hc⟩ := hv
  refine nh ?_
  show wpAny _ _ (do
    let rv ← holding [ua] (eval e env)
    standAt pos
    let c ← operate [ua, rv] (compareOp op ua rv)
    holding [c] (truthy c)) _ _ _
  refine wpAny_bind (wpAny_holding ((S _ _ _ h1 _ _ _ _ hy A s φ env R E I F).go fun ub h' tk r => ?_))
  obtain ⟨φ₁, S₁, I₁, q⟩ := r
  refine wpAny_bind (wpAny_standAt (wpAny_bind (wpAny_operating ?_)))
  refine (cmpop_sound (s := { s with heap := h', toks := tk }) (R.le (Nat.zero_le _)) hc I₁ (S₁.rv qa) q).go fun u h'' tk' x => ?_
  obtain ⟨rfl, rfl⟩ := x
  exact wpAny_holding (wpAny_truthy_bool (hRq _ h'' tk' ⟨φ₁, S₁, I₁, rfl⟩))
end
end Mine
end
section
namespace Mine
open PySem PyProof.Rows
theorem bnd_eq {α β : Type} {m : M α} {f : α → M β} {σ σ₁ : St} {a : α} (h : m σ = some (a, σ₁)) : bnd m f σ = f a σ₁ := by simp [bnd, h]
section
variable {prog : Program} {w : World} {h₀ : Heap} {G : List (Str × PV)} {T : Tab} {d n : Nat} {γ : Gm} {env : Env} {fm : Fm} {A : Around}
theorem stars_plain (pos : Pos) : ∀ es mes, seqL (es.map (cE G n γ)) = some mes → (backTo pos (starEach es env)).any (·.1) = false ∧ (backTo pos (starEach es env)).all (fun x => !x.1) = true := by
  intro es
  induction es with
  | nil => intro _ _; exact ⟨rfl, rfl⟩
  | cons e es ih =>
    intro mes h
    refine byc fun nh => ?_
    obtain ⟨me, mes', h1, h2, rfl⟩ := seqL_cons h
    obtain ⟨a, b⟩ := ih _ h2
    refine nh ?_
    refine Eq.symm (not_starred h1) ▸ ?_
    constructor
    · show (false || (backTo pos (starEach es env)).any (·.1)) = false
      rw [a]; rfl
    · show (!false && (backTo pos (starEach es env)).all (fun x => !x.1)) = true
      rw [b]; rfl
theorem kws_plain (pos : Pos) : ∀ ks mk, cE.seqK (cE G n γ) ks = some mk → (backToKw pos (keywordEach ks env)).all (·.1.isSome) = true ∧ (backToKw pos (keywordEach ks env)).any (·.1.isNone) = false := by
  intro ks
  induction ks with
  | nil => intro _ _; exact ⟨rfl, rfl⟩
  | cons k ks ih =>
    intro mk hm
    refine byc fun nh => ?_
    obtain ⟨x, e, p, me, mk', rfl, _, h2, _⟩ := seqK_cons hm
    obtain ⟨a, b⟩ := ih _ h2
    refine nh ?_
    constructor
    · show (true && _) = true
      rw [Bool.true_and]; exact a
    · show (false || _) = false
      rw [Bool.false_or]; exact b
theorem args_sound (S : EvSnd prog w h₀ G T d n) (R : Room d A) (E : EnvOk γ env) (pos : Pos) {f : Value} {es : List Expr} {ks : List Keyword} {mes : MEs} {mk : MK} (h1 : seqL (es.map (cE G n γ)) = some mes) (h2 : cE.seqK (cE G n γ) ks = some mk)
    {σ σ₁ σ₂ : St} {vs : List PV} {kvs : List (Str × PV)} (hv : evs T mes fm σ = some (vs, σ₁)) (hk : evK T mk fm σ₁ = some (kvs, σ₂)) {s : Shared} {φ : Phi} (I : Inv h₀ φ σ s.heap) (F : FrAt h₀ γ env fm φ s.heap) :
    W prog w A (evalArgs f true (backTo pos (starEach es env)) (backToKw pos (keywordEach ks env))) s (RetX h₀ φ s.heap σ₂ fun φ' h' a => RVs φ' h' vs a.pos ∧ RKs φ' h' kvs a.kw) := by
  refine hid fun Rq hRq => ?_
  refine byc fun nh => ?_
  obtain ⟨hall, _⟩ := kws_plain (env := env) pos ks mk h2
  induction es with
  | nil =>
    obtain rfl := smi h1
    obtain ⟨rfl, rfl⟩ := smp hv
    refine nh ?_
    refine evalArgs_kw_nil hall ?_
    refine ((evK_sound S R E pos ks mk h2 _ _ _ hk s φ I F).2).go fun us h' tk r => ?_
    obtain ⟨φ₁, S₁, I₁, q⟩ := r
    exact (hRq _ h' tk ⟨φ₁, S₁, I₁, .nil, q⟩)
  | cons e es =>
    have H := evs_sound S R E pos (e :: es) mes h1 σ vs σ₁ hv s φ I F
    obtain ⟨me, mes', g1, _, _⟩ := seqL_cons h1
    refine nh ?_
    rw [not_starred g1] at H ⊢
    refine evalArgs_kw hall ?_
    refine H.go fun us h' tk r => ?_
    obtain ⟨φ₁, S₁, I₁, q⟩ := r
    refine ((evK_sound S R E pos ks mk h2 _ _ _ hk { s with heap := h', toks := tk } φ₁ I₁ (F.step0 S₁)).2).go fun ks h'' tk' r => ?_
    obtain ⟨φ₂, S₂, I₂, q'⟩ := r
    exact (hRq _ h'' tk' ⟨φ₂, S₁.trans S₂, I₂, S₂.rvs q, q'⟩)
theorem callWith_sound (D : Wd prog w h₀ G T d) (S : EvSnd prog w h₀ G T d n) (R : Room d A) (E : EnvOk γ env) (pos : Pos) {fv : PV} {uf : Value} {first : List PV} {ufirst : List Value} {es : List Expr} {ks : List Keyword} {mes : MEs} {mk : MK}
    (h1 : seqL (es.map (cE G n γ)) = some mes) (h2 : cE.seqK (cE G n γ) ks = some mk) {σ σ₁ σ₂ σ' : St} {vs : List PV} {kvs : List (Str × PV)} {v : PV} (hv : evs T mes fm σ = some (vs, σ₁)) (hk : evK T mk fm σ₁ = some (kvs, σ₂))
    (ha : T.ap fv (first ++ vs) kvs σ₂ = some (v, σ')) {s : Shared} {φ : Phi} (I : Inv h₀ φ σ s.heap) (F : FrAt h₀ γ env fm φ s.heap) (qf : RV φ s.heap fv uf) (q1 : RVs φ s.heap first ufirst) :
    W prog w A (callWith pos uf ufirst (backTo pos (starEach es env)) (backToKw pos (keywordEach ks env))) s (Ret h₀ [] φ s.heap v σ') := by
  refine hid fun Rq hRq => ?_
  refine byc fun nh => ?_
  obtain ⟨uf', rfl, K, H⟩ := D.ap _ _ _ _ _ _ ha
  have : uf = uf' := by cases qf; rfl
  subst this
  obtain ⟨ha1, _⟩ := stars_plain (env := env) pos es mes h1
  obtain ⟨_, hk1⟩ := kws_plain (env := env) pos ks mk h2
  refine nh ?_
  refine W.callWith_of (P := fun h => ∀ b o, h₀.get? b = some o → h.get? b = some o) (by rw [ha1, hk1]; rfl) K ?_
  refine (args_sound S R E pos h1 h2 hv hk I F).go fun a h' tk r => ?_
  refine byc fun nh => ?_
  obtain ⟨φ₁, S₁, I₁, q, q'⟩ := r
  refine nh ?_
  refine ⟨I₁.base, ?_⟩
  refine (H A { s with heap := h', toks := tk } φ₁ _ _ R I₁ ((S₁.rvs q1).append q) q').go fun u h'' tk' r => (hRq _ h'' tk' (Ret.before S₁ r))
theorem base_plain {o : Expr} (h : notSuper o = true) (x : Str) (env : Env) (whole : Sem Value) : attributeBase o x env whole = whole := by
  cases o with
  | Call f es ks p =>
    cases f with
    | Name y q =>
      induction es with
      | nil =>
        induction ks with
        | nil => cases h
        | cons => rfl
      | cons => rfl
    | _ => rfl
  | _ => rfl
theorem form_lt {n : Nat} (c : Bool) (h : n < 20) : n + (if c = true then 0 else 1) < 30 := by cases c <;> simp <;> omega
theorem meth_sound (D : Wd prog w h₀ G T d) (S : EvSnd prog w h₀ G T d n) (R : Room d A) (E : EnvOk γ env) {o : Expr} {x : Str} {apos pos : Pos} {es : List Expr} {ks : List Keyword} {mo : ME} {mes : MEs} {mk : MK}
    (hn : notSuper o = true) (hl : (apos.endLine == pos.line) = true) (hlen : es.length + ks.length < 20) (h0 : cE G n γ o = some mo) (h1 : seqL (es.map (cE G n γ)) = some mes) (h2 : cE.seqK (cE G n γ) ks = some mk)
    {σ σ' : St} {v : PV} (hv : ev T (.meth mo x mes mk) fm σ = some (v, σ')) {s : Shared} {φ : Phi} (I : Inv h₀ φ σ s.heap) (F : FrAt h₀ γ env fm φ s.heap) :
    W prog w A (eval (.Call (.Attribute o x apos) es ks pos) env) s (Ret h₀ [] φ s.heap v σ') := by
  refine hid fun Rq hRq => ?_
  refine byc fun nh => ?_
  obtain ⟨ov, σ₁, e1, hv⟩ := bnd_some hv
  obtain ⟨fv, σ₂, e2', hv'⟩ := bnd_some hv
  clear hv
  obtain ⟨e2, rfl⟩ := look_some e2'
  obtain ⟨vs, σ₃, e3, hv⟩ := bnd_some hv'
  obtain ⟨kvs, σ₄, e4, hv⟩ := bnd_some hv
  obtain ⟨_, hs1⟩ := stars_plain (env := env) pos es mes h1
  obtain ⟨hk1, _⟩ := kws_plain (env := env) pos ks mk h2
  have hform : methodCallForm (es.length + ks.length) (backTo pos (starEach es env)) (backToKw pos (keywordEach ks env)) = true := by
    unfold methodCallForm
    refine Eq.symm (hs1) ▸ ?_
    refine Eq.symm (hk1) ▸ ?_
    rw [Bool.true_and, Bool.true_and, decide_eq_true_eq]
    exact form_lt _ hlen
  refine nh ?_
  rw [arm_eval_Call, base_plain hn]
  refine wpAny_bind ((S _ _ _ h0 _ _ _ _ e1 A s φ env R E I F).go fun uo h' tk r => ?_)
  obtain ⟨φ₁, S₁, I₁, q⟩ := r
  refine wpAny_bind (wpAny_standAt ?_)
  unfold methodCall
  refine Eq.symm (hform) ▸ ?_
  refine wpAny_bind (wpAny_holding ?_)
  refine (D.mt _ _ _ _ e2 A { s with heap := h', toks := tk } φ₁ uo _ R I₁ q).go fun r h'' tk' hr => ?_
  obtain ⟨rfl, rfl⟩ := hr
  refine wpAny_bind ?_
  show wpAny _ _ (if (!true || apos.endLine == pos.line) = true then pure pos else _) _ _ _
  rw [if_pos (by rw [hl]; rfl)]
  refine wpAny_pure ?_
  refine (callWith_sound D S R E pos h1 h2 e3 e4 (first := [ov]) hv (s := { s with heap := h'', toks := tk' }) I₁ (F.step0 S₁) (.top fv) (.cons q .nil)).go fun u h3 tk3 r => (hRq _ h3 tk3 (Ret.before S₁ r))
theorem call_sound (D : Wd prog w h₀ G T d) (S : EvSnd prog w h₀ G T d n) (R : Room d A) (E : EnvOk γ env) {f : Expr} {pos : Pos} {es : List Expr} {ks : List Keyword} {mf : ME} {mes : MEs} {mk : MK}
    (hf : ∀ o x p, f ≠ .Attribute o x p) (h0 : cE G n γ f = some mf) (h1 : seqL (es.map (cE G n γ)) = some mes) (h2 : cE.seqK (cE G n γ) ks = some mk)
    {σ σ' : St} {v : PV} (hv : ev T (.call mf mes mk) fm σ = some (v, σ')) {s : Shared} {φ : Phi} (I : Inv h₀ φ σ s.heap) (F : FrAt h₀ γ env fm φ s.heap) :
    W prog w A (eval (.Call f es ks pos) env) s (Ret h₀ [] φ s.heap v σ') := by
  obtain ⟨fv, σ₁, e1, hv⟩ := bnd_some hv
  obtain ⟨vs, σ₃, e3, hv⟩ := bnd_some hv
  obtain ⟨kvs, σ₄, e4, hv⟩ := bnd_some hv
  have he : eval (.Call f es ks pos) env = (eval f env >>= fun u => callWith pos u [] (backTo pos (starEach es env)) (backToKw pos (keywordEach ks env))) := by
    cases f with
    | Attribute o x p => exact absurd rfl (hf o x p)
    | _ => rfl
  refine Eq.symm (he) ▸ ?_
  refine W.bind (S _ _ _ h0 _ _ _ _ e1 A s φ env R E I F) fun uf h' tk r => ?_
  refine byc fun nh => ?_
  obtain ⟨φ₁, S₁, I₁, q⟩ := r
  refine nh ?_
  refine (callWith_sound D S R E pos h1 h2 e3 e4 (first := []) hv (s := { s with heap := h', toks := tk }) I₁ (F.step0 S₁) q .nil).mono fun u h3 r => Ret.before S₁ r
theorem subscript_item (S : EvSnd prog w h₀ G T d n) (R : Room d A) (E : EnvOk γ env) {o i : Expr} {pos : Pos} {mo mi : ME} (h0 : cE G n γ o = some mo) (h1 : cE G n γ i = some mi)
    {σ σ' : St} {v : PV} (hv : ev T (.idx mo mi) fm σ = some (v, σ')) {s : Shared} {φ : Phi} (I : Inv h₀ φ σ s.heap) (F : FrAt h₀ γ env fm φ s.heap) :
    W prog w A (eval (.Subscript o i pos) env) s (Ret h₀ [] φ s.heap v σ') := by
  refine hid fun Rq hRq => ?_
  refine byc fun nh => ?_
  obtain ⟨ov, σ₁, e1, hv⟩ := bnd_some hv
  obtain ⟨iv, σ₂, e2, hv⟩ := bnd_some hv
  obtain ⟨e3, rfl⟩ := look_some hv
  refine nh ?_
  refine Subscript_ ?_
  refine (S _ _ _ h0 _ _ _ _ e1 A s φ env R E I F).go fun uo h' tk r => ?_
  obtain ⟨φ₁, S₁, I₁, q⟩ := r
  refine (S _ _ _ h1 _ _ _ _ e2 A { s with heap := h', toks := tk } φ₁ env R E I₁ (F.step0 S₁)).go fun ui h'' tk' r => ?_
  obtain ⟨φ₂, S₂, I₂, q2⟩ := r
  refine (tail_item (s := { s with heap := h'', toks := tk' }) e3 I₂ (S₂.rv q) q2).go fun u h3 tk3 r => ?_
  obtain ⟨rfl, q3⟩ := r
  exact (hRq _ _ tk3 ⟨φ₂, S₁.trans S₂, I₂, q3⟩)
theorem part_sound (S : EvSnd prog w h₀ G T d n) (R : Room d A) (E : EnvOk γ env) {o : Option Expr} {me : ME} (h : optE (cE G n γ) o = some me) {σ σ' : St} {v : PV} (hv : ev T me fm σ = some (v, σ')) {s : Shared} {φ : Phi}
    (I : Inv h₀ φ σ s.heap) (F : FrAt h₀ γ env fm φ s.heap) : W prog w A (evalPart o env) s (Ret h₀ [] φ s.heap v σ') := by
  induction o with
  | none =>
    obtain rfl := smi h
    obtain ⟨rfl, rfl⟩ := rt_eq hv
    exact W.pure (Ret.here I .none)
  | some e => exact S _ _ _ h _ _ _ _ hv A s φ env R E I F
theorem subscript_slice (S : EvSnd prog w h₀ G T d n) (R : Room d A) (E : EnvOk γ env) {o : Expr} {l u t : Option Expr} {pos p : Pos} {mo ml mu mt : ME} (h0 : cE G n γ o = some mo) (h1 : optE (cE G n γ) l = some ml) (h2 : optE (cE G n γ) u = some mu) (hst : optE (cE G n γ) t = some mt)
    {σ σ' : St} {v : PV} (hv : ev T (.slc mo ml mu mt) fm σ = some (v, σ')) {s : Shared} {φ : Phi} (I : Inv h₀ φ σ s.heap) (F : FrAt h₀ γ env fm φ s.heap) :
    W prog w A (eval (.Subscript o (.Slice l u t p) pos) env) s (Ret h₀ [] φ s.heap v σ') := by
  refine hid fun Rq hRq => ?_
  refine byc fun nh => ?_
  obtain ⟨ov, σ₁, e1, hv⟩ := bnd_some hv
  obtain ⟨lv, σ₂, e2, hv⟩ := bnd_some hv
  obtain ⟨uv, σ₃, e3, hv⟩ := bnd_some hv
  obtain ⟨tv, σ₄, e4, hv⟩ := bnd_some hv
  refine nh ?_
  refine Subscript_ ?_
  refine (S _ _ _ h0 _ _ _ _ e1 A s φ env R E I F).go fun uo h' tk r => ?_
  refine byc fun nh => ?_
  obtain ⟨φ₁, S₁, I₁, q⟩ := r
  refine nh ?_
  refine wpAny_Slice ?_
  refine (part_sound S R E h1 e2 (s := { s with heap := h', toks := tk }) I₁ (F.step0 S₁)).go fun ul h'' tk' r => ?_
  refine byc fun nh => ?_
  obtain ⟨φ₂, S₂, I₂, q2⟩ := r
  have S12 := S₁.trans S₂
  refine nh ?_
  refine (part_sound S R E h2 e3 (s := { s with heap := h'', toks := tk' }) I₂ (F.step0 S12)).go fun uu h3 tk3 r => ?_
  refine byc fun nh => ?_
  obtain ⟨φ₃, S₃, I₃, q3⟩ := r
  have S13 := S12.trans S₃
  refine nh ?_
  refine (part_sound S R E hst e4 (s := { s with heap := h3, toks := tk3 }) I₃ (F.step0 S13)).go fun ut h4 tk4 r => ?_
  refine byc fun nh => ?_
  obtain ⟨φ₄, S₄, I₄, q4⟩ := r
  refine nh ?_
  refine (tail_slice (s := { s with heap := h4, toks := tk4 }) hv I₄ (S₄.rv (S₃.rv (S₂.rv q))) (S₄.rv (S₃.rv q2)) (S₄.rv q3) q4).go fun r h5 tk5 x => (hRq _ h5 tk5 (Ret.before (S13.trans S₄) x))
theorem attr_sound (D : Wd prog w h₀ G T d) (S : EvSnd prog w h₀ G T d n) (R : Room d A) (E : EnvOk γ env) {o : Expr} {x : Str} {pos : Pos} {mo : ME} (hn : notSuper o = true) (h0 : cE G n γ o = some mo)
    {σ σ' : St} {v : PV} (hv : ev T (.attr mo x) fm σ = some (v, σ')) {s : Shared} {φ : Phi} (I : Inv h₀ φ σ s.heap) (F : FrAt h₀ γ env fm φ s.heap) :
    W prog w A (eval (.Attribute o x pos) env) s (Ret h₀ [] φ s.heap v σ') := by
  refine hid fun Rq hRq => ?_
  refine byc fun nh => ?_
  obtain ⟨ov, σ₁, e1, hv⟩ := bnd_some hv
  refine nh ?_
  refine Attribute_any_ ?_ (by
    show (do let o ← attributeBase o x env (eval o env); standAt pos.atName; let r ← holding [o] (getAttr o x true); letTemporaryGo _ o r; pure r : Sem Value) = _
    rw [base_plain hn])
  refine (S _ _ _ h0 _ _ _ _ e1 A s φ env R E I F).go fun uo h' tk r => ?_
  refine byc fun nh => ?_
  obtain ⟨φ₁, S₁, I₁, q⟩ := r
  cases ov with
  | obj m =>
    obtain ⟨a, hv, he⟩ := omap hv
    cases he
    obtain ⟨⟨C, as⟩, hi, hv⟩ := obind hv
    obtain ⟨c, hσ, hc⟩ := obind hi
    obtain rfl := cellI_some hc
    obtain ⟨hat, hv⟩ := ifS hv
    obtain ⟨v', h1, hv⟩ := obind hv
    obtain ⟨hnt, hv⟩ := ifN hv
    obtain rfl := smi hv
    refine nh ?_
    refine (getattr_sound (s := { s with heap := h', toks := tk }) (D.at_ _ _ hat) hσ h1 (fun y e => hnt (e ▸ rfl)) I₁ q).go fun u h'' tk' r => ?_
    obtain ⟨rfl, q'⟩ := r
    exact (hRq _ _ tk' ⟨φ₁, S₁, I₁, q'⟩)
  | _ => refine nh ?_; exact nsm hv
end
end Mine
end
section
namespace Mine
open PySem PyProof.Rows
inductive MapMS {α β : Type} (f : α → Option β) (a : α) (l : List α) (r : List β) : Prop where
  | mk (b : β) (r' : List β) (h1 : f a = some b) (h2 : l.mapM f = some r') (h3 : r = b :: r') : MapMS f a l r
theorem mapM_cons_some {α β : Type} {f : α → Option β} {a : α} {l : List α} {r : List β} (h : (a :: l).mapM f = some r) : MapMS f a l r := by
  rw [List.mapM_cons] at h
  cases e : f a with
  | none => rw [e] at h; cases h
  | some b =>
    cases e' : l.mapM f with
    | none => rw [e, e'] at h; cases h
    | some r' => rw [e, e'] at h; cases h; exact ⟨b, r', e, e', rfl⟩
section
variable {prog : Program} {w : World} {h₀ : Heap} {G : List (Str × PV)} {T : Tab} {d n : Nat} {γ : Gm} {env : Env} {fm : Fm} {A : Around} {s : Shared} {φ : Phi} {σ : St}
theorem name_sound {x : Str} {p : Pos} {mx : MV} {v : PV} {u : Value} {fm' : Fm} {σ' : St} (E : EnvOk γ env) (hx : mv γ x = some mx) (hv : setV fm v mx σ = some (fm', σ')) (I : Inv h₀ φ σ s.heap) (F : FrAt h₀ γ env fm φ s.heap) (q : RV φ s.heap v u) :
    W prog w A (assign (.Name x p) env u) s fun _ h' => Stored h₀ γ env φ s.heap fm' σ' h' :=
  wpAny_assign_Name (setV_sound E hx hv I F q)
theorem nameT_some {e : Expr} {mx : MV} (h : nameTarget γ e = some mx) : ∃ x p, e = .Name x p ∧ mv γ x = some mx := by
  obtain ⟨q, e1, h1⟩ := obind h
  exact ⟨q.1, q.2, asName_some e1, h1⟩
theorem target_some {e : Expr} {mt : MT} (h : target γ e = some mt) : (∃ x p mx, e = .Name x p ∧ mv γ x = some mx ∧ mt = .one mx) ∨ ∃ es c p xs, e = .Tuple es c p ∧ es.mapM (nameTarget γ) = some xs ∧ mt = .tup xs := by
  revert h
  show (view e).target γ = _ → _
  have hb := back_of (e := e) rfl
  revert hb
  generalize view e = v
  intro hb h
  induction v with
  | name x p =>
    obtain ⟨mx, h1, h2⟩ := omap h
    exact .inl ⟨x, p, mx, hb, h1, h2.symm⟩
  | tup es c p =>
    obtain ⟨xs, h1, h2⟩ := omap h
    exact .inr ⟨es, c, p, xs, hb, h1, h2.symm⟩
  | _ => exact nsm h
theorem each_target {e : Expr} {mt : MT} (h : target γ e = some mt) (es : List Expr) : assignEach (e :: es) env = (false, assign e env) :: assignEach es env := by
  rcases target_some h with ⟨_, _, _, rfl, _⟩ | ⟨_, _, _, _, rfl, _⟩
  · rfl
  · rfl
theorem each_names : ∀ (es : List Expr) (xs : List MV), es.mapM (nameTarget γ) = some xs → (assignEach es env).length = xs.length ∧ (assignEach es env).findIdx? (·.1) = none := by
  intro es
  induction es with
  | nil => intro xs hx; cases hx; exact ⟨rfl, rfl⟩
  | cons e es ih =>
    intro xs hx
    obtain ⟨mx, xs', h1, h2, rfl⟩ := mapM_cons_some hx
    obtain ⟨x, p, rfl, _⟩ := nameT_some h1
    obtain ⟨a, b⟩ := ih _ h2
    refine ⟨congrArg (· + 1) a, ?_⟩
    show List.findIdx? _ ((false, assign (.Name x p) env) :: assignEach es env) = none
    rw [List.findIdx?_cons, b]
    rfl
theorem setVs_len : ∀ (xs : List MV) (vs : List PV) (fm : Fm) (σ : St) (r : Fm × St), setVs fm xs vs σ = some r → xs.length = vs.length
  | [], [], _, _, _, _ => rfl
  | _ :: xs, _ :: vs, _, _, _, h => by
    obtain ⟨_, _, _, h2⟩ := bnd_some h
    exact congrArg (· + 1) (setVs_len xs vs _ _ _ h2)
  | [], _ :: _, _, _, _, h => nomatch h
  | _ :: _, [], _, _, _, h => nomatch h
theorem setVs_sound (E : EnvOk γ env) : ∀ (elts : List Expr) (xs : List MV) (vs : List PV) (us : List Value) (fm : Fm) (σ : St) (fm' : Fm) (σ' : St), elts.mapM (nameTarget γ) = some xs → setVs fm xs vs σ = some (fm', σ') →
    ∀ s : Shared, Inv h₀ φ σ s.heap → FrAt h₀ γ env fm φ s.heap → RVs φ s.heap vs us →
    W prog w A (assignInOrder ((assignEach elts env).map (·.2)) us) s fun _ h' => Stored h₀ γ env φ s.heap fm' σ' h' := by
  intro elts
  induction elts with
  | nil =>
    intro xs vs us fm σ fm' σ' hx hv s I F r
    obtain rfl := smi hx
    cases r with
    | nil => cases hv; exact W.pure ⟨Step.refl _ _ _, I, F⟩
    | cons => exact nomatch hv
  | cons e elts ih =>
    intro xs vs us fm σ fm' σ' hx hv s I F r
    obtain ⟨mx, xs', h1, h2, rfl⟩ := mapM_cons_some hx
    obtain ⟨x, p, rfl, h1⟩ := nameT_some h1
    cases r with
    | nil => exact nomatch hv
    | @cons v vs u us q r =>
      obtain ⟨fm₁, σ₁, hv1, hv2⟩ := bnd_some hv
      refine wpAny_bind (wpAny_holding ?_)
      refine (name_sound E h1 hv1 I F q).go fun _ h' tk st => ?_
      exact (ih _ _ _ _ _ _ _ h2 hv2 { s with heap := h', toks := tk } st.I st.F (st.S.rvs r)).go fun _ h'' tk' st' => ⟨h'', tk', rfl, st'.before st.S⟩
theorem extS {h h' : Heap} (hs : Heap.ExtBut h.objs.size h h') (hz : h.objs.size ≤ h'.objs.size) : Ext [] h h' :=
  ⟨hz, fun b o e _ => hs b o (Nat.ne_of_lt (Heap.lt_size e)) e, fun b o e _ => hs b o (Nat.ne_of_lt (Heap.lt_size e)) e⟩
theorem setT_sound {e : Expr} {mt : MT} {v : PV} {u : Value} {fm' : Fm} {σ' : St} (hA : A.handled = none) (E : EnvOk γ env) (ht : target γ e = some mt) (hv : setT fm v mt σ = some (fm', σ')) (I : Inv h₀ φ σ s.heap) (F : FrAt h₀ γ env fm φ s.heap) (q : RV φ s.heap v u) :
    W prog w A (assign e env u) s fun _ h' => Stored h₀ γ env φ s.heap fm' σ' h' := by
  rcases target_some ht with ⟨x, p, mx, rfl, h1, rfl⟩ | ⟨es, c, p, xs, rfl, h1, rfl⟩
  · exact name_sound E h1 hv I F q
  · induction q using RV.casesOn with
    | @tup vs us a k g ho r =>
      obtain ⟨a1, a2⟩ := each_names (env := env) _ _ h1
      have hU : W prog w A (unpackItems (.ref a) (assignEach es env).length none) s fun l h' => l = us ∧ Ext [] s.heap h' := by
        refine Eq.symm (a1) ▸ ?_
        refine Eq.symm (setVs_len _ _ _ _ _ hv) ▸ ?_
        refine Eq.symm (r.length) ▸ ?_
        have := sized (prog := prog) (w := w) (A := A) (s := s) (t := unpackItems (.ref a) us.toArray.size none) (Q := fun l s' => ∃ h' tk, s' = { s with heap := h', toks := tk } ∧ l = us ∧ Ext [] s.heap h')
          (wpAny_unpackItems_tuple hA ⟨_, g, rfl, _, rfl⟩ fun h' hs hz => ⟨h', s.toks, rfl, rfl, extS hs hz⟩)
        exact this
      refine wpAny_bind (wpAny_standAt ?_)
      unfold unpack
      refine Eq.symm (a2) ▸ ?_
      refine wpAny_bind (wpAny_holding (hU.go fun l h' tk x => ?_))
      obtain ⟨rfl, x⟩ := x
      exact (setVs_sound E _ _ _ _ _ _ _ _ h1 hv { s with heap := h', toks := tk } (I.ext0 x) (F.step0 x.step) (r.mono x.grow)).go fun _ h'' tk' st => ⟨h'', tk', rfl, st.before x.nil.step⟩
    | _ => exact nomatch hv
theorem setTs_sound (hA : A.handled = none) (E : EnvOk γ env) : ∀ (ts : List Expr) (mts : List MT) (v : PV) (u : Value) (fm : Fm) (σ : St) (fm' : Fm) (σ' : St), ts.mapM (target γ) = some mts → setTs v mts fm σ = some (fm', σ') →
    ∀ s : Shared, Inv h₀ φ σ s.heap → FrAt h₀ γ env fm φ s.heap → RV φ s.heap v u → W prog w A (assignAll u ((assignEach ts env).map (·.2))) s fun _ h' => Stored h₀ γ env φ s.heap fm' σ' h' := by
  intro ts
  induction ts with
  | nil =>
    intro mts v u fm σ fm' σ' hx hv s I F q
    cases hx; cases hv
    exact W.pure ⟨Step.refl _ _ _, I, F⟩
  | cons t ts ih =>
    intro mts v u fm σ fm' σ' hx hv s I F q
    refine hid fun Rq hRq => ?_
    obtain ⟨mt, mts', h1, h2, rfl⟩ := mapM_cons_some hx
    obtain ⟨fm₁, σ₁, hv1, hv2⟩ := bnd_some hv
    rw [each_target h1]
    induction ts with
    | nil =>
      cases h2; cases hv2
      exact (setT_sound hA E h1 hv1 I F q).go hRq
    | cons t2 ts =>
      have ih' := ih _ v u _ _ _ _ h2 hv2
      obtain ⟨mt2, _, h3, _⟩ := mapM_cons_some h2
      rw [each_target h3] at ih' ⊢
      refine wpAny_bind (wpAny_holding ?_)
      refine (setT_sound hA E h1 hv1 I F q).go fun _ h' tk st => ?_
      exact (ih' { s with heap := h', toks := tk } st.I st.F (st.S.rv q)).go fun _ h'' tk' st' => (hRq _ h'' tk' (st'.before st.S))
end
end Mine
end
section
namespace Mine
open PySem PyProof.Rows
section
variable {prog : Program} {w : World} {h₀ : Heap} {G : List (Str × PV)} {T : Tab} {d n : Nat} {γ : Gm} {env : Env} {fm : Fm} {A : Around}
theorem cI_cases {c : Expr → Option ME} {it : Expr} {mi : MI} (h : cI G c γ it = some mi) :
    (∃ me, c it = some me ∧ mi = .val me) ∨ ∃ f es p mes, it = .Call f es [] p ∧ isZip G γ f = true ∧ seqL (es.map c) = some mes ∧ mi = .zip mes := by
  rcases pick_some h with ⟨es, e, h⟩ | ⟨_, h⟩
  · have hb := back_of (e := it) rfl
    revert hb e
    generalize view it = v
    intro e hb
    induction v with
    | call f es' ks p =>
      obtain ⟨hz, e⟩ := ifS e
      obtain rfl := smi e
      obtain ⟨mes, h1, rfl⟩ := omap h
      obtain ⟨hz, hk⟩ := Bool.and_eq_true_iff.1 hz
      exact .inr ⟨f, es', p, mes, List.isEmpty_iff.1 hk ▸ hb, hz, h1, rfl⟩
    | _ => exact nsm e
  · obtain ⟨me, h1, rfl⟩ := omap h
    exact .inl ⟨me, h1, rfl⟩
theorem not_set {G : List (Str × PV)} {n : Nat} {γ : Gm} {it : Expr} {mi : MI} (h : cI G (cE G n γ) γ it = some mi) (env : Env) (x : Value) : foldedSetIterable it env x = pure x := by
  rcases cI_cases h with ⟨me, h1, _⟩ | ⟨f, es, p, mes, rfl, _⟩
  · cases n with
    | zero => exact nsm h1
    | succ n => cases it <;> first | rfl | exact nsm h1
  · rfl
theorem isZip_name {f : Expr} (h : isZip G γ f = true) : ∃ p, f = .Name "zip" p ∧ γ.names.lookup ("zip" : Str) = some .globalImplicit ∧ G.lookup ("zip" : Str) = some (.top (.type "zip")) := by
  refine byc fun nh => ?_
  obtain ⟨q, e, h⟩ := omap (beq_iff_eq.1 h)
  obtain ⟨h, h3⟩ := Bool.and_eq_true_iff.1 h
  obtain ⟨h1, h2⟩ := Bool.and_eq_true_iff.1 h
  obtain ⟨v, h4, h5⟩ := obind (beq_iff_eq.1 h3)
  obtain rfl := tyOf_some h5
  rw [beq_iff_eq.1 h1] at h2 h4
  refine nh ?_
  exact ⟨q.2, (asName_some e).trans (beq_iff_eq.1 h1 ▸ rfl), beq_iff_eq.1 h2, h4⟩
theorem kept_type (t : String) : Kept prog w h₀ (.type t) := fun h _ => ⟨.machine, .inr (.inl rfl), W.Looks.of_pure rfl⟩
theorem zip_call {vs : List PV} {us : List Value} {σ : St} {s : Shared} {φ : Phi} (hz : (vs.length == 2 && vs.all zipable) = true) (I : Inv h₀ φ σ s.heap) (r : RVs φ s.heap vs us) :
    W prog w A (call (.type "zip") us) s (Made h₀ φ s.heap (.zip vs σ.length) (σ ++ [.own vs.length])) := by
  obtain ⟨hl, ha⟩ := Bool.and_eq_true_iff.1 hz
  cases r with
  | nil => exact Bool.noConfusion hl
  | cons q1 r =>
    cases r with
    | nil => exact Bool.noConfusion hl
    | cons q2 r =>
      cases r with
      | cons => exact Bool.noConfusion hl
      | nil =>
        obtain ⟨a1, a2⟩ := Bool.and_eq_true_iff.1 ha
        exact zip2_make a1 (Bool.and_eq_true_iff.1 a2).1 I q1 q2
theorem iter_sound (D : Wd prog w h₀ G T d) (S : EvSnd prog w h₀ G T d n) (R : Room d A) (E : EnvOk γ env) {it : Expr} {mi : MI} {src : PI} {σ σ' : St} (hm : cI G (cE G n γ) γ it = some mi) (hv : evI T mi fm σ = some (src, σ'))
    {s : Shared} {φ : Phi} (I : Inv h₀ φ σ s.heap) (F : FrAt h₀ γ env fm φ s.heap) :
    wpAny (model prog w) A (eval it env) (fun x s₁ => wpAny (model prog w) A (pyIter x) (fun u s₂ => ∃ h' tk, s₂ = { s with heap := h', toks := tk } ∧ Made h₀ φ s.heap src σ' u h') bot s₁) bot s := by
  rcases cI_cases hm with ⟨me, h1, rfl⟩ | ⟨f, es, p, mes, rfl, hz, h1, rfl⟩
  · obtain ⟨v, σ₁, hv1, he⟩ := bnd_some hv
    obtain ⟨hsome, he1⟩ := ifS he
    obtain ⟨rfl, rfl⟩ := smp he1
    clear he he1 hv
    refine (S _ _ _ h1 _ _ _ _ hv1 A s φ env R E I F).go fun u h' tk r => ?_
    refine byc fun nh => ?_
    obtain ⟨φ₁, S₁, I₁, q⟩ := r
    obtain ⟨r, hn⟩ := Option.isSome_iff_exists.mp hsome
    refine nh ?_
    refine (pyIter_sound (s := { s with heap := h', toks := tk }) hn I₁ q).go fun u h'' tk' x => ?_
    refine byc fun nh => ?_
    obtain ⟨hu, x1, x2, _⟩ := x
    refine nh ?_
    refine ⟨h'', tk', rfl, h'.objs.size, _, φ₁, hu, S₁.trans x1.step, I₁.ext0 x1, .one x2 (I₁.fresh (Nat.le_refl _)) (Nat.le_trans I.sz S₁.size), ?_⟩
    exact fun a ha => List.mem_singleton.1 ha ▸ S₁.size
  · obtain ⟨vs, σ₁, hv1, he⟩ := bnd_some hv
    obtain ⟨hc, he1⟩ := ifS he
    obtain ⟨rfl, rfl⟩ := smp he1
    clear he he1 hv
    obtain ⟨px, rfl, k1, k2⟩ := isZip_name hz
    refine wpAny_bind ?_
    have hN : W prog w A (eval (.Name "zip" px) env) s fun u h' => h' = s.heap ∧ u = .type "zip" := by
      refine wpAny_bind (wpAny_standAt ?_)
      refine Eq.symm (show (("zip" : Str) == ("__debug__" : Str)) = false by decide) ▸ ?_
      refine (glob_sound D.globs E k1 k2 I).go fun u h' tk r => ?_
      refine byc fun nh => ?_
      obtain ⟨rfl, q⟩ := r
      cases q
      refine nh ?_
      exact ⟨_, tk, rfl, rfl, rfl⟩
    refine hN.go fun u h' tk r => ?_
    obtain ⟨rfl, rfl⟩ := r
    obtain ⟨ha1, _⟩ := stars_plain (env := env) p es mes h1
    refine W.callWith_of (P := fun _ => True) (by rw [ha1]; rfl) (fun h _ => ⟨.machine, .inr (.inl rfl), W.Looks.of_pure rfl⟩) ?_
    refine (args_sound (kvs := []) S R E p h1 (mk := .nil) rfl hv1 rfl (s := { s with toks := tk }) I F).go fun a h' tk' r => ?_
    obtain ⟨φ₁, S₁, I₁, q, q'⟩ := r
    refine ⟨trivial, ?_⟩
    obtain ⟨apos, akw⟩ := a
    cases q' with | nil =>
    refine (zip_call (s := { s with heap := h', toks := tk' }) hc I₁ q).go fun u h'' tk'' r => ?_
    obtain ⟨z, X, φ₂, rfl, S₂, I₂, sr, hX⟩ := r
    cases sr with
    | zip Z hl =>
      refine wpAny_pyIter_zip Z.rec_ ⟨h'', tk'', rfl, z, _, φ₂, rfl, (S₁.trans S₂), I₂, .zip Z hl, fun a ha => Nat.le_trans S₁.size (hX a ha)⟩
end
end Mine
end
section
namespace Mine
open PySem PyProof.Rows
noncomputable abbrev tests (ifs : List Expr) (r : Bool) (env : Env) : Sem Bool := forIn ifs r fun c r => if r = true then do let ok ← isTrue c env (eval c env); pure (ForInStep.yield ok) else pure (ForInStep.yield r)
theorem tests_false (env : Env) : ∀ ifs, tests ifs false env = pure false := by
  intro ifs
  induction ifs with
  | nil => rfl
  | cons c ifs ih =>
    unfold tests at ih ⊢
    rw [List.forIn_cons]
    exact ih
section
variable {prog : Program} {w : World} {h₀ : Heap} {G : List (Str × PV)} {T : Tab} {d n : Nat} {γ : Gm} {env : Env} {fm : Fm} {A : Around}
theorem ifs_sound (S : TrSnd prog w h₀ G T d n) (R : Room d A) (E : EnvOk γ env) : ∀ ifs mes, seqL (ifs.map (cE G n γ)) = some mes → ∀ σ b σ', evIfs T mes fm σ = some (b, σ') → ∀ (s : Shared) φ, Inv h₀ φ σ s.heap → FrAt h₀ γ env fm φ s.heap →
    W prog w A (tests ifs true env) s (RetX h₀ φ s.heap σ' (isB b)) := by
  intro ifs
  induction ifs with
  | nil =>
    intro mes hm σ b σ' hv s φ I F
    cases hm; cases hv
    exact W.pure ⟨φ, Step.refl _ _ _, I, rfl⟩
  | cons c ifs ih =>
    intro mes hm σ b σ' hv s φ I F
    refine hid fun Rq hRq => ?_
    refine byc fun nh => ?_
    obtain ⟨me, mes', h1, h2, rfl⟩ := seqL_cons hm
    obtain ⟨v, σ₁, hv1, hv2⟩ := bnd_some hv
    obtain ⟨t, σ₂, ht', hv3⟩ := bnd_some hv2
    clear hv hv2
    obtain ⟨ht, rfl⟩ := look_some ht'
    refine nh ?_
    unfold tests
    rw [List.forIn_cons]
    refine wpAny_bind (wpAny_bind ((S _ _ _ h1 _ _ _ _ _ hv1 ht A s φ env R E I F).go fun ok h' tk r => wpAny_pure ?_))
    obtain ⟨φ₁, S₁, I₁, q⟩ := r
    obtain rfl : ok = t := q
    show wpAny _ _ (tests ifs ok env) _ _ _
    induction ok with
    | true => exact (ih _ h2 _ _ _ hv3 { s with heap := h', toks := tk } φ₁ I₁ (F.step0 S₁)).go fun b h'' tk' r => (hRq _ h'' tk' (r.before S₁))
    | false =>
      obtain ⟨rfl, rfl⟩ := rt_eq hv3
      rw [tests_false]
      exact wpAny_pure (hRq _ h' tk ⟨φ₁, S₁, I₁, rfl⟩)
inductive LoopT {β δ : Type} (src : PI) (body : PV → β → M (β × Option δ)) (k i : Nat) (b b' : β) (σ σ' : St) (r : Option δ) : Prop
  | stop (e0 : nth σ src i = some none) (h1 : b' = b) (h2 : r = none) (h3 : σ' = σ)
  | on (v : PV) (e0 : nth σ src i = some (some v)) (hb : (∃ x, r = some x ∧ body v b σ = some ((b', some x), σ')) ∨ ∃ b₁ σ₁, body v b σ = some ((b₁, none), σ₁) ∧ loopM src body k (i + 1) b₁ σ₁ = some ((b', r), σ'))
theorem loopM_turn {β δ : Type} {src : PI} {body : PV → β → M (β × Option δ)} {k i : Nat} {b b' : β} {σ σ' : St} {r : Option δ} (h : loopM src body (k + 1) i b σ = some ((b', r), σ')) :
    LoopT src body k i b b' σ σ' r := by
  revert h
  show (match nth σ src i with
    | none => none
    | some none => some ((b, none), σ)
    | some (some v) => match body v b σ with
      | none => none
      | some ((b', some r), σ') => some ((b', some r), σ')
      | some ((b', none), σ') => loopM src body k (i + 1) b' σ') = _ → _
  cases e : nth σ src i with
  | none => exact nsm
  | some o =>
    induction o with
    | none => intro h; cases h; exact .stop e rfl rfl rfl
    | some v =>
      intro h
      refine .on v e ?_
      revert h
      dsimp only
      cases e2 : body v b σ with
      | none => exact nsm
      | some q =>
        obtain ⟨⟨b₁, o⟩, σ₁⟩ := q
        induction o with
        | none => exact fun h => .inr ⟨_, _, rfl, h⟩
        | some x => intro h; cases h; exact .inl ⟨_, rfl, rfl⟩
theorem pair_for {t : MT} {mi : MI} {e : Expr} {src : PI} {σ σ' : St} (hz : zipT t mi = true) (ht : target γ e = some t) (hv : evI T mi fm σ = some (src, σ')) : pairFor src e = true := by
  cases mi with
  | val me =>
    obtain ⟨v, σ₁, _, he⟩ := bnd_some hv
    obtain ⟨_, he⟩ := ifS he
    obtain ⟨rfl, _⟩ := smp he
    rfl
  | zip mes =>
    obtain ⟨v, σ₁, _, he⟩ := bnd_some hv
    obtain ⟨_, he⟩ := ifS he
    obtain ⟨rfl, _⟩ := smp he
    rcases target_some ht with ⟨_, _, _, _, _, rfl⟩ | ⟨_, _, _, _, rfl, _⟩
    · exact Bool.noConfusion hz
    · rfl
theorem made_off {φ : Phi} {h : Heap} {X : List Addr} (F : FrAt h₀ γ env fm φ h) (hX : ∀ a ∈ X, h.objs.size ≤ a) : env.locals ∉ X := fun hm => by
  obtain ⟨o, e, _⟩ := F.there
  exact Nat.lt_irrefl _ (Nat.lt_of_lt_of_le (Heap.lt_size e) (hX _ hm))
theorem pyIter_src {src : PI} {z : Addr} {i : Nat} {X : List Addr} {s : Shared} {φ : Phi} (y : SrcAt φ h₀ s.heap z i src X) : W prog w A (pyIter (.ref z)) s fun u h' => u = .ref z ∧ h' = s.heap := by
  induction y with
  | one h1 _ _ => exact pyIter_iter h1
  | zip Z _ => exact wpAny_pyIter_zip Z.rec_ ⟨_, _, rfl, rfl, rfl⟩
noncomputable def tailK (elt : Expr) (gens : List Comprehension) (sc : Scope) (pos : Pos) (k : Nat) (it acc : Value) (env : Env) : Sem Fin :=
  match gens[k + 1]? with
  | some g' => do
    let x ← eval g'.iter env
    standAt g'.iter.pos
    let x ← if g'.is_async != 0 then foldedIterable g'.iter x else foldedSetIterable g'.iter env x
    let _ ← runOwn (.compStart (.ListComp elt gens sc pos) (k + 1) (← holding [x] (if g'.is_async != 0 then asyncIter x else pyIter x)) acc env) env
    again (.compLoop (.ListComp elt gens sc pos) k it acc env)
  | none => do
    (do let _ ← call (.builtin "list.append") [acc, ← eval elt env])
    again (.compLoop (.ListComp elt gens sc pos) k it acc env)
theorem compTurn_eq {elt target iter : Expr} {ifs : List Expr} {gens : List Comprehension} {sc : Scope} {pos : Pos} {k : Nat} {it acc : Value} {env : Env} (h : gens[k]? = some ⟨target, iter, ifs, 0⟩) :
    compTurn (.ListComp elt gens sc pos) k it acc env = (do
      standAt iter.pos
      match ← pyNext it with
      | none => pure (.done .next)
      | some v =>
        letOwnedTupleGo target it v
        assign target env v
        let ok ← tests ifs true env
        if ok then tailK elt gens sc pos k it acc env else again (.compLoop (.ListComp elt gens sc pos) k it acc env)) := by
  unfold compTurn
  simp only [h]
  rfl
end
end Mine
end
section
namespace Mine
open PySem PyProof.Rows
section
variable {prog : Program} {w : World} {h₀ : Heap} {G : List (Str × PV)} {T : Tab} {d n : Nat} {γ : Gm} {env : Env} {fm : Fm} {A : Around}
theorem codeAny_compStart {elt target iter : Expr} {ifs : List Expr} {gens : List Comprehension} {sc : Scope} {pos : Pos} {k : Nat} {z : Addr} {acc : Value} {R : Result → Shared → Prop} {s : Shared} {src : PI} {i : Nat} {X : List Addr} {φ : Phi}
    (hg : gens[k]? = some ⟨target, iter, ifs, 0⟩) (y : SrcAt φ h₀ s.heap z i src X)
    (h : ∀ tk, codeAny (model prog w) A (.compLoop (.ListComp elt gens sc pos) k (.ref z) acc env) R { s with toks := tk }) :
    codeAny (model prog w) A (.compStart (.ListComp elt gens sc pos) k (.ref z) acc env) R s := by
  refine codeAny_of_tree ?_
  show wpAny _ A ((compStart (.ListComp elt gens sc pos) k (.ref z) acc env).onRaise (fun x => do noteFrame x env; standAt theWindowsPlace)) _ _ s
  refine wpAny_notedAt (bot_any ?_)
  unfold compStart
  have hc : (clausesOf (.ListComp elt gens sc pos))[k]? = some ⟨target, iter, ifs, 0⟩ := hg
  simp only [hc]
  refine wpAny_bind (wpAny_askSetting (wpAny_ite ?_))
  have hs : ∀ tk, codeAny (model prog w) A (.compLoop (.ListComp elt gens sc pos) k (.ref z) acc env) R { s with heap := s.heap, toks := tk } := h
  split
  · first
      | exact wpAny_bind (wpAny_pure (wpAny_pure (And.intro rfl (hs s.toks))))
      | exact wpAny_pure (And.intro rfl (hs s.toks))
  · have go : wpAny (model prog w) A (pyIter (.ref z)) (fun it' s' => codeAny (model prog w) A (.compLoop (.ListComp elt gens sc pos) k it' acc env) R s') bot s :=
      (pyIter_src y).go fun u h' tk x => by obtain ⟨rfl, rfl⟩ := x; exact hs tk
    first
      | exact wpAny_bind (wpAny_rule (wpAny_bind (wpAny_standAt (wpAny_bind (wpAny_mono go (fun it' s' h' => wpAny_pure (And.intro rfl h')) fun _ _ x => x)))))
      | (refine wpAny_bind (wpAny_rule ?_); show wpAny _ _ (standAt iter.pos >>= _) _ _ s; exact wpAny_bind (wpAny_standAt (wpAny_bind (wpAny_mono go (fun it' s' h' => wpAny_pure (And.intro rfl h')) fun _ _ x => x))))
noncomputable def lvlBody (T : Tab) (t : MT) (fs : MEs) (g : MG) (acc : PV) : PV → Fm → M (Fm × Option Unit) := fun v fm' => bnd (evG T (.lvl t fs g) acc (some v) fm') fun fm'' => rt (fm'', none)
theorem cG_cons {elt : Expr} {t it : Expr} {ifs : List Expr} {a : Int} {r : List Comprehension} {g : MG} (h : cG G (cE G n) γ elt (⟨t, it, ifs, a⟩ :: r) = some g) :
    a = 0 ∧ ∃ i mt fs g', cI G (cE G n γ) γ it = some i ∧ target γ t = some mt ∧ seqL (ifs.map (cE G n γ)) = some fs ∧ cG G (cE G n) γ elt r = some g' ∧ zipT mt i = true ∧ g = .nest i (.lvl mt fs g') := by
  refine byc fun nh => ?_
  obtain ⟨ha, h⟩ := ifN (show (if a != 0 then none else bind4 (cI G (cE G n γ) γ it) (target γ t) (seqL (ifs.map (cE G n γ))) (cG G (cE G n) γ elt r) fun i t fs g => if zipT t i = true then some (MG.nest i (.lvl t fs g)) else none) = some g from h)
  obtain ⟨_, _, _, _, h1, h2, h3, h4, h⟩ := opt4 h
  obtain ⟨hz, h⟩ := ifS h
  obtain rfl := smi h
  refine nh ?_
  exact ⟨by simpa using ha, _, _, _, _, h1, h2, h3, h4, hz, rfl⟩
inductive Looped (h₀ : Heap) (γ : Gm) (env : Env) (X : List Addr) (φ : Phi) (h : Heap) (fm' : Fm) (σ' : St) (h' : Heap) : Prop where
  | mk (φ' : Phi) (S : Step (env.locals :: X) φ φ' h h') (I : Inv h₀ φ' σ' h') (F : FrAt h₀ γ env fm' φ' h') : Looped h₀ γ env X φ h fm' σ' h'
theorem off_one {X : List Addr} {a : Addr} (h : a ∉ X) : ∀ b ∈ X, b ∉ [a] := fun b hb hm => h (List.mem_singleton.1 hm ▸ hb)
inductive LvlS (T : Tab) (t : MT) (fs : MEs) (g : MG) (acc v : PV) (src : PI) (fuel i : Nat) (fm : Fm) (σ : St) (fm' : Fm) (r : Option Unit) (σ' : St) : Prop
  | mk (fm₁ fm₂ : Fm) (σ₁ σ₂ σ₃ : St) (ok : Bool) (h1 : setT fm v t σ = some (fm₂, σ₂)) (h2 : evIfs T fs fm₂ σ₂ = some (ok, σ₃)) (h3 : (if ok = true then evG T g acc none fm₂ else rt fm₂) σ₃ = some (fm₁, σ₁)) (h4 : loopM src (lvlBody T t fs g acc) fuel (i + 1) fm₁ σ₁ = some ((fm', r), σ'))
theorem lvl_some {t : MT} {fs : MEs} {g : MG} {acc v : PV} {src : PI} {fuel i : Nat} {fm fm' : Fm} {σ σ' : St} {r : Option Unit}
    (hb : (∃ x, r = some x ∧ lvlBody T t fs g acc v fm σ = some ((fm', some x), σ')) ∨ ∃ b₁ σ₁, lvlBody T t fs g acc v fm σ = some ((b₁, none), σ₁) ∧ loopM src (lvlBody T t fs g acc) fuel (i + 1) b₁ σ₁ = some ((fm', r), σ')) :
    LvlS T t fs g acc v src fuel i fm σ fm' r σ' := by
  rcases hb with ⟨x, _, hb⟩ | ⟨fm₁, σ₁, hb, hl⟩
  · obtain ⟨f, σ₁, _, hb⟩ := bnd_some hb
    cases hb
  · obtain ⟨f, σ₂, hb1, hb2⟩ := bnd_some hb
    cases hb2
    obtain ⟨fm₂, σ₂, hset, hg2⟩ := bnd_some hb1
    obtain ⟨ok, σ₃, hok, hg3⟩ := bnd_some hg2
    exact ⟨_, _, _, _, _, _, hset, hok, hg3, hl⟩
theorem lvl_loop (S' : TrSnd prog w h₀ G T d n) (Rm : Room d A) (E : EnvOk γ env) {elt : Expr} {gens : List Comprehension} {sc : Scope} {pos : Pos} {acc : PV} {k : Nat} {tg iter : Expr} {ifs : List Expr} {t : MT} {fs : MEs} {g : MG}
    (hk : gens[k]? = some ⟨tg, iter, ifs, 0⟩) (ht : target γ tg = some t) (hfs : seqL (ifs.map (cE G n γ)) = some fs)
    (tail : ∀ (fm : Fm) (σ : St) (fm' : Fm) (σ' : St), evG T g acc none fm σ = some (fm', σ') → ∀ (s : Shared) (φ : Phi) (z : Addr) (uacc : Value), Inv h₀ φ σ s.heap → FrAt h₀ γ env fm φ s.heap → RV φ s.heap acc uacc → ∀ (Q : Fin → Shared → Prop),
      (∀ h' tk, Looped h₀ γ env [] φ s.heap fm' σ' h' → wpAny (model prog w) A (again (.compLoop (.ListComp elt gens sc pos) k (.ref z) uacc env)) Q bot { s with heap := h', toks := tk }) → wpAny (model prog w) A (tailK elt gens sc pos k (.ref z) uacc env) Q bot s) :
    ∀ (fuel i : Nat) (fm : Fm) (σ : St) (fm' : Fm) (r : Option Unit) (σ' : St) (src : PI), loopM src (lvlBody T t fs g acc) fuel i fm σ = some ((fm', r), σ') → ∀ (s : Shared) (φ : Phi) (z : Addr) (X : List Addr) (uacc : Value),
    Inv h₀ φ σ s.heap → FrAt h₀ γ env fm φ s.heap → SrcAt φ h₀ s.heap z i src X → env.locals ∉ X → pairFor src tg = true → RV φ s.heap acc uacc → ∀ R : Result → Shared → Prop,
    (∀ h' tk, Looped h₀ γ env X φ s.heap fm' σ' h' → R (.ok .next) { s with heap := h', toks := tk }) → codeAny (model prog w) A (.compLoop (.ListComp elt gens sc pos) k (.ref z) uacc env) R s := by
  intro fuel
  induction fuel with
  | zero => intro i fm σ fm' r σ' src hv; exact nsm hv
  | succ fuel ih =>
    intro i fm σ fm' r σ' src hv s φ z X uacc I F y hX hp qa R hR
    refine codeAny_of_tree ?_
    show wpAny _ A ((compTurn (.ListComp elt gens sc pos) k (.ref z) uacc env).onRaise (fun x => do noteFrame x env; theTreesLotGoes x)) _ _ s
    refine wpAny_noted (bot_any ?_)
    refine Eq.symm (compTurn_eq hk) ▸ ?_
    refine wq fun Rq hRq => ?_
    refine wpAny_bind (wpAny_standAt ?_)
    rcases loopM_turn hv with ⟨e0, rfl, rfl, rfl⟩ | ⟨v, e0, hb⟩
    · refine wpAny_bind ((next_none Rm.free e0 I y).go fun r h' tk x => ?_)
      refine byc fun nh => ?_
      obtain ⟨rfl, I', S₁⟩ := x
      refine nh ?_
      exact wpAny_pure (hRq _ _ (hR _ _ ⟨φ, S₁.more fun _ => List.mem_cons_of_mem _, I', F.step S₁ hX⟩))
    · obtain ⟨fm₁, fm₂, σ₁, σ₂, σ₃, ok, hset, hok, hg3, hl⟩ := lvl_some hb
      clear hb hv
      refine wpAny_bind ((next_some Rm.free e0 I y).go fun r h' tk x => ?_)
      refine byc fun nh => ?_
      obtain ⟨u, rfl, q, I₁, S₁, m₁⟩ := x
      refine nh ?_
      refine wpAny_bind ((go_sound (target := tg) (s := { s with heap := h', toks := tk }) m₁ hp I₁).go fun _ h₂ tk₂ x => ?_)
      refine byc fun nh => ?_
      obtain ⟨I₂, S₂, y₂⟩ := x
      refine nh ?_
      refine wpAny_bind ((setT_sound (s := { s with heap := h₂, toks := tk₂ }) Rm.free E ht hset I₂ ((F.step S₁ hX).step S₂ hX) (S₂.rv q)).go fun _ h₃ tk₃ st => ?_)
      refine byc fun nh => ?_
      obtain ⟨S₃, I₃, F₃⟩ := st
      refine nh ?_
      refine wpAny_bind ((ifs_sound S' Rm E _ _ hfs _ _ _ hok { s with heap := h₃, toks := tk₃ } φ I₃ F₃).go fun ok' h₄ tk₄ x => ?_)
      refine byc fun nh => ?_
      obtain ⟨φ₄, S₄, I₄, e⟩ := x
      obtain rfl : ok' = ok := e
      have S14 : Step (env.locals :: X) φ φ₄ s.heap h₄ := (((S₁.trans S₂).more fun _ => List.mem_cons_of_mem _).trans (S₃.more one1)).trans (S₄.more nil0)
      have cont : ∀ h₅ tk₅, Looped h₀ γ env [] φ₄ h₄ fm₁ σ₁ h₅ →
          wpAny (model prog w) A (again (.compLoop (.ListComp elt gens sc pos) k (.ref z) uacc env)) Rq bot { s with heap := h₅, toks := tk₅ } := fun h₅ tk₅ L => by
        obtain ⟨φ₅, S₅, I₅, F₅⟩ := L
        refine wpAny_pure (hRq _ _ ⟨rfl, ih _ _ _ _ _ _ _ hl { s with heap := h₅, toks := tk₅ } φ₅ z X uacc I₅ F₅ (((y₂.step S₃ (off_one hX)).step S₄ nil1).step S₅ (off_one hX)) hX hp (S₅.rv (S14.rv qa)) R fun h' tk' x => ?_⟩)
        obtain ⟨φ₆, S₆, I₆, F₆⟩ := x
        exact hR h' tk' ⟨φ₆, (S14.trans (S₅.more one1)).trans S₆, I₆, F₆⟩
      induction ok' with
      | false =>
        obtain ⟨rfl, rfl⟩ := rt_eq hg3
        refine nh ?_
        exact cont h₄ tk₄ ⟨φ₄, Step.refl _ _ _, I₄, F₃.step0 S₄⟩
      | true =>
        refine nh ?_
        exact tail _ _ _ _ hg3 { s with heap := h₄, toks := tk₄ } φ₄ z uacc I₄ (F₃.step0 S₄) (S14.rv qa) _ cont
theorem comp_loop (D : Wd prog w h₀ G T d) (S : EvSnd prog w h₀ G T d n) (S' : TrSnd prog w h₀ G T d n) (Rm : Room d A) (E : EnvOk γ env) {elt : Expr} {gens : List Comprehension} {sc : Scope} {pos : Pos} {acc : PV} :
    ∀ (rest : List Comprehension) (k : Nat) (tg iter : Expr) (ifs : List Expr) (t : MT) (fs : MEs) (g : MG), gens.drop k = ⟨tg, iter, ifs, 0⟩ :: rest → target γ tg = some t → seqL (ifs.map (cE G n γ)) = some fs → cG G (cE G n) γ elt rest = some g →
    ∀ (fuel i : Nat) (fm : Fm) (σ : St) (fm' : Fm) (r : Option Unit) (σ' : St) (src : PI), loopM src (lvlBody T t fs g acc) fuel i fm σ = some ((fm', r), σ') → ∀ (s : Shared) (φ : Phi) (z : Addr) (X : List Addr) (uacc : Value),
    Inv h₀ φ σ s.heap → FrAt h₀ γ env fm φ s.heap → SrcAt φ h₀ s.heap z i src X → env.locals ∉ X → pairFor src tg = true → RV φ s.heap acc uacc → ∀ R : Result → Shared → Prop,
    (∀ h' tk, Looped h₀ γ env X φ s.heap fm' σ' h' → R (.ok .next) { s with heap := h', toks := tk }) → codeAny (model prog w) A (.compLoop (.ListComp elt gens sc pos) k (.ref z) uacc env) R s := by
  intro rest
  induction rest with
  | nil =>
    intro k tg iter ifs t fs g hg ht hfs hcg
    have hk : gens[k]? = some ⟨tg, iter, ifs, 0⟩ := by
      have := congrArg (·[0]?) hg
      simpa using this
    have hk1 : gens[k + 1]? = none := by
      have := congrArg (·[1]?) hg
      simpa using this
    refine byc fun nh => ?_
    obtain ⟨me, hme, rfl⟩ := omap (show (cE G n γ elt).map MG.elt = some g from hcg)
    refine nh ?_
    refine lvl_loop S' Rm E hk ht hfs fun fm σ fm' σ' hg3 s φ z uacc I F qa Q hQ => ?_
    refine byc fun nh => ?_
    obtain ⟨ev₁, σ₄, hev, hg4⟩ := bnd_some hg3
    obtain ⟨un, σ₅, hpush, hg5⟩ := bnd_some hg4
    obtain ⟨rfl, rfl⟩ := rt_eq hg5
    refine nh ?_
    unfold tailK
    refine Eq.symm (hk1) ▸ ?_
    refine wpAny_bind (wpAny_bind ((S _ _ _ hme _ _ _ _ hev A s φ env Rm E I F).go fun x h₅ tk₅ rr => ?_))
    refine byc fun nh => ?_
    obtain ⟨φ₅, S₅, I₅, q₅⟩ := rr
    refine nh ?_
    refine wpAny_bind ((push_sound (s := { s with heap := h₅, toks := tk₅ }) hpush I₅ (S₅.rv qa) q₅).go fun rr h₆ tk₆ xx => ?_)
    refine byc fun nh => ?_
    obtain ⟨_, S₆, I₆⟩ := xx
    refine nh ?_
    exact wpAny_pure (hQ h₆ tk₆ ⟨φ₅, (S₅.trans S₆).more nil0, I₆, F.step0 (S₅.trans S₆)⟩)
  | cons c rest ihr =>
    intro k tg iter ifs t fs g hg ht hfs hcg
    have hk : gens[k]? = some ⟨tg, iter, ifs, 0⟩ := by
      have := congrArg (·[0]?) hg
      simpa using this
    have hk1 : gens[k + 1]? = some c := by
      have := congrArg (·[1]?) hg
      simpa using this
    refine byc fun nh => ?_
    obtain ⟨tg2, iter2, ifs2, a2⟩ := c
    obtain ⟨rfl, mi2, t2, fs2, g2, c1, c2, c3, c4, c5, rfl⟩ := cG_cons hcg
    have hd1 : gens.drop (k + 1) = ⟨tg2, iter2, ifs2, 0⟩ :: rest := by
      have := congrArg (List.drop 1) hg
      replace this := (List.drop_drop) ▸ this
      simpa using this
    refine nh ?_
    refine lvl_loop S' Rm E hk ht hfs fun fm σ fm' σ' hg3 s φ z uacc I F qa Q hQ => ?_
    refine byc fun nh => ?_
    obtain ⟨src2, σ₄, hi2, hg4⟩ := bnd_some hg3
    obtain ⟨⟨fm₅, r₅⟩, σ₅, hl2, hg5⟩ := bnd_some hg4
    obtain ⟨rfl, rfl⟩ := rt_eq hg5
    refine nh ?_
    unfold tailK
    refine Eq.symm (hk1) ▸ ?_
    refine wpAny_bind (wpAny_mono (iter_sound D S Rm E c1 hi2 I F) (fun x s₅ hx => ?_) fun _ _ e => e)
    refine wpAny_bind (wpAny_standAt ?_)
    rw [if_neg (by dsimp only; decide), not_set c1]
    refine wpAny_bind (wpAny_pure ?_)
    refine wpAny_bind (wpAny_holding ?_)
    refine wpAny_mono hx (fun u s₆ hu => ?_) fun _ _ e => e
    refine byc fun nh => ?_
    obtain ⟨h₆, tk₆, rfl, z2, X2, φ₆, rfl, S₆, I₆, y2, hX2⟩ := hu
    refine nh ?_
    refine wpAny_bind (wpAny_runOwn ?_)
    refine codeAny_compStart hk1 y2 fun tk₇ => ?_
    refine ihr (k + 1) tg2 iter2 ifs2 t2 fs2 g2 hd1 c2 c3 c4 _ _ _ _ _ _ _ _ hl2 { s with heap := h₆, toks := tk₇ } φ₆ z2 X2 uacc I₆ (F.step0 S₆) y2 (made_off F hX2) (pair_for c5 c2 hi2) (S₆.rv qa) _ fun h₇ tk₈ x => ?_
    refine byc fun nh => ?_
    obtain ⟨φ₇, S₇, I₇, F₇⟩ := x
    refine nh ?_
    exact hQ h₇ tk₈ ⟨φ₇, ((S₆.more (Y := env.locals :: X2) nil0).trans S₇).less fun b hb => by
      rcases List.mem_cons.mp hb with rfl | hb
      · exact .inl List.mem_cons_self
      · exact .inr (hX2 b hb), I₇, F₇⟩
end
end Mine
end
section
namespace Mine
open PySem PyProof.Rows
section
variable {prog : Program} {w : World} {h₀ : Heap} {G : List (Str × PV)} {T : Tab} {d n : Nat} {γ : Gm} {env : Env} {fm : Fm} {A : Around}
theorem namesOf_cons (k : NameKind) (x : Str × NameKind) (r : List (Str × NameKind)) : namesOf k (x :: r) = if x.2 == k then x.1 :: namesOf k r else namesOf k r := by
  unfold namesOf
  rw [List.filter_cons]
  split <;> rfl
set_option tactic.hygienic true in
theorem lay_cells : ∀ (names : List (Str × NameKind)) (acc : List (Str × Addr)) (cs : List Str) (ks : List Nat) (φ : Phi) (σ : St) (h : Heap) (ks' : List Nat) (σ' : St), CellsAt φ cs acc ks → Inv h₀ φ σ h → allocCells (namesOf .cell names).length σ = some (ks', σ') →
    ∃ φ', Step [] φ φ' h (pushCells h names) ∧ Inv h₀ φ' σ' (pushCells h names) ∧ CellsAt φ' ((namesOf .cell names).reverse ++ cs) (cellsFrom h.objs.size names acc) (ks' ++ ks) ∧ Ext [] h (pushCells h names) := by
  intro names
  induction names with
  | nil =>
    intro acc cs ks φ σ h ks' σ' hc I ha
    obtain ⟨rfl, rfl⟩ := smp ha
    exact ⟨φ, Step.refl _ _ _, I, hc, Ext.refl _ _⟩
  | cons x r ih =>
    intro acc cs ks φ σ h ks' σ' hc I ha
    obtain ⟨nm, kd⟩ := x
    rw [namesOf_cons] at ha
    unfold pushCells cellsFrom
    by_cases hk : (kd == NameKind.cell) = true
    · rw [if_pos hk] at ha
      rw [if_pos hk, if_pos hk]
      simp only [List.length_cons, allocCells] at ha
      split at ha
      · rename_i ks1 σ1 e
        obtain ⟨rfl, rfl⟩ := smp ha
        have x1 := Ext.push h { cls := .type "cell", data := .cell none }
        obtain ⟨I', S'⟩ := I.alloc x1 (p := (h.objs.size, h.objs.size)) (Nat.le_refl _) (c := .cel none) ⟨rfl, _, none, Heap.get?_push_size _ rfl, rfl, trivial⟩
        have hc' : CellsAt (φ ++ [(h.objs.size, h.objs.size)]) (nm :: cs) ((nm, h.objs.size) :: acc) (σ.length :: ks) :=
          .cons (by rw [← I.len]; simp) (hc.mono ⟨_, rfl⟩)
        obtain ⟨φ', S2, I2, c2, x2⟩ := ih _ _ _ _ _ _ _ _ hc' I' e
        have sz : (h.push { cls := .type "cell", data := .cell none }).objs.size = h.objs.size + 1 := Heap.size_push ..
        rw [sz] at c2
        refine ⟨φ', S'.trans S2, I2, ?_, x1.trans x2⟩
        rw [namesOf_cons, if_pos hk]
        simpa using c2
      · exact nsm ha
    · rw [if_neg hk] at ha
      rw [if_neg hk, if_neg hk, namesOf_cons, if_neg hk]
      exact ih _ _ _ _ _ _ _ _ hc I ha
theorem closure_at {φ : Phi} (hc : CellsAt φ γ.cells env.cells fm.cs) : ∀ (names : List (Str × NameKind)) (acc : List (Str × Addr)) (cs : List Str) (ks : List Nat) (frees : List Nat) (fs : List Nat), CellsAt φ cs acc ks →
    (namesOf .free names).mapM (place γ.cells) = some frees → (frees.mapM fun i => fm.cs[i]?) = some fs →
    ∀ f : Str × NameKind → List (Str × Addr) → Sem (ForInStep (List (Str × Addr))), (∀ name kind cells, f (name, kind) cells = if kind == .free then (do let a ← cellOf env name; pure (.yield ((name, a) :: cells))) else pure (.yield cells)) →
    ∃ cl, (forIn names acc f : Sem _) = pure cl ∧ CellsAt φ ((namesOf .free names).reverse ++ cs) cl (fs.reverse ++ ks) := by
  intro names
  induction names with
  | nil =>
    intro acc cs ks frees fs ha h1 h2 f hf
    cases h1; cases h2
    exact ⟨acc, rfl, ha⟩
  | cons x r ih =>
    intro acc cs ks frees fs ha h1 h2 f hf
    obtain ⟨nm, kd⟩ := x
    rw [namesOf_cons] at h1
    rw [List.forIn_cons, hf]
    by_cases hk : (kd == NameKind.free) = true
    · rw [if_pos hk] at h1
      rw [if_pos hk, namesOf_cons, if_pos hk]
      refine byc fun nh => ?_
      obtain ⟨i, frees', e1, e2, rfl⟩ := mapM_cons_some h1
      obtain ⟨k, fs', e3, e4, rfl⟩ := mapM_cons_some h2
      obtain ⟨a, k', g1, g2, g3⟩ := hc.get e1
      have hkk : k = k' := by rw [g2] at e3; cases e3; rfl
      subst hkk
      obtain ⟨cl, hcl, c2⟩ := ih ((nm, a) :: acc) (nm :: cs) (k :: ks) frees' fs' (.cons g3 ha) e2 e4 f hf
      refine nh ?_
      refine ⟨cl, ?_, by simpa using c2⟩
      have : cellOf env nm = pure a := by unfold cellOf; rw [g1]
      refine Eq.symm (this) ▸ ?_
      exact hcl
    · rw [if_neg hk] at h1
      rw [if_neg hk, namesOf_cons, if_neg hk]
      refine byc fun nh => ?_
      obtain ⟨cl, hcl, c2⟩ := ih acc cs ks frees fs ha h1 h2 f hf
      refine nh ?_
      exact ⟨cl, hcl, c2⟩
theorem closureFor_at {φ : Phi} {sc : Scope} {frees fs : List Nat} (hc : CellsAt φ γ.cells env.cells fm.cs) (h1 : (namesOf .free sc.names).mapM (place γ.cells) = some frees) (h2 : (frees.mapM fun i => fm.cs[i]?) = some fs) :
    ∃ cl, closureFor sc env = pure cl ∧ CellsAt φ (namesOf .free sc.names).reverse cl fs.reverse := by
  obtain ⟨cl, e, c⟩ := closure_at hc sc.names [] [] [] frees fs .nil h1 h2 (fun x cells => if x.2 == .free then (do let a ← cellOf env x.1; pure (.yield ((x.1, a) :: cells))) else pure (.yield cells)) (fun _ _ _ => rfl)
  refine ⟨cl, ?_, by simpa using c⟩
  have h : closureFor sc env = ((forIn sc.names [] fun x cells => if x.2 == .free then (do let a ← cellOf env x.1; pure (.yield ((x.1, a) :: cells))) else pure (.yield cells) : Sem (List (Str × Addr))) >>= fun s => pure s) := rfl
  rw [h, e]
  rfl
end
end Mine
end
section
namespace Mine
open PySem PyProof.Rows
section
variable {prog : Program} {w : World} {h₀ : Heap} {G : List (Str × PV)} {T : Tab} {d n : Nat} {γ : Gm} {env : Env} {fm : Fm} {A : Around}
theorem relab_eq (E : EnvOk γ env) (sc : Scope) : (relabel sc env).names = relab γ sc.names := by
  unfold relabel relab
  have : (env.scope.kind == ScopeKind.function) = true := by rw [E.kind]; rfl
  simp only [this, E.kindOf]
theorem wpAny_newFunctionEnv_around {M : Model} {E : Value → Shared → Prop} {s : Shared} {sc : Scope} {globals : Addr} {cl : List (Str × Addr)} {qual : Str} {outer : Env} {Q : Env → Shared → Prop}
    (hQ : Q { scope := sc, locals := s.heap.objs.size, globals := globals, cells := cellsFrom (s.heap.objs.size + 1) sc.names cl, qual := qual, func := none, code := outer.code, frame := outer.frame, builtins := outer.builtins }
      { s with heap := pushCells (s.heap.push { cls := .type "dict", data := .dict #[] }) sc.names }) :
    wpAny M A (newFunctionEnv sc globals cl [] qual none .none (some outer)) Q E s := by
  simp only [newFunctionEnv, Option.isSome_some, if_true]
  refine wpAny_bind (wpAny_alloc ?_)
  refine wpAny_bind (wpAny_layCells _ (fun name kind cells => by cases hkc : kind == NameKind.cell <;> simp [hkc]) _ _ _ _ ?_)
  refine Eq.symm (show ({ s with heap := s.heap.push { cls := .type "dict", data := .dict #[] } } : Shared).heap.objs.size = s.heap.objs.size + 1 from Heap.size_push ..) ▸ ?_
  rw [List.forIn_nil]
  exact wpAny_bind (wpAny_pure (wpAny_pure hQ))
theorem blockOk_at {sc : Scope} (h : blockOk sc.names = true) : (namesOf .local sc.names).Nodup ∧ ∀ x ∈ sc.names, x.2 = .local → sc.names.lookup x.1 = some .local := by
  unfold blockOk at h
  simp only [Bool.and_eq_true, decide_eq_true_eq, List.all_eq_true, Bool.or_eq_true, bne_iff_ne, ne_eq, beq_iff_eq] at h
  exact ⟨h.1, fun x hx hl => (h.2 x hx).resolve_left fun hn => hn hl⟩
inductive Comped (h₀ : Heap) (φ : Phi) (h : Heap) (v : PV) (σ' : St) (u : Value) (C : Addr) (h' : Heap) : Prop
  | mk (φ' : Phi) (m : Str → Option Value) (S : Step [] φ φ' h h') (I : Inv h₀ φ' σ' h') (q : RV φ' h' v u) (hn : h'.Ns C m) (hC : h.objs.size ≤ C) (ho : ∀ p ∈ φ', p.2 ≠ C)
theorem no_repl {α : Type} {n i : Nat} {v : α} (h : (List.replicate n none)[i]? = some (some v)) : False :=
  nomatch List.eq_of_mem_replicate (List.mem_of_getElem? h)
theorem bad3 {a b c : Bool} (h : ¬(a || b || !c) = true) : a = false ∧ b = false ∧ c = true := by
  cases a <;> cases b <;> cases c <;> first | exact ⟨rfl, rfl, rfl⟩ | exact absurd rfl h
theorem comp_core (D : Wd prog w h₀ G T d) (S : EvSnd prog w h₀ G T d n) (S' : TrSnd prog w h₀ G T d n) (Rm : Room d A) (E : EnvOk γ env) {elt : Expr} {gens : List Comprehension} {sc : Scope} {pos : Pos} {me : ME} {use : Option (Value → Sem Unit)}
    (hm : cE G (n + 1) γ (.ListComp elt gens sc pos) = some me) {σ σ' : St} {v : PV} (hv : ev T me fm σ = some (v, σ')) {s : Shared} {φ : Phi} (I : Inv h₀ φ σ s.heap) (F : FrAt h₀ γ env fm φ s.heap) {Q : Value → Shared → Prop}
    (K : ∀ uacc C h' tk, Comped h₀ φ s.heap v σ' uacc C h' → compPost (model prog w) A bot use Q uacc C (.ok .next) { s with heap := h', toks := tk }) :
    wpAny (model prog w) A (comprehension (.ListComp elt gens sc pos) sc env (firstIterPos gens pos) (newList []) (firstAsync gens) (firstIter gens env) use) Q bot s := by
  cases gens with
  | nil => exact nsm hm
  | cons g0 rest =>
    obtain ⟨tg, iter, ifs, a⟩ := g0
    obtain ⟨hok, hm1⟩ := ifN (show (if (a != 0 || sc.kind != .function || !blockOk sc.names) = true then none else _) = some me from hm)
    obtain ⟨frees, c2, hm2⟩ := obind hm1
    refine byc fun nh => ?_
    obtain ⟨mi, t, fs, g, c1, c3, c4, c5, hm3⟩ := opt4 hm2
    obtain ⟨hz', hm4⟩ := ifS hm3
    clear hm hm1 hm2 hm3
    obtain rfl := smi hm4
    obtain ⟨ha, hkind, hblk⟩ := bad3 hok
    obtain rfl := bne_eq_false_iff_eq.1 ha
    have hkind' : sc.kind = .function := by
      cases hk : sc.kind <;> first | rfl | (rw [hk] at hkind; exact Bool.noConfusion hkind)
    obtain ⟨hnd, hnm⟩ := blockOk_at hblk
    refine nh ?_
    refine byc fun nh => ?_
    obtain ⟨src, σ₁, hi, hv1⟩ := bnd_some hv
    obtain ⟨acc, σ₂, hacc, hv2⟩ := bnd_some hv1
    obtain ⟨ks, σ₃, hks, hv3⟩ := bnd_some hv2
    obtain ⟨fs', σ₄', hfs, hv4⟩ := bnd_some hv3
    obtain ⟨hfs, hσ4⟩ := lift_some hfs
    replace hv4 := (hσ4) ▸ hv4
    obtain ⟨⟨fmL, rL⟩, σ₅, hl, hv5⟩ := bnd_some hv4
    obtain ⟨hvv, hσ5⟩ := rt_eq hv5
    obtain ⟨rfl, rfl⟩ := smp hacc
    obtain ⟨fs0, hfs0, rfl⟩ := omap hfs
    obtain ⟨cl, hcl, ccl⟩ := closureFor_at F.cells c2 hfs0
    refine nh ?_
    refine wpAny_comprehension_free (g := ⟨tg, iter, ifs, 0⟩) (gs := rest) rfl (fun x => not_set c1 env x) hcl hkind' hnm ?_
    refine wpAny_mono (iter_sound D S Rm E c1 hi I F) (fun x s₁ hx => wpAny_mono hx (fun it s₂ h₂ => ?_) fun _ _ e => e) fun _ _ e => e
    refine byc fun nh => ?_
    obtain ⟨hh, tk₂, rfl, z, X, φ₂, rfl, S₂, I₂, y₂, hX⟩ := h₂
    refine nh ?_
    refine wpAny_newObj_type ?_
    refine byc fun nh => ?_
    obtain ⟨φ₃, S₃, I₃, q₃⟩ := newList_at (h := hh) (us := []) (xs := []) I₂ .nil (by decide)
    have hsz3 : (hh.push { cls := .type "list", data := .seq ([] : List Value).toArray }).objs.size = hh.objs.size + 1 := Heap.size_push ..
    refine nh ?_
    refine wpAny_newFunctionEnv_around ?_
    dsimp only
    generalize hH3 : hh.push { cls := .type "list", data := .seq ([] : List Value).toArray } = H3 at S₃ I₃ q₃ hsz3 ⊢
    have x4 := Ext.push H3 { cls := .type "dict", data := .dict #[] }
    have S₄ : Step [] φ₃ φ₃ H3 (H3.push { cls := .type "dict", data := .dict #[] }) := x4.step
    refine byc fun nh => ?_
    obtain ⟨φ₅, S₅, I₅, c₅, x5⟩ := lay_cells sc.names cl _ _ φ₃ _ _ ks σ₃ (ccl.mono (S₂.trans S₃).ext) (I₃.ext0 x4) hks
    have hszd : (H3.push { cls := .type "dict", data := .dict #[] }).objs.size = H3.objs.size + 1 := Heap.size_push ..
    rw [hszd] at c₅
    have S25 := ((S₂.trans S₃).trans S₄).trans S₅
    have hC0 : s.heap.objs.size ≤ H3.objs.size := Nat.le_trans S₂.size S₃.size
    have hns : (pushCells (H3.push { cls := .type "dict", data := .dict #[] }) sc.names).Ns H3.objs.size (fun _ => none) :=
      (Heap.Ns.new H3 (.type "dict")).keeps fun b o e => x5.keep b o e (by exact List.not_mem_nil)
    have offC : ∀ p ∈ φ₅, p.2 ≠ H3.objs.size := by
      obtain ⟨od, _, _, ed, _⟩ := Heap.Ns.new H3 (.type "dict")
      exact S₅.toGrow.off ed (I₃.fresh (Nat.le_refl _))
    refine nh ?_
    generalize hH5 : pushCells (H3.push { cls := .type "dict", data := .dict #[] }) sc.names = H5 at S₅ I₅ c₅ hns S25 x5 ⊢
    generalize hE : ({ ({ scope := sc, locals := H3.objs.size, globals := env.globals, cells := cellsFrom (H3.objs.size + 1) sc.names cl, qual := env.qual, func := none, code := env.code, frame := env.frame, builtins := env.builtins } : Env) with scope := relabel sc env } : Env) = cenv
    have E' : EnvOk (inner γ sc) cenv := by
      subst hE
      exact ⟨hkind', relab_eq E sc, E.globals, E.builtins, hnd⟩
    have hloc : cenv.locals = H3.objs.size := by subst hE; rfl
    have F' : FrAt h₀ (inner γ sc) cenv ⟨List.replicate (namesOf .local sc.names).length none, ks ++ fs0.reverse⟩ φ₅ H5 := by
      refine ⟨⟨_, by rw [hloc]; exact hns, ?_⟩, by simp [inner], ?_, by rw [hloc]; exact offC, ?_⟩
      · intro i x v _ hv
        exact (no_repl hv).elim
      · rw [hloc]; exact Nat.le_trans I.sz hC0
      · subst hE; simpa [inner] using c₅
    have hXlt : ∀ a ∈ X, a < hh.objs.size := by
      intro a ha
      induction y₂ with
      | one h1 _ _ => obtain ⟨o, e, _⟩ := h1.there; simp at ha; subst ha; exact Heap.lt_size e
      | zip Z _ =>
        rcases List.mem_cons.mp ha with rfl | ha
        · exact Heap.lt_size Z.rec_
        · obtain ⟨vv, yy⟩ := Z.zs.mem ha; obtain ⟨o, e, _⟩ := yy.at_.there; exact Heap.lt_size e
    have hCX : cenv.locals ∉ X := fun hm => by
      have h1 := hXlt _ hm
      rw [hloc, hsz3] at h1
      exact absurd h1 (Nat.not_lt.mpr (Nat.le_succ _))
    have y₅ := (y₂.step S₃ (by exact nil1)).step (S₄.trans S₅) (by exact nil1)
    refine codeAny_compStart (k := 0) (target := tg) (iter := iter) (ifs := ifs) rfl (s := { s with heap := H5, toks := tk₂ }) y₅ fun tk₆ => ?_
    refine comp_loop D S S' Rm E' (acc := .obj σ₁.length) rest 0 tg iter ifs t fs g rfl c3 c4 c5 _ _ _ _ _ _ _ _ hl { s with heap := H5, toks := tk₆ } φ₅ z X _ I₅ F' y₅ hCX (pair_for hz' c3 hi) (S₅.rv (S₄.rv q₃)) _ fun h' tk' x => ?_
    refine byc fun nh => ?_
    obtain ⟨φ₆, S₆, I₆, F₆⟩ := x
    have S26 : Step [] φ φ₆ s.heap h' := ((S25.more (Y := cenv.locals :: X) (by exact nil0)).trans S₆).less fun b hb => by
      rcases List.mem_cons.mp hb with rfl | hb
      · exact .inr (by rw [hloc]; exact hC0)
      · exact .inr (hX b hb)
    subst hvv
    obtain ⟨m', hm', _⟩ := F₆.ns
    have := K (.ref hh.objs.size) cenv.locals h' tk' ⟨φ₆, m', S26, hσ5 ▸ I₆, S₆.rv (S₅.rv (S₄.rv q₃)), hm', by rw [hloc]; exact hC0, F₆.off⟩
    replace this := (hloc) ▸ this
    refine nh ?_
    exact this
end
end Mine
end
section
namespace Mine
open PySem PyProof.Rows
section
variable {prog : Program} {w : World} {h₀ : Heap} {G : List (Str × PV)} {T : Tab} {d n : Nat} {γ : Gm} {env : Env} {fm : Fm} {A : Around}
theorem Comped.ret {φ : Phi} {h h' h'' : Heap} {v : PV} {σ' : St} {u : Value} {C : Addr} (c : Comped h₀ φ h v σ' u C h') (hlow : h₀.objs.size ≤ h.objs.size) (hs : Heap.SameBut C h' h'') : Ret h₀ [] φ h v σ' u h'' := by
  refine byc fun nh => ?_
  obtain ⟨φ', m, S, I, q, hn, hC, ho⟩ := c
  obtain ⟨o, es, ep, e, hd, _⟩ := hn
  have x : Ext [C] h' h'' := Ext.same hs fun o' e' => by rw [e] at e'; cases e'; exact imm_dict hd
  refine nh ?_
  exact ⟨φ', ((S.more (Y := [C]) (by exact nil0)).trans x.step).less (by intro y hy; simp at hy; subst hy; exact .inr hC), I.ext x (by simpa using Nat.le_trans hlow hC) (by simpa using ho), q.mono x.grow⟩
theorem mono_tr (D : Wd prog w h₀ G T d) (S : EvSnd prog w h₀ G T d (n + 1)) {e : Expr} {me : ME} (hm : cE G (n + 1) γ e = some me) (he : isTrue e env (eval e env) = (do let v ← eval e env; standAt e.pos; holding [v] (truthy v)))
    {σ σ' : St} {v : PV} {b : Bool} (hv : ev T me fm σ = some (v, σ')) (hb : truth σ' v = some b) {s : Shared} {φ : Phi} (R : Room d A) (E : EnvOk γ env) (I : Inv h₀ φ σ s.heap) (F : FrAt h₀ γ env fm φ s.heap) :
    W prog w A (isTrue e env (eval e env)) s (RetX h₀ φ s.heap σ' (isB b)) := by
  refine hid fun Rq hRq => ?_
  refine wpAny_isTrue_value ?_ he
  refine (S _ _ _ hm _ _ _ _ hv A s φ env R E I F).go fun u h' tk r => ?_
  obtain ⟨φ₁, S₁, I₁, q⟩ := r
  refine (truth_sound (s := { s with heap := h', toks := tk }) hb I₁ q).go fun c h'' tk' x => ?_
  obtain ⟨rfl, rfl⟩ := x
  exact (hRq _ _ tk' ⟨φ₁, S₁, I₁, rfl⟩)
section
variable {me : ME} {v : PV} {σ σ' : St} {s : Shared} {φ : Phi}
theorem ge_const {k : Const} {a : Nat} {p : Pos} {v' : PV} (hk : constOf k = some v') (hv : ev T (.cst v') fm σ = some (v, σ')) (I : Inv h₀ φ σ s.heap) : W prog w A (eval (.Constant k a p) env) s (Ret h₀ [] φ s.heap v σ') := by
  refine hid fun Rq hRq => ?_
  obtain ⟨_, rfl, rfl⟩ := if_rt hv
  induction k with
  | none => cases hk; exact wpAny_Constant_none (hRq _ _ _ (Ret.here I .none))
  | bool b => cases hk; exact wpAny_Constant_bool (hRq _ _ _ (Ret.here I (.bool _)))
  | int i => cases hk; exact wpAny_Constant_int (hRq _ _ _ (Ret.here I (.int _ _)))
  | str x =>
    obtain ⟨hf, hk⟩ := ifS hk
    cases hk; exact wpAny_Constant_str (hRq _ _ _ (Ret.here I (.str hf _)))
  | _ => exact nsm hk
theorem ge_name (D : Wd prog w h₀ G T d) (E : EnvOk γ env) {x : Str} {p : Pos} (hm : cName G γ x = some me) (hv : ev T me fm σ = some (v, σ')) (I : Inv h₀ φ σ s.heap) (F : FrAt h₀ γ env fm φ s.heap) : W prog w A (eval (.Name x p) env) s (Ret h₀ [] φ s.heap v σ') := by
  refine hid fun Rq hRq => ?_
  refine wpAny_bind (wpAny_standAt ?_)
  by_cases hx : (x == ("__debug__" : Str)) = true
  · obtain rfl := smi ((if_pos hx).symm.trans hm)
    obtain ⟨rfl, rfl⟩ := smp hv
    refine Eq.symm (if_pos hx) ▸ ?_
    exact wpAny_bind (wpAny_rule (wpAny_pure (hRq _ _ _ (Ret.here I (.bool _)))))
  · obtain ⟨hc, hm1⟩ := ifN ((if_neg hx).symm.trans hm)
    refine Eq.symm (if_neg hx) ▸ ?_
    rcases pick_some hm1 with ⟨mx, hmx, hm2⟩ | ⟨_, hm2⟩
    · obtain rfl := smi hm2
      obtain ⟨rfl, H⟩ := getV_sound (s := s) E hmx (show getV fm mx σ = _ from hv) I F (by simpa using hc)
      refine H.go fun u h' tk r => ?_
      obtain ⟨rfl, q⟩ := r
      exact (hRq _ _ tk (Ret.here I q))
    · obtain ⟨hk, hm3⟩ := ifS hm2
      obtain ⟨v', hG, rfl⟩ := omap hm3
      obtain ⟨_, rfl, rfl⟩ := if_rt hv
      refine (glob_sound D.globs E (beq_iff_eq.1 hk) hG I).go fun u h' tk r => ?_
      obtain ⟨rfl, q⟩ := r
      exact (hRq _ _ tk (Ret.here I q))
theorem ge_bin (S : EvSnd prog w h₀ G T d n) (R : Room d A) (E : EnvOk γ env) {l r : Expr} {op : Operator} {p : Pos} (hm : bind2 (cE G n γ l) (cE G n γ r) (fun a b => some (ME.bin op a b)) = some me) (hv : ev T me fm σ = some (v, σ')) (I : Inv h₀ φ σ s.heap) (F : FrAt h₀ γ env fm φ s.heap) : W prog w A (eval (.BinOp l op r p) env) s (Ret h₀ [] φ s.heap v σ') := by
  refine hid fun Rq hRq => ?_
  refine byc fun nh => ?_
  obtain ⟨a, b, h1, h2, hm⟩ := opt2 hm
  obtain rfl := smi hm
  obtain ⟨x, σ₁, hx, hv1⟩ := bnd_some hv
  obtain ⟨y, σ₂, hy, hv2⟩ := bnd_some hv1
  refine nh ?_
  refine wpAny_BinOp ?_
  refine (S _ _ _ h1 _ _ _ _ hx A s φ env R E I F).go fun ua h' tk r => ?_
  refine byc fun nh => ?_
  obtain ⟨φ₁, S₁, I₁, q⟩ := r
  refine nh ?_
  refine (S _ _ _ h2 _ _ _ _ hy A { s with heap := h', toks := tk } φ₁ env R E I₁ (F.step0 S₁)).go fun ub h'' tk' r => ?_
  refine byc fun nh => ?_
  obtain ⟨φ₂, S₂, I₂, q2⟩ := r
  refine nh ?_
  exact (binop_sound (s := { s with heap := h'', toks := tk' }) hv2 I₂ (S₂.rv q) q2).go fun u h3 tk3 r => (hRq _ h3 tk3 (Ret.before (S₁.trans S₂) r))
theorem ge_not (S : EvSnd prog w h₀ G T d n) (R : Room d A) (E : EnvOk γ env) {x : Expr} {p : Pos} (hm : (cE G n γ x).map ME.not = some me) (hv : ev T me fm σ = some (v, σ')) (I : Inv h₀ φ σ s.heap) (F : FrAt h₀ γ env fm φ s.heap) : W prog w A (eval (.UnaryOp .Not x p) env) s (Ret h₀ [] φ s.heap v σ') := by
  refine hid fun Rq hRq => ?_
  refine byc fun nh => ?_
  obtain ⟨a, h1, rfl⟩ := omap hm
  obtain ⟨y, σ₁, hy, hv1⟩ := bnd_some hv
  obtain ⟨t, σ₂, ht', hv2⟩ := bnd_some hv1
  obtain ⟨ht, hσ⟩ := look_some ht'
  obtain ⟨rfl, rfl⟩ := rt_eq hv2
  subst hσ
  refine nh ?_
  refine wpAny_UnaryOp ?_
  refine (S _ _ _ h1 _ _ _ _ hy A s φ env R E I F).go fun ua h' tk r => ?_
  obtain ⟨φ₁, S₁, I₁, q⟩ := r
  show wpAny _ _ (holding [ua] (do return Value.bool (!(← truthy ua))) : Sem Value) _ _ _
  refine wpAny_holding (wpAny_bind ?_)
  refine (truth_sound (s := { s with heap := h', toks := tk }) ht I₁ q).go fun c h'' tk' x => ?_
  obtain ⟨rfl, rfl⟩ := x
  exact wpAny_pure (hRq _ _ tk' ⟨φ₁, S₁, I₁, .bool _⟩)
theorem ge_if (S : EvSnd prog w h₀ G T d n) (S' : TrSnd prog w h₀ G T d n) (R : Room d A) (E : EnvOk γ env) {t b o : Expr} {p : Pos} (hm : bind3 (cE G n γ t) (cE G n γ b) (cE G n γ o) (fun t b o => some (ME.ite t b o)) = some me) (hv : ev T me fm σ = some (v, σ')) (I : Inv h₀ φ σ s.heap) (F : FrAt h₀ γ env fm φ s.heap) : W prog w A (eval (.IfExp t b o p) env) s (Ret h₀ [] φ s.heap v σ') := by
  refine hid fun Rq hRq => ?_
  refine byc fun nh => ?_
  obtain ⟨t', b', o', h1, h2, h3, hm⟩ := opt3 hm
  obtain rfl := smi hm
  obtain ⟨x, σ₁, hx, hv1⟩ := bnd_some hv
  obtain ⟨c, σ₂, hc', hv2⟩ := bnd_some hv1
  obtain ⟨hc, hσ⟩ := look_some hc'
  subst hσ
  refine nh ?_
  refine wpAny_IfExp ?_
  refine (S' _ _ _ h1 _ _ _ _ _ hx hc A s φ env R E I F).go fun c' h' tk r => ?_
  refine byc fun nh => ?_
  obtain ⟨φ₁, S₁, I₁, e⟩ := r
  obtain rfl : c' = c := e
  induction c' with
  | true => refine nh ?_; exact (S _ _ _ h2 _ _ _ _ hv2 A { s with heap := h', toks := tk } φ₁ env R E I₁ (F.step0 S₁)).go fun u h3 tk3 r => (hRq _ h3 tk3 (Ret.before S₁ r))
  | false => refine nh ?_; exact (S _ _ _ h3 _ _ _ _ hv2 A { s with heap := h', toks := tk } φ₁ env R E I₁ (F.step0 S₁)).go fun u h3 tk3 r => (hRq _ h3 tk3 (Ret.before S₁ r))
theorem RVs.few {h : Heap} {vs : List PV} {us : List Value} {φ : Phi} (q : RVs φ h vs us) (hl : vs.length ≤ 1000) : us.length ≤ sizeLine := by rw [← q.length, sizeLine_eq]; exact Nat.le_trans hl (by decide)
theorem ge_list (S : EvSnd prog w h₀ G T d n) (R : Room d A) (E : EnvOk γ env) {es : List Expr} {p : Pos} (hm : (seqL (es.map (cE G n γ))).map ME.list = some me) (hv : ev T me fm σ = some (v, σ')) (I : Inv h₀ φ σ s.heap) (F : FrAt h₀ γ env fm φ s.heap) : W prog w A (eval (.List es p) env) s (Ret h₀ [] φ s.heap v σ') := by
  obtain ⟨mes, h1, rfl⟩ := omap hm
  obtain ⟨vs, σ₁, hvs, hv1⟩ := bnd_some hv
  obtain ⟨hl, hv2⟩ := ifM hv1
  obtain ⟨rfl, rfl⟩ := smp hv2
  refine wpAny_List_spliced ?_
  refine (evs_sound S R E p es mes h1 _ _ _ hvs s φ I F).go fun us h' tk r => ?_
  obtain ⟨φ₁, S₁, I₁, q⟩ := r
  exact ⟨q.few hl, _, _, rfl, Ret.before S₁ (newList_at I₁ q (Nat.le_trans hl (by decide)))⟩
theorem ge_tup (S : EvSnd prog w h₀ G T d n) (R : Room d A) (E : EnvOk γ env) {es : List Expr} {c : Nat} {p : Pos} (hm : (seqL (es.map (cE G n γ))).map ME.tup = some me) (hv : ev T me fm σ = some (v, σ')) (I : Inv h₀ φ σ s.heap) (F : FrAt h₀ γ env fm φ s.heap) : W prog w A (eval (.Tuple es c p) env) s (Ret h₀ [] φ s.heap v σ') := by
  refine byc fun nh => ?_
  obtain ⟨mes, h1, rfl⟩ := omap hm
  obtain ⟨vs, σ₁, hvs, hv1⟩ := bnd_some hv
  obtain ⟨hl, hv2⟩ := ifM hv1
  obtain ⟨rfl, rfl⟩ := rt_eq hv2
  refine nh ?_
  refine wpAny_Tuple_spliced ?_
  refine (evs_sound S R E p es mes h1 _ _ _ hvs s φ I F).go fun us h' tk r => ?_
  refine byc fun nh => ?_
  obtain ⟨φ₁, S₁, I₁, q⟩ := r
  refine nh ?_
  exact ⟨q.few hl, _, _, rfl, Ret.before S₁ (newTuple_at I₁ q)⟩
theorem ge_cmp (S : EvSnd prog w h₀ G T d n) (R : Room d A) (E : EnvOk γ env) {l : Expr} {ops : List CmpOp} {cs : List Expr} {p : Pos} (hm : bind2 (cE G n γ l) (seqC ops (cs.map (cE G n γ))) cCmp = some me) (hv : ev T me fm σ = some (v, σ')) (I : Inv h₀ φ σ s.heap) (F : FrAt h₀ γ env fm φ s.heap) : W prog w A (eval (.Compare l ops cs p) env) s (Ret h₀ [] φ s.heap v σ') := by
  refine hid fun Rq hRq => ?_
  refine byc fun nh => ?_
  obtain ⟨a, c, h1, h2, hm⟩ := opt2 hm
  have zq1 := seqC_one h2
  induction zq1 with | mk op  e  me'  h3 =>
  obtain rfl := smi hm
  obtain ⟨x, σ₁, hx, hv1⟩ := bnd_some hv
  obtain ⟨b, σ₂, hb, hv2⟩ := bnd_some hv1
  obtain ⟨rfl, rfl⟩ := rt_eq hv2
  refine nh ?_
  show wpAny _ _ (eval l env >>= fun u => compareChain p u [op] (markedEach [op] [e] (evalEach [e] env))) _ _ _
  refine Eq.symm (marked_one h3) ▸ ?_
  refine wpAny_bind ((S _ _ _ h1 _ _ _ _ hx A s φ env R E I F).go fun ua h' tk r => ?_)
  refine byc fun nh => ?_
  obtain ⟨φ₁, S₁, I₁, q⟩ := r
  refine nh ?_
  exact (chain_one S R E p h3 (cmp_one hb) (s := { s with heap := h', toks := tk }) I₁ (F.step0 S₁) q).go fun u h3 tk3 r => (hRq _ h3 tk3 (Ret.before S₁ r))
theorem ge_call (D : Wd prog w h₀ G T d) (S : EvSnd prog w h₀ G T d n) (R : Room d A) (E : EnvOk γ env) {f : Expr} {es : List Expr} {ks : List Keyword} {p : Pos} (hf : ∀ o x ap, f ≠ .Attribute o x ap) (hm : cCall (cE G n γ f) (seqL (es.map (cE G n γ))) (cE.seqK (cE G n γ) ks) (decide (es.length + ks.length < 10)) = some me) (hv : ev T me fm σ = some (v, σ')) (I : Inv h₀ φ σ s.heap) (F : FrAt h₀ γ env fm φ s.heap) : W prog w A (eval (.Call f es ks p) env) s (Ret h₀ [] φ s.heap v σ') := by
  refine byc fun nh => ?_
  obtain ⟨_, hm⟩ := ift hm
  obtain ⟨mf, mes, mk, h0, h1, h2, hm⟩ := opt3 hm
  obtain rfl := smi hm
  refine nh ?_
  exact call_sound D S R E hf h0 h1 h2 hv I F
theorem ge_meth (D : Wd prog w h₀ G T d) (S : EvSnd prog w h₀ G T d n) (R : Room d A) (E : EnvOk γ env) {o : Expr} {x : Str} {ap : Pos} {es : List Expr} {ks : List Keyword} {p : Pos} (hm : (if (notSuper o && ap.endLine == p.line && decide (es.length + ks.length < 20)) = true then bind3 (cE G n γ o) (seqL (es.map (cE G n γ))) (cE.seqK (cE G n γ) ks) (fun o es ks => some (ME.meth o x es ks)) else none) = some me) (hv : ev T me fm σ = some (v, σ')) (I : Inv h₀ φ σ s.heap) (F : FrAt h₀ γ env fm φ s.heap) : W prog w A (eval (.Call (.Attribute o x ap) es ks p) env) s (Ret h₀ [] φ s.heap v σ') := by
  refine byc fun nh => ?_
  obtain ⟨hc, hm⟩ := ift hm
  rw [Bool.and_eq_true, Bool.and_eq_true, decide_eq_true_eq] at hc
  obtain ⟨mo, mes, mk, h0, h1, h2, hm⟩ := opt3 hm
  obtain rfl := smi hm
  refine nh ?_
  exact meth_sound D S R E hc.1.1 hc.1.2 hc.2 h0 h1 h2 hv I F
end
theorem ev_step (D : Wd prog w h₀ G T d) (S : EvSnd prog w h₀ G T d n) (S' : TrSnd prog w h₀ G T d n) : EvSnd prog w h₀ G T d (n + 1) := by
  intro γ e me hm fm σ v σ' hv A s φ env R E I F
  cases e with
  | Constant k a p =>
    refine byc fun nh => ?_
    obtain ⟨v', hk, rfl⟩ := omap hm
    refine nh ?_
    exact ge_const hk hv I
  | Name x p => exact ge_name D E hm hv I F
  | BoolOp op vs p => exact boolOp_sound S R E p op vs me hm σ v σ' hv s φ I F
  | BinOp l op r p => exact ge_bin S R E hm hv I F
  | UnaryOp op x p =>
    induction op with
    | Not => exact ge_not S R E hm hv I F
    | _ => exact nsm hm
  | IfExp t b o p => exact ge_if S S' R E hm hv I F
  | List es p => exact ge_list S R E hm hv I F
  | Tuple es c p => exact ge_tup S R E hm hv I F
  | ListComp elt gens sc p =>
    refine comp_core D S S' R E hm hv I F fun uacc C h' tk c => ?_
    refine byc fun nh => ?_
    obtain ⟨φ', m, _, _, _, hn, _⟩ := id c
    refine nh ?_
    exact ⟨m, hn, fun h'' hs => ⟨h'', tk, rfl, c.ret I.sz hs⟩⟩
  | Compare l ops cs p => exact ge_cmp S R E hm hv I F
  | Call f es ks p =>
    rcases pick_some hm with ⟨⟨o, x, ap⟩, hf, hm⟩ | ⟨hf, hm⟩
    · obtain rfl := asAttr_some hf
      exact ge_meth D S R E hm hv I F
    · exact ge_call D S R E (asAttr_none hf) hm hv I F
  | Attribute o x p =>
    refine byc fun nh => ?_
    obtain ⟨hn, hm⟩ := ift hm
    obtain ⟨mo, h0, rfl⟩ := omap hm
    refine nh ?_
    exact attr_sound D S R E hn h0 hv I F
  | Subscript o i p =>
    rcases pick_some hm with ⟨⟨l, u, t, q⟩, hi, hm⟩ | ⟨hi, hm⟩
    · obtain rfl := asSlc_some hi
      obtain ⟨x, y, z, u', h0, h1, h2, h3, hm⟩ := opt4 hm
      obtain rfl := smi hm
      exact subscript_slice S R E h0 h1 h2 h3 hv I F
    · obtain ⟨x, y, h0, h1, hm⟩ := opt2 hm
      obtain rfl := smi hm
      exact subscript_item S R E h0 h1 hv I F
  | _ => exact nsm hm
theorem tr_step (D : Wd prog w h₀ G T d) (S : EvSnd prog w h₀ G T d n) (S' : TrSnd prog w h₀ G T d n) : TrSnd prog w h₀ G T d (n + 1) := by
  intro γ e me hm fm σ v σ' b hv hb A s φ env R E I F
  cases e with
  | UnaryOp op x p =>
    induction op with
    | Not =>
      refine byc fun nh => ?_
      obtain ⟨a, h1, rfl⟩ := omap hm
      obtain ⟨y, σ₁, hy, hv1⟩ := bnd_some hv
      obtain ⟨t, σ₂, ht', hv2⟩ := bnd_some hv1
      obtain ⟨ht, hσ⟩ := look_some ht'
      obtain ⟨rfl, rfl⟩ := rt_eq hv2
      subst hσ
      obtain rfl := smi hb
      refine nh ?_
      refine wpAny_isTrue_Not ?_
      refine (S' _ _ _ h1 _ _ _ _ _ hy ht A s φ env R E I F).go fun c h' tk r => ?_
      refine byc fun nh => ?_
      obtain ⟨φ₁, S₁, I₁, q⟩ := r
      obtain rfl : c = t := q
      refine nh ?_
      exact ⟨h', tk, rfl, φ₁, S₁, I₁, rfl⟩
    | _ => exact nsm hm
  | BoolOp op vs p =>
    exact wpAny_isTrue_BoolOp (allTrue_sound S' R E op vs me hm σ v σ' b hv hb s φ I F)
  | IfExp t bb o p =>
    · obtain ⟨t', b', o', h1, h2, h3, hm⟩ := opt3 hm
      obtain rfl := smi hm
      obtain ⟨x, σ₁, hx, hv1⟩ := bnd_some hv
      obtain ⟨c, σ₂, hc', hv2⟩ := bnd_some hv1
      obtain ⟨hc, hσ⟩ := look_some hc'
      subst hσ
      refine wpAny_bind ?_
      refine (S' _ _ _ h1 _ _ _ _ _ hx hc A s φ env R E I F).go fun c' h' tk r => ?_
      refine byc fun nh => ?_
      obtain ⟨φ₁, S₁, I₁, e⟩ := r
      obtain rfl : c' = c := e
      induction c' with
      | true => refine nh ?_; exact (S' _ _ _ h2 _ _ _ _ _ hv2 hb A { s with heap := h', toks := tk } φ₁ env R E I₁ (F.step0 S₁)).go fun u h3 tk3 r => ⟨h3, tk3, rfl, r.before S₁⟩
      | false => refine nh ?_; exact (S' _ _ _ h3 _ _ _ _ _ hv2 hb A { s with heap := h', toks := tk } φ₁ env R E I₁ (F.step0 S₁)).go fun u h3 tk3 r => ⟨h3, tk3, rfl, r.before S₁⟩
  | Compare l ops cs p =>
    refine byc fun nh => ?_
    obtain ⟨a, c, h1, h2, hm⟩ := opt2 hm
    have zq1 := seqC_one h2
    induction zq1 with | mk op  e  me'  h3 =>
    obtain rfl := smi hm
    obtain ⟨x, σ₁, hx, hv1⟩ := bnd_some hv
    obtain ⟨b', σ₂, hb', hv2⟩ := bnd_some hv1
    obtain ⟨rfl, rfl⟩ := rt_eq hv2
    obtain rfl := smi hb
    refine nh ?_
    show wpAny _ _ (eval l env >>= fun u => testChain p u [op] (markedEach [op] [e] (evalEach [e] env))) _ _ _
    refine Eq.symm (marked_one h3) ▸ ?_
    refine wpAny_bind ((S _ _ _ h1 _ _ _ _ hx A s φ env R E I F).go fun ua h' tk r => ?_)
    obtain ⟨φ₁, S₁, I₁, q⟩ := r
    exact (test_one S R E p h3 (cmp_one hb') (s := { s with heap := h', toks := tk }) I₁ (F.step0 S₁) q).go fun u h3 tk3 r => ⟨h3, tk3, rfl, r.before S₁⟩
  | _ => first | exact mono_tr D (ev_step D S S') hm rfl hv hb R E I F | exact nsm hm
theorem ev_sound (D : Wd prog w h₀ G T d) : ∀ n, EvSnd prog w h₀ G T d n ∧ TrSnd prog w h₀ G T d n := by
  intro n
  induction n with
  | zero => exact ⟨fun γ e me hm => (nomatch (show (Option.none : Option ME) = some _ from hm)), fun γ e me hm => (nomatch (show (Option.none : Option ME) = some _ from hm))⟩
  | succ n ih => exact ⟨ev_step D ih.1 ih.2, tr_step D ih.1 ih.2⟩
end
end Mine
end
section
namespace Mine
open PySem PyProof.Rows
inductive ExR (h₀ : Heap) (γ : Gm) (env : Env) (φ : Phi) (h : Heap) (fm' : Fm) (r : Option PV) (σ' : St) (f : Flow) (h' : Heap) : Prop where
  | mk (φ' : Phi) (S : Step [env.locals] φ φ' h h') (I : Inv h₀ φ' σ' h') (F : FrAt h₀ γ env fm' φ' h') (q : match r with | none => f = .next | some v => ∃ u, f = .ret u ∧ RV φ' h' v u) : ExR h₀ γ env φ h fm' r σ' f h'
theorem ExR.before {h₀ : Heap} {γ : Gm} {env : Env} {φ φ₁ : Phi} {h h₁ : Heap} {fm' : Fm} {r : Option PV} {σ' : St} {f : Flow} {h' : Heap} (S : Step [env.locals] φ φ₁ h h₁) (x : ExR h₀ γ env φ₁ h₁ fm' r σ' f h') : ExR h₀ γ env φ h fm' r σ' f h' := by
  obtain ⟨φ', S', I, F, q⟩ := x; exact ⟨φ', S.trans S', I, F, q⟩
section
variable {prog : Program} {w : World} {h₀ : Heap} {G : List (Str × PV)} {T : Tab} {d n : Nat} {γ : Gm} {env : Env} {A : Around}
noncomputable def BlSnd (prog : Program) (w : World) (h₀ : Heap) (T : Tab) (γ : Gm) (env : Env) (A : Around) (b : List Stmt) (mb : MSs) : Prop :=
  ∀ fm σ fm' r σ', exs T mb fm σ = some ((fm', r), σ') → ∀ (s : Shared) φ, Inv h₀ φ σ s.heap → FrAt h₀ γ env fm φ s.heap → W prog w A (execs b env) s (ExR h₀ γ env φ s.heap fm' r σ')
noncomputable def forBody (T : Tab) (t : MT) (mb : MSs) : PV → Fm → M (Fm × Option PV) := fun v fm' => bnd (setT fm' v t) fun fm'' => exs T mb fm''
noncomputable def LoopR (h₀ : Heap) (γ : Gm) (env : Env) (X : List Addr) (φ : Phi) (h : Heap) (fm' : Fm) (r : Option PV) (σ' : St) (f : Flow) (h' : Heap) : Prop :=
  ∃ φ', Step (env.locals :: X) φ φ' h h' ∧ Inv h₀ φ' σ' h' ∧ FrAt h₀ γ env fm' φ' h' ∧ match r with | none => f = .next | some v => ∃ u, f = .ret u ∧ RV φ' h' v u
theorem for_loop (Rm : Room d A) (E : EnvOk γ env) {tg : Expr} {t : MT} {b : List Stmt} {mb : MSs} (ht : target γ tg = some t) (HB : BlSnd prog w h₀ T γ env A b mb) :
    ∀ (fuel i : Nat) (fm : Fm) (σ : St) (fm' : Fm) (r : Option PV) (σ' : St) (src : PI), loopM src (forBody T t mb) fuel i fm σ = some ((fm', r), σ') → ∀ (s : Shared) (φ : Phi) (z : Addr) (X : List Addr),
    Inv h₀ φ σ s.heap → FrAt h₀ γ env fm φ s.heap → SrcAt φ h₀ s.heap z i src X → env.locals ∉ X → pairFor src tg = true → ∀ R : Result → Shared → Prop,
    (∀ f h' tk, LoopR h₀ γ env X φ s.heap fm' r σ' f h' → R (.ok f) { s with heap := h', toks := tk }) → codeAny (model prog w) A (.forLoop tg (.ref z) b [] env) R s := by
  intro fuel
  induction fuel with
  | zero => intro i fm σ fm' r σ' src hv; cases hv
  | succ fuel ih =>
    intro i fm σ fm' r σ' src hv s φ z X I F y hX hp R hR
    refine codeAny_of_tree ?_
    refine wpAny_noted (bot_any ?_)
    simp only [forTurn]
    refine wq fun Rq hRq => ?_
    refine wpAny_bind (wpAny_standAt ?_)
    have up : ∀ a ∈ X, a ∈ env.locals :: X := fun a ha => List.mem_cons_of_mem _ ha
    rcases loopM_turn hv with ⟨e0, rfl, rfl, rfl⟩ | ⟨v, e0, hb⟩
    · refine wpAny_bind (wpAny_onRaise (wpAny_mono ((next_none Rm.free e0 I y).go fun r h' tk x => ?_) (fun _ _ x => x) fun _ _ x => x.elim))
      refine byc fun nh => ?_
      obtain ⟨rfl, I', S₁⟩ := x
      refine nh ?_
      refine wpAny_pure (hRq _ _ ⟨rfl, codeAny_block (bot_any ?_)⟩)
      exact wpAny_pure (hR _ _ _ ⟨φ, S₁.more up, I', F.step S₁ hX, rfl⟩)
    · refine wpAny_bind (wpAny_onRaise (wpAny_mono ((next_some Rm.free e0 I y).go fun r h' tk x => ?_) (fun _ _ x => x) fun _ _ x => x.elim))
      refine byc fun nh => ?_
      obtain ⟨u, rfl, q, I₁, S₁, m₁⟩ := x
      refine nh ?_
      refine wpAny_bind ((go_sound (target := tg) (s := { s with heap := h', toks := tk }) m₁ hp I₁).go fun _ h₂ tk₂ x => ?_)
      refine byc fun nh => ?_
      obtain ⟨I₂, S₂, y₂⟩ := x
      have F₂ := (F.step S₁ hX).step S₂ hX
      have hb' : ∃ rb fm₁ σ₁, forBody T t mb v fm σ = some ((fm₁, rb), σ₁) ∧ ((∃ x, rb = some x ∧ r = some x ∧ fm' = fm₁ ∧ σ' = σ₁) ∨ (rb = none ∧ loopM src (forBody T t mb) fuel (i + 1) fm₁ σ₁ = some ((fm', r), σ'))) := by
        rcases hb with ⟨x, hx, hb⟩ | ⟨fm₁, σ₁, hb, hl⟩
        · exact ⟨_, _, _, hb, .inl ⟨x, rfl, hx, rfl, rfl⟩⟩
        · exact ⟨_, _, _, hb, .inr ⟨rfl, hl⟩⟩
      obtain ⟨rb, fm₁, σ₁, hbody, hrest⟩ := hb'
      obtain ⟨fm₂, σ₂, hset, hex⟩ := bnd_some hbody
      refine nh ?_
      refine wpAny_bind ((setT_sound (s := { s with heap := h₂, toks := tk₂ }) Rm.free E ht hset I₂ F₂ (S₂.rv q)).go fun _ h₃ tk₃ st => ?_)
      refine byc fun nh => ?_
      obtain ⟨S₃, I₃, F₃⟩ := st
      have y₃ := y₂.step S₃ (by intro b hb hm; simp at hm; subst hm; exact hX hb)
      refine nh ?_
      refine wpAny_bind ((HB _ _ _ _ _ hex { s with heap := h₃, toks := tk₃ } φ I₃ F₃).go fun f h₄ tk₄ x => ?_)
      obtain ⟨φ₄, S₄, I₄, F₄, hf⟩ := x
      have S14 : Step (env.locals :: X) φ φ₄ s.heap h₄ := (((S₁.trans S₂).more up).trans (S₃.more (by exact one1))).trans (S₄.more (by exact one1))
      have y₄ := y₃.step S₄ (by intro b hb hm; simp at hm; subst hm; exact hX hb)
      rcases hrest with ⟨x, rfl, rfl, rfl, rfl⟩ | ⟨rfl, hl⟩
      · obtain ⟨u', rfl, q'⟩ := hf
        exact wpAny_pure (hRq _ _ (hR _ _ _ ⟨φ₄, S14, I₄, F₄, u', rfl, q'⟩))
      · obtain rfl : f = .next := hf
        refine wpAny_pure (hRq _ _ ⟨rfl, ih _ _ _ _ _ _ _ hl { s with heap := h₄, toks := tk₄ } φ₄ z X I₄ F₄ y₄ hX hp R fun f' h' tk' x => ?_⟩)
        refine byc fun nh => ?_
        obtain ⟨φ₆, S₆, I₆, F₆, hf'⟩ := x
        refine nh ?_
        exact hR f' h' tk' ⟨φ₆, S14.trans S₆, I₆, F₆, hf'⟩
theorem whileM_turn {β δ : Type} {test : β → M Bool} {body : β → M (β × Option δ)} {k : Nat} {b b' : β} {σ σ' : St} {r : Option δ} (h : whileM test body (k + 1) b σ = some ((b', r), σ')) :
    ∃ t σ₁, test b σ = some (t, σ₁) ∧ ((t = false ∧ b' = b ∧ r = none ∧ σ' = σ₁) ∨ (t = true ∧ ((∃ x, r = some x ∧ body b σ₁ = some ((b', some x), σ')) ∨ ∃ b₁ σ₂, body b σ₁ = some ((b₁, none), σ₂) ∧ whileM test body k b₁ σ₂ = some ((b', r), σ')))) := by
  obtain ⟨t, σ₁, h1, h2⟩ := bnd_some h
  refine ⟨t, σ₁, h1, ?_⟩
  induction t with
  | false => obtain ⟨e, rfl⟩ := rt_eq h2; cases e; exact .inl ⟨rfl, rfl, rfl, rfl⟩
  | true =>
    replace h2 := (if_pos rfl) ▸ h2
    obtain ⟨⟨b₁, rr⟩, σ₂, h3, h4⟩ := bnd_some h2
    induction rr with
    | some x => obtain ⟨e, rfl⟩ := rt_eq h4; cases e; exact .inr ⟨rfl, .inl ⟨x, rfl, h3⟩⟩
    | none => exact .inr ⟨rfl, .inr ⟨b₁, σ₂, h3, h4⟩⟩
theorem while_loop (S' : TrSnd prog w h₀ G T d n) (Rm : Room d A) (E : EnvOk γ env) {te : Expr} {me : ME} {b : List Stmt} {mb : MSs} (ht : cE G n γ te = some me) (HB : BlSnd prog w h₀ T γ env A b mb) :
    ∀ (fuel : Nat) (fm : Fm) (σ : St) (fm' : Fm) (r : Option PV) (σ' : St), whileM (fun fm => bnd (ev T me fm) fun v => look (truth · v)) (fun fm => exs T mb fm) fuel fm σ = some ((fm', r), σ') → ∀ (s : Shared) (φ : Phi),
    Inv h₀ φ σ s.heap → FrAt h₀ γ env fm φ s.heap → ∀ R : Result → Shared → Prop,
    (∀ f h' tk, ExR h₀ γ env φ s.heap fm' r σ' f h' → R (.ok f) { s with heap := h', toks := tk }) → codeAny (model prog w) A (.whileLoop te b [] env) R s := by
  intro fuel
  induction fuel with
  | zero => intro fm σ fm' r σ' hv; cases hv
  | succ fuel ih =>
    intro fm σ fm' r σ' hv s φ I F R hR
    refine codeAny_of_tree ?_
    refine wpAny_noted (bot_any ?_)
    simp only [whileTurn]
    refine wq fun Rq hRq => ?_
    refine byc fun nh => ?_
    obtain ⟨t, σ₁, htest, hrest⟩ := whileM_turn hv
    obtain ⟨v, σ₂, hev, htr'⟩ := bnd_some htest
    obtain ⟨htr, hσ⟩ := look_some htr'
    subst hσ
    refine nh ?_
    refine wpAny_bind ((S' _ _ _ ht _ _ _ _ _ hev htr A s φ env Rm E I F).go fun c h' tk x => ?_)
    obtain ⟨φ₁, S₁, I₁, e⟩ := x
    obtain rfl : c = t := e
    have F₁ := F.step0 S₁
    rcases hrest with ⟨rfl, rfl, rfl, rfl⟩ | ⟨rfl, hb⟩
    · exact wpAny_bind (wpAny_pure (wpAny_pure (hRq _ _ (hR _ _ _ ⟨φ₁, S₁.nil, I₁, F₁, rfl⟩))))
    · have hb' : ∃ rb fm₁ σ₃, exs T mb fm σ₁ = some ((fm₁, rb), σ₃) ∧ ((∃ x, rb = some x ∧ r = some x ∧ fm' = fm₁ ∧ σ' = σ₃) ∨ (rb = none ∧ whileM (fun fm => bnd (ev T me fm) fun v => look (truth · v)) (fun fm => exs T mb fm) fuel fm₁ σ₃ = some ((fm', r), σ'))) := by
        rcases hb with ⟨x, hx, hb⟩ | ⟨fm₁, σ₁, hb, hl⟩
        · exact ⟨_, _, _, hb, .inl ⟨x, rfl, hx, rfl, rfl⟩⟩
        · exact ⟨_, _, _, hb, .inr ⟨rfl, hl⟩⟩
      refine byc fun nh => ?_
      obtain ⟨rb, fm₁, σ₃, hbody, hrest⟩ := hb'
      refine nh ?_
      refine wpAny_bind ((HB _ _ _ _ _ hbody { s with heap := h', toks := tk } φ₁ I₁ F₁).go fun f h₄ tk₄ x => ?_)
      obtain ⟨φ₄, S₄, I₄, F₄, hf⟩ := x
      have S14 : Step [env.locals] φ φ₄ s.heap h₄ := S₁.nil.trans S₄
      rcases hrest with ⟨x, rfl, rfl, rfl, rfl⟩ | ⟨rfl, hl⟩
      · obtain ⟨u', rfl, q'⟩ := hf
        exact wpAny_pure (hRq _ _ (hR _ _ _ ⟨φ₄, S14, I₄, F₄, u', rfl, q'⟩))
      · obtain rfl : f = .next := hf
        refine wpAny_pure (hRq _ _ ⟨rfl, ih _ _ _ _ _ hl { s with heap := h₄, toks := tk₄ } φ₄ I₄ F₄ R fun f' h' tk' x => hR f' h' tk' (x.before S14)⟩)
end
end Mine
end
section
namespace Mine
open PySem PyProof.Rows
theorem filterMap_two {α β : Type} {f : α → Option β} {l : List α} (hl : l.length = 2) (h : (l.filterMap f).length = 2) : ∃ a b x y, l = [a, b] ∧ f a = some x ∧ f b = some y ∧ l.filterMap f = [x, y] := by
  match l, hl with
  | [a, b], _ =>
    cases e1 : f a with
    | none => simp [e1] at h; cases e2 : f b <;> simp [e2] at h
    | some x =>
      cases e2 : f b with
      | none => simp [e1, e2] at h
      | some y => exact ⟨a, b, x, y, rfl, e1, e2, by simp [List.filterMap_cons, e1, e2]⟩
theorem guards {α : Type} {c1 c2 c3 c4 c5 : Prop} [Decidable c1] [Decidable c2] [Decidable c3] [Decidable c4] [Decidable c5] {u : Sem (Option α)} {x : α} (h5 : ¬ c5) {t : Sem (Option α)}
    (ht : t = if c1 then pure none else if c2 then pure none else if c3 then pure none else if c4 then pure none else if c5 then u else pure (some x)) :
    t = pure none ∨ (¬ c3 ∧ t = pure (some x)) := by
  subst ht
  by_cases h1 : c1
  · exact .inl (if_pos h1)
  by_cases h2 : c2
  · exact .inl ((if_neg h1).trans (if_pos h2))
  by_cases h3 : c3
  · exact .inl ((if_neg h1).trans ((if_neg h2).trans (if_pos h3)))
  by_cases h4 : c4
  · exact .inl ((if_neg h1).trans ((if_neg h2).trans ((if_neg h3).trans (if_pos h4))))
  exact .inr ⟨h3, (if_neg h1).trans ((if_neg h2).trans ((if_neg h3).trans ((if_neg h4).trans (if_neg h5))))⟩
theorem two_bad {a b : Bool} (h : ¬ ((a || b) = true)) : a = false ∧ b = false := by cases a <;> cases b <;> simp_all
theorem value_tup (e : Expr) : (∃ vs c p, e = .Tuple vs c p) ∨ ∀ ts c p env, swappedStores [.Tuple ts c p] e env = pure none := by
  cases e with
  | Tuple vs c p => exact .inl ⟨_, _, _, rfl⟩
  | _ => exact .inr fun _ _ _ _ => rfl
theorem target_tup (t : Expr) : (∃ ts c p, t = .Tuple ts c p) ∨ (∃ ts p, t = .List ts p) ∨ ∀ r e env, swappedStores (t :: r) e env = pure none := by
  cases t with
  | Tuple vs c p => exact .inl ⟨_, _, _, rfl⟩
  | List ts p => exact .inr (.inl ⟨_, _, rfl⟩)
  | _ => exact .inr (.inr fun _ _ _ => rfl)
theorem local_name {env : Env} {line : Nat} {f : Expr → Option Str} (h1 : ∀ id pos, f (.Name id pos) = if (env.kindOf id == some .local && pos.line == line) = true then some id else none) (h2 : ∀ e, (∀ id pos, e ≠ .Name id pos) → f e = none) {a : Expr} {x : Str} (h : f a = some x) : ∃ p, a = .Name x p ∧ env.kindOf x = some .local := by
  cases e : asName a with
  | some q =>
    obtain rfl := asName_some e
    obtain ⟨hk, hx⟩ := ifS ((h1 _ _).symm.trans h)
    obtain rfl := smi hx
    exact ⟨q.2, rfl, by simpa using (Bool.and_eq_true_iff.mp hk).1⟩
  | none => exact nsm ((h2 a fun id pos he => by rw [he] at e; exact nomatch e).symm.trans h)
theorem two_names {env : Env} {line : Nat} {f : Expr → Option Str} {l : List Expr} (hl : l.length = 2) (h : (l.filterMap f).length = 2) (h1 : ∀ id pos, f (.Name id pos) = if (env.kindOf id == some .local && pos.line == line) = true then some id else none)
    (h2 : ∀ e, (∀ id pos, e ≠ .Name id pos) → f e = none) : ∃ x p y q, l = [.Name x p, .Name y q] ∧ l.filterMap f = [x, y] ∧ env.kindOf x = some .local ∧ env.kindOf y = some .local := by
  refine byc fun nh => ?_
  obtain ⟨a, b, x, y, rfl, e1, e2, e3⟩ := filterMap_two hl h
  obtain ⟨p, rfl, k1⟩ := local_name h1 h2 e1
  obtain ⟨q, rfl, k2⟩ := local_name h1 h2 e2
  refine nh ?_
  exact ⟨x, p, y, q, rfl, e3, k1, k2⟩
theorem swapped_cases {ts : List Expr} {e : Expr} {env : Env} (hp : pairOk ts e = true) : swappedStores ts e env = pure none ∨
    ∃ x p y q c pos, ts = [.Tuple [.Name x p, .Name y q] c pos] ∧ swappedStores ts e env = pure (some [x, y]) ∧ env.kindOf x = some .local ∧ env.kindOf y = some .local := by
  match ts with
  | [] => exact .inl rfl
  | t :: _ :: _ =>
    rcases target_tup t with ⟨ts, c, pos, rfl⟩ | ⟨ts, pos, rfl⟩ | h
    · exact .inl rfl
    · exact .inl rfl
    · exact .inl (h _ _ _)
  | [t] =>
    rcases target_tup t with ⟨ts, c, pos, rfl⟩ | ⟨ts, pos, rfl⟩ | h
    · rcases value_tup e with ⟨vs, c', pos', rfl⟩ | h
      · obtain ⟨h12, h3⟩ := Bool.and_eq_true_iff.mp hp
        have h1 : ts.length = 2 := by simpa using (Bool.and_eq_true_iff.mp h12).1
        have h3 : ¬ (vs.all (constantsAlone 8) = true) := by simpa using h3
        rcases guards h3 (t := swappedStores [.Tuple ts c pos] (.Tuple vs c' pos') env) rfl with h | ⟨hn, h⟩
        · exact .inl h
        · have hn' := bne_eq_false_iff_eq.mp (two_bad hn).1
          refine byc fun nh => ?_
          obtain ⟨x, p, y, q, rfl, e3, k1, k2⟩ := two_names h1 (hn'.trans h1) (fun _ _ => rfl) (fun e h => by cases e <;> first | rfl | exact absurd rfl (h _ _))
          refine nh ?_
          exact .inr ⟨x, p, y, q, c, pos, rfl, by rw [h, e3], k1, k2⟩
      · exact .inl (h _ _ _ _)
    · exact nomatch (show false = true from hp)
    · exact .inl (h _ _ _)
section
variable (prog : Program) (w : World) (h₀ : Heap) (G : List (Str × PV)) (T : Tab) (d : Nat)
noncomputable def StSnd (n : Nat) : Prop := ∀ γ st ms, cS G n γ st = some ms → ∀ fm σ fm' r σ', ex T ms fm σ = some ((fm', r), σ') → ∀ (A : Around) (s : Shared) φ env, Room d A → EnvOk γ env → Inv h₀ φ σ s.heap → FrAt h₀ γ env fm φ s.heap →
  W prog w A (exec st env) s (ExR h₀ γ env φ s.heap fm' r σ')
end
section
variable {prog : Program} {w : World} {h₀ : Heap} {G : List (Str × PV)} {T : Tab} {d n : Nat} {γ : Gm} {env : Env} {fm : Fm} {A : Around}
theorem seqS_cons {o : Option MS} {r : List (Option MS)} {me : MSs} (h : seqS (o :: r) = some me) : ∃ e me', o = some e ∧ seqS r = some me' ∧ me = .cons e me' := by
  induction o with
  | none => cases h
  | some e =>
    simp only [seqS, Option.map_eq_some_iff] at h
    obtain ⟨me', h1, h2⟩ := h
    exact ⟨e, me', rfl, h1, h2.symm⟩
theorem block_sound (S : StSnd prog w h₀ G T d n) (R : Room d A) (E : EnvOk γ env) : ∀ b mb, seqS (b.map (cS G n γ)) = some mb → BlSnd prog w h₀ T γ env A b mb := by
  intro b
  induction b with
  | nil =>
    intro mb hm fm σ fm' r σ' hv s φ I F
    cases hm; cases hv
    exact W.pure ⟨φ, Step.refl _ _ _, I, F, rfl⟩
  | cons st b ih =>
    intro mb hm fm σ fm' r σ' hv s φ I F
    refine byc fun nh => ?_
    obtain ⟨ms, mb', h1, h2, rfl⟩ := seqS_cons hm
    obtain ⟨⟨fm₁, r₁⟩, σ₁, hv1, hv2⟩ := bnd_some hv
    refine nh ?_
    rw [execs_cons]
    refine W.bind (S _ _ _ h1 _ _ _ _ _ hv1 A s φ env R E I F) fun f h' tk x => ?_
    refine byc fun nh => ?_
    obtain ⟨φ₁, S₁, I₁, F₁, hf⟩ := x
    induction r₁ with
    | some v =>
      obtain ⟨e, rfl⟩ := rt_eq hv2
      cases e
      obtain ⟨u, rfl, q⟩ := hf
      refine nh ?_
      exact W.pure ⟨φ₁, S₁, I₁, F₁, u, rfl, q⟩
    | none =>
      obtain rfl : f = .next := hf
      refine nh ?_
      exact (ih _ h2 _ _ _ _ _ hv2 { s with heap := h', toks := tk } φ₁ I₁ F₁).mono fun f h'' x => x.before S₁
theorem drop_call {f : Expr} {es : List Expr} {ks : List Keyword} {p pos : Pos} {v : Value} {s : Shared} {Q : Flow → Shared → Prop} (h : Q .next s) : wpAny (model prog w) A (dropValue (.Call f es ks p) pos v) Q bot s := by
  induction v with
  | ref a => exact wpAny_bind (wpAny_standAt (wpAny_bind (wpAny_runValue (codeAny_builtin entry_let_go (show wpAny _ _ (ret .none) _ _ s from wpAny_pure (wpAny_pure h))))))
  | _ => exact wpAny_pure h
theorem no_swaps {e : Expr} {me : ME} (hm : cE G n γ e = some me) (hc : isComp e = false) (t : Option Expr) (l : Nat) : swapsWith e t l env = pure false := by
  cases n with
  | zero => exact nsm hm
  | succ n => cases e <;> first | rfl | exact nsm hm | cases hc
theorem no_swaps_sole {ts : List Expr} {e : Expr} {me : ME} (hm : cE G n γ e = some me) (hc : isComp e = false ∨ ts.length ≠ 1 ∨ ∃ t, ts = [t] ∧ ∀ x p, t ≠ .Name x p) (l : Nat) : swapsWithSole ts e l env = pure false := by
  cases ts with
  | nil => rfl
  | cons t r =>
    induction r with
    | cons => rfl
    | nil =>
      show swapsWith e (some t) l env = pure false
      rcases hc with h | h | ⟨t', h, hn⟩
      · exact no_swaps hm h _ _
      · exact absurd rfl h
      · cases h
        cases n with
        | zero => exact nsm hm
        | succ n =>
          cases e with
          | ListComp elt gens sc p =>
            unfold swapsWith
            cases t with
            | Name x q => exact absurd rfl (hn x q)
            | _ => rfl
          | _ => first | rfl | exact nsm hm
end
end Mine
end
section
namespace Mine
open PySem PyProof.Rows
section
variable {prog : Program} {w : World} {h₀ : Heap} {G : List (Str × PV)} {T : Tab} {d n : Nat} {γ : Gm} {env : Env} {fm : Fm} {A : Around}
theorem loc_of (E : EnvOk γ env) {z : Str} {mz : MV} (hk : env.kindOf z = some .local) (hz : mv γ z = some mz) : ∃ i, mz = .loc i := by
  induction mz with
  | loc i => exact ⟨i, rfl⟩
  | cel i =>
    obtain ⟨h, _⟩ := mv_cel hz
    rw [E.kindOf] at hk
    rcases h with h | h <;> exact nomatch h.symm.trans hk
theorem two_locs {i j : Nat} {vs : List PV} {fm fm' : Fm} {σ σ' : St} (h : setVs fm [.loc i, .loc j] vs σ = some (fm', σ')) : ∃ va vb, vs = [va, vb] ∧ fm' = ⟨(fm.ρ.set i (some va)).set j (some vb), fm.cs⟩ ∧ σ' = σ := by
  match vs, h with
  | [va, vb], h =>
    obtain ⟨e1, e2⟩ := rt_eq h
    exact ⟨va, vb, rfl, e1, e2⟩
theorem target_two {x y : Str} {p q pos : Pos} {c : Nat} {mts : List MT} (h : [Expr.Tuple [.Name x p, .Name y q] c pos].mapM (target γ) = some mts) : ∃ mx my, mv γ x = some mx ∧ mv γ y = some my ∧ mts = [.tup [mx, my]] := by
  obtain ⟨mt, mts', h1, h2, rfl⟩ := mapM_cons_some h
  obtain rfl := Option.some.inj h2
  obtain ⟨xs, h3, rfl⟩ := omap h1
  obtain ⟨mx, xs', g1, g2, rfl⟩ := mapM_cons_some h3
  obtain ⟨my, xs'', g3, g4, rfl⟩ := mapM_cons_some g2
  obtain rfl := Option.some.inj g4
  exact ⟨mx, my, g1, g3, rfl⟩
theorem unpack_two (hA : A.handled = none) {s : Shared} {a : Addr} {ua ub : Value} {k : Nat} (g : s.heap.get? a = some { cls := Value.type "tuple", data := Data.seq (List.toArray [ua, ub]) k }) :
    W prog w A (unpackItems (.ref a) 2 none) s fun l h' => l = [ua, ub] ∧ Ext [] s.heap h' := by
  have := sized (prog := prog) (w := w) (A := A) (s := s) (t := unpackItems (.ref a) ([ua, ub] : List Value).toArray.size none) (Q := fun l s' => ∃ h' tk, s' = { s with heap := h', toks := tk } ∧ l = [ua, ub] ∧ Ext [] s.heap h')
    (wpAny_unpackItems_tuple hA ⟨_, g, rfl, _, rfl⟩ fun h' hs hz => ⟨h', s.toks, rfl, rfl, extS hs hz⟩)
  exact this
theorem swap_stores (E : EnvOk γ env) (R : Room d A) {x y : Str} {i j : Nat} {va vb : PV} {a : Addr} {ua ub : Value} {k : Nat} (m1 : mv γ x = some (.loc i)) (m2 : mv γ y = some (.loc j)) (hij : i ≠ j) {s : Shared} {φ : Phi} {σ : St}
    (g : s.heap.get? a = some { cls := Value.type "tuple", data := Data.seq (List.toArray [ua, ub]) k }) (I : Inv h₀ φ σ s.heap) (F : FrAt h₀ γ env fm φ s.heap) (qa : RV φ s.heap va ua) (qb : RV φ s.heap vb ub) {rest : List (Value → Sem Unit)} :
    W prog w A (assignStores env (.ref a) (some [x, y]) rest) s fun f h' => f = .next ∧ Stored h₀ γ env φ s.heap ⟨(fm.ρ.set i (some va)).set j (some vb), fm.cs⟩ σ h' := by
  refine hid fun Rq hRq => ?_
  show wpAny _ _ (rule "assign.swapped-stores" >>= fun _ => unpackItems (.ref a) 2 none >>= fun items => assignInOrder [bindName env y, bindName env x] items.reverse >>= fun _ => pure Flow.next) _ _ _
  refine wpAny_bind (wpAny_rule (wpAny_bind ((unpack_two R.free g).go fun l h' tk xx => ?_)))
  obtain ⟨rfl, x1⟩ := xx
  refine wpAny_bind ?_
  refine wpAny_bind (wpAny_holding (wpAny_bindName ?_))
  refine (setV_sound (s := { s with heap := h', toks := tk }) (fm' := ⟨fm.ρ.set j (some vb), fm.cs⟩) E m2 rfl (I.ext0 x1) (F.step0 x1.step) (qb.mono x1.grow)).go fun _ h₂ tk₂ st => ?_
  refine wpAny_bind (wpAny_holding (wpAny_bindName ?_))
  refine (setV_sound (s := { s with heap := h₂, toks := tk₂ }) (fm' := ⟨(fm.ρ.set j (some vb)).set i (some va), fm.cs⟩) E m1 rfl st.I st.F (st.S.rv (qa.mono x1.grow))).go fun _ h₃ tk₃ st' => ?_
  refine wpAny_pure (wpAny_pure (hRq _ h₃ tk₃ ⟨rfl, (x1.nil.step.trans st.S).trans st'.S, st'.I, ?_⟩))
  refine Eq.symm (List.set_comm _ _ hij) ▸ ?_
  exact st'.F
theorem assign_stores (E : EnvOk γ env) (R : Room d A) {ts : List Expr} {e : Expr} {mts : List MT} {v : PV} {u : Value} {fm' : Fm} {σ σ' : St} (hp : pairOk ts e = true) (hd : mts.all distinct = true) (ht : ts.mapM (target γ) = some mts) (hv : setTs v mts fm σ = some (fm', σ'))
    {s : Shared} {φ : Phi} (I : Inv h₀ φ σ s.heap) (F : FrAt h₀ γ env fm φ s.heap) (q : RV φ s.heap v u) :
    W prog w A (swappedStores ts e env >>= fun sw => assignStores env u sw ((assignEach ts env).map (·.2))) s fun f h' => f = .next ∧ Stored h₀ γ env φ s.heap fm' σ' h' := by
  rcases swapped_cases (env := env) hp with hs | ⟨x, p, y, qq, c, pos, rfl, hs, k1, k2⟩
  · rw [hs]
    show wpAny _ _ (assignAll u ((assignEach ts env).map (·.2)) >>= fun _ => pure Flow.next) _ _ _
    exact wpAny_bind ((setTs_sound R.free E ts mts v u fm σ fm' σ' ht hv s I F q).go fun _ h' tk st => wpAny_pure ⟨h', tk, rfl, rfl, st⟩)
  · refine Eq.symm (hs) ▸ ?_
    refine byc fun nh => ?_
    obtain ⟨mx, my, m1, m2, rfl⟩ := target_two ht
    obtain ⟨i, rfl⟩ := loc_of E k1 m1
    obtain ⟨j, rfl⟩ := loc_of E k2 m2
    have hij : i ≠ j := fun e => by
      subst e
      exact absurd (Bool.and_eq_true_iff.1 hd).1 (by show ¬(!(i == i)) = true; rw [beq_self_eq_true]; decide)
    obtain ⟨fm₁, σ₁, hv1, hv2⟩ := bnd_some hv
    obtain ⟨rfl, rfl⟩ := rt_eq hv2
    induction q using RV.casesOn with
    | @tup vs us a k g ho r =>
      obtain ⟨va, vb, rfl, rfl, rfl⟩ := two_locs hv1
      obtain ⟨ua, us1, qa, r1, rfl⟩ := r.i_cons
      obtain ⟨ub, us2, qb, r2, rfl⟩ := r1.i_cons
      obtain rfl := r2.i_nil
      refine nh ?_
      exact swap_stores E R m1 m2 hij g I F qa qb (rest := (assignEach [Expr.Tuple [.Name x p, .Name y qq] c pos] env).map (·.2))
    | _ => refine nh ?_; exact nomatch hv1
theorem assign_usual (D : Wd prog w h₀ G T d) (R : Room d A) (E : EnvOk γ env) {ts : List Expr} {e : Expr} {p : Pos} {me : ME} {mts : List MT} (h1 : cE G n γ e = some me) (h2 : ts.mapM (target γ) = some mts) (hp : pairOk ts e = true) (hd : mts.all distinct = true)
    {v : PV} {fm' : Fm} {σ σ₁ σ' : St} (hv : ev T me fm σ = some (v, σ₁)) (hs : setTs v mts fm σ₁ = some (fm', σ')) {s : Shared} {φ : Phi} (I : Inv h₀ φ σ s.heap) (F : FrAt h₀ γ env fm φ s.heap)
    (hsw : swapsWithSole ts e p.line env = pure false) : W prog w A (exec (.Assign ts e p) env) s (ExR h₀ γ env φ s.heap fm' none σ') := by
  refine hid fun Rq hRq => ?_
  rw [arm_exec_Assign, hsw]
  refine wpAny_bind (wpAny_standAt (wpAny_bind (wpAny_pure ?_)))
  refine Eq.symm (if_neg Bool.false_ne_true) ▸ ?_
  refine wpAny_bind (((ev_sound D n).1 _ _ _ h1 _ _ _ _ hv A s φ env R E I F).go fun u h' tk r => ?_)
  refine byc fun nh => ?_
  obtain ⟨φ₁, S₁, I₁, q⟩ := r
  refine nh ?_
  refine (assign_stores E R hp hd h2 hs (s := { s with heap := h', toks := tk }) I₁ (F.step0 S₁) q).go fun f h'' tk' x => ?_
  obtain ⟨rfl, st⟩ := x
  exact (hRq _ h'' tk' ⟨φ₁, S₁.nil.trans st.S, st.I, st.F, rfl⟩)
theorem assign_used (D : Wd prog w h₀ G T d) (R : Room d A) (E : EnvOk γ env) {ts : List Expr} {elt : Expr} {gens : List Comprehension} {sc : Scope} {pos p : Pos} {me : ME} {mts : List MT} (h1 : cE G (n + 1) γ (.ListComp elt gens sc pos) = some me) (h2 : ts.mapM (target γ) = some mts)
    {v : PV} {fm' : Fm} {σ σ₁ σ' : St} (hv : ev T me fm σ = some (v, σ₁)) (hs : setTs v mts fm σ₁ = some (fm', σ')) {s : Shared} {φ : Phi} (I : Inv h₀ φ σ s.heap) (F : FrAt h₀ γ env fm φ s.heap)
    (hsw : swapsWithSole ts (.ListComp elt gens sc pos) p.line env = pure true) : W prog w A (exec (.Assign ts (.ListComp elt gens sc pos) p) env) s (ExR h₀ γ env φ s.heap fm' none σ') := by
  refine hid fun Rq hRq => ?_
  rw [arm_exec_Assign, hsw]
  refine wpAny_bind (wpAny_standAt (wpAny_bind (wpAny_pure ?_)))
  refine Eq.symm (if_pos rfl) ▸ ?_
  have hE : evalThenUse (.ListComp elt gens sc pos) env (fun v => assignAll v ((assignEach ts env).map (·.2))) =
    (comprehension (.ListComp elt gens sc pos) sc env (firstIterPos gens pos) (newList []) (firstAsync gens) (firstIter gens env) (some fun v => assignAll v ((assignEach ts env).map (·.2))) >>= fun _ => pure ()) := rfl
  rw [hE]
  refine wpAny_bind (wpAny_bind ?_)
  refine comp_core D (ev_sound D n).1 (ev_sound D n).2 R E h1 hv I F fun uacc C h' tk c => ?_
  refine byc fun nh => ?_
  obtain ⟨φ', m, S₁, I₁, q₁, hn, hC, ho⟩ := c
  have hlC : env.locals ≠ C := by
    obtain ⟨o, e, _⟩ := F.there
    exact Nat.ne_of_lt (Nat.lt_of_lt_of_le (Heap.lt_size e) hC)
  refine nh ?_
  refine (setTs_sound (s := { s with heap := h', toks := tk }) (prog := prog) (w := w) R.free E _ mts v uacc fm σ₁ fm' σ' h2 hs I₁ (F.step0 S₁) q₁).go fun _ h₂ tk₂ st => ?_
  have hn2 : h₂.Ns C m := hn.at' fun o e => st.S.keep _ o e (by simpa using Ne.symm hlC) ho
  refine ⟨m, hn2, fun h₃ hs₃ => wpAny_pure (wpAny_pure (hRq _ h₃ tk₂ ⟨φ', ?_, ?_, ?_, rfl⟩))⟩
  all_goals
    obtain ⟨oC, es, ep, eC, dC, _⟩ := id hn2
    have x : Ext [C] h₂ h₃ := Ext.same hs₃ fun o' e' => by rw [eC] at e'; cases e'; exact imm_dict dC
  · refine Step.less (Y := [env.locals, C]) (((S₁.more (by exact nil0)).trans (st.S.more (by exact one1))).trans (x.step.more (by exact one2))) ?_
    intro y hy
    simp only [List.mem_cons, List.not_mem_nil, or_false] at hy
    rcases hy with rfl | rfl
    · exact .inl (by exact List.mem_cons_self)
    · exact .inr hC
  · exact st.I.ext x (by simpa using Nat.le_trans I.sz hC) (by simpa using ho)
  · exact st.F.step x.step (by simpa using hlC)
theorem comp_or (h : cE G n γ e = some me) : isComp e = false ∨ ∃ elt gens sc pos, e = .ListComp elt gens sc pos := by
  cases e with
  | ListComp elt gens sc pos => exact .inr ⟨_, _, _, _, rfl⟩
  | _ => exact .inl rfl
theorem st_assign (D : Wd prog w h₀ G T d) (R : Room d A) (E : EnvOk γ env) {ts : List Expr} {e : Expr} {p : Pos} {me : ME} {mts : List MT} (h1 : cE G n γ e = some me) (h2 : ts.mapM (target γ) = some mts) (hp : pairOk ts e = true) (hd : mts.all distinct = true)
    {v : PV} {fm' : Fm} {σ σ₁ σ' : St} (hv : ev T me fm σ = some (v, σ₁)) (hs : setTs v mts fm σ₁ = some (fm', σ')) {s : Shared} {φ : Phi} (I : Inv h₀ φ σ s.heap) (F : FrAt h₀ γ env fm φ s.heap) :
    W prog w A (exec (.Assign ts e p) env) s (ExR h₀ γ env φ s.heap fm' none σ') := by
  rcases comp_or h1 with hc | ⟨elt, gens, sc, pos, rfl⟩
  · exact assign_usual D R E h1 h2 hp hd hv hs I F (no_swaps_sole h1 (.inl hc) _)
  · cases n with
    | zero => exact nsm h1
    | succ n =>
      by_cases ht : ∃ x q, ts = [.Name x q]
      · obtain ⟨x, q, rfl⟩ := ht
        have hb : ∃ b, swapsWithSole [.Name x q] (.ListComp elt gens sc pos) p.line env = pure b := ⟨_, rfl⟩
        obtain ⟨b, hb⟩ := hb
        induction b with
        | false => exact assign_usual D R E h1 h2 hp hd hv hs I F hb
        | true => exact assign_used D R E h1 h2 hv hs I F hb
      · refine assign_usual D R E h1 h2 hp hd hv hs I F ?_
        by_cases hl : ts.length = 1
        · match ts, hl with
          | [t], _ => exact no_swaps_sole h1 (.inr (.inr ⟨t, rfl, fun x p e => ht ⟨x, p, by rw [e]⟩⟩)) _
        · exact no_swaps_sole h1 (.inr (.inl hl)) _
end
end Mine
end
section
namespace Mine
open PySem PyProof.Rows
section
variable {prog : Program} {w : World} {h₀ : Heap} {G : List (Str × PV)} {T : Tab} {d n : Nat} {γ : Gm} {env : Env} {fm : Fm} {A : Around} {s : Shared} {φ : Phi} {σ σ' : St} {fm' : Fm} {r : Option PV}
theorem st_expr (D : Wd prog w h₀ G T d) (R : Room d A) (E : EnvOk γ env) {e : Expr} {p : Pos} {me : ME} (hc : isCall e = true) (h1 : cE G n γ e = some me) {v : PV} (hv : ev T me fm σ = some (v, σ')) (I : Inv h₀ φ σ s.heap) (F : FrAt h₀ γ env fm φ s.heap) :
    W prog w A (exec (.Expr e p) env) s (ExR h₀ γ env φ s.heap fm none σ') := by
  refine hid fun Rq hRq => ?_
  have hi : interactive env = false := by unfold interactive; rw [E.kind]; rfl
  have hsw : swapsWith e none p.line env = pure false := by cases e <;> first | rfl | cases hc
  have he : exec (.Expr e p) env = (do
      standAt p
      if interactive env then printExpr (eval e env)
      else if ← swapsWith e none p.line env then do evalThenUse e env fun _ => point; pure .next
      else do dropValue e p (← eval e env)) := rfl
  rw [he, hi, hsw]
  refine wpAny_bind (wpAny_standAt ?_)
  rw [if_neg Bool.false_ne_true]
  refine wpAny_bind (wpAny_pure ?_)
  rw [if_neg Bool.false_ne_true]
  refine wpAny_bind (((ev_sound D n).1 _ _ _ h1 _ _ _ _ hv A s φ env R E I F).go fun u h' tk r => ?_)
  obtain ⟨φ₁, S₁, I₁, q⟩ := r
  cases e with
  | Call f es ks q => exact drop_call (hRq _ h' tk ⟨φ₁, S₁.nil, I₁, F.step0 S₁, rfl⟩)
  | _ => exact Bool.noConfusion hc
theorem st_ret (D : Wd prog w h₀ G T d) (R : Room d A) (E : EnvOk γ env) {e : Expr} {p : Pos} {me : ME} (h1 : cE G n γ e = some me) {v : PV} (hv : ev T me fm σ = some (v, σ')) (I : Inv h₀ φ σ s.heap) (F : FrAt h₀ γ env fm φ s.heap) :
    W prog w A (exec (.Return (some e) p) env) s (ExR h₀ γ env φ s.heap fm (some v) σ') := by
  refine hid fun Rq hRq => ?_
  refine wpAny_Return_some ?_
  refine ((ev_sound D n).1 _ _ _ h1 _ _ _ _ hv A s φ env R E I F).go fun u h' tk r => ?_
  obtain ⟨φ₁, S₁, I₁, q⟩ := r
  exact (hRq _ h' tk ⟨φ₁, S₁.nil, I₁, F.step0 S₁, u, rfl, q⟩)
theorem assign_one (hc : isComp e = false) (h1 : cE G n γ e = some me) (t : Expr) (p : Pos) (hp : ∀ es c q, t ≠ .Tuple es c q) (hl : ∀ es q, t ≠ .List es q) : swappedStores [t] e env = pure none := by
  unfold swappedStores
  cases t with
  | Tuple es c q => exact absurd rfl (hp es c q)
  | List es q => exact absurd rfl (hl es q)
  | _ => rfl
theorem st_seti (D : Wd prog w h₀ G T d) (R : Room d A) (E : EnvOk γ env) {o i e : Expr} {q p : Pos} {mo mi me : ME} (hc : isComp e = false) (h0 : cE G n γ o = some mo) (h1 : cE G n γ i = some mi) (h2 : cE G n γ e = some me)
    (hv : ex T (.seti mo mi me) fm σ = some ((fm', r), σ')) (I : Inv h₀ φ σ s.heap) (F : FrAt h₀ γ env fm φ s.heap) :
    W prog w A (exec (.Assign [.Subscript o i q] e p) env) s (ExR h₀ γ env φ s.heap fm' r σ') := by
  refine hid fun Rq hRq => ?_
  refine byc fun nh => ?_
  obtain ⟨v, σ₁, e1, hv1⟩ := bnd_some hv
  obtain ⟨ov, σ₂, e2, hv2⟩ := bnd_some hv1
  obtain ⟨iv, σ₃, e3, hv3⟩ := bnd_some hv2
  obtain ⟨un, σ₄, e4, hv4⟩ := bnd_some hv3
  obtain ⟨ee, rfl⟩ := rt_eq hv4
  cases ee
  refine nh ?_
  rw [arm_exec_Assign, no_swaps_sole h2 (.inl hc)]
  refine wpAny_bind (wpAny_standAt (wpAny_bind (wpAny_pure ?_)))
  refine Eq.symm (if_neg Bool.false_ne_true) ▸ ?_
  refine wpAny_bind (((ev_sound D n).1 _ _ _ h2 _ _ _ _ e1 A s φ env R E I F).go fun u h' tk r => ?_)
  refine byc fun nh => ?_
  obtain ⟨φ₁, S₁, I₁, q₁⟩ := r
  refine nh ?_
  rw [assign_one hc h2 _ p (fun _ _ _ e => by cases e) (fun _ _ e => by cases e)]
  refine wpAny_bind (wpAny_pure ?_)
  show wpAny _ _ (assign (.Subscript o i q) env u >>= fun _ => pure Flow.next) _ _ _
  rw [arm_assign_Subscript]
  refine wpAny_bind (wpAny_bind (wpAny_holding (((ev_sound D n).1 _ _ _ h0 _ _ _ _ e2 A { s with heap := h', toks := tk } φ₁ env R E I₁ (F.step0 S₁)).go fun uo h2' tk2 r => ?_)))
  refine byc fun nh => ?_
  obtain ⟨φ₂, S₂, I₂, q₂⟩ := r
  have S12 := S₁.trans S₂
  refine nh ?_
  refine wpAny_bind (wpAny_holding (((ev_sound D n).1 _ _ _ h1 _ _ _ _ e3 A { s with heap := h2', toks := tk2 } φ₂ env R E I₂ (F.step0 S12)).go fun ui h3 tk3 r => ?_))
  refine byc fun nh => ?_
  obtain ⟨φ₃, S₃, I₃, q₃⟩ := r
  refine nh ?_
  refine wpAny_bind (wpAny_standAt (wpAny_bind (wpAny_holding ?_)))
  refine (D.si _ _ _ _ _ _ e4 A { s with heap := h3, toks := tk3 } φ₃ _ _ _ R I₃ (S₃.rv q₂) q₃ (S₃.rv (S₂.rv q₁))).go fun _ h4 tk4 x => ?_
  refine byc fun nh => ?_
  obtain ⟨φ₄, S₄, I₄⟩ := x
  have S14 := (S12.trans S₃).trans S₄
  refine nh ?_
  exact wpAny_release (wpAny_pure (hRq _ h4 tk4 ⟨φ₄, S14.nil, I₄, F.step0 S14, rfl⟩))
theorem st_seta (D : Wd prog w h₀ G T d) (R : Room d A) (E : EnvOk γ env) {o e : Expr} {x : Str} {q p : Pos} {mo me : ME} (hc : isComp e = false) (h0 : cE G n γ o = some mo) (h2 : cE G n γ e = some me)
    (hv : ex T (.seta mo x me) fm σ = some ((fm', r), σ')) (I : Inv h₀ φ σ s.heap) (F : FrAt h₀ γ env fm φ s.heap) :
    W prog w A (exec (.Assign [.Attribute o x q] e p) env) s (ExR h₀ γ env φ s.heap fm' r σ') := by
  refine hid fun Rq hRq => ?_
  refine byc fun nh => ?_
  obtain ⟨v, σ₁, e1, hv1⟩ := bnd_some hv
  obtain ⟨ov, σ₂, e2, hv2⟩ := bnd_some hv1
  obtain ⟨un, σ₄, e4, hv4⟩ := bnd_some hv2
  obtain ⟨ee, rfl⟩ := rt_eq hv4
  cases ee
  refine nh ?_
  rw [arm_exec_Assign, no_swaps_sole h2 (.inl hc)]
  refine wpAny_bind (wpAny_standAt (wpAny_bind (wpAny_pure ?_)))
  refine Eq.symm (if_neg Bool.false_ne_true) ▸ ?_
  refine wpAny_bind (((ev_sound D n).1 _ _ _ h2 _ _ _ _ e1 A s φ env R E I F).go fun u h' tk r => ?_)
  refine byc fun nh => ?_
  obtain ⟨φ₁, S₁, I₁, q₁⟩ := r
  refine nh ?_
  rw [assign_one hc h2 _ p (fun _ _ _ e => by cases e) (fun _ _ e => by cases e)]
  refine wpAny_bind (wpAny_pure ?_)
  show wpAny _ _ (assign (.Attribute o x q) env u >>= fun _ => pure Flow.next) _ _ _
  rw [arm_assign_Attribute]
  refine wpAny_bind (wpAny_bind (wpAny_holding (((ev_sound D n).1 _ _ _ h0 _ _ _ _ e2 A { s with heap := h', toks := tk } φ₁ env R E I₁ (F.step0 S₁)).go fun uo h2' tk2 r => ?_)))
  obtain ⟨φ₂, S₂, I₂, q₂⟩ := r
  refine wpAny_bind (wpAny_standAt (wpAny_bind (wpAny_holding ?_)))
  refine (setattr_sound (s := { s with heap := h2', toks := tk2 }) D.at_ e4 I₂ q₂ (S₂.rv q₁)).go fun _ h4 tk4 x => ?_
  obtain ⟨S₄, I₄⟩ := x
  have S14 := (S₁.trans S₂).trans S₄
  exact wpAny_release (wpAny_pure (hRq _ h4 tk4 ⟨φ₂, S14.nil, I₄, F.step0 S14, rfl⟩))
theorem st_aug (D : Wd prog w h₀ G T d) (R : Room d A) (E : EnvOk γ env) {x : Str} {q p : Pos} {op : Operator} {e : Expr} {mx : MV} {me : ME} (hcd : (x == ("__classdict__" : Str)) = false) (h0 : mv γ x = some mx) (h2 : cE G n γ e = some me)
    (hv : ex T (.aug mx op me) fm σ = some ((fm', r), σ')) (I : Inv h₀ φ σ s.heap) (F : FrAt h₀ γ env fm φ s.heap) :
    W prog w A (exec (.AugAssign (.Name x q) op e p) env) s (ExR h₀ γ env φ s.heap fm' r σ') := by
  refine hid fun Rq hRq => ?_
  refine byc fun nh => ?_
  obtain ⟨a, σ₁, e1, hv1⟩ := bnd_some hv
  obtain ⟨b, σ₂, e2, hv2⟩ := bnd_some hv1
  obtain ⟨v, σ₃, e3, hv3⟩ := bnd_some hv2
  obtain ⟨fm₁, σ₄, e4, hv4⟩ := bnd_some hv3
  obtain ⟨ee, rfl⟩ := rt_eq hv4
  cases ee
  have he : exec (.AugAssign (.Name x q) op e p) env = (do
    standAt q
    let old ← loadName env x
    let v ← holding [old] (eval e env)
    standAt p
    let new ← operate [old, v] (inplaceOp op old v)
    standAt q
    bindName env x new
    pure .next) := rfl
  refine nh ?_
  refine Eq.symm (he) ▸ ?_
  obtain ⟨rfl, H⟩ := getV_sound (s := s) (prog := prog) (w := w) (A := A) E h0 e1 I F hcd
  refine wpAny_bind (wpAny_standAt (wpAny_bind (H.go fun ua h' tk x => ?_)))
  obtain ⟨rfl, qa⟩ := x
  refine wpAny_bind (wpAny_holding (((ev_sound D n).1 _ _ _ h2 _ _ _ _ e2 A { s with toks := tk } φ env R E I F).go fun ub h2' tk2 r => ?_))
  refine byc fun nh => ?_
  obtain ⟨φ₂, S₂, I₂, qb⟩ := r
  refine nh ?_
  refine wpAny_bind (wpAny_standAt (wpAny_bind (wpAny_operating ?_)))
  refine (augop_sound (s := { s with heap := h2', toks := tk2 }) e3 I₂ (S₂.rv qa) qb).go fun u h3 tk3 r => ?_
  refine byc fun nh => ?_
  obtain ⟨φ₃, S₃, I₃, q₃⟩ := r
  have S13 := S₂.trans S₃
  refine nh ?_
  refine wpAny_bind (wpAny_standAt (wpAny_bind (wpAny_bindName ?_)))
  refine (setV_sound (s := { s with heap := h3, toks := tk3 }) E h0 e4 I₃ (F.step0 S13) q₃).go fun _ h4 tk4 st => ?_
  exact wpAny_pure (hRq _ h4 tk4 ⟨φ₃, S13.nil.trans st.S, st.I, st.F, rfl⟩)
section
variable {ms : MS} {fm' : Fm} {r : Option PV} {σ σ' : St} {s : Shared} {φ : Phi}
theorem go_expr (D : Wd prog w h₀ G T d) (R : Room d A) (E : EnvOk γ env) {e : Expr} {p : Pos} (hm : cS G (n + 1) γ (.Expr e p) = some ms) (hv : ex T ms fm σ = some ((fm', r), σ')) (I : Inv h₀ φ σ s.heap) (F : FrAt h₀ γ env fm φ s.heap) : W prog w A (exec (.Expr e p) env) s (ExR h₀ γ env φ s.heap fm' r σ') := by
  refine byc fun nh => ?_
  obtain ⟨hc, hm⟩ := ift (show (if isCall e = true then (cE G n γ e).map MS.expr else none) = some ms from hm)
  obtain ⟨me, h1, rfl⟩ := omap hm
  obtain ⟨v, σ₁, e1, hv1⟩ := bnd_some (show bnd (ev T me fm) (fun _ => rt (fm, none)) σ = _ from hv)
  cases hv1
  refine nh ?_
  exact st_expr D R E hc h1 e1 I F
theorem go_ret (D : Wd prog w h₀ G T d) (R : Room d A) (E : EnvOk γ env) {e : Expr} {p : Pos} (hm : cS G (n + 1) γ (.Return (some e) p) = some ms) (hv : ex T ms fm σ = some ((fm', r), σ')) (I : Inv h₀ φ σ s.heap) (F : FrAt h₀ γ env fm φ s.heap) : W prog w A (exec (.Return (some e) p) env) s (ExR h₀ γ env φ s.heap fm' r σ') := by
  refine byc fun nh => ?_
  obtain ⟨me, h1, rfl⟩ := omap (show (cE G n γ e).map MS.ret = some ms from hm)
  obtain ⟨v, σ₁, e1, hv1⟩ := bnd_some (show bnd (ev T me fm) (fun v => rt (fm, some v)) σ = _ from hv)
  cases hv1
  refine nh ?_
  exact st_ret D R E h1 e1 I F
theorem go_set (D : Wd prog w h₀ G T d) (R : Room d A) (E : EnvOk γ env) {ts : List Expr} {e : Expr} {p : Pos} (hm : cSet (cE G n γ e) (ts.mapM (target γ)) ts e = some ms) (hv : ex T ms fm σ = some ((fm', r), σ')) (I : Inv h₀ φ σ s.heap) (F : FrAt h₀ γ env fm φ s.heap) : W prog w A (exec (.Assign ts e p) env) s (ExR h₀ γ env φ s.heap fm' r σ') := by
  refine byc fun nh => ?_
  obtain ⟨me, mts, g0, g1, hm⟩ := opt2 hm
  obtain ⟨hc, hm⟩ := ift hm
  obtain rfl := smi hm
  obtain ⟨v, σ₁, e1, hv1⟩ := bnd_some (show bnd (ev T me fm) (fun v => bnd (setTs v mts fm) fun fm' => rt (fm', none)) σ = _ from hv)
  obtain ⟨fm₁, σ₂, e2, hv2⟩ := bnd_some hv1
  cases hv2
  rw [Bool.and_eq_true, Bool.and_eq_true] at hc
  refine nh ?_
  exact st_assign D R E g0 g1 hc.1.1 hc.1.2 e1 e2 I F
theorem go_seti (D : Wd prog w h₀ G T d) (R : Room d A) (E : EnvOk γ env) {o i e : Expr} {q p : Pos} (hm : cS G (n + 1) γ (.Assign [.Subscript o i q] e p) = some ms) (hv : ex T ms fm σ = some ((fm', r), σ')) (I : Inv h₀ φ σ s.heap) (F : FrAt h₀ γ env fm φ s.heap) : W prog w A (exec (.Assign [.Subscript o i q] e p) env) s (ExR h₀ γ env φ s.heap fm' r σ') := by
  refine byc fun nh => ?_
  obtain ⟨hc, hm⟩ := iff' (show (if (isSlice i || isComp e) = true then none else bind3 (cE G n γ o) (cE G n γ i) (cE G n γ e) fun o i e => some (MS.seti o i e)) = some ms from hm)
  obtain ⟨mo, mi, me, g0, g1, g2, hm⟩ := opt3 hm
  obtain rfl := smi hm
  rw [Bool.or_eq_false_iff] at hc
  refine nh ?_
  exact st_seti D R E hc.2 g0 g1 g2 hv I F
theorem go_seta (D : Wd prog w h₀ G T d) (R : Room d A) (E : EnvOk γ env) {o e : Expr} {x : Str} {q p : Pos} (hm : cS G (n + 1) γ (.Assign [.Attribute o x q] e p) = some ms) (hv : ex T ms fm σ = some ((fm', r), σ')) (I : Inv h₀ φ σ s.heap) (F : FrAt h₀ γ env fm φ s.heap) : W prog w A (exec (.Assign [.Attribute o x q] e p) env) s (ExR h₀ γ env φ s.heap fm' r σ') := by
  refine byc fun nh => ?_
  obtain ⟨hc, hm⟩ := iff' (show (if isComp e = true then none else bind2 (cE G n γ o) (cE G n γ e) fun o e => some (MS.seta o x e)) = some ms from hm)
  obtain ⟨mo, me, g0, g1, hm⟩ := opt2 hm
  obtain rfl := smi hm
  refine nh ?_
  exact st_seta D R E hc g0 g1 hv I F
theorem go_aug (D : Wd prog w h₀ G T d) (R : Room d A) (E : EnvOk γ env) {x : Str} {q p : Pos} {op : Operator} {e : Expr} (hm : cS G (n + 1) γ (.AugAssign (.Name x q) op e p) = some ms) (hv : ex T ms fm σ = some ((fm', r), σ')) (I : Inv h₀ φ σ s.heap) (F : FrAt h₀ γ env fm φ s.heap) : W prog w A (exec (.AugAssign (.Name x q) op e p) env) s (ExR h₀ γ env φ s.heap fm' r σ') := by
  refine byc fun nh => ?_
  obtain ⟨mx, me, g0, g1, hm⟩ := opt2 (show bind2 (mv γ x) (cE G n γ e) (fun v e => if (x != "__classdict__") = true then some (MS.aug v op e) else none) = some ms from hm)
  obtain ⟨hc, hm⟩ := ift hm
  obtain rfl := smi hm
  refine nh ?_
  exact st_aug D R E (by simpa using hc) g0 g1 hv I F
theorem go_if (D : Wd prog w h₀ G T d) (S : StSnd prog w h₀ G T d n) (R : Room d A) (E : EnvOk γ env) {t : Expr} {b o : List Stmt} {p : Pos} (hm : cS G (n + 1) γ (.If t b o p) = some ms) (hv : ex T ms fm σ = some ((fm', r), σ')) (I : Inv h₀ φ σ s.heap) (F : FrAt h₀ γ env fm φ s.heap) : W prog w A (exec (.If t b o p) env) s (ExR h₀ γ env φ s.heap fm' r σ') := by
  refine hid fun Rq hRq => ?_
  refine byc fun nh => ?_
  obtain ⟨mt, mb, mo, g0, g1, g2, hm⟩ := opt3 (show bind3 (cE G n γ t) (seqS (b.map (cS G n γ))) (seqS (o.map (cS G n γ))) (fun t b o => some (MS.cond t b o)) = some ms from hm)
  obtain rfl := smi hm
  obtain ⟨v, σ₁, e1, hv1⟩ := bnd_some (show bnd (ev T mt fm) (fun v => bnd (look (truth · v)) fun c => if c then exs T mb fm else exs T mo fm) σ = _ from hv)
  obtain ⟨c, σ₂, e2', hv2⟩ := bnd_some hv1
  obtain ⟨e2, hσ⟩ := look_some e2'
  subst hσ
  refine nh ?_
  refine wpAny_If (((ev_sound D n).2 _ _ _ g0 _ _ _ _ _ e1 e2 A s φ env R E I F).go fun c' h' tk r => ?_)
  refine byc fun nh => ?_
  obtain ⟨φ₁, S₁, I₁, e⟩ := r
  obtain rfl : c' = c := e
  induction c' with
  | true => refine nh ?_; exact (block_sound S R E b _ g1 _ _ _ _ _ hv2 { s with heap := h', toks := tk } φ₁ I₁ (F.step0 S₁)).go fun f h3 tk3 r => (hRq _ h3 tk3 (r.before S₁.nil))
  | false => refine nh ?_; exact (block_sound S R E o _ g2 _ _ _ _ _ hv2 { s with heap := h', toks := tk } φ₁ I₁ (F.step0 S₁)).go fun f h3 tk3 r => (hRq _ h3 tk3 (r.before S₁.nil))
theorem go_while (D : Wd prog w h₀ G T d) (S : StSnd prog w h₀ G T d n) (R : Room d A) (E : EnvOk γ env) {t : Expr} {b : List Stmt} {p : Pos} (hm : cS G (n + 1) γ (.While t b [] p) = some ms) (hv : ex T ms fm σ = some ((fm', r), σ')) (I : Inv h₀ φ σ s.heap) (F : FrAt h₀ γ env fm φ s.heap) : W prog w A (exec (.While t b [] p) env) s (ExR h₀ γ env φ s.heap fm' r σ') := by
  refine hid fun Rq hRq => ?_
  refine byc fun nh => ?_
  obtain ⟨mt, mb, g0, g1, hm⟩ := opt2 (show bind2 (cE G n γ t) (seqS (b.map (cS G n γ))) (fun t b => some (MS.whil t b)) = some ms from hm)
  obtain rfl := smi hm
  refine nh ?_
  exact wpAny_While (while_loop (ev_sound D n).2 R E g0 (block_sound S R E b _ g1) _ _ _ _ _ _ hv s φ I F _ fun f h' tk x => (hRq _ h' tk x))
theorem go_for (D : Wd prog w h₀ G T d) (S : StSnd prog w h₀ G T d n) (R : Room d A) (E : EnvOk γ env) {t it : Expr} {b : List Stmt} {p : Pos} (hm : cS G (n + 1) γ (.For t it b [] p) = some ms) (hv : ex T ms fm σ = some ((fm', r), σ')) (I : Inv h₀ φ σ s.heap) (F : FrAt h₀ γ env fm φ s.heap) : W prog w A (exec (.For t it b [] p) env) s (ExR h₀ γ env φ s.heap fm' r σ') := by
  refine byc fun nh => ?_
  obtain ⟨mt, mi, mb, g0, g1, g2, hm⟩ := opt3 (show bind3 (target γ t) (cI G (cE G n γ) γ it) (seqS (b.map (cS G n γ))) (fun t it b => if zipT t it = true then some (MS.loop t it b) else none) = some ms from hm)
  obtain ⟨hz, hm⟩ := ift hm
  obtain rfl := smi hm
  obtain ⟨src, σ₁, e1, hv1⟩ := bnd_some (show bnd (evI T mi fm) (fun src => loopM src (fun v fm' => bnd (setT fm' v mt) fun fm'' => exs T mb fm'') fuel 0 fm) σ = _ from hv)
  refine nh ?_
  refine wpAny_For ?_ (fun x => not_set g1 env x)
  refine wpAny_mono (iter_sound D (ev_sound D n).1 R E g1 e1 I F) (fun x s₁ hx => wpAny_mono hx (fun u s₂ hu => ?_) fun _ _ e => e) fun _ _ e => e
  refine byc fun nh => ?_
  obtain ⟨h', tk, rfl, z, X, φ₁, rfl, S₁, I₁, y, hX⟩ := hu
  refine nh ?_
  refine for_loop R E g0 (block_sound S R E b _ g2) _ _ _ _ _ _ _ _ hv1 { s with heap := h', toks := tk } φ₁ z X I₁ (F.step0 S₁) y (made_off F hX) (pair_for hz g0 e1) _ fun f h2 tk2 x => ?_
  refine byc fun nh => ?_
  obtain ⟨φ₂, S₂, I₂, F₂, hf⟩ := x
  refine nh ?_
  refine ⟨h2, tk2, rfl, φ₂, ((S₁.more (Y := env.locals :: X) (by exact nil0)).trans S₂).less ?_, I₂, F₂, hf⟩
  intro y hy
  rcases List.mem_cons.mp hy with rfl | hy
  · exact .inl (by exact List.mem_cons_self)
  · exact .inr (hX y hy)
end
theorem st_step (D : Wd prog w h₀ G T d) (S : StSnd prog w h₀ G T d n) : StSnd prog w h₀ G T d (n + 1) := by
  intro γ st ms hm fm σ fm' r σ' hv A s φ env R E I F
  cases st with
  | Expr e p => exact go_expr D R E hm hv I F
  | Return e p =>
    induction e with
    | none => cases (show (Option.none : Option MS) = some ms from hm)
    | some e => exact go_ret D R E hm hv I F
  | Assign ts e p =>
    cases ts with
    | nil => exact go_set D R E hm hv I F
    | cons t ts =>
      induction ts with
      | nil =>
        rcases pick_some hm with ⟨⟨o, i, q⟩, ht, hw⟩ | ⟨_, hw⟩
        · obtain rfl := asSub_some ht
          exact go_seti D R E hm hv I F
        · rcases pick_some hw with ⟨⟨o, x, q⟩, ha, _⟩ | ⟨_, hw⟩
          · obtain rfl := asAttr_some ha
            exact go_seta D R E hm hv I F
          · exact go_set D R E hw hv I F
      | cons t2 ts => exact go_set D R E hm hv I F
  | AugAssign t op e p =>
    cases t with
    | Name x q => exact go_aug D R E hm hv I F
    | _ => cases (show (Option.none : Option MS) = some ms from hm)
  | If t b o p => exact go_if D S R E hm hv I F
  | While t b o p =>
    induction o with
    | nil => exact go_while D S R E hm hv I F
    | cons => cases (show (Option.none : Option MS) = some ms from hm)
  | For t it b o p =>
    induction o with
    | nil => exact go_for D S R E hm hv I F
    | cons => cases (show (Option.none : Option MS) = some ms from hm)
  | Raise e c p =>
    cases (show some MS.bad = some ms from hm)
    cases (show (Option.none : Option ((Fm × Option PV) × St)) = _ from hv)
  | _ => cases (show (Option.none : Option MS) = some ms from hm)
theorem st_sound (D : Wd prog w h₀ G T d) : ∀ n, StSnd prog w h₀ G T d n := by
  intro n
  induction n with
  | zero => exact fun γ e me hm => nomatch (show (Option.none : Option MS) = some me from hm)
  | succ n ih => exact st_step D ih
end
end Mine
end
section
namespace Mine
open PySem PyProof.Rows
structure FnOk (h₀ : Heap) (fa : Addr) (fd : FuncData) (b : List Stmt) : Prop where
  obj : ∃ o, h₀.get? fa = some o ∧ o.data = .func fd
  body : fd.body = .stmts b
  closure : fd.closure = []
  kind : fd.scope.kind = .function
  gen : fd.scope.isGenerator = false
  co : fd.scope.isCoroutine = false
  globals : fd.globals = mainGlobals
  builtins : fd.builtins = builtinsNs
  code : h₀.CodeRec fd.code fd.qualname
  limit : h₀.NoLimit
noncomputable def gmFn (sc : Scope) : Gm := ⟨sc.names, namesOf .local sc.names, (namesOf .cell sc.names).reverse⟩
noncomputable def run (T : Tab) (nl nc : Nat) (pms : List MV) (mb : MSs) (vs : List PV) : M PV :=
  bnd (allocCells nc) fun ks => bnd (setVs ⟨List.replicate nl none, ks⟩ pms vs) fun fm => bnd (exs T mb fm) fun r => rt (r.2.getD .none)
section
variable {prog : Program} {w : World} {h₀ : Heap} {G : List (Str × PV)} {T : Tab} {d n : Nat} {γ : Gm} {env : Env} {fm : Fm} {A : Around} {s : Shared} {φ : Phi} {σ σ' : St}
theorem Room.deeper (R : Room (d + 1) A) (env : Env) : Room d (A.deeper env) := by
  obtain ⟨h1, h2, h3⟩ := R
  exact ⟨by show A.depth + 1 + d < _; omega, by show A.units + 3 + 20 * d + 200 < _; omega, h3⟩
theorem Room.in1 (R : Room d A) : A.in1.units + 20 * d + 190 < cLine ∧ A.in1.handled = none := by
  obtain ⟨h1, h2, h3⟩ := R
  exact ⟨by show A.units + 1 + 20 * d + 190 < _; omega, h3⟩
theorem wpAny_newFunctionEnv_fn {M : Model} {A : Around} {E : Value → Shared → Prop} {s : Shared} {sc : Scope} {globals : Addr} {binds : List (Str × Value)} {qual : Str} {func : Option Addr} {code : Value} {builtins : Addr} {Q : Env → Shared → Prop}
    (hQ : wpAny M A (forIn binds PUnit.unit fun x _ => (do storeName (newEnv sc s.heap.objs.size globals (cellsFrom (s.heap.objs.size + 1) sc.names []) qual func code none builtins) x.1 x.2; pure (.yield PUnit.unit) : Sem (ForInStep PUnit)))
      (fun _ s' => Q (newEnv sc s.heap.objs.size globals (cellsFrom (s.heap.objs.size + 1) sc.names []) qual func code none builtins) s') E { s with heap := pushCells (s.heap.push { cls := .type "frame", data := .dict #[] }) sc.names }) :
    wpAny M A (newFunctionEnv sc globals [] binds qual func code none builtins) Q E s := by
  simp only [newFunctionEnv, Option.isSome_none, Bool.false_eq_true, if_false]
  refine wpAny_bind (wpAny_alloc ?_)
  refine wpAny_bind (wpAny_layCells _ (fun name kind cells => by cases hkc : kind == NameKind.cell <;> simp [hkc]) _ _ _ _ ?_)
  refine Eq.symm (show ({ s with heap := s.heap.push { cls := .type "frame", data := .dict #[] } } : Shared).heap.objs.size = s.heap.objs.size + 1 from Heap.size_push ..) ▸ ?_
  exact wpAny_bind (wpAny_mono hQ (fun _ _ h => wpAny_pure h) fun _ _ e => e)
theorem binds_sound (E : EnvOk γ env) : ∀ (binds : List (Str × Value)) (pms : List MV) (vs : List PV) (fm : Fm) (σ : St) (fm' : Fm) (σ' : St), (binds.map (·.1)).mapM (mv γ) = some pms → setVs fm pms vs σ = some (fm', σ') → ∀ s : Shared, Inv h₀ φ σ s.heap → FrAt h₀ γ env fm φ s.heap → RVs φ s.heap vs (binds.map (·.2)) →
    W prog w A (forIn binds PUnit.unit fun x _ => (do storeName env x.1 x.2; pure (.yield PUnit.unit) : Sem (ForInStep PUnit))) s fun _ h' => Stored h₀ γ env φ s.heap fm' σ' h' := by
  intro binds
  induction binds with
  | nil =>
    intro pms vs fm σ fm' σ' hx hv s I F r
    obtain rfl := smi hx
    cases r
    obtain ⟨rfl, rfl⟩ := smp hv
    exact W.pure ⟨Step.refl _ _ _, I, F⟩
  | cons x binds ih =>
    intro pms vs fm σ fm' σ' hx hv s I F r
    refine hid fun Rq hRq => ?_
    obtain ⟨mx, pms', h1, h2, rfl⟩ := mapM_cons_some hx
    cases r with
    | @cons v vs u us q r =>
      obtain ⟨fm₁, σ₁, hv1, hv2⟩ := bnd_some hv
      rw [List.forIn_cons]
      refine wpAny_bind (wpAny_bind ((setV_sound E h1 hv1 I F q).go fun _ h' tk st => wpAny_pure ?_))
      exact (ih _ _ _ _ _ _ h2 hv2 { s with heap := h', toks := tk } st.I st.F (st.S.rvs r)).go fun _ h'' tk' st' => (hRq _ h'' tk' (st'.before st.S))
inductive Bound (prog : Program) (w : World) (h₀ : Heap) (d : Nat) (φ : Phi) (h : Heap) (σ : St) (sc : Scope) (code : Value) (b : List Stmt) (ps : List Str) (pms : List MV) (Out : PV → St → Prop) (binds : List (Str × Value)) (h₁ : Heap) : Prop where
  | mk (φ₁ : Phi) (vs : List PV) (ks : List Nat) (σ₁ : St) (fm : Fm) (σ₂ : St) (S : Step [] φ φ₁ h h₁) (I : Inv h₀ φ₁ σ h₁) (hn : binds.map (·.1) = ps) (r : RVs φ₁ h₁ vs (binds.map (·.2)))
    (hks : allocCells (namesOf .cell sc.names).length σ = some (ks, σ₁)) (hset : setVs ⟨List.replicate (namesOf .local sc.names).length none, ks⟩ pms vs σ₁ = some (fm, σ₂))
    (body : ∀ (A : Around) (env : Env) (s : Shared) (φ' : Phi), Room d A → EnvOk (gmFn sc) env → Inv h₀ φ' σ₂ s.heap → FrAt h₀ (gmFn sc) env fm φ' s.heap → h₁.objs.size ≤ env.locals → (∀ b o, h₁.get? b = some o → (∀ p ∈ φ₁, p.2 ≠ b) → s.heap.get? b = some o ∧ ∀ p ∈ φ', p.2 ≠ b) → env.code = code → φ₁ <+: φ' →
      W prog w A (execs b env) s fun f h' => ∃ fm' r σ', Out (r.getD .none) σ' ∧ ExR h₀ (gmFn sc) env φ' s.heap fm' r σ' f h') : Bound prog w h₀ d φ h σ sc code b ps pms Out binds h₁
theorem run_rel (R : Room (d + 1) A) {fa : Addr} {fd : FuncData} {b : List Stmt} {ps : List Str} {pms : List MV} {Out : PV → St → Prop} (K : FnOk h₀ fa fd b) (hblk : blockOk fd.scope.names = true) (hp : ps.mapM (mv (gmFn fd.scope)) = some pms)
    (I : Inv h₀ φ σ s.heap) {us : List Value} {kus : List (Str × Value)} (hB : W prog w A.in1 (bindArgs fd ⟨us, kus⟩) s (Bound prog w h₀ d φ s.heap σ fd.scope fd.code b ps pms Out)) :
    W prog w A (call (.ref fa) us kus) s fun u h' => ∃ v σ', Out v σ' ∧ Ret h₀ [] φ s.heap v σ' u h' := by
  refine hid fun Rq hRq => ?_
  refine byc fun nh => ?_
  obtain ⟨o, ho, hd⟩ := K.obj
  refine nh ?_
  refine wpAny_call (codeAny_call_function (by have := R.depth; omega) (I.base _ _ ho) hd K.co K.gen K.body (K.code.keeps I.base) ?_)
  refine Eq.symm (K.closure) ▸ ?_
  refine wpAny_mono (hB.go fun binds h₁ tk₁ x => ?_) (fun _ _ x => x) fun _ _ x => x.elim
  refine byc fun nh => ?_
  obtain ⟨φ₁, vs, ks, σ₁, fm, σ₂, S₁, I₁, hn, r₁, hks, hset, body⟩ := x
  refine nh ?_
  refine wpAny_newFunctionEnv_fn ?_
  generalize hE : newEnv fd.scope h₁.objs.size fd.globals (cellsFrom (h₁.objs.size + 1) fd.scope.names []) (fd.qualname ++ ".<locals>.") (some fa) fd.code none fd.builtins = env
  have x2 := Ext.push h₁ { cls := .type "frame", data := .dict #[] }
  have sz2 : (h₁.push { cls := .type "frame", data := .dict #[] }).objs.size = h₁.objs.size + 1 := Heap.size_push ..
  obtain ⟨φ₃, S₃, I₃, c₃, x3⟩ := lay_cells fd.scope.names [] [] [] φ₁ _ _ ks σ₁ .nil (I₁.ext0 x2) hks
  replace c₃ := (sz2) ▸ c₃
  have hns : (pushCells (h₁.push { cls := .type "frame", data := .dict #[] }) fd.scope.names).Ns h₁.objs.size (fun _ => none) := (Heap.Ns.new h₁ (.type "frame")).keeps fun b o e => x3.keep b o e (by exact List.not_mem_nil)
  have offL : ∀ p ∈ φ₃, p.2 ≠ h₁.objs.size := by
    obtain ⟨od, _, _, ed, _⟩ := Heap.Ns.new h₁ (.type "frame")
    exact S₃.toGrow.off ed (I₁.fresh (Nat.le_refl _))
  have hloc : env.locals = h₁.objs.size := by subst hE; rfl
  have E : EnvOk (gmFn fd.scope) env := by
    subst hE
    exact ⟨K.kind, rfl, K.globals, K.builtins, (blockOk_at hblk).1⟩
  have F₃ : FrAt h₀ (gmFn fd.scope) env ⟨List.replicate (namesOf .local fd.scope.names).length none, ks⟩ φ₃ (pushCells (h₁.push { cls := .type "frame", data := .dict #[] }) fd.scope.names) := by
    refine ⟨⟨_, by rw [hloc]; exact hns, ?_⟩, by simp [gmFn], by rw [hloc]; exact I₁.sz, by rw [hloc]; exact offL, ?_⟩
    · intro i x v _ hv
      simp only [List.getElem?_replicate] at hv
      split at hv <;> simp at hv
    · subst hE
      have : cellsFrom (h₁.objs.size + 1) fd.scope.names [] = (newEnv fd.scope h₁.objs.size fd.globals (cellsFrom (h₁.objs.size + 1) fd.scope.names []) (fd.qualname ++ ".<locals>.") (some fa) fd.code none fd.builtins).cells := rfl
      refine (this) ▸ ?_
      simpa [gmFn] using c₃
  have S23 : Step [] φ₁ φ₃ h₁ (pushCells (h₁.push { cls := .type "frame", data := .dict #[] }) fd.scope.names) := x2.step.trans S₃
  have HS := binds_sound (prog := prog) (w := w) (A := A.in1) E binds pms vs _ _ _ _ (by rw [hn]; exact hp) hset { s with heap := pushCells (h₁.push { cls := .type "frame", data := .dict #[] }) fd.scope.names, toks := tk₁ } I₃ F₃ (S23.rvs r₁)
  refine wpAny_mono (HS.go fun _ h₄ tk₄ st => ?_) (fun _ _ x => x) fun _ _ x => x.elim
  refine ⟨K.limit.keeps st.I.base, codeAny_func ?_⟩
  refine wpAny_mono ((body (A.deeper env) env { s with heap := h₄, toks := tk₄ } φ₃ (R.deeper env) E st.I st.F (Nat.le_of_eq hloc.symm) (fun b o e hb => ?_) (by subst hE; rfl) S23.ext).go fun f h₅ tk₅ x => ?_) (fun _ _ x => x) fun _ _ x => x.elim
  · exact ⟨st.S.keep b o (S23.keep b o e (by exact List.not_mem_nil) hb) (by rw [List.mem_singleton, hloc]; exact Nat.ne_of_lt (Heap.lt_size e)) (S23.toGrow.off e hb), S23.toGrow.off e hb⟩
  · obtain ⟨fm', r, σ', hO, φ₅, S₅, I₅, F₅, hf⟩ := x
    have Sall : Step [] φ φ₅ s.heap h₅ := (((((S₁.trans x2.step).trans S₃).more (Y := [env.locals]) (by exact nil0)).trans st.S).trans S₅).less (by
      intro y hy; simp at hy; subst hy; rw [hloc]; exact .inr S₁.size)
    induction r with
    | none =>
      obtain rfl : f = .next := hf
      exact (hRq _ h₅ tk₅ ⟨_, σ', hO, φ₅, Sall, I₅, .none⟩)
    | some v' =>
      refine byc fun nh => ?_
      obtain ⟨u, rfl, q⟩ := hf
      refine nh ?_
      exact (hRq _ h₅ tk₅ ⟨_, σ', hO, φ₅, Sall, I₅, q⟩)
theorem run_sound (D : Wd prog w h₀ G T d) (R : Room (d + 1) A) {fa : Addr} {fd : FuncData} {b : List Stmt} {ps : List Str} {pms : List MV} {mb : MSs} (K : FnOk h₀ fa fd b) (hblk : blockOk fd.scope.names = true) (hp : ps.mapM (mv (gmFn fd.scope)) = some pms)
    (hb : seqS (b.map (cS G n (gmFn fd.scope))) = some mb) {vs : List PV} {v : PV} (hv : run T (namesOf .local fd.scope.names).length (namesOf .cell fd.scope.names).length pms mb vs σ = some (v, σ')) (I : Inv h₀ φ σ s.heap) {us : List Value} {kus : List (Str × Value)}
    (hB : W prog w A.in1 (bindArgs fd ⟨us, kus⟩) s (RetX h₀ φ s.heap σ fun φ' h' binds => binds.map (·.1) = ps ∧ RVs φ' h' vs (binds.map (·.2)))) :
    W prog w A (call (.ref fa) us kus) s (Ret h₀ [] φ s.heap v σ') := by
  obtain ⟨ks, σ₁, hks, hv1⟩ := bnd_some hv
  obtain ⟨fm, σ₂, hset, hv2⟩ := bnd_some hv1
  obtain ⟨⟨fm', r⟩, σ₃, hex, hv3⟩ := bnd_some hv2
  obtain ⟨hvv, hσ⟩ := rt_eq hv3
  refine (run_rel R (Out := fun v' σ₄ => v' = v ∧ σ₄ = σ') K hblk hp I (hB.mono fun binds h₁ x => ?_)).mono fun u h' x => ?_
  · obtain ⟨φ₁, S₁, I₁, hn, r₁⟩ := x
    exact ⟨φ₁, vs, ks, σ₁, fm, σ₂, S₁, I₁, hn, r₁, hks, hset, fun A env s φ' R E I F _ _ _ _ => (block_sound (st_sound D n) R E b mb hb _ _ _ _ _ hex s φ' I F).mono fun f h' x => ⟨fm', r, σ₃, ⟨hvv.symm, hσ.symm⟩, x⟩⟩
  · obtain ⟨v', σ₄, ⟨rfl, rfl⟩, x⟩ := x
    exact x
end
end Mine
end
section
namespace Mine
open PySem PyProof.Rows
noncomputable def asc (x : Str) : Bool := x.cps.toList.all (· < 128)
noncomputable def lowC (c : Nat) : Nat := if 65 ≤ c ∧ c ≤ 90 then c + 32 else c
noncomputable def uppC (c : Nat) : Nat := if 97 ≤ c ∧ c ≤ 122 then c - 32 else c
noncomputable def low (x : Str) : Str := ⟨(x.cps.toList.map lowC).toArray⟩
noncomputable def upp (x : Str) : Str := ⟨(x.cps.toList.map uppC).toArray⟩
noncomputable def strsO : List PV → Option (List Str)
  | [] => some []
  | .str x :: r => (strsO r).map (x :: ·)
  | _ => none
noncomputable def rangeInts (a b c : Int) : List Int := (List.range (Builtin.Range.rangeSize a b c).toNat).map fun (i : Nat) => a + c * (i : Int)
noncomputable def lenM (v : PV) : M PV := match v with
  | .str x => rt (.int x.length)
  | .tup xs => if xs.length ≤ 20000 then rt (.int xs.length) else fail
  | .obj n => look fun σ => (lstAt σ n).map fun xs => .int xs.length
  | _ => fail
noncomputable def strV (f : Str → M PV) : PV → M PV
  | .str x => f x
  | _ => fail
noncomputable def int1 (f : Int → M PV) : PV → M PV
  | .int x => f x
  | _ => fail
noncomputable def arg1 (f : PV → M PV) (vs : List PV) : M PV := match vs with
  | [x] => f x
  | _ => fail
noncomputable def arg2 (f : PV → PV → M PV) (vs : List PV) : M PV := match vs with
  | [x, y] => f x y
  | _ => fail
noncomputable def lstV (σ : St) : PV → Option (List PV)
  | .obj n => lstAt σ n
  | _ => none
noncomputable def lenL (vs : List PV) : M PV := arg1 lenM vs
noncomputable def minL (vs : List PV) : M PV := arg2 (int2 fun a b => rt (.int (if b < a then b else a))) vs
noncomputable def lowL (vs : List PV) : M PV := arg1 (strV fun x => if asc x && fits (low x) then rt (.str (low x)) else fail) vs
noncomputable def uppL (vs : List PV) : M PV := arg1 (strV fun x => if asc x && fits (upp x) then rt (.str (upp x)) else fail) vs
noncomputable def joinL (vs : List PV) : M PV := arg2 (fun a b => strV (fun x σ => ((lstV σ b).bind strsO).bind fun ys => if (JoinOk x ys && fits (Txt.join x ys)) = true then some (.str (Txt.join x ys), σ) else none) a) vs
noncomputable def appL (vs : List PV) : M PV := arg2 (fun l v => bnd (push l v) fun _ => rt .none) vs
noncomputable def bi (id : String) (vs : List PV) (kvs : List (Str × PV)) : M PV :=
  if !kvs.isEmpty then fail else
  if id == "len" then lenL vs else
  if id == "min" then minL vs else
  if id == "str.lower" then lowL vs else
  if id == "str.upper" then uppL vs else
  if id == "str.join" then joinL vs else
  if id == "list.append" then appL vs else
  fail
noncomputable def rangeL (vs : List PV) : M PV := match vs with
  | [b] => int1 (fun b => if small b then rt (.range 0 b 1) else fail) b
  | [a, b] => int2 (fun a b => if small a && small b then rt (.range a b 1) else fail) a b
  | [a, b, c] => int1 (fun c => int2 (fun a b => if small a && small b && small c && decide (0 < c) && decide (c < 1000) && decide (a.natAbs < 1000000) && decide (b.natAbs < 1000000) then rt (.range a b c) else fail) a b) c
  | _ => fail
noncomputable def listV : PV → M PV
  | .range a b c => if decide (Builtin.Range.rangeSize a b c ≤ 1000) then alloc (.lst ((rangeInts a b c).map .int)) else fail
  | _ => fail
noncomputable def listL (vs : List PV) : M PV := arg1 listV vs
noncomputable def typeV : PV → M PV
  | .str _ => rt (.top (.type "str"))
  | .obj n => look fun σ => (lstAt σ n).map fun _ => .top (.type "list")
  | _ => fail
noncomputable def typeL (vs : List PV) : M PV := arg1 typeV vs
noncomputable def ty (id : String) (vs : List PV) (kvs : List (Str × PV)) : M PV :=
  if !kvs.isEmpty then fail else
  if id == "range" then rangeL vs else
  if id == "list" then listL vs else
  if id == "type" then typeL vs else
  fail
noncomputable def mtS (x : Str) : Option Value :=
  if (x == "lower") = true then some (.builtin "str.lower") else
  if (x == "upper") = true then some (.builtin "str.upper") else
  if (x == "join") = true then some (.builtin "str.join") else
  if (x == "index") = true then some (.builtin "str.index") else none
noncomputable def mtL (x : Str) : Option Value :=
  if (x == "append") = true then some (.builtin "list.append") else if (x == "count") = true then some (.builtin "list.count") else none
noncomputable def mt0 (σ : St) (o : PV) (x : Str) : Option Value := match o with
  | .str _ => mtS x
  | .obj n => (lstAt σ n).bind fun _ => mtL x
  | _ => none
noncomputable def ap0 (vs : List PV) (kvs : List (Str × PV)) : Value → M PV
  | .builtin id => bi id vs kvs
  | .type id => ty id vs kvs
  | _ => fail
noncomputable def topV (f : Value → M PV) : PV → M PV
  | .top v => f v
  | _ => fail
noncomputable def T0 : Tab where
  ap fv vs kvs := topV (ap0 vs kvs) fv
  mt := mt0
  at_ := fun _ _ => false
  si := seti
noncomputable def isRef (fa : Addr) : PV → Bool
  | .top (.ref a) => a == fa
  | _ => false
theorem isRef_some {fa : Addr} {v : PV} (h : isRef fa v = true) : v = .top (.ref fa) := by
  cases v with
  | top u =>
    induction u with
    | ref a => exact beq_iff_eq.1 h ▸ rfl
    | _ => exact Bool.noConfusion h
  | _ => exact Bool.noConfusion h
noncomputable def addFn (T : Tab) (fa : Addr) (f : List PV → List (Str × PV) → M PV) : Tab := { T with
  ap := fun fv vs kvs => if isRef fa fv = true then f vs kvs else T.ap fv vs kvs }
end Mine
end
section
namespace Mine
open PySem PyProof.Rows
theorem low_tab : ∀ c < 128, Unicode.lowerOf c = [lowC c] := by
  have h : (List.range 128).all (fun c => Unicode.lowerOf c == [lowC c]) = true := by decide +kernel
  intro c hc
  have := (List.all_eq_true.mp h) c (List.mem_range.mpr hc)
  simpa using this
theorem upp_tab : ∀ c < 128, Unicode.upperOf c = [uppC c] := by
  have h : (List.range 128).all (fun c => Unicode.upperOf c == [uppC c]) = true := by decide +kernel
  intro c hc
  have := (List.all_eq_true.mp h) c (List.mem_range.mpr hc)
  simpa using this
theorem placed_single {x : Str} {f : Nat → Nat → List Nat} {g : Nat → Nat} (h : ∀ i c, x.cps[i]? = some c → f i c = [g c]) : placed x f = (x.cps.toList.map g).toArray := by
  have e : (x.cps.mapIdx fun i c => (f i c).toArray) = x.cps.map fun c => #[g c] := by
    apply Array.ext
    · simp
    · intro i h1 h2
      simp only [Array.size_mapIdx] at h1
      simp only [Array.getElem_mapIdx, Array.getElem_map]
      rw [h i _ (Array.getElem?_eq_getElem h1)]
  unfold placed
  rw [e]
  apply Array.ext'
  rw [Array.toList_flatten]
  simp only [Array.toList_map, List.map_map]
  have : ∀ l : List Nat, (l.map (Array.toList ∘ fun c => #[g c])).flatten = l.map g := by
    intro l
    induction l with
    | nil => rfl
    | cons a l ih => simp only [List.map_cons, List.flatten_cons, ih]; rfl
  exact this _
theorem asc_at {x : Str} (h : asc x = true) {i c : Nat} (hc : x.cps[i]? = some c) : c < 128 := by
  have := (List.all_eq_true.mp h) c (by rw [Array.mem_toList_iff]; exact Array.mem_of_getElem? hc)
  simpa using this
theorem lower_asc {x : Str} (h : asc x = true) : Txt.lower x = low x := by
  unfold Txt.lower low
  rw [placed_single (g := lowC)]
  intro i c hc
  have hlt := asc_at h hc
  unfold Unicode.lowerAt
  rw [hc]
  have : (c == 0x3A3) = false := by simp; omega
  simp only [this, Bool.false_and, Bool.false_eq_true, if_false]
  exact low_tab c hlt
theorem upper_asc {x : Str} (h : asc x = true) : Txt.upper x = upp x := by
  unfold Txt.upper upp
  rw [placed_single (g := uppC)]
  intro i c hc
  exact upp_tab c (asc_at h hc)
section
variable {prog : Program} {w : World} {h₀ : Heap} {A : Around} {s : Shared} {φ : Phi} {σ σ' : St}
theorem fits_long {x : Str} (h : fits x = true) : Builtin.Str.tooLong x.length = false := by
  have := fits_le h
  unfold Builtin.Str.tooLong
  rw [sizeLine_eq]
  simp; exact Nat.le_trans (by assumption) (by decide)
theorem keepsE {h h' : Heap} (hk : ∀ c o, h.get? c = some o → h'.get? c = some o) (hz : h.objs.size ≤ h'.objs.size) : Ext [] h h' :=
  ⟨hz, fun b o e _ => hk b o e, fun b o e _ => hk b o e⟩
theorem Ret.ext {X : List Addr} {h h' : Heap} {v : PV} {u : Value} (I : Inv h₀ φ σ h) (x : Ext [] h h') (q : RV φ h' v u) : Ret h₀ X φ h v σ u h' := ⟨φ, x.nil.step, I.ext0 x, q⟩
theorem len_sound {v r : PV} {u : Value} (hv : lenM v σ = some (r, σ')) (I : Inv h₀ φ σ s.heap) (q : RV φ s.heap v u) : W prog w A (call (.builtin "len") [u]) s (Ret h₀ [] φ s.heap r σ') := by
  induction q using RV.casesOn with
  | str hs t =>
    obtain ⟨rfl, rfl⟩ := rt_eq hv
    exact P.len_str (by have := fits_le hs; omega) ⟨_, _, rfl, Ret.int I _ _⟩
  | tup g ho r =>
    obtain ⟨hz, rfl, rfl⟩ := if_rt hv
    rw [r.length] at hz ⊢
    exact len_tuple (items := _) ⟨_, g, rfl, _, rfl⟩ (by simp; omega) ⟨_, _, rfl, by simpa using Ret.int I _ _⟩
  | obj e =>
    obtain ⟨_, hx, he⟩ := omap hv
    obtain ⟨xs, hl, rfl⟩ := omap hx
    cases he
    obtain ⟨a, us, k, h1, _, hz, g, r⟩ := list_at hl I (.obj e)
    refine Eq.symm (h1) ▸ ?_
    refine Eq.symm (r.length) ▸ ?_
    have := r.length
    exact Calls.call_len_list (items := us.toArray) ⟨_, g, rfl, _, rfl⟩ (by simp; omega) ⟨_, _, rfl, by simpa using Ret.int I _ _⟩
  | _ => exact nsm hv
theorem strsO_at {h : Heap} : ∀ {xs : List PV} {us : List Value} {ys : List Str}, strsO xs = some ys → RVs φ h xs us → ∃ l : List (Str × Tok), us = strValues l ∧ l.map (·.1) = ys := by
  intro xs
  induction xs with
  | nil => intro us ys hy r; cases hy; cases r; exact ⟨[], rfl, rfl⟩
  | cons x xs ih =>
    intro us ys hy r
    cases r with
    | cons q r =>
      induction q using RV.casesOn with
      | str hs t =>
        obtain ⟨ys', h1, rfl⟩ := omap (show (strsO xs).map (_ :: ·) = some ys from hy)
        obtain ⟨l, rfl, rfl⟩ := ih h1 r
        exact ⟨(_, t) :: l, rfl, rfl⟩
      | _ => exact nsm hy
section
variable {vs : List PV} {v : PV} {us : List Value}
theorem RVs.one {x : PV} {h : Heap} (r : RVs φ h [x] us) : ∃ u, us = [u] ∧ RV φ h x u := by
  obtain ⟨u, us', q, r', rfl⟩ := r.i_cons
  obtain rfl := r'.i_nil
  exact ⟨u, rfl, q⟩
inductive A1 (P : PV → Prop) (φ : Phi) (h : Heap) : List Value → Prop
  | mk {x : PV} {u : Value} (q : RV φ h x u) (hp : P x) : A1 P φ h [u]
theorem arg1_snd {f : PV → M PV} {h : Heap} {p : PV × St} (hv : arg1 f vs σ = some p) (r : RVs φ h vs us) : A1 (fun x => f x σ = some p) φ h us := by
  cases r with
  | nil => exact nsm hv
  | cons q r =>
    cases r with
    | nil => exact ⟨q, hv⟩
    | cons => exact nsm hv
inductive A2 (P : PV → PV → Prop) (φ : Phi) (h : Heap) : List Value → Prop
  | mk {x y : PV} {u u' : Value} (q : RV φ h x u) (q' : RV φ h y u') (hp : P x y) : A2 P φ h [u, u']
theorem arg2_snd {f : PV → PV → M PV} {h : Heap} {p : PV × St} (hv : arg2 f vs σ = some p) (r : RVs φ h vs us) : A2 (fun x y => f x y σ = some p) φ h us := by
  cases r with
  | nil => exact nsm hv
  | cons q r =>
    cases r with
    | nil => exact nsm hv
    | cons q' r =>
      cases r with
      | nil => exact ⟨q, q', hv⟩
      | cons => exact nsm hv
inductive S1 (P : Str → Prop) : Value → Prop
  | mk {x : Str} {t : Tok} (h : P x) : S1 P (.str x t)
theorem strV_snd {f : Str → M PV} {h : Heap} {x : PV} {u : Value} {p : PV × St} (hv : strV f x σ = some p) (q : RV φ h x u) : S1 (fun x => f x σ = some p) u := by
  revert hv
  induction q using RV.casesOn with
  | str => intro hv; exact ⟨hv⟩
  | _ => exact nsm
inductive N1 (P : Int → Prop) : Value → Prop
  | mk {x : Int} {t : Tok} (h : P x) : N1 P (.int x t)
theorem int1_snd {f : Int → M PV} {h : Heap} {x : PV} {u : Value} {p : PV × St} (hv : int1 f x σ = some p) (q : RV φ h x u) : N1 (fun x => f x σ = some p) u := by
  revert hv
  induction q using RV.casesOn with
  | int => intro hv; exact ⟨hv⟩
  | _ => exact nsm
theorem len_snd (hv : lenL vs σ = some (v, σ')) (I : Inv h₀ φ σ s.heap) (r : RVs φ s.heap vs us) : W prog w A (call (.builtin "len") us []) s (Ret h₀ [] φ s.heap v σ') := by
  have zq1 := arg1_snd hv r
  induction zq1 with | mk q  hv =>
  exact len_sound hv I q
theorem min_snd (hA : A.handled = none) (hv : minL vs σ = some (v, σ')) (I : Inv h₀ φ σ s.heap) (r : RVs φ s.heap vs us) : W prog w A (call (.builtin "min") us []) s (Ret h₀ [] φ s.heap v σ') := by
  refine hid fun Rq hRq => ?_
  have zq1 := arg2_snd hv r
  induction zq1 with | mk q  q'  hv =>
  have zq2 := int2_snd hv q q'
  induction zq2 with | mk hv =>
  obtain ⟨rfl, rfl⟩ := rt_eq hv
  refine sized (min_two_ints hA fun h' tk hk hz => (hRq _ h' tk (Ret.ext I (keepsE hk hz) ?_)))
  split <;> exact .int _ _
theorem low_snd (hv : lowL vs σ = some (v, σ')) (I : Inv h₀ φ σ s.heap) (r : RVs φ s.heap vs us) : W prog w A (call (.builtin "str.lower") us []) s (Ret h₀ [] φ s.heap v σ') := by
  refine hid fun Rq hRq => ?_
  have zq1 := arg1_snd hv r
  induction zq1 with | mk q  hv =>
  have zq2 := strV_snd hv q
  induction zq2 with | mk hv =>
  obtain ⟨hc, rfl, rfl⟩ := if_rt hv
  rw [Bool.and_eq_true] at hc
  have e := lower_asc hc.1
  refine SC.lower (by rw [e]; exact fits_long hc.2) ?_
  refine Eq.symm (e) ▸ ?_
  exact (hRq _ _ _ (Ret.str I hc.2 _))
theorem upp_snd (hv : uppL vs σ = some (v, σ')) (I : Inv h₀ φ σ s.heap) (r : RVs φ s.heap vs us) : W prog w A (call (.builtin "str.upper") us []) s (Ret h₀ [] φ s.heap v σ') := by
  refine hid fun Rq hRq => ?_
  have zq1 := arg1_snd hv r
  induction zq1 with | mk q  hv =>
  have zq2 := strV_snd hv q
  induction zq2 with | mk hv =>
  obtain ⟨hc, rfl, rfl⟩ := if_rt hv
  rw [Bool.and_eq_true] at hc
  have e := upper_asc hc.1
  refine SC.upper (by rw [e]; exact fits_long hc.2) ?_
  refine Eq.symm (e) ▸ ?_
  exact (hRq _ _ _ (Ret.str I hc.2 _))
inductive LstV (φ : Phi) (h : Heap) (xs : List PV) : Value → Prop
  | mk {a : Addr} {us : List Value} {k : Nat} (hz : xs.length ≤ 20000) (g : h.get? a = some { cls := .type "list", dict := none, data := .seq (List.toArray us) k, slots := #[] }) (r : RVs φ h xs us) : LstV φ h xs (.ref a)
theorem lstV_at {h : Heap} {xs : List PV} {x : PV} {u : Value} (hl : lstV σ x = some xs) (I : Inv h₀ φ σ h) (q : RV φ h x u) : LstV φ h xs u := by
  cases x with
  | obj n =>
    obtain ⟨a, us, k, rfl, _, hz, g, r⟩ := list_at hl I q
    exact ⟨hz, g, r⟩
  | _ => exact nsm hl
theorem join_snd (hv : joinL vs σ = some (v, σ')) (I : Inv h₀ φ σ s.heap) (r : RVs φ s.heap vs us) : W prog w A (call (.builtin "str.join") us []) s (Ret h₀ [] φ s.heap v σ') := by
  have zq1 := arg2_snd hv r
  induction zq1 with | mk q  q'  hv =>
  have zq2 := strV_snd hv q
  induction zq2 with | mk hv =>
  obtain ⟨ys, hys, hv⟩ := obind hv
  obtain ⟨xs, hl, hys⟩ := obind hys
  obtain ⟨hc, hv⟩ := ifS hv
  obtain ⟨rfl, rfl⟩ := smp hv
  rw [Bool.and_eq_true] at hc
  have zq3 := lstV_at hl I q'
  induction zq3 with | mk hz  g  rr =>
  obtain ⟨l, rfl, rfl⟩ := strsO_at hys rr
  exact SC.join (l := l) ⟨_, g, rfl, _, rfl⟩ rfl hc.1 fun t' k' => ⟨_, _, rfl, Ret.str I hc.2 _⟩
theorem app_snd (hv : appL vs σ = some (v, σ')) (I : Inv h₀ φ σ s.heap) (r : RVs φ s.heap vs us) : W prog w A (call (.builtin "list.append") us []) s (Ret h₀ [] φ s.heap v σ') := by
  have zq1 := arg2_snd hv r
  induction zq1 with | mk q  q'  hv =>
  obtain ⟨un, σ₁, e1, e2⟩ := bnd_some hv
  obtain ⟨rfl, rfl⟩ := rt_eq e2
  exact (push_sound e1 I q q').mono fun u h' x => ⟨φ, x.2.1, x.2.2, x.1 ▸ .none⟩
theorem RKs.i_nil {kus : List (Str × Value)} {h : Heap} (r : RKs φ h [] kus) : kus = [] := by cases r; rfl
end
theorem if_tf {α : Type} {c : Bool} {a b : M α} {r : α × St} (h : (if c = true then a else b) σ = some r) : (c = true ∧ a σ = some r) ∨ b σ = some r := by
  induction c
  · exact .inr h
  · exact .inl ⟨rfl, h⟩
theorem if_kv {kvs : List (Str × PV)} {a : M PV} {r : PV × St} (h : (if (!kvs.isEmpty) = true then fail else a) σ = some r) : kvs = [] ∧ a σ = some r := by
  induction kvs with
  | nil => exact ⟨rfl, h⟩
  | cons => exact nsm h
theorem bi_sound {id : String} {vs : List PV} {kvs : List (Str × PV)} {v : PV} (hv : bi id vs kvs σ = some (v, σ')) (R : Room 0 A) (I : Inv h₀ φ σ s.heap) {us : List Value} {kus : List (Str × Value)} (r : RVs φ s.heap vs us) (rk : RKs φ s.heap kvs kus) :
    W prog w A (call (.builtin id) us kus) s (Ret h₀ [] φ s.heap v σ') := by
  unfold bi at hv
  obtain ⟨hk, hw⟩ := if_kv hv
  clear hv
  subst hk
  obtain rfl := rk.i_nil
  rcases if_tf hw with ⟨h, hw⟩ | hw
  · exact eq_of_beq h ▸ len_snd hw I r
  rcases if_tf hw with ⟨h, hw⟩ | hw
  · exact eq_of_beq h ▸ min_snd R.free hw I r
  rcases if_tf hw with ⟨h, hw⟩ | hw
  · exact eq_of_beq h ▸ low_snd hw I r
  rcases if_tf hw with ⟨h, hw⟩ | hw
  · exact eq_of_beq h ▸ upp_snd hw I r
  rcases if_tf hw with ⟨h, hw⟩ | hw
  · exact eq_of_beq h ▸ join_snd hw I r
  rcases if_tf hw with ⟨h, hw⟩ | hw
  · exact eq_of_beq h ▸ app_snd hw I r
  exact nsm hw
theorem ints_rv {a c : Int} {ψ : Phi} {h' : Heap} : ∀ (l : List Value) (n k : Nat), l.length = n → (∀ j v, l[j]? = some v → ∃ t, v = Value.int (a + ((k + j : Nat) : Int) * c) t) → RVs ψ h' (((List.range' k n).map fun (i : Nat) => a + c * (i : Int)).map PV.int) l := by
  intro l
  induction l with
  | nil => intro n k hn _; cases n with | zero => exact .nil | succ n => cases hn
  | cons x l ih =>
    intro n k hn hh
    cases n with
    | zero => cases hn
    | succ n =>
      obtain ⟨t, rfl⟩ := hh 0 x rfl
      rw [List.range'_succ, List.map_cons, List.map_cons]
      refine .cons ?_ (ih n (k + 1) (by simpa using hn) fun j v hj => ?_)
      · have : a + ((k + 0 : Nat) : Int) * c = a + c * (k : Int) := by rw [Nat.add_zero, Int.mul_comm]
        rw [this]; exact .int _ _
      · obtain ⟨t, ht⟩ := hh (j + 1) v (by simpa using hj)
        exact ⟨t, by rw [ht]; congr 2; rw [show k + (j + 1) = k + 1 + j by omega]⟩
theorem size_pos {a b c : Int} (h4 : 0 < c) : 0 ≤ Builtin.Range.rangeSize a b c := by
  unfold Builtin.Range.rangeSize
  rw [if_pos h4]
  split
  · have := Int.ediv_nonneg (show 0 ≤ b - a - 1 by omega) (show 0 ≤ c by omega); omega
  · omega
section
variable {vs : List PV} {v : PV} {us : List Value}
theorem range_snd (hv : rangeL vs σ = some (v, σ')) (I : Inv h₀ φ σ s.heap) (r : RVs φ s.heap vs us) : W prog w A (call (.type "range") us []) s (Ret h₀ [] φ s.heap v σ') := by
  refine hid fun Rq hRq => ?_
  cases r with
  | nil => exact nsm hv
  | cons q r =>
    cases r with
    | nil =>
      have zq1 := int1_snd hv q
      induction zq1 with | mk hv =>
      obtain ⟨hc, rfl, rfl⟩ := if_rt hv
      exact call_range_1 (hRq _ _ _ (Ret.ext I (Ext.push _ _) (.range (IsRange.new ..) (by decide) hc (by decide) (by decide))))
    | cons q' r =>
      cases r with
      | nil =>
        refine byc fun nh => ?_
        have zq2 := int2_snd hv q q'
        induction zq2 with | mk hv =>
        obtain ⟨hc, rfl, rfl⟩ := if_rt hv
        rw [Bool.and_eq_true] at hc
        refine nh ?_
        exact call_range_2 (hRq _ _ _ (Ret.ext I (Ext.push _ _) (.range (IsRange.new ..) hc.1 hc.2 (by decide) (by decide))))
      | cons q'' r =>
        cases r with
        | nil =>
          have zq3 := int1_snd hv q''
          induction zq3 with | mk hv =>
          have zq4 := int2_snd hv q q'
          induction zq4 with | mk hv =>
          obtain ⟨hc, rfl, rfl⟩ := if_rt hv
          simp only [Bool.and_eq_true, decide_eq_true_eq] at hc
          exact call_range_3 (Int.ne_of_gt hc.1.1.1.2) (hRq _ _ _ (Ret.ext I (Ext.push _ _) (.range (IsRange.new ..) hc.1.1.1.1.1.1 hc.1.1.1.1.1.2 hc.1.1.1.1.2 hc.1.1.1.2))) (.inl (PyProof.noPylong_small (by omega)))
        | cons => exact nsm hv
theorem list_snd (hA : A.handled = none) (hv : listL vs σ = some (v, σ')) (I : Inv h₀ φ σ s.heap) (r : RVs φ s.heap vs us) : W prog w A (call (.type "list") us []) s (Ret h₀ [] φ s.heap v σ') := by
  refine hid fun Rq hRq => ?_
  have zq1 := arg1_snd hv r
  induction zq1 with | mk q  hv =>
  induction q using RV.casesOn with
  | @range a b c rr t u' w' e h1 h2 h3 h4 =>
    obtain ⟨hc, hv⟩ := ifM hv
    obtain ⟨rfl, rfl⟩ := smp hv
    rw [decide_eq_true_eq] at hc
    have h0 := size_pos (a := a) (b := b) h4
    refine sized (call_list_range (n := (Builtin.Range.rangeSize a b c).toNat) hA e (range_small h1 h2 h3 h4) (by omega) (by omega) fun h' tk acc c' hk hl hit hz => ?_)
    have hus : RVs (φ ++ [(s.heap.objs.size, s.heap.objs.size)]) h' ((rangeInts a b c).map PV.int) acc.toList := by
      unfold rangeInts
      rw [List.range_eq_range']
      exact ints_rv acc.toList _ 0 (by simp [hit.1]) fun j v hj => by
        obtain ⟨t, ht⟩ := hit.2 j v (by simpa using hj)
        exact ⟨t, by rw [ht]; simp⟩
    obtain ⟨I', S'⟩ := I.alloc (p := (s.heap.objs.size, s.heap.objs.size)) (keepsE hk hz) (Nat.le_refl _) (c := .lst ((rangeInts a b c).map .int)) ⟨rfl, by simp [rangeInts]; omega, acc.toList, c', by simpa using hl, hus⟩
    refine (hRq _ h' tk ⟨_, S', I', .obj (p := (s.heap.objs.size, s.heap.objs.size)) ?_⟩)
    rw [← I.len]; simp
  | _ => exact nsm hv
theorem type_snd (hv : typeL vs σ = some (v, σ')) (I : Inv h₀ φ σ s.heap) (r : RVs φ s.heap vs us) : W prog w A (call (.type "type") us []) s (Ret h₀ [] φ s.heap v σ') := by
  refine hid fun Rq hRq => ?_
  have zq1 := arg1_snd hv r
  induction zq1 with | mk q  hv =>
  revert hv
  induction q using RV.casesOn with
  | str =>
    intro hv
    obtain ⟨rfl, rfl⟩ := rt_eq hv
    exact call_type_of (Tx := "str") (typeIs_str _ _ _) (by decide +kernel) (hRq _ _ _ (Ret.here I (.top _)))
  | obj e =>
    intro hv
    obtain ⟨_, hx, he⟩ := omap hv
    obtain ⟨xs, hl, rfl⟩ := omap hx
    cases he
    obtain ⟨a, us, k, h1, _, hz, g, _⟩ := list_at hl I (.obj e)
    exact h1 ▸ call_type_of (Tx := "list") ⟨_, g, rfl⟩ (by decide +kernel) (hRq _ _ _ (Ret.here I (.top _)))
  | _ => exact nsm
end
theorem ty_sound {id : String} {vs : List PV} {kvs : List (Str × PV)} {v : PV} (hv : ty id vs kvs σ = some (v, σ')) (R : Room 0 A) (I : Inv h₀ φ σ s.heap) {us : List Value} {kus : List (Str × Value)} (r : RVs φ s.heap vs us) (rk : RKs φ s.heap kvs kus) :
    W prog w A (call (.type id) us kus) s (Ret h₀ [] φ s.heap v σ') := by
  unfold ty at hv
  obtain ⟨hk, hw⟩ := if_kv hv
  clear hv
  subst hk
  obtain rfl := rk.i_nil
  rcases if_tf hw with ⟨h, hw⟩ | hw
  · exact eq_of_beq h ▸ range_snd hw I r
  rcases if_tf hw with ⟨h, hw⟩ | hw
  · exact eq_of_beq h ▸ list_snd R.free hw I r
  rcases if_tf hw with ⟨h, hw⟩ | hw
  · exact eq_of_beq h ▸ type_snd hw I r
  exact nsm hw
noncomputable def GmOk (prog : Program) (w : World) (A : Around) (s : Shared) (uo : Value) (pl : Sem Bool) (x : Str) (fv : Value) : Prop := W prog w A (getMethod uo x pl) s fun r h' => h' = s.heap ∧ r = (fv, [uo])
theorem ifc {P : Str → Value → Prop} {x y : Str} {a fv : Value} {r : Option Value} (h : (if (x == y) = true then some a else r) = some fv) (h1 : P y a) (h2 : r = some fv → P x fv) : P x fv := by
  by_cases hc : (x == y) = true
  · exact beq_iff_eq.1 hc ▸ smi ((if_pos hc).symm.trans h) ▸ h1
  · exact h2 ((if_neg hc).symm.trans h)
theorem mt0_sound {o : PV} {x : Str} {fv : Value} (hv : mt0 σ o x = some fv) (I : Inv h₀ φ σ s.heap) {uo : Value} (q : RV φ s.heap o uo) {pl : Sem Bool} : GmOk prog w A s uo pl x fv := by
  induction q using RV.casesOn with
  | str hs t =>
    exact ifc hv (GM.lower ⟨_, _, rfl, rfl, rfl⟩) fun hv => ifc hv (GM.upper ⟨_, _, rfl, rfl, rfl⟩) fun hv => ifc hv (GM.join ⟨_, _, rfl, rfl, rfl⟩) fun hv => ifc hv (GM.index ⟨_, _, rfl, rfl, rfl⟩) nsm
  | obj e =>
    obtain ⟨xs, hl, hv⟩ := obind hv
    obtain ⟨a, us, k, h1, _, hz, g, _⟩ := list_at hl I (.obj e)
    refine Eq.symm (h1) ▸ ?_
    exact ifc hv (Calls.getMethod_list_append g rfl rfl ⟨_, _, rfl, rfl, rfl⟩) fun hv => ifc hv (getMethod_list_of (items := us.toArray) PySem.F.slot_list_count PySem.F.type_list_count ⟨_, g, rfl, _, rfl⟩ ⟨_, g, rfl⟩ ⟨_, _, rfl, rfl, rfl⟩) nsm
  | _ => exact nsm hv
theorem kept_builtin (t : String) : Kept prog w h₀ (.builtin t) := fun h _ => ⟨.machine, .inr (.inl rfl), W.Looks.of_pure rfl⟩
theorem wd0 {G : List (Str × PV)} (K : Globs h₀ G) (d : Nat) : Wd prog w h₀ G T0 d where
  globs := K
  ap := fun fv vs kvs σ v σ' hv => by
    revert hv
    cases fv with
    | top u =>
      intro hv
      revert hv
      induction u with
      | builtin id => intro hv; exact ⟨_, rfl, kept_builtin _, fun A s φ us kus R I r rk => bi_sound hv (R.le (Nat.zero_le _)) I r rk⟩
      | type id => intro hv; exact ⟨_, rfl, kept_type _, fun A s φ us kus R I r rk => ty_sound hv (R.le (Nat.zero_le _)) I r rk⟩
      | _ => exact nsm
    | _ => exact nsm
  mt := fun σ ov x fv hv A s φ uo pl R I q => mt0_sound hv I q
  at_ := fun C x h => by cases h
  si := fun o i v σ x σ' hv A s φ uo ui u R I qo qi q => (seti_sound hv I qo qi q).mono fun _ _ x => ⟨φ, x⟩
end
end Mine
end
section
namespace Mine
open PySem PyProof.Rows
section
variable {prog : Program} {w : World} {h₀ : Heap} {G : List (Str × PV)} {d : Nat}
theorem Wd.up {T : Tab} {d' : Nat} (D : Wd prog w h₀ G T d) (h : d ≤ d') : Wd prog w h₀ G T d' where
  globs := D.globs
  ap := fun fv vs kvs σ v σ' hv => by
    refine byc fun nh => ?_
    obtain ⟨uf, e, K, H⟩ := D.ap fv vs kvs σ v σ' hv
    refine nh ?_
    exact ⟨uf, e, K, fun A s φ us kus R I r rk => H A s φ us kus (R.le h) I r rk⟩
  mt := fun σ ov x fv hv A s φ uo pl R I q => D.mt σ ov x fv hv A s φ uo pl (R.le h) I q
  at_ := D.at_
  si := fun o i v σ x σ' hv A s φ uo ui u R => D.si o i v σ x σ' hv A s φ uo ui u (R.le h)
noncomputable def FnSnd (prog : Program) (w : World) (h₀ : Heap) (d : Nat) (fa : Addr) (f : List PV → List (Str × PV) → M PV) : Prop :=
  ∀ vs kvs σ v σ', f vs kvs σ = some (v, σ') → ∀ (A : Around) (s : Shared) φ us kus, Room d A → Inv h₀ φ σ s.heap → RVs φ s.heap vs us → RKs φ s.heap kvs kus → W prog w A (call (.ref fa) us kus) s (Ret h₀ [] φ s.heap v σ')
theorem addFn_wd {T : Tab} {fa : Addr} {f : List PV → List (Str × PV) → M PV} (D : Wd prog w h₀ G T d) (K : Kept prog w h₀ (.ref fa)) (H : FnSnd prog w h₀ d fa f) : Wd prog w h₀ G (addFn T fa f) d where
  globs := D.globs
  ap := fun fv vs kvs σ v σ' hv => by
    rcases if_tf hv with ⟨h, hv⟩ | hv
    · exact ⟨_, isRef_some h, K, fun A s φ us kus R I r rk => H vs kvs σ v σ' hv A s φ us kus R I r rk⟩
    · exact D.ap _ vs kvs σ v σ' hv
  mt := D.mt
  at_ := D.at_
  si := D.si
end
end Mine
end
section
namespace Mine
open PySem PyProof.Rows
noncomputable def mat : PV → Value → Bool
  | .top u, v => decide (u = v)
  | .int i, .int j _ => decide (i = j)
  | _, _ => false
theorem mat_rv {v : PV} {u : Value} (h : mat v u = true) (φ : Phi) (hh : Heap) : RV φ hh v u := by
  unfold mat at h
  split at h
  · have := of_decide_eq_true h; subst this; exact .top _
  · have := of_decide_eq_true h; subst this; exact .int _ _
  · exact absurd h (by decide)
noncomputable def gOk (K : W.Frag) (p : Str × PV) : Bool := match W.nsIn K mainGlobals p.1 with
  | some (some u) => mat p.2 u
  | some none => decide (p.1 ≠ "__name__") && (match bootBuiltins p.1 with
    | some u => mat p.2 u
    | none => false)
  | none => false
section
variable {prog : Program} {w : World} {h₀ : Heap} {K : W.Frag}
set_option tactic.hygienic true in
theorem globs_of (X : K.In h₀) {mg mb : Str → Option Value} (Gm : h₀.Ns mainGlobals mg) (B : h₀.Ns builtinsNs mb) (hb : ∀ x : Str, x ≠ "__name__" → mb x = bootBuiltins x) {G : List (Str × PV)} (hG : G.all (gOk K) = true) : Globs h₀ G where
  ns := by
    refine ⟨mg, mb, Gm, B, fun x v hv => ?_⟩
    have := (List.all_eq_true.mp hG) _ (mem_of_lookup hv)
    unfold gOk at this
    split at this
    · rename_i u e
      exact ⟨u, .inl (W.mg_of X Gm e), fun φ h => mat_rv this φ h⟩
    · rename_i e
      simp only [Bool.and_eq_true, decide_eq_true_eq] at this
      obtain ⟨hn, this⟩ := this
      split at this
      · rename_i u hu
        exact ⟨u, .inr ⟨W.ns_none_of X Gm e, by rw [hb x hn]; exact hu⟩, fun φ h => mat_rv this φ h⟩
      · exact absurd this (by decide)
    · exact absurd this (by decide)
noncomputable def stmtsOf : FuncBody → List Stmt
  | .stmts b => b
  | .expr _ => []
noncomputable def isStmts : FuncBody → Bool
  | .stmts _ => true
  | .expr _ => false
noncomputable def fnOk (K : W.Frag) (fd : FuncData) : Bool :=
  fd.closure.isEmpty && decide (fd.scope.kind = .function) && !fd.scope.isGenerator && !fd.scope.isCoroutine && decide (fd.globals = mainGlobals) && decide (fd.builtins = builtinsNs) && W.codeIn K fd.code fd.qualname && isStmts fd.body
theorem fnOk_of (X : K.In h₀) (hlim : h₀.NoLimit) {fa : Addr} {fd : FuncData} {oc : Value} {od : Option Addr} {osl : Array (Option Value)} (e : K.lookup fa = some ⟨oc, od, .func fd, osl⟩) (hk : fnOk K fd = true) : FnOk h₀ fa fd (stmtsOf fd.body) := by
  unfold fnOk at hk
  simp only [Bool.and_eq_true, decide_eq_true_eq, List.isEmpty_iff, Bool.not_eq_true'] at hk
  refine byc fun nh => ?_
  obtain ⟨⟨⟨⟨⟨⟨⟨h1, h2⟩, h3⟩, h4⟩, h5⟩, h6⟩, h7⟩, h8⟩ := hk
  refine nh ?_
  refine ⟨⟨_, X _ _ e, rfl⟩, ?_, h1, h2, h3, h4, h5, h6, W.codeRec_of X h7, hlim⟩
  unfold stmtsOf
  cases hb : fd.body with
  | stmts b => rfl
  | expr => rw [hb] at h8; exact Bool.noConfusion h8
theorem kept_fn (X : K.In h₀) {fa : Addr} (hk : W.keepIn K (.ref fa) = true) : Kept prog w h₀ (.ref fa) := fun h k => W.keeps_K hk h (X.keeps k)
theorem bind_plain {A : Around} {s : Shared} {φ : Phi} {σ : St} {fd : FuncData} {us : List Value} {vs : List PV} {ps : List Str} (hb : bindArgs fd ⟨us, []⟩ = pure (ps.zip us)) (hl : ps.length = us.length) (I : Inv h₀ φ σ s.heap) (r : RVs φ s.heap vs us) :
    W prog w A (bindArgs fd ⟨us, []⟩) s (RetX h₀ φ s.heap σ fun φ' h' binds => binds.map (·.1) = ps ∧ RVs φ' h' vs (binds.map (·.2))) := by
  rw [hb]
  refine W.pure ⟨φ, Step.refl _ _ _, I, ?_, ?_⟩
  · exact List.map_fst_zip (by exact Nat.le_of_eq (by assumption))
  · rw [List.map_snd_zip (by exact Nat.le_of_eq (Eq.symm (by assumption)))]; exact r
end
end Mine
end
section
namespace Mine
open PySem PyProof.Rows
structure CF where
  nl : Nat
  nc : Nat
  pms : List MV
  mb : MSs
noncomputable def CF.run (c : CF) (T : Tab) (vs : List PV) : M PV := Mine.run T c.nl c.nc c.pms c.mb vs
structure CfOk (G : List (Str × PV)) (fd : FuncData) (ps : List Str) (c : CF) : Prop where
  blk : blockOk fd.scope.names = true
  nl : (namesOf .local fd.scope.names).length = c.nl
  nc : (namesOf .cell fd.scope.names).length = c.nc
  pms : ps.mapM (mv (gmFn fd.scope)) = some c.pms
  mb : ∃ n, seqS ((stmtsOf fd.body).map (cS G n (gmFn fd.scope))) = some c.mb
noncomputable def flat : PV → Bool
  | .none => true
  | .bool _ => true
  | .int _ => true
  | .str _ => true
  | .top _ => true
  | _ => false
noncomputable def pureFn (T : Tab) (c : CF) (n : Nat) (vs : List PV) (kvs : List (Str × PV)) : M PV :=
  if kvs.isEmpty && decide (vs.length = n) && vs.all flat then
    match c.run T vs [] with
    | some (v, _) => if flat v then rt v else fail
    | none => fail
  else fail
theorem pureFn_some {T : Tab} {c : CF} {n : Nat} {vs : List PV} {kvs : List (Str × PV)} {σ σ' : St} {v : PV} (h : pureFn T c n vs kvs σ = some (v, σ')) :
    kvs = [] ∧ vs.length = n ∧ vs.all flat = true ∧ flat v = true ∧ σ' = σ ∧ ∃ junk, c.run T vs [] = some (v, junk) := by
  unfold pureFn at h
  split at h
  · rename_i hc
    simp only [Bool.and_eq_true, List.isEmpty_iff, decide_eq_true_eq] at hc
    cases e : c.run T vs [] with
    | none => rw [e] at h; cases h
    | some x =>
      obtain ⟨v', junk⟩ := x
      replace h := (e) ▸ h
      refine byc fun nh => ?_
      obtain ⟨hf, rfl, rfl⟩ := if_rt h
      refine nh ?_
      exact ⟨hc.1.1, hc.1.2, hc.2, hf, rfl, junk, rfl⟩
  · exact nsm h
theorem flat_rv {φ φ' : Phi} {h h' : Heap} {v : PV} {u : Value} (hf : flat v = true) (q : RV φ h v u) : RV φ' h' v u := by
  induction q using RV.casesOn with
  | none => exact .none
  | bool => exact .bool _
  | int => exact .int _ _
  | str e t => exact .str e t
  | top => exact .top _
  | tup => cases hf
  | obj => cases hf
  | range => exact Bool.noConfusion hf
theorem flats_rv {φ φ' : Phi} {h h' : Heap} {vs : List PV} {us : List Value} (hf : vs.all flat = true) (r : RVs φ h vs us) : RVs φ' h' vs us := by
  induction vs generalizing us with
  | nil => cases r; exact .nil
  | cons v vs ih =>
    cases r with
    | cons q r =>
      obtain ⟨h1, h2⟩ := Bool.and_eq_true_iff.1 hf
      exact .cons (flat_rv h1 q) (ih h2 r)
section
variable {prog : Program} {w : World} {h₀ : Heap} {G : List (Str × PV)} {T : Tab} {d : Nat}
theorem cf_sound (D : Wd prog w h₀ G T d) {fa : Addr} {fd : FuncData} {ps : List Str} {c : CF} (K : FnOk h₀ fa fd (stmtsOf fd.body)) (C : CfOk G fd ps c) {σ σ' : St} {vs : List PV} {v : PV} (hv : c.run T vs σ = some (v, σ')) {A : Around} {s : Shared} {φ : Phi} (R : Room (d + 1) A)
    (I : Inv h₀ φ σ s.heap) {us : List Value} {kus : List (Str × Value)} (hB : W prog w A.in1 (bindArgs fd ⟨us, kus⟩) s (RetX h₀ φ s.heap σ fun φ' h' binds => binds.map (·.1) = ps ∧ RVs φ' h' vs (binds.map (·.2)))) :
    W prog w A (call (.ref fa) us kus) s (Ret h₀ [] φ s.heap v σ') := by
  obtain ⟨n, hmb⟩ := C.mb
  refine run_sound (n := n) D R K C.blk C.pms hmb ?_ I hB
  rw [C.nl, C.nc]; exact hv
theorem pure_sound (D : Wd prog w h₀ G T d) {fa : Addr} {fd : FuncData} {ps : List Str} {c : CF} (K : FnOk h₀ fa fd (stmtsOf fd.body)) (C : CfOk G fd ps c)
    (hb : ∀ us : List Value, us.length = ps.length → bindArgs fd ⟨us, []⟩ = pure (ps.zip us)) : FnSnd prog w h₀ (d + 1) fa (pureFn T c ps.length) := by
  intro vs kvs σ v σ' hv A s φ us kus R I r rk
  refine byc fun nh => ?_
  obtain ⟨rfl, hn, hf, hfv, rfl, junk, e⟩ := pureFn_some hv
  refine nh ?_
  cases rk with | nil =>
  have hl : us.length = ps.length := by rw [← r.length]; exact hn
  have I0 : Inv h₀ [] [] s.heap := ⟨I.base, I.sz, fun i p c h => by simp at h, rfl, List.nodup_nil, fun i c p h => by simp at h⟩
  refine (cf_sound D K C e R I0 (bind_plain (hb us hl) hl.symm I0 (flats_rv hf r))).mono fun u h' rr => ?_
  refine byc fun nh => ?_
  obtain ⟨φ', S, I', q⟩ := rr
  refine nh ?_
  exact Ret.ext I (keepsE (fun c o e => S.keep c o e (by exact List.not_mem_nil) (by exact nil2)) S.size) (flat_rv hfv q)
end
end Mine
end
section
namespace Mine
open PySem PyProof.Rows
noncomputable def setNo (code : Array Nat) (c : Nat) : Prop := ∀ seen, ∃ seen', Sre.inSet code c code.size 5 true seen = .ok (false, seen')
theorem admitted_none {m : Sre.M} (h : ∀ i, i < m.lim → setNo m.code (m.text.getD i 0)) : ∀ (fuel s : Nat) (seen : Sre.Seen), ∃ seen', Sre.M.admitted m fuel s seen = .ok (none, seen') := by
  intro fuel
  induction fuel with
  | zero => intro s seen; exact ⟨seen, rfl⟩
  | succ fuel ih =>
    intro s seen
    unfold Sre.M.admitted
    by_cases hs : s ≥ m.lim
    · rw [if_pos hs]; exact ⟨seen, rfl⟩
    · refine Eq.symm (if_neg hs) ▸ ?_
      obtain ⟨seen', e⟩ := h s (by exact Nat.lt_of_not_le (by assumption)) seen
      refine Eq.symm (e) ▸ ?_
      exact ih (s + 1) seen'
noncomputable def Ends (m : Sre.M) : Prop := m.answer = some false ∧ m.frames = [] ∧ m.outcome = none
theorem attemptFrom_none {m : Sre.M} (hf : m.hasFirstSet = true) (h : ∀ i, i < m.lim → setNo m.code (m.text.getD i 0)) (h1 : m.frames = []) (h2 : m.outcome = none) (s : Nat) (first : Bool) : Ends (m.attemptFrom s first) := by
  unfold Sre.M.attemptFrom
  refine Eq.symm (hf) ▸ ?_
  obtain ⟨seen', e⟩ := admitted_none h (m.lim + 1 - s) s m.seen
  refine Eq.symm (e) ▸ ?_
  exact ⟨rfl, h1, h2⟩
noncomputable def firstSet (code : Array Nat) : Bool := (match Sre.ops[code.getD 0 0]? with | some .INFO => true | _ => false) && code.getD 2 0 == 4
theorem search_ends {code text : Array Nat} {groups : Nat} (h2 : firstSet code = true) (h : ∀ i, i < text.size → setNo code (text.getD i 0)) :
    Ends (Sre.forSearch code text groups 0 text.size false) := by
  unfold Sre.forSearch
  by_cases hc : (decide (0 > text.size) || decide (text.size - 0 < (Sre.header code).fst)) = true
  · rw [if_pos hc]; exact ⟨rfl, rfl, rfl⟩
  · rw [if_neg hc]
    refine attemptFrom_none ?_ ?_ ?_ ?_ _ _
    · exact h2
    · exact h
    · rfl
    · rfl
section
variable {M : Model} {A : Around} {E : Value → Shared → Prop} {s : Shared}
theorem wpAny_rules (f : Nat → PUnit → Sem (ForInStep PUnit)) (b : Nat → Bool) (n : Nat → String) (hf : ∀ i, f i PUnit.unit = if b i = true then (rule (n i) >>= fun _ => pure (ForInStep.yield PUnit.unit)) else pure (ForInStep.yield PUnit.unit)) {Q : PUnit → Shared → Prop} (h : Q PUnit.unit s) :
    ∀ l : List Nat, wpAny M A (forIn l PUnit.unit f) Q E s := by
  intro l
  induction l with
  | nil => rw [List.forIn_nil]; exact wpAny_pure h
  | cons a l ih =>
    rw [List.forIn_cons, hf]
    refine wpAny_bind ?_
    by_cases hb : b a = true
    · rw [if_pos hb]; exact wpAny_bind (wpAny_rule (wpAny_pure ih))
    · rw [if_neg hb]; exact wpAny_pure ih
theorem runToEnd_none {m : Sre.M} (hm : Ends m) {Q : Option Sre.M → Shared → Prop} (h : Q none s) : wpAny M A (Builtin.Re.reRunToEnd m) Q E s := by
  refine byc fun nh => ?_
  obtain ⟨h1, h2, h3⟩ := hm
  have hs : m.step = { m with outcome := some .failed } := by
    unfold Sre.M.step
    rw [h3, h1, h2]; rfl
  have hr : m.runFor Builtin.Re.reTurnSteps = { m with outcome := some .failed } := by
    show (if m.outcome.isSome then m else Sre.M.runFor 3 m.step) = _
    rw [h3, hs]; rfl
  have hd : Builtin.Re.reDrive (2 ^ 64) m = pure { m with outcome := some .failed } := by
    show (let m' := m.runFor Builtin.Re.reTurnSteps; if m'.outcome.isSome then pure m' else do rule "sre.turn"; Builtin.Re.reDrive 18446744073709551615 m') = _
    rw [hr]; rfl
  refine nh ?_
  unfold Builtin.Re.reRunToEnd
  rw [hd]
  refine wpAny_bind (wpAny_pure (wpAny_bind ?_))
  refine wpAny_rules _ (fun i => m.seen.has i) (fun i => Sre.names.getD i "") (fun i => ?_) ?_ _
  · rfl
  · exact wpAny_pure h
end
end Mine
end
section
namespace Mine
open PySem PyProof.Rows PySem.Builtin PySem.Builtin.Re
theorem slot_search : Slot "re.Pattern" "search" "re.Pattern.search" :=
  .of (owner := "re.Pattern") (n := "search") (by rw [typeLookup_type, builtinLookup_eq_fast]; kernel_rfl) (by decide +kernel) (by decide +kernel) (by decide +kernel)
    (by first | exact .inl (by decide +kernel) | exact .inr (by decide +kernel)) (by rw [isSubtype_type]; kernel_rfl)
theorem entry_search : entryFor table "re.Pattern.search" = some Builtin.«re.Pattern.search» := entryFor_of_tree (by kernel_rfl)
theorem type_search : typeOf (.builtin "re.Pattern.search") = pure (.type "method_descriptor") := by show builtinType _ = _; rw [builtinType_eq_fast]; kernel_rfl
theorem plain_pattern : PlainAttrs "re.Pattern" :=
  ⟨⟨"object.__getattribute__", by rw [typeLookup_type, builtinLookup_eq_fast]; kernel_rfl, by decide +kernel⟩, by rw [typeLookup_type, builtinLookup_eq_fast]; kernel_rfl⟩
theorem owner_pattern : Manifest.owners.lookup (String.ofList ['n', 'r', 'e', 't', 't', 'a', 'P', '.', 'e', 'r'].reverse) = some Manifest.sig_re_Pattern := by kernel_rfl
theorem args_search (a b : Value) : argsOk "re.Pattern.search" ⟨[a, b], []⟩ := by
  unfold argsOk; rw [signature?_of (id := "re.Pattern.search") (n := ['h', 'c', 'r', 'a', 'e', 's']) (o := ['n', 'r', 'e', 't', 't', 'a', 'P', '.', 'e', 'r']) (by kernel_rfl) owner_pattern]; kernel_rfl
section
variable {prog : Program} {w : World} {A : Around} {s : Shared}
structure Pat (h : Heap) (a : Addr) : Prop where
  at_ : ∃ p fl ca o vs n, h.get? a = some { cls := .type "re.Pattern", dict := none, data := .fields #[p, fl, .int 0 0, .none, .none, .ref ca, .int 0 0], slots := #[] } ∧ h.get? ca = some o ∧ o.data = .seq vs n ∧
    firstSet ((vs.map reRawOf).map (·.toNat)) = true ∧ ∀ c, 32 ≤ c → c < 127 → setNo ((vs.map reRawOf).map (·.toNat)) c
noncomputable def prn (x : Str) : Bool := x.cps.toList.all fun c => decide (32 ≤ c) && decide (c < 127)
theorem named_one (v : Value) : reNamed "re.Pattern.search" "search" ["string", "pos", "endpos"] 1 [v] [] = pure [some v, none, none] := by kernel_rfl
theorem text_str (x : Str) (t : Tok) : reTextOf (.str x t) = pure (x.cps, 0) := rfl
theorem inside_str (x : Str) (t : Tok) : reNoCollectionInside (.str x t) 0 = pure () := rfl
theorem prn_at {x : Str} (hx : prn x = true) (i : Nat) (hi : i < x.cps.size) : 32 ≤ x.cps.getD i 0 ∧ x.cps.getD i 0 < 127 := by
  unfold prn at hx
  rw [List.all_eq_true] at hx
  have := hx (x.cps[i]) (by simp)
  simp at this
  simpa [Array.getD, hi] using this
theorem search_call {a : Addr} {x : Str} {t : Tok} (p : Pat s.heap a) (hx : prn x = true) (hz : x.cps.size ≤ 1000000) : W prog w A (call (.builtin "re.Pattern.search") [.ref a, .str x t]) s fun u h' => u = .none ∧ h' = s.heap := by
  refine byc fun nh => ?_
  obtain ⟨pp, fl, ca, o, vs, n, g, go, hd, h2, h3⟩ := p.at_
  refine nh ?_
  refine wpAny_call_entry slot_search ⟨_, g, rfl⟩ entry_search ?_ (args_search _ _)
  refine wpAny_bind ?_
  unfold reTarget
  show wpAny _ _ (reNamed "re.Pattern.search" "search" ["string", "pos", "endpos"] 1 [.str x t] [] >>= _) _ _ _
  rw [named_one]
  refine wpAny_bind (wpAny_pure ?_)
  refine wpAny_bind (wpAny_pure (wpAny_bind (wpAny_pure ?_)))
  refine wpAny_bind (wpAny_fieldsOf g rfl ?_)
  rw [text_str]
  refine wpAny_bind (wpAny_pure ?_)
  have e1 : reRawNat (#[pp, fl, Value.int 0 0, Value.none, Value.none, Value.ref ca, Value.int 0 0].getD 6 Value.none) = 0 := rfl
  have e2 : (#[pp, fl, Value.int 0 0, Value.none, Value.none, Value.ref ca, Value.int 0 0].getD 5 Value.none) = .ref ca := rfl
  have e3 : reRawNat (#[pp, fl, Value.int 0 0, Value.none, Value.none, Value.ref ca, Value.int 0 0].getD 2 Value.none) = 0 := rfl
  rw [e1, e2, e3]
  show wpAny _ _ (reNoCollectionInside (.str x t) 0 >>= fun _ => reRawItems (.ref ca) >>= fun cs => pure ({ pattern := .ref a, string := .str x t, code := cs.map (·.toNat), text := x.cps, kind := 0, groups := 0, pos := Min.min (0 : Int).toNat x.cps.size, lim := Min.min ((2:Int) ^ 63 - 1).toNat x.cps.size } : ReTarget)) _ _ _
  rw [inside_str]
  refine wpAny_bind (wpAny_pure (wpAny_bind ?_))
  unfold reRawItems
  refine wpAny_bind (wpAny_seqItems go hd (wpAny_pure (wpAny_pure ?_)))
  have e4 : Min.min (0 : Int).toNat x.cps.size = 0 := by exact (by assumption)
  have e5 : Min.min ((2:Int) ^ 63 - 1).toNat x.cps.size = x.cps.size := by
    have : ((2:Int) ^ 63 - 1).toNat = 9223372036854775807 := by decide +kernel
    rw [this]; omega
  refine Eq.symm (e4) ▸ ?_
  refine Eq.symm (e5) ▸ ?_
  unfold reAnswer
  refine wpAny_bind (runToEnd_none (search_ends h2 (fun i hi => ?_)) ?_)
  · exact h3 _ (prn_at hx i hi).1 (prn_at hx i hi).2
  · exact wpAny_pure ⟨_, rfl, _, _, rfl, rfl, rfl⟩
end
end Mine
end
section
namespace Mine
open PySem PyProof.Rows
noncomputable def cut (m : M PV) (_more : Nat) : M PV := m
noncomputable def callFn (T : Tab) (c : CF) (bd : List PV → List (Str × PV) → Option (List PV)) (more : Nat) (vs : List PV) (kvs : List (Str × PV)) : M PV := match bd vs kvs with
  | some ws => cut (c.run T ws) more
  | none => fail
section
variable {prog : Program} {w : World} {h₀ : Heap} {G : List (Str × PV)} {T : Tab} {d : Nat}
noncomputable def BindOk (prog : Program) (w : World) (h₀ : Heap) (fd : FuncData) (ps : List Str) (bd : List PV → List (Str × PV) → Option (List PV)) : Prop :=
  ∀ (vs : List PV) (kvs : List (Str × PV)) (ws : List PV), bd vs kvs = some ws → ∀ (A : Around) (s : Shared) (φ : Phi) (σ : St) (us : List Value) (kus : List (Str × Value)), Inv h₀ φ σ s.heap → RVs φ s.heap vs us → RKs φ s.heap kvs kus →
    W prog w A (bindArgs fd ⟨us, kus⟩) s (RetX h₀ φ s.heap σ fun φ' h' binds => binds.map (·.1) = ps ∧ RVs φ' h' ws (binds.map (·.2)))
theorem callFn_sound (D : Wd prog w h₀ G T d) {fa : Addr} {fd : FuncData} {ps : List Str} {c : CF} (K : FnOk h₀ fa fd (stmtsOf fd.body)) (C : CfOk G fd ps c) {bd : List PV → List (Str × PV) → Option (List PV)} (more : Nat)
    (hb : BindOk prog w h₀ fd ps bd) : FnSnd prog w h₀ (d + 1) fa (callFn T c bd more) := by
  intro vs kvs σ v σ' hv A s φ us kus R I r rk
  unfold callFn at hv
  cases hw : bd vs kvs with
  | none => rw [hw] at hv; cases hv
  | some ws =>
    rw [hw] at hv
    exact cf_sound D K C hv R I (hb vs kvs ws hw A.in1 s φ σ us kus I r rk)
noncomputable def bdN (n : Nat) (vs : List PV) (kvs : List (Str × PV)) : Option (List PV) := if kvs.isEmpty && decide (vs.length = n) then some vs else none
theorem bdN_ok {fd : FuncData} {ps : List Str} (hb : ∀ us : List Value, us.length = ps.length → bindArgs fd ⟨us, []⟩ = pure (ps.zip us)) : BindOk prog w h₀ fd ps (bdN ps.length) := by
  intro vs kvs ws hw A s φ σ us kus I r rk
  unfold bdN at hw
  split at hw
  · rename_i hc
    obtain rfl := smi hw
    simp only [Bool.and_eq_true, List.isEmpty_iff, decide_eq_true_eq] at hc
    obtain ⟨rfl, hn⟩ := hc
    cases rk with | nil =>
    have hl : us.length = ps.length := by rw [← r.length]; exact hn
    exact bind_plain (hb us hl) hl.symm I r
  · exact nsm hw
end
end Mine
end
section
namespace Mine
open PySem PyProof.Rows
structure MthOk (h₀ : Heap) (C : Addr) (x : Str) (f : Addr) : Prop where
  cls : ∃ N mN, ClsAt h₀ C N mN ∧ mN "__getattribute__" = none ∧ mN "__getattr__" = none ∧ mN x = some (.ref f)
  fn : ∃ o, h₀.get? f = some o ∧ o.cls = .type "function"
  obj : ∃ y, typeLookup (.type "object") x = pure y
noncomputable def mtAt (σ : St) (C : Addr) (x : Str) (o : PV) (y : Str) : Bool := match o with
  | .obj n => (((σ[n]?).bind cellI).map fun p => (p.1 == C && y == x) && (p.2.lookup x).isNone) == some true
  | _ => false
noncomputable def addMt (T : Tab) (C : Addr) (x : Str) (f : Addr) : Tab := { T with
  mt := fun σ o y => if mtAt σ C x o y = true then some (.ref f) else T.mt σ o y }
noncomputable def addAt (T : Tab) (C : Addr) (x : Str) : Tab := { T with at_ := fun C' y => (C' == C && y == x) || T.at_ C' y }
section
variable {prog : Program} {w : World} {h₀ : Heap} {G : List (Str × PV)} {T : Tab} {d : Nat}
set_option tactic.hygienic true in
theorem method_sound {A : Around} {s : Shared} {φ : Phi} {σ : St} {n : Nat} {C : Addr} {as : List (Str × PV)} {x : Str} {f : Addr} {uo : Value} {pl : Sem Bool} (K : MthOk h₀ C x f) (hσ : σ[n]? = some (.inst C as)) (hv : as.lookup x = none) (I : Inv h₀ φ σ s.heap) (q : RV φ s.heap (.obj n) uo) :
    W prog w A (getMethod uo x pl) s fun r h' => h' = s.heap ∧ r = (.ref f, [uo]) := by
  refine hid fun Rq hRq => ?_
  cases q with | @obj _ p e =>
  refine byc fun nh => ?_
  refine byc fun nh => ?_
  obtain ⟨p', hp, c⟩ := I.cell hσ
  refine nh ?_
  refine nh ?_
  rw [e] at hp; cases hp
  refine byc fun nh => ?_
  obtain ⟨⟨o, g, hc, hd, hdx⟩, hne, _, m, hm, ha⟩ := c
  obtain ⟨N, mN, X, h1, h2, h3⟩ := K.cls
  obtain ⟨fo, hf, hfc⟩ := K.fn
  obtain ⟨y, hB⟩ := K.obj
  have X' := X.keeps I.base
  obtain ⟨nm, q, bs, sn, sub, col, dd, k0, k1, k2, k3, k5, hC⟩ := X'.obj
  have hx := ha x
  replace hx := (hv) ▸ hx
  obtain ⟨hh, gg, d, t, os⟩ := s
  refine nh ?_
  exact method_of hC X'.ns h1 h2 h3 (I.base _ _ hf) hfc hB ⟨o, g, hc, fun c e => (by rw [hd] at e; cases e), .inr ⟨_, hdx, Ne.symm hne, hm⟩⟩ hx (hRq _ _ _ ⟨rfl, rfl⟩)
theorem addMt_wd {C f : Addr} {x : Str} (D : Wd prog w h₀ G T d) (K : MthOk h₀ C x f) : Wd prog w h₀ G (addMt T C x f) d where
  globs := D.globs
  ap := D.ap
  mt := fun σ ov y fv hv A s φ uo pl R I q => by
    rcases ifO hv with ⟨hc, hv⟩ | hv
    · obtain rfl := smi hv
      cases ov with
      | obj n =>
        refine byc fun nh => ?_
        obtain ⟨⟨C', as⟩, h1, h2⟩ := omap (beq_iff_eq.1 hc)
        obtain ⟨c, hσ, h1⟩ := obind h1
        obtain rfl := cellI_some h1
        simp only [Bool.and_eq_true, beq_iff_eq, Option.isNone_iff_eq_none] at h2
        obtain ⟨⟨rfl, rfl⟩, hl⟩ := h2
        refine nh ?_
        exact method_sound K hσ hl I q
      | _ => exact Bool.noConfusion hc
    · exact D.mt σ ov y fv hv A s φ uo pl R I q
  at_ := D.at_
  si := D.si
theorem addAt_wd {C : Addr} {x : Str} (D : Wd prog w h₀ G T d) (K : ClsOk h₀ C x) : Wd prog w h₀ G (addAt T C x) d where
  globs := D.globs
  ap := D.ap
  mt := D.mt
  at_ := fun C' y hv => by
    unfold addAt at hv
    simp only [Bool.or_eq_true, Bool.and_eq_true, beq_iff_eq] at hv
    rcases hv with ⟨rfl, rfl⟩ | h
    · exact K
    · exact D.at_ _ _ h
  si := D.si
end
end Mine
end
section
namespace Mine
open PySem PyProof.Rows
noncomputable abbrev madeD : Obj := { cls := .type "dict", data := .dict #[] }
noncomputable abbrev madeX (C dx : Addr) : Obj := { cls := .ref C, dict := some dx, data := .plain }
noncomputable abbrev made (h : Heap) (C : Addr) : Heap := (h.push madeD).push (madeX C h.objs.size)
section
variable {prog : Program} {w : World} {A : Around} {E : Value → Shared → Prop} {h : Heap} {g : Array GenState} {d : Drawn} {t : Nat} {os : OsState}
theorem typecall_init {C N : Addr} {mN : Str → Option Value} (X : ClsAt h C N mN) {rest : List Value} {fI : Addr} {oI : Obj} {Q : Fin → Shared → Prop} (hi : mN "__init__" = some (.ref fI)) (hfI : h.get? fI = some oI) (hfc : oI.cls = .type "function")
    (hq : wpAny (model prog w) A (call (.ref fI) (.ref (h.objs.size + 1) :: rest)) (fun r s' => r = .none ∧ Q (.done (.ret (.ref (h.objs.size + 1)))) s') E ⟨made h C, g, d, t, os⟩) :
    wpAny (model prog w) A (Builtin.«type.__call__» ⟨.ref C :: rest, []⟩) Q E ⟨h, g, d, t, os⟩ := by
  refine byc fun nh => ?_
  obtain ⟨nm, q, bs, sn, sub, col, dd, k0, k1, k2, k3, k5, hC⟩ := X.obj
  have hn := X.ns
  have F := F.objNew
  have hmro : mroOf (.type "object") = pure [.type "object"] := by kernel_rfl
  have hlk : typeLookup (.type "object") "__init__" = pure (some (.builtin "object.__init__")) := by rw [typeLookup_type, builtinLookup_eq_fast]; kernel_rfl
  refine nh ?_
  repeat (first | with_reducible refine wpAny_loadPart_at hC ?_ | with_reducible refine wpAny_madeBy_exc hC ?_ | wp_step)
  refine codeAny_call_builtin_code (Code.quiet_builtin _ F.quiet) (wpAny_check_obj_new F hC ?_)
  refine codeAny_obj_new F hC hn hi ?_
  have keep : ∀ {b o}, h.get? b = some o → (made h C).get? b = some o := fun e => Heap.get?_push_of_some _ (Heap.get?_push_of_some _ e)
  have hC₁ := keep hC
  have hn₁ : (made h C).Ns N mN := hn.keeps fun _ _ => keep
  have hget : (made h C).get? (h.objs.size + 1) = some { cls := .ref C, dict := some h.objs.size, data := .plain } := by
    unfold made
    exact Heap.get?_push_at (by rw [Heap.size_push]) rfl
  have hcC : (Value.ref C :: [Value.type "object"]).contains (.ref C) = true := by simp
  unfold isInstance
  repeat (first | with_reducible refine wpAny_loadPart_at hget ?_ | (with_reducible refine wpAny_isSubtype_exc hC₁ ?_; rw [hcC]) | wp_step)
  refine wpAny_typeLookup_exc hC₁ hn₁ hmro hlk ?_
  refine Eq.symm (hi) ▸ ?_
  refine wpAny_holding (wpAny_bind ?_)
  unfold bindSpecial
  refine wpAny_bind (wpAny_typeOf (T := "function") ⟨_, keep hfI, hfc⟩ ?_)
  rw [if_pos (by decide)]
  refine wpAny_pure (wpAny_bind (wpAny_mono hq (fun r s' hr => ?_) fun _ _ x => x))
  obtain ⟨rfl, hQ⟩ := hr
  wp_walk
  exact hQ
theorem clscall_init {C N : Addr} {mN : Str → Option Value} (X : ClsAt h C N mN) {rest : List Value} {fI : Addr} {oI : Obj} {Q : Value → Shared → Prop} (hi : mN "__init__" = some (.ref fI)) (hfI : h.get? fI = some oI) (hfc : oI.cls = .type "function")
    (hq : wpAny (model prog w) (A.under (.builtin "type.__call__" ⟨.ref C :: rest, []⟩)) (call (.ref fI) (.ref (h.objs.size + 1) :: rest)) (fun r s' => r = .none ∧ Q (.ref (h.objs.size + 1)) s') E ⟨made h C, g, d, t, os⟩) :
    wpAny (model prog w) A (call (.ref C) rest) Q E ⟨h, g, d, t, os⟩ := by
  refine byc fun nh => ?_
  obtain ⟨nm, q, bs, sn, sub, col, dd, k0, k1, k2, k3, k5, hC⟩ := X.obj
  have f1 := tc_lookup
  have f2 := tc_bind (.ref C)
  have hT : (⟨h, g, d, t, os⟩ : Shared).TypeIs (.ref C) "type" := ⟨_, hC, rfl⟩
  refine nh ?_
  refine wpAny_call (codeAny_of_tree ?_)
  repeat (any_goals (first | assumption | with_reducible refine wpAny_loadPart_at hC ?_ | wp_step))
  refine ⟨rfl, ?_⟩
  exact codeAny_call_builtin_at (Code.quiet_builtin _ (by decide +kernel)) entry_typeCall (wpAny_check_type_call_sub hC (typecall_init X hi hfI hfc hq))
theorem Room.typecall {d : Nat} (R : Room (d + 1) A) (C : Addr) (rest : List Value) : Room d (A.under (.builtin "type.__call__" ⟨.ref C :: rest, []⟩)) := by
  obtain ⟨h1, h2, h3⟩ := R
  refine ⟨?_, ?_, h3⟩
  · have : (Code.builtin "type.__call__" ⟨.ref C :: rest, []⟩).weight = 1 := rfl
    show A.depth + (Code.builtin "type.__call__" ⟨.ref C :: rest, []⟩).weight + d < _
    omega
  · have : (Code.builtin "type.__call__" ⟨.ref C :: rest, []⟩).cUnits = 1 := rfl
    show A.units + (Code.builtin "type.__call__" ⟨.ref C :: rest, []⟩).cUnits + _ + _ < _
    omega
end
noncomputable def newFn (C : Addr) (f : List PV → List (Str × PV) → M PV) (vs : List PV) (kvs : List (Str × PV)) : M PV :=
  if kvs.isEmpty then bnd (alloc (.inst C [])) fun o => bnd (f (o :: vs) []) fun r => match r with
    | .none => rt o
    | _ => fail
  else fail
section
variable {prog : Program} {w : World} {h₀ : Heap} {d : Nat}
theorem newFn_sound {C fI : Addr} {f : List PV → List (Str × PV) → M PV} (K : MthOk h₀ C "__init__" fI) (H : FnSnd prog w h₀ d fI f) : FnSnd prog w h₀ (d + 1) C (newFn C f) := by
  intro vs kvs σ v σ' hv A s φ us kus R I r rk
  unfold newFn at hv
  split at hv
  · rename_i hk
    rw [List.isEmpty_iff] at hk; subst hk
    cases rk with | nil =>
    obtain ⟨o, σ₁, e1, e2⟩ := bnd_some hv
    obtain ⟨rfl, rfl⟩ := smp e1
    obtain ⟨rv, σ₂, e3, e4⟩ := bnd_some e2
    split at e4
    · obtain ⟨rfl, rfl⟩ := rt_eq e4
      obtain ⟨N, mN, X, _, _, h3⟩ := K.cls
      obtain ⟨fo, hf, hfc⟩ := K.fn
      obtain ⟨h, g, dr, t, os⟩ := s
      have x : Ext [] h (made h C) := (Ext.push h madeD).trans (Ext.push _ _)
      have hgx : (made h C).get? (h.objs.size + 1) = some (madeX C h.objs.size) := Heap.get?_push_at (by rw [Heap.size_push]) rfl
      have hgd : (made h C).get? h.objs.size = some madeD := Heap.get?_push_of_some _ (Heap.get?_push_at rfl rfl)
      obtain ⟨I', S⟩ := I.alloc (c := .inst C []) (p := (h.objs.size + 1, h.objs.size)) x (Nat.le_refl _)
        ⟨⟨_, hgx, rfl, rfl, rfl⟩, (by show h.objs.size + 1 ≠ h.objs.size; exact Nat.ne_of_gt (Nat.lt_add_of_pos_right (by decide))), ⟨_, hgd, #[], _, rfl⟩, fun _ => none, Heap.Ns1.of_empty ⟨_, #[], _, hgd, rfl, fun e he => absurd he (by simp), fun _ => rfl⟩, fun _ => rfl⟩
      have q : RV (φ ++ [(h.objs.size + 1, h.objs.size)]) (made h C) (.obj σ.length) (.ref (h.objs.size + 1)) := .obj (p := (h.objs.size + 1, h.objs.size)) (by rw [← I.len]; simp)
      refine clscall_init (X.keeps I.base) h3 (I.base _ _ hf) hfc ?_
      refine wpAny_mono (H _ _ _ _ _ e3 _ ⟨made h C, g, dr, t, os⟩ _ (.ref (h.objs.size + 1) :: us) [] (R.typecall C us) I' (.cons q (r.mono S.toGrow)) .nil) (fun u s' hu => ?_) fun _ _ e => e
      obtain ⟨h', tk, rfl, φ', S', I'', q'⟩ := hu
      cases q' with | none =>
      exact ⟨rfl, h', tk, rfl, φ', S.trans S', I'', q.mono S'.toGrow⟩
    · exact nsm e4
  · exact nsm hv
end
end Mine
end
section
namespace Mine
open PySem PyProof.Rows
noncomputable def reOf (as : List Addr) : PV → Bool
  | .top (.ref a) => as.contains a
  | _ => false
noncomputable def isBi (id : String) : PV → Bool
  | .top (.builtin i) => i == id
  | _ => false
theorem isBi_some {id : String} {v : PV} (h : isBi id v = true) : v = .top (.builtin id) := by
  cases v with
  | top u =>
    induction u with
    | builtin i => exact beq_iff_eq.1 h ▸ rfl
    | _ => exact Bool.noConfusion h
  | _ => exact Bool.noConfusion h
inductive ReAt (as : List Addr) : PV → Prop
  | mk (a : Addr) (h : a ∈ as) : ReAt as (.top (.ref a))
theorem reOf_some {as : List Addr} {v : PV} (h : reOf as v = true) : ReAt as v := by
  cases v with
  | top u =>
    induction u with
    | ref a => exact ⟨a, List.contains_iff_mem.1 h⟩
    | _ => exact Bool.noConfusion h
  | _ => exact Bool.noConfusion h
noncomputable def addRe (T : Tab) (as : List Addr) : Tab := { T with
  ap := fun fv vs kvs => if isBi "re.Pattern.search" fv = true then (if (!kvs.isEmpty) = true then fail else arg2 (fun a x => if reOf as a = true then strV (fun x => if prn x && fits x then rt .none else fail) x else fail) vs) else T.ap fv vs kvs
  mt := fun σ o y => if (reOf as o && y == "search") = true then some (.builtin "re.Pattern.search") else T.mt σ o y }
section
variable {prog : Program} {w : World} {h₀ : Heap} {G : List (Str × PV)} {T : Tab} {d : Nat}
theorem Pat.keeps {h h' : Heap} {a : Addr} (p : Pat h a) (k : ∀ b o, h.get? b = some o → h'.get? b = some o) : Pat h' a := by
  obtain ⟨p, fl, ca, o, vs, n, g, go, r⟩ := p.at_
  exact ⟨p, fl, ca, o, vs, n, k _ _ g, k _ _ go, r⟩
theorem addRe_wd {as : List Addr} (D : Wd prog w h₀ G T d) (K : ∀ a ∈ as, Pat h₀ a) : Wd prog w h₀ G (addRe T as) d where
  globs := D.globs
  at_ := D.at_
  si := D.si
  ap := fun fv vs kvs σ v σ' hv => by
    rcases if_tf hv with ⟨hid, hv⟩ | hv
    · obtain ⟨rfl, hv⟩ := if_kv hv
      refine ⟨_, isBi_some hid, kept_builtin _, fun A s φ us kus R I r rk => ?_⟩
      cases rk with | nil =>
      have zq1 := arg2_snd hv r
      induction zq1 with | mk q  q'  hv =>
      obtain ⟨h0, hv1⟩ := ifM hv
      clear hv
      have zq2 := reOf_some h0
      induction zq2 with | mk a  ha =>
      have zq3 := strV_snd hv1 q'
      induction zq3 with | @mk x  t  hv =>
      obtain ⟨hc, rfl, rfl⟩ := if_rt hv
      obtain ⟨hx, hf⟩ := Bool.and_eq_true_iff.1 hc
      cases q with | top =>
      have hz : x.cps.size ≤ 1000000 := by
        simp [fits, PySem.Str.length] at hf
        exact of_decide_eq_true hf.1
      exact (search_call ((K a ha).keeps I.base) hx hz).mono fun u h' rr => by
        obtain ⟨rfl, rfl⟩ := rr
        exact Ret.here I .none
    · exact D.ap _ vs kvs σ v σ' hv
  mt := fun σ ov y fv hv A s φ uo pl R I q => by
    rcases ifO hv with ⟨hc, hv⟩ | hv
    · obtain rfl := smi hv
      obtain ⟨h1, h2⟩ := Bool.and_eq_true_iff.1 hc
      obtain rfl := beq_iff_eq.1 h2
      have zq4 := reOf_some h1
      induction zq4 with | mk a  ha =>
      cases q with | top =>
      obtain ⟨p, fl, ca, o, vs, n, g, go, r⟩ := ((K a ha).keeps I.base).at_
      have hT : s.TypeIs (.ref a) "re.Pattern" := ⟨_, g, rfl⟩
      exact getMethod_builtin hT plain_pattern slot_search type_search (fun b e => by cases e; exact ⟨_, g, rfl⟩) ⟨s.heap, s.toks, rfl, rfl, rfl⟩
    · exact D.mt σ ov y fv hv A s φ uo pl R I q
end
end Mine
end
section
namespace Mine
open PySem PyProof.Rows
section
variable {prog : Program} {w : World} {h₀ : Heap} {G : List (Str × PV)} {T : Tab} {d n : Nat} {γ : Gm} {env : Env} {fm : Fm} {A : Around} {s : Shared} {φ : Phi} {σ σ' : St}
noncomputable abbrev emptyD : Obj := { cls := .type "dict", data := .dict #[] }
theorem idle_sound (R : Room d A) (E : EnvOk γ env) {x xk xv : Str} {ip : Nat} {pk pv pt pos apos cpos px : Pos} {x1} {body : List Stmt} {a : Addr} (hx : mv γ x = some (.loc ip)) (hc : (x == ("__classdict__" : Str)) = false)
    (hk : γ.names.lookup xk = some .local) (hv : γ.names.lookup xv = some .local) (hρ : fm.ρ[ip]? = some (some (.top (.ref a)))) (he : s.heap.get? a = some emptyD) (haS : (a == sysModules) = false) (haL : a ≠ env.locals) (hdb : (x == ("__debug__" : Str)) = false)
    (hline : (apos.endLine == cpos.line) = true) (I : Inv h₀ φ σ s.heap) (F : FrAt h₀ γ env fm φ s.heap)
    (hbase : attributeBase (.Name x px) "items" env (eval (.Name x px) env) = eval (.Name x px) env)
    (hs : ∀ y, foldedSetIterable (.Call (.Attribute (.Name x px) "items" apos) [] [] cpos) env y = pure y) :
    W prog w A (exec (.For (.Tuple [.Name xk pk, .Name xv pv] x1 pt) (.Call (.Attribute (.Name x px) "items" apos) [] [] cpos) body [] pos) env) s (ExR h₀ γ env φ s.heap fm none σ) := by
  refine byc fun nh => ?_
  obtain ⟨hkl, hi⟩ := mv_loc hx
  obtain ⟨m, hn, hl⟩ := F.ns
  obtain ⟨u, hu, q⟩ := hl ip x _ hi hρ
  cases q
  have hm : s.heap.DictAt (strKind prog w) a [] 0 := ⟨_, #[], he, ⟨rfl, rfl, rfl⟩, rfl, fun e he' => (by simp at he'), .nil, List.nodup_nil⟩
  refine nh ?_
  refine sized ?_
  refine wpAny_For_items_locals (knd := strKind prog w) (kvs := []) (ep := 0) (m := m) R.free (by rw [E.kindOf]; exact hk) (by rw [E.kindOf]; exact hv) E.plain haL haS hm hn hbase hline (fun Q' hQ' => ?_)
    (fun _ m' => m' = m) rfl (fun i k v key m₁ s₁ hkv => by simp at hkv) (fun h' tk m' hn' hm' hkeep => ?_) hs PassesOwn.never
  · exact wpAny_Name (wpAny_loadName_local E.kind (by rw [E.kindOf]; exact hkl) hn hu hQ') hdb
  · subst hm'
    intro hz
    have x : Ext [env.locals] s.heap h' := ⟨hz, fun b o e i => hkeep b o (by
      rintro rfl
      obtain ⟨o', e', ni⟩ := F.there
      rw [e] at e'; cases e'; exact ni i) e, fun b o e hb => hkeep b o (by simpa using hb) e⟩
    exact ⟨h', tk, rfl, φ, x.step, I.ext x (by simpa using F.low) (by simpa using F.off), ⟨⟨m', hn', fun i y v h1 h2 => by
      obtain ⟨u, hu, q⟩ := hl i y v h1 h2
      exact ⟨u, hu, q.mono x.grow⟩⟩, F.len, F.low, F.off, F.cells⟩, rfl⟩
noncomputable def topAt : Option (Option PV) → Option Addr
  | some (some (.top (.ref b))) => some b
  | _ => none
theorem topAt_some {x : Option (Option PV)} {a : Addr} (h : topAt x = some a) : x = some (some (.top (.ref a))) := by
  unfold topAt at h
  split at h
  · cases h; rfl
  · exact nsm h
theorem pre_block (S : StSnd prog w h₀ G T d n) (R : Room d A) (E : EnvOk γ env) {rest : List Stmt} {Q : Flow → Heap → Prop} : ∀ b mb, seqS (b.map (cS G n γ)) = some mb → ∀ fm σ fm1 σ1, exs T mb fm σ = some ((fm1, none), σ1) → ∀ (s : Shared) φ, Inv h₀ φ σ s.heap → FrAt h₀ γ env fm φ s.heap →
    (∀ h' tk φ', Step [env.locals] φ φ' s.heap h' → Inv h₀ φ' σ1 h' → FrAt h₀ γ env fm1 φ' h' → W prog w A (execs rest env) { s with heap := h', toks := tk } Q) → W prog w A (execs (b ++ rest) env) s Q := by
  intro b
  induction b with
  | nil =>
    intro mb hm fm σ fm1 σ1 hv s φ I F k
    cases hm; cases hv
    exact k s.heap s.toks φ (Step.refl _ _ _) I F
  | cons st b ih =>
    intro mb hm fm σ fm1 σ1 hv s φ I F k
    refine byc fun nh => ?_
    obtain ⟨ms, mb', h1, h2, rfl⟩ := seqS_cons hm
    obtain ⟨⟨fm₁, r₁⟩, σ₁, hv1, hv2⟩ := bnd_some hv
    refine nh ?_
    rw [List.cons_append, execs_cons]
    refine W.bind (S _ _ _ h1 _ _ _ _ _ hv1 A s φ env R E I F) fun f h' tk x => ?_
    refine byc fun nh => ?_
    obtain ⟨φ₁, S₁, I₁, F₁, hf⟩ := x
    induction r₁ with
    | some v =>
      obtain ⟨e, rfl⟩ := rt_eq hv2
      cases e
    | none =>
      obtain rfl : f = .next := hf
      refine nh ?_
      exact ih _ h2 _ _ _ _ hv2 { s with heap := h', toks := tk } φ₁ I₁ F₁ fun h'' tk' φ' S' I' F' => k h'' tk' φ' (S₁.trans S') I' F'
noncomputable def runIdle (T : Tab) (nl nc : Nat) (pms : List MV) (mb1 mb2 : MSs) (ip : Nat) (a : Addr) (vs : List PV) : M PV :=
  bnd (allocCells nc) fun ks => bnd (setVs ⟨List.replicate nl none, ks⟩ pms (vs ++ [.top (.ref a)])) fun fm => bnd (exs T mb1 fm) fun r => match r with
    | (fm1, none) => if topAt fm1.ρ[ip]? = some a then bnd (exs T mb2 fm1) (fun r => rt (r.2.getD .none)) else fail
    | _ => fail
noncomputable def IdleOk (prog : Program) (w : World) (h₀ : Heap) (γ : Gm) (ip : Nat) (st : Stmt) : Prop :=
  ∀ (A : Around) (env : Env) (fm : Fm) (s : Shared) (φ : Phi) (σ : St) (a : Addr) (d : Nat), Room d A → EnvOk γ env → fm.ρ[ip]? = some (some (.top (.ref a))) → s.heap.get? a = some emptyD → h₀.objs.size ≤ a → a ≠ env.locals → Inv h₀ φ σ s.heap → FrAt h₀ γ env fm φ s.heap →
    W prog w A (exec st env) s (ExR h₀ γ env φ s.heap fm none σ)
theorem idle_run (D : Wd prog w h₀ G T d) (R : Room (d + 1) A) {fa : Addr} {fd : FuncData} {b1 b2 : List Stmt} {st : Stmt} {ps : List Str} {pms : List MV} {mb1 mb2 : MSs} {ip : Nat} (K : FnOk h₀ fa fd (b1 ++ st :: b2)) (hblk : blockOk fd.scope.names = true) (hp : ps.mapM (mv (gmFn fd.scope)) = some pms)
    (hb1 : seqS (b1.map (cS G n (gmFn fd.scope))) = some mb1) (hb2 : seqS (b2.map (cS G n (gmFn fd.scope))) = some mb2) (hst : IdleOk prog w h₀ (gmFn fd.scope) ip st)
    {vs : List PV} {v : PV} (hv : ∀ a, runIdle T (namesOf .local fd.scope.names).length (namesOf .cell fd.scope.names).length pms mb1 mb2 ip a vs σ = some (v, σ')) (I : Inv h₀ φ σ s.heap) {us : List Value} {kus : List (Str × Value)}
    (hB : W prog w A.in1 (bindArgs fd ⟨us, kus⟩) s fun binds h' => ∃ a, (Step [] φ φ s.heap h' ∧ Inv h₀ φ σ h') ∧ h'.get? a = some emptyD ∧ h₀.objs.size ≤ a ∧ (∀ p ∈ φ, p.2 ≠ a) ∧ binds.map (·.1) = ps ∧ RVs φ h' (vs ++ [.top (.ref a)]) (binds.map (·.2))) :
    W prog w A (call (.ref fa) us kus) s (Ret h₀ [] φ s.heap v σ') := by
  refine (run_rel R (Out := fun v' σ₄ => v' = v ∧ σ₄ = σ') K hblk hp I (hB.mono fun binds h₁ x => ?_)).mono fun u h' x => ?_
  · obtain ⟨a, ⟨S₁, I₁⟩, ha, hlow, hoff, hn, r₁⟩ := x
    obtain ⟨ks, σ₁, hks, hv1⟩ := bnd_some (hv a)
    obtain ⟨fm, σ₂, hset, hv2⟩ := bnd_some hv1
    obtain ⟨⟨fm1, r1⟩, σ₃, hex1, hv3⟩ := bnd_some hv2
    induction r1 with
    | some x => exact nomatch hv3
    | none =>
    change (if topAt fm1.ρ[ip]? = some a then bnd (exs T mb2 fm1) (fun r => rt (r.2.getD .none)) else fail : M PV) σ₃ = _ at hv3
    by_cases hta : topAt fm1.ρ[ip]? = some a
    case neg => rw [if_neg hta] at hv3; exact nomatch hv3
    rw [if_pos hta] at hv3
    refine byc fun nh => ?_
    obtain ⟨⟨fm', r⟩, σ₄, hex2, hv4⟩ := bnd_some hv3
    obtain ⟨hvv, hσ⟩ := rt_eq hv4
    refine nh ?_
    refine ⟨φ, _, ks, σ₁, fm, σ₂, S₁, I₁, hn, r₁, hks, hset, fun A env s φ' R E I F hl keep _ _ => ?_⟩
    have hne : a ≠ env.locals := Nat.ne_of_lt (Nat.lt_of_lt_of_le (Heap.lt_size ha) hl)
    obtain ⟨ha₄, hoff₃⟩ := keep a _ ha hoff
    refine (pre_block (st_sound D n) R E b1 mb1 hb1 _ _ _ _ hex1 s φ' I F (Q := ExR h₀ (gmFn fd.scope) env φ' s.heap fm' r σ₄) fun h₅ tk₅ φ₅ S₅ I₅ F₅ => ?_).mono fun f h' x => ⟨fm', r, σ₄, ⟨hvv.symm, hσ.symm⟩, x⟩
    have ha₅ := S₅.keep _ _ ha₄ (by simpa using hne) hoff₃
    rw [execs_cons]
    refine W.bind (hst A env fm1 { s with heap := h₅, toks := tk₅ } φ₅ σ₃ a d R E (topAt_some hta) ha₅ hlow hne I₅ F₅) fun f h' tk x => ?_
    obtain ⟨φ₆, S₆, I₆, F₆, hf⟩ := x
    obtain rfl : f = .next := hf
    exact (block_sound (st_sound D n) R E b2 mb2 hb2 _ _ _ _ _ hex2 { s with heap := h', toks := tk } φ₆ I₆ F₆).mono fun f h'' x => x.before (S₅.trans S₆)
  · obtain ⟨v', σ₄, ⟨rfl, rfl⟩, x⟩ := x
    exact x
end
end Mine
end
section
namespace Mine
open PySem PyProof.Rows
noncomputable def addV (T : Tab) (u : Value) (f : List PV → List (Str × PV) → M PV) : Tab := { T with
  ap := fun fv vs kvs => match fv with
    | .top x => if x = u then f vs kvs else T.ap fv vs kvs
    | _ => T.ap fv vs kvs }
noncomputable def VSnd (prog : Program) (w : World) (h₀ : Heap) (d : Nat) (u : Value) (f : List PV → List (Str × PV) → M PV) : Prop :=
  ∀ vs kvs σ v σ', f vs kvs σ = some (v, σ') → ∀ (A : Around) (s : Shared) φ us kus, Room d A → Inv h₀ φ σ s.heap → RVs φ s.heap vs us → RKs φ s.heap kvs kus → W prog w A (call u us kus) s (Ret h₀ [] φ s.heap v σ')
noncomputable def numOf (x : Str) : Option Nat := (List.range 40).find? fun k => Str.ofString (toString ((k : Nat) : Int)) == x
noncomputable def nok (f : List PV → M PV) (vs : List PV) (kvs : List (Str × PV)) : M PV := if (!kvs.isEmpty) = true then fail else f vs
noncomputable def intM (vs : List PV) (kvs : List (Str × PV)) : M PV := nok (arg1 (strV fun x => bnd (lift (numOf x)) fun k => rt (.int (k : Int)))) vs kvs
section
variable {prog : Program} {w : World} {h₀ : Heap} {G : List (Str × PV)} {d : Nat}
theorem addV_wd {T : Tab} {u : Value} {f : List PV → List (Str × PV) → M PV} (D : Wd prog w h₀ G T d) (K : Kept prog w h₀ u) (H : VSnd prog w h₀ d u f) : Wd prog w h₀ G (addV T u f) d where
  globs := D.globs
  ap := fun fv vs kvs σ v σ' hv => by
    cases fv with
    | top x =>
      simp only [addV] at hv
      by_cases h : x = u
      · rw [if_pos h] at hv
        subst h
        exact ⟨_, rfl, K, fun A s φ us kus R I r rk => H vs kvs σ v σ' hv A s φ us kus R I r rk⟩
      · rw [if_neg h] at hv
        exact D.ap (.top x) vs kvs σ v σ' hv
    | _ => exact D.ap _ vs kvs σ v σ' hv
  mt := D.mt
  at_ := D.at_
  si := D.si
inductive NokS (f : List PV → M PV) (vs : List PV) (σ : St) (r : PV × St) : List (Str × Value) → Prop
  | mk (h : f vs σ = some r) : NokS f vs σ r []
theorem nok_snd {f : List PV → M PV} {vs : List PV} {kvs : List (Str × PV)} {σ : St} {r : PV × St} {h : Heap} {kus : List (Str × Value)} (hv : nok f vs kvs σ = some r) (rk : RKs φ h kvs kus) : NokS f vs σ r kus := by
  induction rk with
  | nil => exact ⟨hv⟩
  | cons => exact nsm hv
theorem intM_snd : VSnd prog w h₀ d (.type "int") intM := by
  intro vs kvs σ v σ' hv A s φ us kus R I r rk
  have zq1 := nok_snd hv rk
  induction zq1 with | mk hv =>
  have zq2 := arg1_snd hv r
  induction zq2 with | mk q  hv =>
  have zq3 := strV_snd hv q
  induction zq3 with | mk hv =>
  obtain ⟨k, σ₁, hk, hv1⟩ := bnd_some hv
  obtain ⟨hk0, e⟩ := lift_some hk
  obtain ⟨e1, e2⟩ := rt_eq hv1
  subst e e1 e2
  have h1 := List.find?_some hk0
  obtain rfl := beq_iff_eq.mp h1
  exact PySem.W.KIN.call_num (Int.natCast_nonneg _) (Int.lt_of_lt_of_le (Int.ofNat_lt.2 (List.mem_range.1 (List.mem_of_find?_eq_some hk0))) (by decide)) ⟨_, _, rfl, Ret.here I (.int _ _)⟩
end
end Mine
end
section
namespace Mine
open PySem PyProof.Rows
section
variable {prog : Program} {w : World} {h₀ : Heap} {G : List (Str × PV)} {T : Tab} {d : Nat} {A : Around} {s : Shared} {φ : Phi} {σ σ' : St} {n : Nat} {C f : Addr} {as : List (Str × PV)} {x : Str} {uo ui u : Value}
inductive OwnAt (h : Heap) (C f : Addr) (x : Str) (uo : Value) : Prop where
  | mk (p : Addr) (o : Obj) (nm q : Str) (N : Addr) (bs : List Value) (sn : List Str) (sub : List Value) (col : Option Bool) (dd : Option Addr) (k0 k1 k2 k3 k5 : Option Value) (e : uo = .ref p) (X : h.OwnSpecial p C f "object" x) (g : h.get? p = some o) (hc : o.cls = .ref C)
    (hC : h.get? C = some (excClassObj nm q C N bs [.type "object"] true sn sub false col dd k0 k1 k2 k3 k5 "object.__new__")) : OwnAt h C f x uo
theorem own_special (K : MthOk h₀ C x f) (hσ : σ[n]? = some (.inst C as)) (I : Inv h₀ φ σ s.heap) (q : RV φ s.heap (.obj n) uo) : OwnAt s.heap C f x uo := by
  refine byc fun nh => ?_
  obtain ⟨p, e, rfl⟩ := q.i_obj
  obtain ⟨p', hp, c⟩ := I.cell hσ
  obtain rfl := Option.some.inj (e.symm.trans hp)
  obtain ⟨⟨o, g, hc, hd, hdx⟩, _⟩ := c
  obtain ⟨N, mN, X, h1, h2, h3⟩ := K.cls
  obtain ⟨fo, hf, hfc⟩ := K.fn
  obtain ⟨y, hB⟩ := K.obj
  have X' := X.keeps I.base
  obtain ⟨nm, qq, bs, sn, sub, col, dd, k0, k1, k2, k3, k5, hC⟩ := X'.obj
  refine nh ?_
  exact ⟨p.1, o, nm, qq, N, bs, sn, sub, col, dd, k0, k1, k2, k3, k5, rfl, ⟨o, fo, nm, qq, N, bs, _, _, sn, sub, _, col, dd, k0, k1, k2, k3, k5, _, mN, y, g, hc, hC, X'.ns, h3, I.base _ _ hf, hfc, (show mroOf (.type "object") = pure [.type "object"] by kernel_rfl), hB⟩, g, hc, hC⟩
theorem key_own {nm : Str} {Q : Value → Shared → Prop} (O : OwnAt s.heap C f x uo) (h : Q ui s) : wpAny (model prog w) A (sequenceKey uo ui nm) Q bot s := by
  obtain ⟨p, o, n1, q1, N, bs, sn, sub, col, dd, k0, k1, k2, k3, k5, rfl, X, g, hc, hC⟩ := O
  obtain ⟨hh, gg, dr, t, os⟩ := s
  unfold sequenceKey
  refine wpAny_bind ?_
  repeat (first | (with_reducible refine wpAny_loadPart_at g ?_; rw [hc]) | wp_step)
  refine wpAny_bind ?_
  have : seqItemTypes = ["collections.deque"] := rfl
  refine Eq.symm (this) ▸ ?_
  repeat (first | (with_reducible refine wpAny_mroOf_exc hC ?_) | wp_step)
  exact h
theorem setItem_own {Q : Unit → Shared → Prop} (O : OwnAt s.heap C f "__setitem__" uo) (h : wpAny (model prog w) A (call (.ref f) [uo, ui, u]) (fun _ s' => Q () s') bot s) : wpAny (model prog w) A (setItem uo ui u) Q bot s := by
  unfold setItem
  refine wpAny_holding (wpAny_bind (key_own O (wpAny_bind ?_)))
  obtain ⟨p, o, n1, q1, N, bs, sn, sub, col, dd, k0, k1, k2, k3, k5, rfl, X, g, hc, hC⟩ := O
  exact wpAny_callSpecial?_own X (wpAny_mono h (fun _ _ z => wpAny_pure z) fun _ _ z => z)
theorem delItem_own {Q : Unit → Shared → Prop} (O : OwnAt s.heap C f "__delitem__" uo) (h : wpAny (model prog w) A (call (.ref f) [uo, ui]) (fun _ s' => Q () s') bot s) : wpAny (model prog w) A (delItem uo ui) Q bot s := by
  unfold delItem
  refine wpAny_holding (wpAny_bind (key_own O (wpAny_bind ?_)))
  obtain ⟨p, o, n1, q1, N, bs, sn, sub, col, dd, k0, k1, k2, k3, k5, rfl, X, g, hc, hC⟩ := O
  exact wpAny_callSpecial?_own X (wpAny_mono h (fun _ _ z => wpAny_pure z) fun _ _ z => z)
noncomputable def addSi (T : Tab) (C : Addr) (f : List PV → List (Str × PV) → M PV) : Tab := { T with
  si := fun o i v => match o with
    | .obj n => fun σ => match σ[n]? with
      | some (.inst C' _) => if C' == C then bnd (f [.obj n, i, v] []) (fun _ => rt ()) σ else T.si (.obj n) i v σ
      | _ => T.si (.obj n) i v σ
    | _ => T.si o i v }
set_option tactic.hygienic true in
theorem addSi_wd {F : List PV → List (Str × PV) → M PV} (D : Wd prog w h₀ G T d) (K : MthOk h₀ C "__setitem__" f) (H : FnSnd prog w h₀ d f F) : Wd prog w h₀ G (addSi T C F) d where
  globs := D.globs
  ap := D.ap
  mt := D.mt
  at_ := D.at_
  si := fun o i v σ y σ' hv A s φ uo ui u R I qo qi q => by
    have old : T.si o i v σ = some (y, σ') → _ := fun hv => D.si o i v σ y σ' hv A s φ uo ui u R I qo qi q
    unfold addSi at hv
    dsimp only at hv
    split at hv
    · rename_i n
      split at hv
      · rename_i C' as hσ
        split at hv
        · rename_i hc
          refine byc fun nh => ?_
          obtain rfl := beq_iff_eq.mp hc
          obtain ⟨rv, σ₁, e1, e2⟩ := bnd_some hv
          obtain ⟨_, rfl⟩ := rt_eq e2
          refine nh ?_
          refine setItem_own (own_special K hσ I qo) (wpAny_mono (H _ _ _ _ _ e1 A s φ [uo, ui, u] [] R I (.cons qo (.cons qi (.cons q .nil))) .nil) (fun _ s' x => ?_) fun _ _ x => x)
          refine byc fun nh => ?_
          obtain ⟨h', tk, rfl, φ', S', I', _⟩ := x
          refine nh ?_
          exact ⟨h', tk, rfl, φ', S', I'⟩
        · exact old hv
      · exact old hv
    · exact old hv
end
end Mine
end
section
namespace Mine
open PySem PyProof.Rows
section
variable {prog : Program} {w : World} {A : Around} {E : Value → Shared → Prop} {s : Shared}
theorem setItem_all {l v sl : Addr} {xs ys : Array Value} {n : Nat} {Q : Unit → Shared → Prop} (ho : s.heap.get? l = some (seqObj "list" xs n)) (hs : s.heap.IsSliceOf sl .none .none .none) (hv : s.heap.IsList v ys) (hne : (l == v) = false) (hz : xs.size + ys.size ≤ 50000)
    (hQ : ∀ h' n', h'.get? l = some (seqObj "list" ys n') → Heap.SameBut l s.heap h' → Q () { s with heap := h' }) : wpAny (model prog w) A (setItem (.ref l) (.ref sl) (.ref v)) Q E s := by
  have hl : s.heap.IsList l xs := ⟨_, ho, rfl, _, rfl⟩
  have hd : (seqObj "list" xs n).data = .seq xs n := rfl
  refine byc fun nh => ?_
  obtain ⟨ov, hov, hcv, nv, hdv⟩ := id hv
  obtain ⟨os, hos, hcs, hds⟩ := id hs
  have hTs : s.TypeIs (.ref sl) "slice" := ⟨os, hos, hcs⟩
  have hTv : s.TypeIs (.ref v) "list" := ⟨ov, hov, hcv⟩
  refine nh ?_
  unfold setItem
  refine wpAny_holding ?_
  refine wpAny_bind (wpAny_sequenceKey hl.typeIs (by decide) ?_)
  refine wpAny_bind (wpAny_callSpecial?_slot (name := Str.ofString "__setitem__") hl.typeIs slot_list_setitem
    (wpAny_call_entry slot_list_setitem hl.typeIs entry_list_setitem ?_ (args_list_setitem _ _ _)))
  show wpAny _ _ (Builtin.List.listSubscript? (.ref sl) >>= _) _ _ s
  refine wpAny_bind ?_
  unfold Builtin.List.listSubscript?
  refine wpAny_bind (wpAny_specialOf hTs slice_no_index ?_)
  simp only [Option.isNone_none, if_true]
  refine wpAny_pure ?_
  refine wpAny_bind (wpAny_typeOf hTs ?_)
  rw [if_neg (by decide)]
  rw [listSliceParts_eq]
  refine wpAny_bind (wpAny_bind (wpAny_field hos hds (x := .none) rfl (wpAny_bind (wpAny_listPart .none ?_))))
  rw [if_neg (by decide)]
  refine wpAny_bind (wpAny_field hos hds (x := .none) rfl (wpAny_bind (wpAny_listPart .none ?_)))
  refine wpAny_bind (wpAny_field hos hds (x := .none) rfl (wpAny_bind (wpAny_listPart .none (wpAny_pure ?_))))
  have same : Builtin.List.listSameRef (.ref l) (.ref v) = false := hne
  refine Eq.symm (same) ▸ ?_
  refine wpAny_bind (m := Builtin.List.listAllItems _ _) ?_
  unfold Builtin.List.listAllItems
  refine wpAny_bind (wpAny_typeOf hTv ?_)
  rw [if_pos (by decide)]
  unfold Builtin.List.listItems
  refine wpAny_bind (wpAny_seqItems hov hdv (wpAny_pure ?_))
  refine wpAny_bind (wpAny_bind (wpAny_seqItems ho hd (wpAny_pure ?_)))
  refine wpAny_bind (wpAny_of_eq (sliceIndices_raw none none none xs.size nofun) ?_)
  have hb : sliceBounds none none none xs.size = (0, (xs.size : Int), 1) := rfl
  refine Eq.symm (hb) ▸ ?_
  rw [if_pos (by rfl)]
  refine wpAny_bind (wpAny_rule ?_)
  rw [if_neg (by unfold Builtin.List.listTooLong; rw [sizeLine_eq]; simp; exact Nat.le_trans (by assumption) (by decide))]
  have hf : xs.extract 0 (0 : Int).toNat ++ ys ++ xs.extract (max 0 (xs.size : Int)).toNat = ys := by
    simp
  have hc2 := get?_update_seq ho fun zs : Array Value => zs.extract 0 (0 : Int).toNat ++ ys ++ zs.extract (max 0 (xs.size : Int)).toNat
  replace hc2 := (hf) ▸ hc2
  refine wpAny_bind (listUpdate_at ho hd ?_ (by rw [sizeLine_eq]; omega) (by show (xs.extract 0 (0 : Int).toNat ++ ys ++ xs.extract (max 0 (xs.size : Int)).toNat).size ≤ _; rw [hf, sizeLine_eq]; omega))
  exact wpAny_bind (wpAny_letGo (wpAny_pure ⟨_, rfl, wpAny_pure (hQ _ _ hc2 (Heap.SameBut.update ..))⟩))
end
section
variable {prog : Program} {w : World} {h₀ : Heap} {G : List (Str × PV)} {T : Tab} {d n : Nat} {γ : Gm} {env : Env} {fm : Fm} {A : Around} {s : Shared} {φ : Phi} {σ σ₁ σ₂ σ₃ : St}
theorem st_slcset (D : Wd prog w h₀ G T d) (R : Room d A) (E : EnvOk γ env) {o elt : Expr} {gens : List Comprehension} {sc : Scope} {cp q p ps : Pos} {mo me : ME} {k1 k2 : Nat} {xs ys : List PV} (h0 : cE G n γ o = some mo) (h2 : cE G n γ (.ListComp elt gens sc cp) = some me)
    (e1 : ev T me fm σ = some (.obj k2, σ₁)) (e2 : ev T mo fm σ₁ = some (.obj k1, σ₂)) (l1 : lstAt σ₂ k1 = some xs) (l2 : lstAt σ₂ k2 = some ys) (hk : k1 ≠ k2) (I : Inv h₀ φ σ s.heap) (F : FrAt h₀ γ env fm φ s.heap) :
    W prog w A (exec (.Assign [.Subscript o (.Slice none none none ps) q] (.ListComp elt gens sc cp) p) env) s (ExR h₀ γ env φ s.heap fm none (σ₂.set k1 (.lst ys))) := by
  rw [arm_exec_Assign, no_swaps_sole h2 (.inr (.inr ⟨.Subscript o (.Slice none none none ps) q, rfl, fun _ _ e => nomatch e⟩))]
  refine wpAny_bind (wpAny_standAt (wpAny_bind (wpAny_pure ?_)))
  refine Eq.symm (if_neg Bool.false_ne_true) ▸ ?_
  refine wpAny_bind (((ev_sound D n).1 _ _ _ h2 _ _ _ _ e1 A s φ env R E I F).go fun u h' tk r => ?_)
  obtain ⟨φ₁, S₁, I₁, q₁⟩ := r
  have hsw : swappedStores [.Subscript o (.Slice none none none ps) q] (.ListComp elt gens sc cp) env = pure none := rfl
  rw [hsw]
  refine wpAny_bind (wpAny_pure ?_)
  show wpAny _ _ (assign (.Subscript o (.Slice none none none ps) q) env u >>= fun _ => pure Flow.next) _ _ _
  rw [arm_assign_Subscript]
  refine wpAny_bind (wpAny_bind (wpAny_holding (((ev_sound D n).1 _ _ _ h0 _ _ _ _ e2 A { s with heap := h', toks := tk } φ₁ env R E I₁ (F.step0 S₁)).go fun uo h2' tk2 r => ?_)))
  obtain ⟨φ₂, S₂, I₂, q₂⟩ := r
  have S12 := S₁.trans S₂
  refine wpAny_bind (wpAny_holding (wpAny_Slice ?_))
  have part : ∀ (s : Shared) (φ : Phi) (σ : St) (Q : Value → Shared → Prop), Inv h₀ φ σ s.heap → FrAt h₀ γ env fm φ s.heap → (∀ φ' h' tk, Step [] φ φ' s.heap h' → Inv h₀ φ' σ h' → Q .none { s with heap := h', toks := tk }) → wpAny (model prog w) A (evalPart none env) Q bot s := fun s φ σ Q I F k => by
    refine (part_sound (T := T) (ev_sound D n).1 R E (o := none) (me := .cst .none) rfl (σ := σ) rfl I F).go fun u h' tk r => ?_
    obtain ⟨φ', S', I', q'⟩ := r
    refine Eq.symm (q'.i_none) ▸ ?_
    exact k φ' h' tk S' I'
  refine part _ φ₂ σ₂ _ I₂ (F.step0 S12) fun φ₃ h3 tk3 S₃ I₃ => ?_
  have S13 := S12.trans S₃
  refine part _ φ₃ σ₂ _ I₃ (F.step0 S13) fun φ₄ h4 tk4 S₄ I₄ => ?_
  have S14 := S13.trans S₄
  refine part _ φ₄ σ₂ _ I₄ (F.step0 S14) fun φ₅ h5 tk5 S₅ I₅ => ?_
  have S25 : Step [] φ₂ φ₅ h2' h5 := (S₃.trans S₄).trans S₅
  have x6 := Ext.push h5 { cls := .type "slice", data := .fields #[.none, .none, .none] }
  have I₆ := I₅.ext0 x6
  obtain ⟨a, us, k, rfl, hi, hz, g, r⟩ := list_at l1 I₆ (x6.step.rv (S25.rv q₂))
  obtain ⟨b, vs, k', rfl, hi', hz', g', r'⟩ := list_at l2 I₆ (x6.step.rv (S25.rv (S₂.rv q₁)))
  have hab : (a == b) = false := beq_eq_false_iff_ne.mpr fun e => hk (by
    subst e
    have e1 : (φ₅.map (·.2))[k1]? = some a := by rw [List.getElem?_map, hi]; rfl
    have e2 : (φ₅.map (·.2))[k2]? = some a := by rw [List.getElem?_map, hi']; rfl
    exact (List.getElem?_inj (List.getElem?_eq_some_iff.mp e1).1 I₆.nd).mp (e1.trans e2.symm))
  refine wpAny_bind (wpAny_standAt (wpAny_bind (wpAny_holding ?_)))
  have hr := r.length
  have hr' := r'.length
  refine setItem_all (xs := us.toArray) (ys := vs.toArray) g (Heap.IsSliceOf.new _ _ _ _) ⟨_, g', rfl, _, rfl⟩ hab (by simp; omega) fun h7 n7 g7 hs7 => ?_
  obtain ⟨I₇, S₇⟩ := SameBut.lst I₆ hi l1 hs7 hz' g7 r'
  have S17 := ((S14.trans S₅).trans x6.step).trans S₇
  exact wpAny_release (wpAny_pure ⟨h7, _, rfl, φ₅, S17.nil, I₇, F.step0 S17, rfl⟩)
theorem st_del (D : Wd prog w h₀ G T d) (R : Room d A) (E : EnvOk γ env) {o i : Expr} {q p : Pos} {mo mi : ME} {k : Nat} {C f : Addr} {as : List (Str × PV)} {iv rv : PV} {Fn : List PV → List (Str × PV) → M PV} (K : MthOk h₀ C "__delitem__" f) (H : FnSnd prog w h₀ d f Fn) (h0 : cE G n γ o = some mo) (h1 : cE G n γ i = some mi)
    (e1 : ev T mo fm σ = some (.obj k, σ₁)) (e2 : ev T mi fm σ₁ = some (iv, σ₂)) (l1 : σ₂[k]? = some (.inst C as)) (e3 : Fn [.obj k, iv] [] σ₂ = some (rv, σ₃)) (I : Inv h₀ φ σ s.heap) (F : FrAt h₀ γ env fm φ s.heap) :
    W prog w A (exec (.Delete [.Subscript o i q] p) env) s (ExR h₀ γ env φ s.heap fm none σ₃) := by
  refine wpAny_Delete (wpAny_deleteEach_cons (wpAny_delete_Subscript ?_))
  refine ((ev_sound D n).1 _ _ _ h0 _ _ _ _ e1 A s φ env R E I F).go fun uo h' tk r => ?_
  obtain ⟨φ₁, S₁, I₁, q₁⟩ := r
  refine ((ev_sound D n).1 _ _ _ h1 _ _ _ _ e2 A { s with heap := h', toks := tk } φ₁ env R E I₁ (F.step0 S₁)).go fun ui h2 tk2 r => ?_
  obtain ⟨φ₂, S₂, I₂, q₂⟩ := r
  refine delItem_own (own_special (s := { s with heap := h2, toks := tk2 }) K l1 I₂ (S₂.rv q₁)) (wpAny_mono (H _ _ _ _ _ e3 A { s with heap := h2, toks := tk2 } φ₂ [uo, ui] [] R I₂ (.cons (S₂.rv q₁) (.cons q₂ .nil)) .nil) (fun _ s' x => ?_) fun _ _ x => x)
  obtain ⟨h', tk, rfl, φ', S', I', _⟩ := x
  have S3 := (S₁.trans S₂).trans S'
  exact wpAny_deleteEach_nil ⟨h', tk, rfl, φ', S3.nil, I', F.step0 S3, rfl⟩
noncomputable def SpOk (prog : Program) (w : World) (h₀ : Heap) (d : Nat) (γ : Gm) (code : Value) (φ₀ : Phi) (st : Stmt) (fm : Fm) (σ : St) (X : Fm → St → Prop) : Prop :=
  ∀ (A : Around) (env : Env) (s : Shared) (φ : Phi), Room d A → EnvOk γ env → env.code = code → φ₀ <+: φ → Inv h₀ φ σ s.heap → FrAt h₀ γ env fm φ s.heap →
    W prog w A (exec st env) s fun f h' => ∃ fm' σ', X fm' σ' ∧ ExR h₀ γ env φ s.heap fm' none σ' f h'
theorem sp_body (D : Wd prog w h₀ G T d) (R : Room d A) (E : EnvOk γ env) {b1 b2 : List Stmt} {st : Stmt} {mb1 mb2 : MSs} {fm1 : Fm} {X : Fm → St → Prop} {Out : PV → St → Prop} {code : Value} {φ₀ : Phi} (hcd : env.code = code) (hφ : φ₀ <+: φ) (hb1 : seqS (b1.map (cS G n γ)) = some mb1) (hb2 : seqS (b2.map (cS G n γ)) = some mb2)
    (e1 : exs T mb1 fm σ = some ((fm1, none), σ₁)) (hst : SpOk prog w h₀ d γ code φ₀ st fm1 σ₁ X) (e2 : ∀ fm2 σ₂, X fm2 σ₂ → ∃ fm3 r σ₃, exs T mb2 fm2 σ₂ = some ((fm3, r), σ₃) ∧ Out (r.getD .none) σ₃) (I : Inv h₀ φ σ s.heap) (F : FrAt h₀ γ env fm φ s.heap) :
    W prog w A (execs (b1 ++ st :: b2) env) s fun f h' => ∃ fm' r σ', Out (r.getD .none) σ' ∧ ExR h₀ γ env φ s.heap fm' r σ' f h' := by
  refine pre_block (st_sound D n) R E b1 mb1 hb1 _ _ _ _ e1 s φ I F fun h₅ tk₅ φ₅ S₅ I₅ F₅ => ?_
  rw [execs_cons]
  refine W.bind (hst A env { s with heap := h₅, toks := tk₅ } φ₅ R E hcd (hφ.trans S₅.ext) I₅ F₅) fun f h' tk x => ?_
  refine byc fun nh => ?_
  obtain ⟨fm2, σ₂, hX, φ₆, S₆, I₆, F₆, hf⟩ := x
  obtain rfl : f = .next := hf
  obtain ⟨fm3, r, σ₃, e3, hO⟩ := e2 fm2 σ₂ hX
  refine nh ?_
  exact (block_sound (st_sound D n) R E b2 mb2 hb2 _ _ _ _ _ e3 { s with heap := h', toks := tk } φ₆ I₆ F₆).mono fun f h'' x => ⟨fm3, r, σ₃, hO, x.before (S₅.trans S₆)⟩
end
end Mine
end
section
namespace Mine
open PySem PyProof.Rows PySem.Spec
noncomputable def maxM (vs : List PV) (kvs : List (Str × PV)) : M PV := nok (arg2 (int2 fun x y => rt (.int (if y > x then y else x)))) vs kvs
noncomputable def boolV (f : Bool → M PV) : PV → M PV
  | .bool b => f b
  | _ => fail
noncomputable def boolsO : List PV → Option (List Bool)
  | [] => some []
  | .bool b :: r => (boolsO r).map (b :: ·)
  | _ => none
noncomputable def cntM (vs : List PV) (kvs : List (Str × PV)) : M PV := nok (arg2 fun a b => boolV (fun k => look fun σ => ((lstV σ a).bind boolsO).map fun bs => .int (bs.count k : Int)) b) vs kvs
noncomputable def idxM (vs : List PV) (kvs : List (Str × PV)) : M PV := nok (arg2 fun a b => strV (fun x => strV (fun y => if decide (0 ≤ Txt.find x y) then rt (.int (Txt.find x y)) else fail) b) a) vs kvs
noncomputable def sortStr (ss : List Str) : List Str := Classical.epsilon fun ss' : List Str => ss'.Perm ss ∧ sortedS ss' = true
noncomputable def sortM (vs : List PV) (kvs : List (Str × PV)) : M PV := nok (arg1 fun a => bnd (look fun σ => (lstV σ a).bind strsO) fun ss => if decide (ss.length < 64) then alloc (.lst ((sortStr ss).map .str)) else fail) vs kvs
theorem perm_eq {α : Type} (le : α → α → Prop) (anti : ∀ a b, le a b → le b a → a = b) : ∀ l₁ l₂ : List α, l₁.Perm l₂ → l₁.Pairwise le → l₂.Pairwise le → l₁ = l₂
  | [], l₂, p, _, _ => (List.nil_perm.mp p).symm
  | a :: l₁, [], p, _, _ => nomatch p.length_eq
  | a :: l₁, b :: l₂, p, h₁, h₂ => by
    have h1 := List.pairwise_cons.mp h₁
    have h2 := List.pairwise_cons.mp h₂
    have e : a = b := by
      rcases List.mem_cons.mp (p.mem_iff.mp List.mem_cons_self) with e | ha
      · exact e
      · rcases List.mem_cons.mp (p.mem_iff.mpr List.mem_cons_self) with e | hb
        · exact e.symm
        · exact anti a b (h1.1 b hb) (h2.1 a ha)
    subst e
    refine Eq.symm (perm_eq le anti l₁ l₂ ((List.perm_cons a).mp p) h1.2 h2.2) ▸ ?_
    rfl
noncomputable abbrev leS (a b : Str) : Prop := ltCps b.cps.toList a.cps.toList = false
theorem ltCps_trans : ∀ a b c : List Nat, ltCps b a = false → ltCps c b = false → ltCps c a = false
  | [], _, [], _, _ => rfl
  | _ :: _, _, [], h1, h2 => by
    cases ‹List Nat› with
    | nil => exact nomatch h1
    | cons => exact nomatch h2
  | [], _, _ :: _, _, _ => rfl
  | a :: as, [], c :: cs, h1, _ => nomatch h1
  | a :: as, b :: bs, c :: cs, h1, h2 => by
    simp only [ltCps, Bool.or_eq_false_iff, Bool.and_eq_false_iff, decide_eq_false_iff_not, Nat.not_lt, beq_eq_false_iff_ne] at h1 h2 ⊢
    refine ⟨by omega, ?_⟩
    by_cases e : c = a
    · right
      have e1 : b = a := by omega
      have e2 : c = b := by omega
      exact ltCps_trans as bs cs (h1.2.resolve_left (fun h => h e1)) (h2.2.resolve_left (fun h => h e2))
    · exact .inl e
theorem ltCps_anti : ∀ a b : List Nat, ltCps b a = false → ltCps a b = false → a = b
  | [], [], _, _ => rfl
  | [], _ :: _, _, h => nomatch h
  | _ :: _, [], h, _ => nomatch h
  | a :: as, b :: bs, h1, h2 => by
    simp only [ltCps, Bool.or_eq_false_iff, Bool.and_eq_false_iff, decide_eq_false_iff_not, Nat.not_lt, beq_eq_false_iff_ne] at h1 h2
    obtain rfl : a = b := by omega
    refine Eq.symm (ltCps_anti as bs (h1.2.resolve_left (fun h => h rfl)) (h2.2.resolve_left (fun h => h rfl))) ▸ ?_
    rfl
theorem leS_anti (a b : Str) (h1 : leS a b) (h2 : leS b a) : a = b := by
  have := ltCps_anti _ _ h1 h2
  obtain ⟨⟨x⟩⟩ := a
  obtain ⟨⟨y⟩⟩ := b
  exact congrArg (fun l : List Nat => Str.mk (List.toArray l)) this
theorem rising_all : ∀ (p : Str) (l : List Str), risingS p l = true → (p :: l).Pairwise leS
  | p, [], _ => List.pairwise_cons.mpr ⟨nofun, .nil⟩
  | p, x :: l, h => by
    obtain ⟨h1, h2⟩ := Bool.and_eq_true_iff.mp h
    have ih := rising_all x l h2
    have h1' : leS p x := by simpa using h1
    refine List.pairwise_cons.mpr ⟨fun y hy => ?_, ih⟩
    rcases List.mem_cons.mp hy with rfl | hy
    · exact h1'
    · exact ltCps_trans _ _ _ h1' ((List.pairwise_cons.mp ih).1 y hy)
theorem sorted_all : ∀ l : List Str, sortedS l = true → l.Pairwise leS
  | [], _ => .nil
  | p :: l, h => rising_all p l h
theorem sortStr_eq {ss ss' : List Str} (p : ss'.Perm ss) (h : sortedS ss' = true) : ss' = sortStr ss := by
  have e := Classical.epsilon_spec (p := fun ss' : List Str => ss'.Perm ss ∧ sortedS ss' = true) ⟨ss', p, h⟩
  exact perm_eq leS leS_anti _ _ (p.trans e.1.symm) (sorted_all _ h) (sorted_all _ e.2)
theorem sortStr_perm {ss ss' : List Str} (p : ss.Perm ss') : sortStr ss = sortStr ss' := by
  have : (fun t : List Str => t.Perm ss ∧ sortedS t = true) = fun t => t.Perm ss' ∧ sortedS t = true := by
    funext t
    exact propext ⟨fun x => ⟨x.1.trans p, x.2⟩, fun x => ⟨x.1.trans p.symm, x.2⟩⟩
  unfold sortStr
  rw [this]
section
variable {prog : Program} {w : World} {h₀ : Heap} {G : List (Str × PV)} {d : Nat} {φ : Phi}
theorem RKs.e_nil {kus : List (Str × Value)} {h : Heap} (r : RKs φ h [] kus) : kus = [] := by cases r; rfl
theorem maxM_snd : VSnd prog w h₀ d (.builtin "max") maxM := by
  intro vs kvs σ v σ' hv A s φ us kus R I r rk
  have zq1 := nok_snd hv rk
  induction zq1 with | mk hv =>
  have zq2 := arg2_snd hv r
  induction zq2 with | mk q  q'  hv =>
  have zq3 := int2_snd hv q q'
  induction zq3 with | mk hv =>
  obtain ⟨rfl, rfl⟩ := rt_eq hv
  refine sized (max_two_ints R.free fun h' tk hk hz => ⟨h', tk, rfl, Ret.ext I (keepsE hk hz) ?_⟩)
  split <;> exact .int _ _
theorem bools_read {h : Heap} : ∀ {xs : List PV} {us : List Value} {bs : List Bool}, boolsO xs = some bs → RVs φ h xs us → ∃ as, ReadsAll h us (bs.map PyData.bool) as ∧ (bs.map PyData.bool).all Shape.bool.has = true := by
  intro xs
  induction xs with
  | nil => intro us bs hy r; cases hy; cases r.i_nil; exact ⟨[], .nil, rfl⟩
  | cons x xs ih =>
    intro us bs hy r
    cases x with
    | bool b =>
      obtain ⟨u, us', q, r', rfl⟩ := r.i_cons
      obtain rfl := q.i_bool
      obtain ⟨bs', h1, rfl⟩ := omap (show (boolsO xs).map (b :: ·) = some bs from hy)
      obtain ⟨as, a1, a2⟩ := ih h1 r'
      exact ⟨[] ++ as, .cons (.bool b) a1, by rw [List.map_cons, List.all_cons, a2]; rfl⟩
    | _ => exact nomatch (show (none : Option (List Bool)) = some bs from hy)
theorem countIn_bools (k : Bool) : ∀ bs : List Bool, PySem.Spec.countIn (.bool k) (bs.map PyData.bool) = (bs.count k : Int)
  | [] => rfl
  | b :: bs => by
    rw [List.map_cons, PySem.Spec.countIn, countIn_bools k bs, List.count_cons]
    simp only [PySem.Spec.same]
    cases b <;> cases k <;> simp <;> omega
inductive B1 (P : Bool → Prop) : Value → Prop
  | mk {x : Bool} (h : P x) : B1 P (.bool x)
theorem boolV_snd {f : Bool → M PV} {h : Heap} {x : PV} {u : Value} {p : PV × St} {σ : St} (hv : boolV f x σ = some p) (q : RV φ h x u) : B1 (fun x => f x σ = some p) u := by
  induction q using RV.casesOn with
  | bool => exact ⟨hv⟩
  | _ => exact nsm hv
theorem cntM_snd : VSnd prog w h₀ d (.builtin "list.count") cntM := by
  intro vs kvs σ v σ' hv A s φ us kus R I r rk
  have zq1 := nok_snd hv rk
  induction zq1 with | mk hv =>
  have zq2 := arg2_snd hv r
  induction zq2 with | mk q  q'  hv =>
  have zq3 := boolV_snd hv q'
  induction zq3 with | mk hv =>
  obtain ⟨hv, rfl⟩ := look_some hv
  obtain ⟨bs, hl, rfl⟩ := omap hv
  obtain ⟨xs, hl, hy⟩ := obind hl
  have zq4 := lstV_at hl I q
  induction zq4 with | mk hz  g  rl =>
  obtain ⟨as, a1, a2⟩ := bools_read hy rl
  refine count_list_bools ⟨_, g, rfl, _, rfl⟩ a1 a2 ⟨s.heap, s.toks + 1, rfl, ?_⟩
  rw [countIn_bools]
  exact Ret.int I _ _
theorem idxM_snd : VSnd prog w h₀ d (.builtin "str.index") idxM := by
  intro vs kvs σ v σ' hv A s φ us kus R I r rk
  have zq1 := nok_snd hv rk
  induction zq1 with | mk hv =>
  have zq2 := arg2_snd hv r
  induction zq2 with | mk q  q'  hv =>
  have zq3 := strV_snd hv q
  induction zq3 with | mk hv =>
  have zq4 := strV_snd hv q'
  induction zq4 with | mk hv =>
  obtain ⟨hc, rfl, rfl⟩ := if_rt hv
  rw [decide_eq_true_eq] at hc
  exact index_or R.free (fun h => absurd hc (by rw [h]; decide)) fun _ _ => ⟨s.heap, s.toks + 1, rfl, Ret.int I _ _⟩
theorem strs_are : ∀ l : List (Str × Tok), StrsAre (strValues l) (l.map (·.1))
  | [] => .nil
  | p :: l => .cons p.1 p.2 (strs_are l)
theorem strs_rv {h : Heap} {us : List Value} {ss : List Str} (r : StrsAre us ss) (hf : ∀ x ∈ ss, fits x = true) : RVs φ h (ss.map .str) us := by
  induction r with
  | nil => exact .nil
  | cons x t r ih => exact .cons (.str (hf x List.mem_cons_self) t) (ih fun y hy => hf y (List.mem_cons_of_mem _ hy))
theorem strsO_fits {h : Heap} : ∀ {xs : List PV} {us : List Value} {ys : List Str}, strsO xs = some ys → RVs φ h xs us → ∀ y ∈ ys, fits y = true := by
  intro xs
  induction xs with
  | nil => intro us ys hy _ y hm; cases hy; exact nomatch hm
  | cons x xs ih =>
    intro us ys hy r y hm
    cases x with
    | str x =>
      obtain ⟨u, us', q, r', rfl⟩ := r.i_cons
      obtain ⟨ys', h1, rfl⟩ := omap (show (strsO xs).map (x :: ·) = some ys from hy)
      rcases List.mem_cons.mp hm with rfl | hm
      · exact q.i_str.1
      · exact ih h1 r' y hm
    | _ => exact nomatch (show (none : Option (List Str)) = some ys from hy)
theorem sortM_snd : VSnd prog w h₀ d (.builtin "sorted") sortM := by
  intro vs kvs σ v σ' hv A s φ us kus R I r rk
  refine byc fun nh => ?_
  have zq1 := nok_snd hv rk
  induction zq1 with | mk hv =>
  have zq2 := arg1_snd hv r
  induction zq2 with | mk q  hv =>
  obtain ⟨ss, σ₁, hv1, hv2⟩ := bnd_some hv
  obtain ⟨hv1, rfl⟩ := look_some hv1
  obtain ⟨xs, hl, hy⟩ := obind hv1
  obtain ⟨h64, hv3⟩ := ifM hv2
  rw [decide_eq_true_eq] at h64
  have zq3 := lstV_at hl I q
  induction zq3 with | mk hz  g  rl =>
  obtain ⟨l, rfl, rfl⟩ := strsO_at hy rl
  obtain ⟨rfl, rfl⟩ := smp hv3
  refine nh ?_
  refine sorted_strs (vs := strValues l) ⟨_, g, rfl, _, rfl⟩ (strs_are l) (by rw [strValues, List.length_map]; simpa using h64) fun out ss' h1 h2 h3 => ?_
  have e := sortStr_eq h2 h3
  refine byc fun nh => ?_
  obtain ⟨k2, hk2⟩ := sortedAll_at s.heap (strValues l) out
  have x : Ext [] s.heap (sortedAll s.heap (strValues l) out) := keepsE (fun b o e => sortedAll_old e) (Nat.le_of_lt (Nat.lt_of_succ_lt (Heap.lt_size hk2)))
  obtain ⟨I', S'⟩ := I.alloc (p := (s.heap.objs.size + 1, s.heap.objs.size + 1)) x (Nat.le_succ _) (c := .lst ((sortStr (l.map (·.1))).map .str))
    ⟨rfl, by rw [List.length_map, ← e, h2.length_eq]; exact Nat.le_trans (Nat.le_of_lt (by assumption)) (by decide), out.toList, k2, by simpa using hk2, by rw [← e]; exact strs_rv h1 fun y hy' => (strsO_fits hy rl) y (h2.mem_iff.mp hy')⟩
  refine nh ?_
  refine ⟨_, _, rfl, _, S', I', .obj (p := (s.heap.objs.size + 1, s.heap.objs.size + 1)) ?_⟩
  rw [← I.len]; simp
end
end Mine
end
section
namespace Mine
open PySem PyProof.Rows PySem.Spec
section
variable {prog : Program} {w : World} {A : Around} {E : Value → Shared → Prop} {s : Shared}
theorem ints_get : ∀ (l : List Value) (n k : Nat), l.length = n → (∀ j v, l[j]? = some v → ∃ t, v = Value.int ((k + j : Nat) : Int) t) → IntsAre l ((List.range' k n).map Int.ofNat)
  | [], 0, _, _, _ => .nil
  | v :: l, n + 1, k, h, g => by
    obtain ⟨t, rfl⟩ := g 0 v rfl
    rw [List.range'_succ, List.map_cons]
    exact .cons _ t (ints_get l n (k + 1) (Nat.succ.inj h) fun j v hj => by
      obtain ⟨t, e⟩ := g (j + 1) v hj
      exact ⟨t, by rw [e]; congr 2; exact (Nat.succ_add _ _).symm⟩)
theorem collect_range {r : Addr} {n : Nat} {t u v : Tok} {Q : List Value → Shared → Prop} (hA : A.handled = none) (hr : IsRange s.heap r 0 n 1 t u v) (hn : n < 64)
    (h : ∀ h' tk vs, (∀ b o, s.heap.get? b = some o → h'.get? b = some o) → IntsAre vs ((List.range n).map Int.ofNat) → Q vs { s with heap := h', toks := tk }) :
    wpAny (model prog w) A (collect (.ref r)) Q E s := by
  have hsz : Builtin.Range.rangeSize 0 n 1 = n := by simp [Builtin.Range.rangeSize]; omega
  unfold collect
  refine wpAny_bind (wpAny_runValue (codeAny_builtin entry_proto_collect' ?_))
  refine wpAny_bind (wpAny_newList (wpAny_pure ⟨Code.quiet_builtin _ (by decide +kernel), codeAny_builtin entry_list_iadd' ?_⟩))
  have hS : (s.heap.push (seqObj "list" #[] 0)).get? s.heap.objs.size = some { cls := .type "list", data := .seq #[] 0 } := Heap.get?_push_size _ rfl
  refine Eq.symm (Around.under_plainId PySem.F.plain_list_iadd _) ▸ ?_
  refine wpAny_extend_range (A := A) (R := fun (r : Result) s' => match r with
    | .ok (.ret v) => wpAny (model prog w) A (match v with
      | .ref a => load a >>= fun o => match o.data with
        | .seq xs _ => pure xs.toList
        | _ => unsupported "internal:collect"
      | _ => unsupported "internal:collect") Q E s'
    | .ok _ => False
    | .error e => E e s') (s := { s with heap := s.heap.push (seqObj "list" #[] 0) }) hA (Heap.get?_push_of_some _ hr) (range_small (by decide) (by unfold small; rw [Bool.and_eq_true, decide_eq_true_eq, decide_eq_true_eq]; omega) (by decide) (by decide)) hsz (by exact Nat.le_trans (Nat.le_of_lt (by assumption)) (by decide)) s.heap.objs.size _ 0 hS fun h' tk acc' c' hk hS' hacc => ?_
  refine wpAny_bind (wpAny_load hS' ?_)
  refine wpAny_pure (h h' tk acc'.toList (fun b o e => hk b o (Nat.ne_of_lt (Heap.lt_size e)) (Heap.get?_push_of_some _ e)) ?_)
  refine Eq.symm (List.range_eq_range') ▸ ?_
  exact ints_get _ n 0 (by rw [Array.length_toList]; exact hacc.1) fun j v hj => by
    obtain ⟨t, e⟩ := hacc.2 j v (by rw [← Array.getElem?_toList]; exact hj)
    exact ⟨t, by rw [e]; congr 1; omega⟩
noncomputable def allBut (h : Heap) (L : Addr) : List (Addr × Obj) := (List.range h.objs.size).filterMap fun b => if b = L then none else (h.get? b).map fun o => (b, o)
theorem allBut_mem {h : Heap} {L b : Addr} {o : Obj} (e : h.get? b = some o) (hb : b ≠ L) : (b, o) ∈ allBut h L :=
  List.mem_filterMap.mpr ⟨b, List.mem_range.mpr (Heap.lt_size e), by rw [if_neg hb, e]; rfl⟩
theorem allBut_of {h : Heap} {L : Addr} {p : Addr × Obj} (m : p ∈ allBut h L) : h.get? p.1 = some p.2 ∧ p.1 ≠ L := by
  obtain ⟨b, _, e⟩ := List.mem_filterMap.mp m
  by_cases hb : b = L
  · rw [if_pos hb] at e; exact nomatch e
  · rw [if_neg hb] at e
    obtain ⟨o, h1, rfl⟩ := omap e
    exact ⟨h1, hb⟩
noncomputable def noHeap : Heap := { (default : Heap) with objs := #[] }
theorem noHeap_get (b : Addr) : noHeap.get? b = none := rfl
theorem sizedQ {α : Type} {t : Sem α} {Q : α → Shared → Prop} {E : Value → Shared → Prop} (h : wpAny (model prog w) A t (fun a s' => s.heap.objs.size ≤ s'.heap.objs.size → Q a s') E s) : wpAny (model prog w) A t Q E s :=
  wpAny_mono (Q := fun a s' => s.heap.objs.size ≤ s'.heap.objs.size ∧ (s.heap.objs.size ≤ s'.heap.objs.size → Q a s')) (E := fun e s' => s.heap.objs.size ≤ s'.heap.objs.size ∧ E e s')
    (fun Γ p hΓ => wp_size _ Γ _ t _ _ p s (Nat.le_refl _) (h Γ p hΓ)) (fun _ _ x => x.2 x.1) (fun _ _ x => x.2)
theorem sorted_key {r L f : Addr} {n : Nat} {t u v : Tok} {kz : List Int} {m : Str → Option Value} {Q : Value → Shared → Prop} (hA : A.handled = none) (hL : s.heap.Ns L m) (hr : IsRange s.heap r 0 n 1 t u v) (hn : n < 64) (hk : kz.length = n)
    (turn : ∀ (i : Nat) (tv : Tok) (k : Int) (h : Heap) (tk : Nat), i < n → kz[i]? = some k → (∀ b o, b ≠ L → s.heap.get? b = some o → h.get? b = some o) → h.Ns L m →
      wpAny (model prog w) A.in1.in1 (call (.ref f) [.int i tv]) (fun u s' => ∃ h' tk' t', s' = { s with heap := h', toks := tk' } ∧ u = .int k t' ∧ ∀ b o, h.get? b = some o → h'.get? b = some o) (fun _ _ => False) { s with heap := h, toks := tk })
    (done : ∀ D h' tk out c vs, (∀ b o, b ≠ L → s.heap.get? b = some o → h'.get? b = some o) → h'.Ns L m → s.heap.objs.size ≤ D → h'.get? D = some (seqObj "list" out c) → IntsAre vs ((List.range n).map Int.ofNat) → KskOut false kz vs out.toList → Q (.ref D) { s with heap := h', toks := tk }) :
    wpAny (model prog w) A (call (.builtin "sorted") [.ref r] [(Str.ofString "key", .ref f)]) Q E s := by
  refine call_function_entry_kw kind_sorted plain_sorted entry_sorted (ksk_s1 _ _) ?_
  unfold Builtin.«sorted»
  refine wpAny_bind (m := checkCount "sorted" 1 1 _) (wpAny_pure ?_)
  refine wpAny_bind (sizedQ (collect_range hA hr hn fun h₁ tk₁ vs hk₁ hi hsz => ?_))
  have hlen := hi.length
  rw [List.length_map, List.length_range] at hlen
  refine wpAny_bind (wpAny_newList ?_ (by rw [sizeLine_eq]; omega))
  have hr₁ := hk₁ _ _ hr
  have hoL : (h₁.push (seqObj "list" vs.toArray 0)).get? h₁.objs.size = some (seqObj "list" vs.toArray 0) := Heap.get?_push_size _ rfl
  have hL₁ : (h₁.push (seqObj "list" vs.toArray 0)).Ns L m := hL.keeps fun b o e => Heap.get?_push_of_some _ (hk₁ b o e)
  have F : Fr noHeap L (h₁.push (seqObj "list" vs.toArray 0)) m := ⟨hL₁, fun b o e => (nomatch (noHeap_get b).symm.trans e), Nat.zero_le _⟩
  have N : News noHeap L (h₁.push (seqObj "list" vs.toArray 0)) (allBut s.heap L) := fun p hp => ⟨Heap.get?_push_of_some _ (hk₁ _ _ (allBut_of hp).1), (allBut_of hp).2, rfl⟩
  have hLs : L < s.heap.objs.size := hL.lt
  have old : ∀ h, News noHeap L h (allBut s.heap L) → ∀ b o, b ≠ L → s.heap.get? b = some o → h.get? b = some o := fun h N b o hb e => (N _ (allBut_mem e hb)).1
  refine wpAny_bind (wpAny_holding (wpAny_call_entry_kw slot_list_sort ⟨_, hoL, rfl⟩ entry_list_sort ?body (ksk_l1 _ _)))
  case body =>
    show wpAny (model prog w) A.in1.in1 (Builtin.«list.sort» ⟨[.ref h₁.objs.size], [(Str.ofString "key", .ref f)]⟩) _ _ _
    rw [ksk_t1]
    refine ksk_sort (s := { s with heap := h₁.push (seqObj "list" vs.toArray 0), toks := tk₁ }) (kz := kz) F N hoL (Nat.ne_of_gt (Nat.lt_of_lt_of_le hLs hsz)) rfl (fun p hp => Nat.ne_of_lt (Nat.lt_of_lt_of_le (Heap.lt_size (allBut_of hp).1) hsz)) (hk.trans hlen.symm) (by exact Nat.lt_of_le_of_lt (Nat.le_of_eq (by assumption)) (by assumption)) (fun i v k hv hk' h tk own F' N' => ?_) fun h' tk out c F' N' k' => ⟨_, rfl, ?_⟩
    · obtain ⟨t', ht'⟩ := hi.int_at i v hv
      have hin : i < n := by rw [← hlen]; exact (List.getElem?_eq_some_iff.mp hv).1
      have hv' : v = .int i t' := by rw [ht']; congr 1; simp [List.getD_eq_getElem?_getD, hin]
      refine Eq.symm (hv') ▸ ?_
      refine wpAny_mono (turn i t' k h tk hin hk' (old h fun p hp => N' p (List.mem_append_left _ hp)) F'.ns) (fun u s' x => ?_) fun _ _ e => e
      refine byc fun nh => ?_
      obtain ⟨h', tk', t'', rfl, rfl, kp⟩ := x
      refine nh ?_
      exact ⟨h', tk', t'', rfl, rfl, F'.kept kp, fun p hp => ⟨kp _ _ (N' p hp).1, (N' p hp).2⟩⟩
    · exact wpAny_pure ⟨_, rfl, done _ h' tk out c vs (old h' fun p hp => N' p (List.mem_cons_of_mem _ hp)) F'.ns hsz (N' _ List.mem_cons_self).1 hi k'⟩
end
end Mine
end
section
namespace Mine
open PySem PyProof.Rows PySem.Spec
section
variable {prog : Program} {w : World} {h₀ : Heap} {G : List (Str × PV)} {γ : Gm} {env : Env} {fm : Fm} {A : Around} {s : Shared} {φ : Phi} {σ : St}
theorem name_lit {x : Str} {p : Pos} {mx : MV} {v : PV} (E : EnvOk γ env) (hx : mv γ x = some mx) (hv : getV fm mx σ = some (v, σ)) (I : Inv h₀ φ σ s.heap) (F : FrAt h₀ γ env fm φ s.heap) (hc : (x == ("__classdict__" : Str)) = false) (hd : (x == ("__debug__" : Str)) = false) :
    W prog w A (eval (.Name x p) env) s fun u h' => h' = s.heap ∧ RV φ s.heap v u :=
  wpAny_Name (getV_sound E hx hv I F hc).2 hd
theorem item_lit {x y : Str} {p q r : Pos} {mx my : MV} {o i v : PV} (E : EnvOk γ env) (hx : mv γ x = some mx) (hy : mv γ y = some my) (h1 : getV fm mx σ = some (o, σ)) (h2 : getV fm my σ = some (i, σ)) (h3 : item σ o i = some v) (I : Inv h₀ φ σ s.heap) (F : FrAt h₀ γ env fm φ s.heap)
    (hc : (x == ("__classdict__" : Str)) = false) (hd : (x == ("__debug__" : Str)) = false) (hc' : (y == ("__classdict__" : Str)) = false) (hd' : (y == ("__debug__" : Str)) = false) :
    W prog w A (eval (.Subscript (.Name x p) (.Name y q) r) env) s fun u h' => h' = s.heap ∧ RV φ s.heap v u := by
  refine hid fun Rq hRq => ?_
  refine Subscript_ ?_
  refine (name_lit E hx h1 I F hc hd).go fun uo h' tk x => ?_
  obtain ⟨rfl, q⟩ := x
  refine (name_lit (s := { s with toks := tk }) E hy h2 I F hc' hd').go fun ui h' tk' x => ?_
  obtain ⟨rfl, q'⟩ := x
  exact (tail_item (s := { s with toks := tk' }) h3 I q q').go fun u h' tk r => (hRq _ _ tk r)
theorem len_lit {x y : Str} {p0 p q r pc : Pos} {mx my : MV} {o i : PV} {n : Nat} {xs : List PV} (K : Globs h₀ G) (E : EnvOk γ env) (hl : γ.names.lookup ("len" : Str) = some .globalImplicit) (hg : G.lookup ("len" : Str) = some (.top (.builtin "len"))) (hx : mv γ x = some mx) (hy : mv γ y = some my)
    (h1 : getV fm mx σ = some (o, σ)) (h2 : getV fm my σ = some (i, σ)) (h3 : item σ o i = some (.obj n)) (h4 : lstAt σ n = some xs) (I : Inv h₀ φ σ s.heap) (F : FrAt h₀ γ env fm φ s.heap)
    (hc : (x == ("__classdict__" : Str)) = false) (hd : (x == ("__debug__" : Str)) = false) (hc' : (y == ("__classdict__" : Str)) = false) (hd' : (y == ("__debug__" : Str)) = false) :
    W prog w A (eval (.Call (.Name "len" p0) [.Subscript (.Name x p) (.Name y q) r] [] pc) env) s fun u h' => h' = s.heap ∧ ∃ t, u = .int (xs.length : Int) t := by
  have he : eval (.Call (.Name "len" p0) [.Subscript (.Name x p) (.Name y q) r] [] pc) env = (eval (.Name "len" p0) env >>= fun u => callWith pc u [] (backTo pc (starEach [.Subscript (.Name x p) (.Name y q) r] env)) (backToKw pc (keywordEach [] env))) := rfl
  refine Eq.symm (he) ▸ ?_
  have hN : W prog w A (eval (.Name "len" p0) env) s fun u h' => h' = s.heap ∧ u = .builtin "len" :=
    wpAny_Name ((glob_sound K E hl hg I).mono fun u h' x => ⟨x.1, x.2.i_top⟩) (by decide)
  refine W.bind hN fun u h' tk x => ?_
  obtain ⟨rfl, rfl⟩ := x
  refine W.callWith_of (P := fun _ => True) rfl (fun h _ => ⟨.machine, .inr (.inl rfl), W.Looks.of_pure rfl⟩) ?_
  refine evalArgs_kw rfl ?_
  refine wpAny_mono (?_ : W prog w A (spliced (backTo pc (starEach [.Subscript (.Name x p) (.Name y q) r] env))) _ fun us h' => h' = s.heap ∧ ∃ u, us = [u] ∧ RV φ s.heap (.obj n) u) (fun us s' x => ?_) fun _ _ e => e
  · show W prog w A (do
      let v ← eval (.Subscript (.Name x p) (.Name y q) r) env
      let here ← pure [v]
      return here ++ (← holding here (spliced (backTo pc (starEach [] env))))) _ _
    refine W.bind (item_lit (s := { s with toks := tk }) E hx hy h1 h2 h3 I F hc hd hc' hd') fun u h' tk r => ?_
    obtain ⟨rfl, q⟩ := r
    exact wpAny_bind (wpAny_pure (wpAny_bind (wpAny_holding (wpAny_pure (wpAny_pure ⟨_, tk, rfl, rfl, u, rfl, q⟩)))))
  · obtain ⟨h', tk', rfl, rfl, u, rfl, q⟩ := x
    refine wpAny_pure ⟨trivial, ?_⟩
    obtain ⟨a, us, k, rfl, _, hz, g, r⟩ := list_at h4 I q
    have := r.length
    refine Calls.call_len_list (items := us.toArray) ⟨_, g, rfl, _, rfl⟩ (by simp; omega) ⟨s.heap, _, rfl, rfl, ?_⟩
    rw [this]
    exact ⟨_, rfl⟩
noncomputable def gmL (sc : Scope) (cs : List Str) : Gm := ⟨sc.names, namesOf .local sc.names, cs⟩
theorem lam_call {f au c' : Addr} {i kU nU n : Nat} {tv : Tok} {name qual xU xP : Str} {params : Arguments} {scope : Scope} {pm ctv : Value} {p0 p1 p2 p3 pc : Pos} {xs : List PV} (K : Globs h₀ G) (hlim : h₀.NoLimit) (hroom : A.depth < recursionLimit)
    (ho : s.heap.get? f = some (PySem.W.kla_obj name qual params (.Call (.Name "len" p0) [.Subscript (.Name xU p1) (.Name xP p2) p3] [] pc) scope [(xU, au)] pm c' ctv)) (hcd : s.heap.CodeRec (.ref c') qual)
    (hbind : bindArgs (PySem.W.kla_fn name qual params (.Call (.Name "len" p0) [.Subscript (.Name xU p1) (.Name xP p2) p3] [] pc) scope [(xU, au)] pm (.ref c') ctv) ⟨[.int i tv], []⟩ = pure [(xP, .int i tv)])
    (hk : scope.kind = .function) (hco : scope.isCoroutine = false) (hgen : scope.isGenerator = false) (hcell : ∀ x ∈ scope.names, x.2 ≠ .cell) (hloc : scope.names.lookup xP = some .local) (hlocs : namesOf .local scope.names = [xP])
    (hl : scope.names.lookup ("len" : Str) = some .globalImplicit) (hg : G.lookup ("len" : Str) = some (.top (.builtin "len"))) (hx : mv (gmL scope [xU]) xU = some (.cel 0)) (hy : mv (gmL scope [xU]) xP = some (.loc 0))
    (hc : (xU == ("__classdict__" : Str)) = false) (hd : (xU == ("__debug__" : Str)) = false) (hc' : (xP == ("__classdict__" : Str)) = false) (hd' : (xP == ("__debug__" : Str)) = false)
    (hφ : φ[kU]? = some (au, au)) (hσ : σ[kU]? = some (.cel (some (.obj nU)))) (hit : item σ (.obj nU) (.int i) = some (.obj n)) (h4 : lstAt σ n = some xs) (I : Inv h₀ φ σ s.heap) :
    wpAny (model prog w) A (call (.ref f) [.int i tv]) (fun u s' => ∃ h' tk' t', s' = { s with heap := h', toks := tk' } ∧ u = .int (xs.length : Int) t' ∧ ∀ b o, s.heap.get? b = some o → h'.get? b = some o) (fun _ _ => False) s := by
  refine wpAny_call (PySem.W.kla_callFunE hroom ho rfl hco hgen rfl hcd ?_)
  refine Eq.symm (hbind) ▸ ?_
  refine wpAny_pure (wpAny_newFunctionEnv hcell (fun y hy => by simp only [List.mem_singleton] at hy; rw [hy]; exact hloc) (fun h₁ hns hsb => ⟨((hlim.keeps I.base).fresh _ hsb), ?_⟩) hk)
  have kp : ∀ b o, s.heap.get? b = some o → h₁.get? b = some o := fun b o e => hsb.extBut b o (Nat.ne_of_lt (Heap.lt_size e)) (Heap.get?_push_of_some _ e)
  have hz : s.heap.objs.size ≤ h₁.objs.size := by rw [hsb.1, Heap.size_push]; exact Nat.le_succ _
  have I₁ := I.ext0 (keepsE kp hz)
  have E : EnvOk (gmL scope [xU]) (newEnv scope s.heap.objs.size mainGlobals [(xU, au)] (qual ++ ".<locals>.") (some f) (.ref c') none builtinsNs) := ⟨hk, rfl, rfl, rfl, by show (namesOf .local scope.names).Nodup; rw [hlocs]; simp⟩
  have F : FrAt h₀ (gmL scope [xU]) (newEnv scope s.heap.objs.size mainGlobals [(xU, au)] (qual ++ ".<locals>.") (some f) (.ref c') none builtinsNs) ⟨[some (.int i)], [kU]⟩ φ h₁ := by
    refine ⟨⟨_, hns, fun j y v hj hv => ?_⟩, by show 1 = (namesOf .local scope.names).length; rw [hlocs]; rfl, I.sz, I.fresh (Nat.le_refl _), .cons hφ .nil⟩
    have hj' : [xP][j]? = some y := by rw [← hlocs]; exact hj
    induction j with
    | zero =>
      obtain rfl := Option.some.inj hj'
      obtain rfl := Option.some.inj (Option.some.inj hv)
      exact ⟨.int i tv, by simp, .int _ _⟩
    | succ j => exact nomatch hj'
  show codeAny _ _ (.expr _ (newEnv scope s.heap.objs.size mainGlobals [(xU, au)] (qual ++ ".<locals>.") (some f) (.ref c') none builtinsNs)) _ _
  refine PySem.W.kla_codeExpr (wpAny_mono (len_lit (s := { s with heap := h₁, toks := s.toks + 1 }) K E hl hg hx hy (getV_cel rfl hσ) rfl hit h4 I₁ F hc hd hc' hd') (fun v s' r => ?_) fun _ _ e => e.elim)
  obtain ⟨h', tk, rfl, rfl, t, rfl⟩ := r
  exact ⟨_, tk, t, rfl, rfl, kp⟩
end
end Mine
end
section
namespace Mine
open PySem PyProof.Rows PySem.Spec
section
variable {prog : Program} {w : World} {h₀ : Heap} {G : List (Str × PV)} {T : Tab} {d n : Nat} {γ : Gm} {env : Env} {fm : Fm} {A : Around} {s : Shared} {φ : Phi} {σ σ' : St}
theorem Inv.putT {h h' : Heap} {P : Addr} {k : Nat} {b : Bool} {ps : Array Value} (I : Inv h₀ φ σ h) (hi : φ[k]? = some (P, P)) (hσ : σ[k]? = some (.tab b)) (h0 : h₀.get? P = none) (hs : Heap.ExtBut P h h') (sz : h.objs.size ≤ h'.objs.size)
    (hg : h'.get? P = some { cls := .none, dict := none, data := .fields ps, slots := #[] }) : Inv h₀ φ (σ.set k (.tab false)) h' ∧ Step [] φ φ h h' := by
  have hm := List.mem_of_getElem? hi
  have gr : Grow φ φ h h' := grow_but I hm hs
  have hk := (List.getElem?_eq_some_iff.mp hσ).1
  refine ⟨⟨fun q o e => hs q o (fun z => by rw [z, h0] at e; exact nomatch e) (I.base q o e), Nat.le_trans I.sz sz, fun j q c' hq hc' hn => ?_, by simp [I.len], I.nd, fun j c' q hc' hq => ?_⟩, ⟨gr, sz, fun q o e _ hb => hs q o (Ne.symm (hb _ hm)) e⟩⟩
  · by_cases hj : j = k
    · subst hj
      rw [List.getElem?_set_self hk] at hc'
      obtain rfl := Option.some.inj hc'
      exact nomatch hn
    · rw [List.getElem?_set_ne (Ne.symm hj)] at hc'
      exact I.low j q c' hq hc' hn
  · by_cases hj : j = k
    · subst hj
      obtain rfl := Option.some.inj (hi.symm.trans hq)
      rw [List.getElem?_set_self hk] at hc'
      obtain rfl := Option.some.inj hc'
      exact ⟨rfl, ps, hg, nofun⟩
    · rw [List.getElem?_set_ne (Ne.symm hj)] at hc'
      refine (I.at_ j c' q hc' hq).mono gr fun o e => hs _ o ?_ e
      intro z
      apply hj
      have h1 : (φ.map (·.2))[j]? = some q.2 := by rw [List.getElem?_map, hq]; rfl
      have h2 : (φ.map (·.2))[k]? = some P := by rw [List.getElem?_map, hi]; rfl
      exact (List.getElem?_inj (List.getElem?_eq_some_iff.mp h1).1 I.nd).mp (by rw [h1, h2, z])
structure LamOk (h₀ : Heap) (c P : Addr) : Prop where
  hd : PySem.W.CodeHd h₀ c P
  none : h₀.get? P = none
  glob : ∃ mg, h₀.Ns mainGlobals mg ∧ mainGlobals ≠ P ∧ h₀.BuiltinsAt mg P
inductive LamAt (h₀ : Heap) (φ : Phi) (σ : St) (h : Heap) (name qual : Str) (params : Arguments) (body : Expr) (scope : Scope) (clos : List (Str × Addr)) (k : Nat) (u : Value) (h' : Heap) : Prop
  | mk (f c' : Addr) (pm ctv : Value) (e : u = .ref f) (S : Step [] φ φ h h') (I : Inv h₀ φ (σ.set k (.tab false)) h') (ho : h'.get? f = some (PySem.W.kla_obj name qual params body scope clos pm c' ctv)) (hc : h'.CodeRec (.ref c') qual) (hf : h'.objs.size = f + 1) (hof : ∀ p ∈ φ, p.2 ≠ f) (hoc : ∀ p ∈ φ, p.2 ≠ c') : LamAt h₀ φ σ h name qual params body scope clos k u h'
theorem lam_made {c P : Addr} {k : Nat} {params : Arguments} {body : Expr} {scope : Scope} {pos : Pos} {clos : List (Str × Addr)} (L : LamOk h₀ c P) (E : EnvOk γ env) (hcode : env.code = .ref c) (hcl : closureFor scope env = pure clos) (hdef : defaultsOf params env = ([], []))
    (hφ : φ[k]? = some (P, P)) (hσ : σ[k]? = some (.tab true)) (I : Inv h₀ φ σ s.heap) : W prog w A (eval (.Lambda params body scope pos) env) s (LamAt h₀ φ σ s.heap "<lambda>" (env.qual ++ "<lambda>") params body scope clos k) := by
  refine byc fun nh => ?_
  obtain ⟨mg, hg, hgP, hb⟩ := L.glob
  obtain ⟨p, hp, _, ps, g, hps⟩ := I.cell hσ
  obtain rfl := Option.some.inj (hφ.symm.trans hp)
  obtain rfl := hps rfl
  refine nh ?_
  refine PySem.W.kla_eval hdef (PySem.W.kla_makeFunction (c := c) (P := P) (ps := #[]) hcl E.globals (hg.keeps I.base) hcode (L.hd.keeps I.base) g trivial rfl hgP (hb.keeps I.base) fun c' ctv h' tk hx hge hlt hrec htab => ?_)
  have hz : s.heap.objs.size ≤ h'.objs.size := Nat.le_trans hge (Nat.le_of_lt hlt)
  have x2 : Heap.ExtBut P s.heap (h'.push (PySem.W.kla_obj "<lambda>" (env.qual ++ "<lambda>") params body scope clos ((mg "__name__").getD .none) c' ctv)) := fun b o hb e => Heap.get?_push_of_some _ (hx b o hb e)
  obtain ⟨I', S'⟩ := I.putT hφ hσ L.none x2 (by rw [Heap.size_push]; exact Nat.le_succ_of_le (by assumption)) (Heap.get?_push_of_some _ htab)
  refine ⟨_, tk, rfl, h'.objs.size, c', _, ctv, rfl, S', I', Heap.get?_push_size _ rfl, hrec.push _, Heap.size_push .., I.fresh hz, I.fresh hge⟩
end
end Mine
end
section
namespace Mine
open PySem PyProof.Rows PySem.Spec
section
variable {h₀ : Heap} {φ : Phi} {σ : St}
theorem Inv.allocX {h h' : Heap} {c : Cell} {p : Addr × Addr} {X : List Addr} (I : Inv h₀ φ σ h) (x : Ext X h h') (hX : ∀ a ∈ X, h₀.objs.size ≤ a) (hφ : ∀ a ∈ X, ∀ p ∈ φ, p.2 ≠ a) (hp : h.objs.size ≤ p.2)
    (hc : CellAt (φ ++ [p]) h' p c) : Inv h₀ (φ ++ [p]) (σ ++ [c]) h' ∧ Step X φ (φ ++ [p]) h h' := by
  have I' := I.ext x hX hφ
  have gr : Grow φ (φ ++ [p]) h h' := ⟨⟨[p], rfl⟩, fun q hq => by
      rcases List.mem_append.mp hq with z | z
      · exact .inl z
      · simp at z; subst z; exact .inr hp, fun b o e i _ => x.imm b o e i⟩
  refine ⟨⟨I'.base, I'.sz, ?_, by simp [I.len], ?_, ?_⟩, ⟨gr, x.size, fun b o e hb _ => x.keep b o e hb⟩⟩
  · intro i q c' hq hc' hn
    by_cases hi : i < φ.length
    · replace hq := (List.getElem?_append_left hi) ▸ hq
      replace hc' := (List.getElem?_append_left (by rw [← I.len]; exact hi)) ▸ hc'
      exact I.low i q c' hq hc' hn
    · have hi' : i = φ.length := by
        have := (List.getElem?_eq_some_iff.mp hq).1
        simp at this; omega
      subst hi'
      replace hq := (List.getElem?_concat_length) ▸ hq
      obtain rfl := smi hq
      exact Nat.le_trans I.sz hp
  · rw [List.map_append, List.nodup_append]
    refine ⟨I.nd, by simp, ?_⟩
    intro a ha b hb'
    simp at hb'
    subst hb'
    refine byc fun nh => ?_
    obtain ⟨q, hq, rfl⟩ := List.mem_map.mp ha
    refine nh ?_
    exact I.fresh hp q hq
  · intro i c' q hc' hq
    by_cases hi : i < σ.length
    · replace hc' := (List.getElem?_append_left hi) ▸ hc'
      replace hq := (List.getElem?_append_left (by rw [I.len]; exact hi)) ▸ hq
      exact (I.at_ i c' q hc' hq).mono gr fun o e => x.keep _ o e fun hm => hφ _ hm q (List.mem_of_getElem? hq) rfl
    · have hi' : i = σ.length := by
        have := (List.getElem?_eq_some_iff.mp hc').1
        simp at this; omega
      subst hi'
      replace hc' := (List.getElem?_concat_length) ▸ hc'
      rw [← I.len, List.getElem?_concat_length] at hq
      cases hc'; cases hq
      exact hc
end
structure Rises (n : Nat) (g : Nat → Int) (o : List Nat) : Prop where
  perm : o.Perm (List.range n)
  up : o.Pairwise fun a b => g a ≤ g b
theorem rises_of {n : Nat} {g : Nat → Int} {vs out : List Value} (hi : IntsAre vs ((List.range n).map Int.ofNat)) (h : KskOut false ((List.range n).map g) vs out) : ∃ o : List Nat, Rises n g o ∧ IntsAre out (o.map Int.ofNat) := by
  obtain ⟨ps, hp, rfl, hs⟩ := h
  have hl := hi.length
  rw [List.length_map, List.length_range] at hl
  have rel : ∀ p ∈ ((List.range n).map g).zip vs, p.1 = g (PyProof.Rows.numOf p.2).toNat ∧ ∃ i : Nat, ∃ t, p.2 = .int (i : Int) t := fun p hp => by
    obtain ⟨k, hk, e⟩ := List.mem_iff_getElem.mp hp
    rw [List.length_zip, List.length_map, List.length_range] at hk
    rw [List.getElem_zip, List.getElem_map, List.getElem_range] at e
    have hv : vs[k]? = some vs[k] := List.getElem?_eq_getElem (by omega)
    obtain ⟨t, ht⟩ := hi.int_at k _ hv
    have e2 : vs[k] = .int (k : Int) t := by rw [ht]; congr 1; simp [List.getD_eq_getElem?_getD, show k < n by omega]
    refine (e) ▸ ?_
    exact ⟨by show g k = g (PyProof.Rows.numOf vs[k]).toNat; rw [e2]; rfl, k, t, e2⟩
  have relp : ∀ p ∈ ps, p.1 = g (PyProof.Rows.numOf p.2).toNat ∧ ∃ i : Nat, ∃ t, p.2 = .int (i : Int) t := fun p h => rel p (hp.mem_iff.mp h)
  refine ⟨ps.map fun p => (PyProof.Rows.numOf p.2).toNat, ⟨?_, ?_⟩, ?_⟩
  · have h1 := hp.map fun p => (PyProof.Rows.numOf p.2).toNat
    refine h1.trans (List.Perm.of_eq ?_)
    refine List.ext_getElem (by simp [hl]) fun k h1 h2 => ?_
    rw [List.getElem_map, List.getElem_zip, List.getElem_range]
    replace h2 := (List.length_range) ▸ h2
    have hv : vs[k]? = some vs[k] := List.getElem?_eq_getElem (by omega)
    obtain ⟨t, ht⟩ := hi.int_at k _ hv
    show (PyProof.Rows.numOf vs[k]).toNat = k
    rw [ht]
    show (((List.range n).map Int.ofNat).getD k 0).toNat = k
    simp [List.getD_eq_getElem?_getD, h2]
  · rw [List.pairwise_map]
    refine hs.imp_of_mem fun {p q} hp hq h => ?_
    have h' : p.1 ≤ q.1 := h
    rwa [(relp p hp).1, (relp q hq).1] at h'
  · clear hp hs rel
    induction ps with
    | nil => exact .nil
    | cons p ps ih =>
      refine byc fun nh => ?_
      obtain ⟨_, i, t, e⟩ := relp p List.mem_cons_self
      refine nh ?_
      rw [List.map_cons, List.map_cons, List.map_cons, e]
      exact .cons (i : Int) t (ih fun q hq => relp q (List.mem_cons_of_mem _ hq))
end Mine
end
section
namespace Mine
open PySem PyProof.Rows PySem.Spec
section
variable {prog : Program} {w : World} {h₀ : Heap} {G : List (Str × PV)} {T : Tab} {d n : Nat} {γ : Gm} {env : Env} {fm : Fm} {A : Around} {s : Shared} {φ : Phi} {σ σ₁ : St}
inductive SortedAt (h₀ : Heap) (γ : Gm) (env : Env) (fm : Fm) (φ : Phi) (h : Heap) (σ₁ : St) (nn : Nat) (g : Nat → Int) (u : Value) (h' : Heap) : Prop
  | mk (φ' : Phi) (o : List Nat) (r : Rises nn g o) (S : Step [env.locals] φ φ' h h') (I : Inv h₀ φ' (σ₁ ++ [.lst (o.map fun i : Nat => .int (i : Int))]) h') (F : FrAt h₀ γ env fm φ' h') (q : RV φ' h' (.obj σ₁.length) u) : SortedAt h₀ γ env fm φ h σ₁ nn g u h'
structure LamText (G : List (Str × PV)) (xU xP : Str) (params : Arguments) (scope : Scope) : Prop where
  kind : scope.kind = .function
  co : scope.isCoroutine = false
  gen : scope.isGenerator = false
  cell : ∀ x ∈ scope.names, x.2 ≠ .cell
  loc : scope.names.lookup xP = some .local
  locs : namesOf .local scope.names = [xP]
  len : scope.names.lookup ("len" : Str) = some .globalImplicit
  glen : G.lookup ("len" : Str) = some (.top (.builtin "len"))
  mx : mv (gmL scope [xU]) xU = some (.cel 0)
  my : mv (gmL scope [xU]) xP = some (.loc 0)
  c1 : (xU == ("__classdict__" : Str)) = false
  c2 : (xU == ("__debug__" : Str)) = false
  c3 : (xP == ("__classdict__" : Str)) = false
  c4 : (xP == ("__debug__" : Str)) = false
  clos : ∀ (env : Env) (a : Addr), env.cells.lookup xU = some a → closureFor scope env = pure [(xU, a)]
  dflt : ∀ env : Env, defaultsOf params env = ([], [])
  bind : ∀ (name qual : Str) (body : Expr) (cl : List (Str × Addr)) (pm cd ct : Value) (i : Int) (t : Tok), bindArgs (PySem.W.kla_fn name qual params body scope cl pm cd ct) ⟨[.int i t], []⟩ = pure [(xP, .int i t)]
theorem sort_eval (D : Wd prog w h₀ G T d) (R : Room d A) (E : EnvOk γ env) (hlim : h₀.NoLimit) {c P : Addr} (L : LamOk h₀ c P) (hcode : env.code = .ref c) {xU xP : Str} {params : Arguments} {scope : Scope} (X : LamText G xU xP params scope)
    {p0 p1 p2 p3 p4 lp kp pc pb : Pos} {ea : Expr} {mes : MEs} {kT jU kU nU nn : Nat} {g : Nat → Int}
    (hsn : γ.names.lookup ("sorted" : Str) = some .globalImplicit) (hsg : G.lookup ("sorted" : Str) = some (.top (.builtin "sorted")))
    (h1 : seqL ([ea].map (cE G n γ)) = some mes) (hv : evs T mes fm σ = some ([.range 0 (nn : Int) 1], σ₁)) (h64 : nn < 64)
    (hT : φ[kT]? = some (P, P)) (hσT : σ₁[kT]? = some (.tab true)) (hU : place γ.cells xU = some jU) (hcs : fm.cs[jU]? = some kU) (hσU : σ₁[kU]? = some (.cel (some (.obj nU)))) (hTU : kT ≠ kU)
    (keys : ∀ i, i < nn → ∃ m xs, item (σ₁.set kT (.tab false)) (.obj nU) (.int (i : Int)) = some (.obj m) ∧ lstAt (σ₁.set kT (.tab false)) m = some xs ∧ g i = (xs.length : Int))
    (I : Inv h₀ φ σ s.heap) (F : FrAt h₀ γ env fm φ s.heap) :
    W prog w A (eval (.Call (.Name "sorted" p0) [ea] [⟨some "key", .Lambda params (.Call (.Name "len" p1) [.Subscript (.Name xU p2) (.Name xP p3) p4] [] pb) scope lp, kp⟩] pc) env) s (SortedAt h₀ γ env fm φ s.heap (σ₁.set kT (.tab false)) nn g) := by
  have he : eval (.Call (.Name "sorted" p0) [ea] [⟨some "key", .Lambda params (.Call (.Name "len" p1) [.Subscript (.Name xU p2) (.Name xP p3) p4] [] pb) scope lp, kp⟩] pc) env = (eval (.Name "sorted" p0) env >>= fun u => callWith pc u [] (backTo pc (starEach [ea] env)) (backToKw pc (keywordEach [⟨some "key", .Lambda params (.Call (.Name "len" p1) [.Subscript (.Name xU p2) (.Name xP p3) p4] [] pb) scope lp, kp⟩] env))) := rfl
  refine Eq.symm (he) ▸ ?_
  refine byc fun nh => ?_
  obtain ⟨me, mes', g1, _, _⟩ := seqL_cons h1
  have hN : W prog w A (eval (.Name "sorted" p0) env) s fun u h' => h' = s.heap ∧ u = .builtin "sorted" :=
    wpAny_Name ((glob_sound D.globs E hsn hsg I).mono fun u h' x => ⟨x.1, x.2.i_top⟩) (by decide)
  refine nh ?_
  refine W.bind hN fun u h' tk x => ?_
  obtain ⟨rfl, rfl⟩ := x
  have H := evs_sound (ev_sound D n).1 R E pc [ea] mes h1 σ _ σ₁ hv { s with toks := tk } φ I F
  rw [not_starred g1] at H ⊢
  refine W.callWith_of (P := fun _ => True) rfl (fun h _ => ⟨.machine, .inr (.inl rfl), W.Looks.of_pure rfl⟩) ?_
  refine evalArgs_kw rfl ?_
  refine H.go fun us h₁ tk₁ r => ?_
  refine byc fun nh => ?_
  obtain ⟨φ₁, S₁, I₁, q⟩ := r
  obtain ⟨ur, rfl, qr⟩ := q.one
  have F₁ := F.step0 S₁
  have hT₁ : φ₁[kT]? = some (P, P) := by
    obtain ⟨ψ, rfl⟩ := S₁.ext
    rw [List.getElem?_append_left (List.getElem?_eq_some_iff.mp hT).1]; exact hT
  obtain ⟨au, k', ha1, ha2, ha3⟩ := F₁.cells.get hU
  obtain rfl := Option.some.inj (hcs.symm.trans ha2)
  refine nh ?_
  show wpAny _ _ (do let v ← (do let v ← eval (.Lambda params (.Call (.Name "len" p1) [.Subscript (.Name xU p2) (.Name xP p3) p4] [] pb) scope lp) env; standAt pc; pure v); let vs ← holding [v] (evalAll []); pure (v :: vs)) _ _ _
  refine wpAny_bind (wpAny_bind ((lam_made (s := { s with heap := h₁, toks := tk₁ }) L E hcode (X.clos env au ha1) (X.dflt env) hT₁ hσT I₁).go fun uf h₂ tk₂ r => ?_))
  refine byc fun nh => ?_
  obtain ⟨f, c', pm, ctv, rfl, S₂, I₂, ho, hc, hf, hof, hoc⟩ := r
  refine nh ?_
  refine wpAny_bind (wpAny_standAt (wpAny_pure ?_))
  refine wpAny_bind (wpAny_holding (wpAny_pure (wpAny_pure ⟨trivial, ?_⟩)))
  have F₂ := F₁.step0 S₂
  refine byc fun nh => ?_
  obtain ⟨r, t, u', w', hr, _, _, _, _, rfl⟩ := (S₂.rv qr).inv
  obtain ⟨m, hns, hlo⟩ := F₂.ns
  obtain ⟨oL, eL, nL⟩ := F₂.there
  have hLn : ∀ b o, h₂.get? b = some o → (∀ es n, o.data ≠ .dict es n) → b ≠ env.locals := fun b o e hd z => by
    obtain ⟨o', es, ep, e', hd', _⟩ := hns
    rw [z, e'] at e
    obtain rfl := Option.some.inj e
    exact hd _ _ hd'
  have hfL := hLn f _ ho (fun _ _ => nofun)
  have hlt : env.locals < h₂.objs.size := Heap.lt_size eL
  have mkX : ∀ h : Heap, h₂.objs.size ≤ h.objs.size → (∀ b o, b ≠ env.locals → h₂.get? b = some o → h.get? b = some o) → Ext [env.locals] h₂ h := fun h hz hk =>
    ⟨hz, fun b o e i => hk b o (fun z => by rw [z, eL] at e; obtain rfl := Option.some.inj e; exact nL i) e, fun b o e hb => hk b o (by simpa using hb) e⟩
  have lowL : ∀ a ∈ [env.locals], h₀.objs.size ≤ a := by simpa using F₂.low
  have offL : ∀ a ∈ [env.locals], ∀ p ∈ φ₁, p.2 ≠ a := by simpa using F₂.off
  refine nh ?_
  refine sorted_key (L := env.locals) (kz := (List.range nn).map g) (s := { s with heap := h₂, toks := tk₂ }) R.free hns hr h64 (by simp) (fun i tv k h tk' hi hk hkeep hns' => ?_) (fun Dd h' tk' out ce vs hkeep hns' hge hD hi hko => ?_)
  · have hz : h₂.objs.size ≤ h.objs.size := by rw [hf]; exact Heap.lt_size (hkeep f _ hfL ho)
    refine byc fun nh => ?_
    obtain ⟨m', xs, k1, k2, k3⟩ := keys i hi
    obtain rfl : k = (xs.length : Int) := by
      rw [List.getElem?_map, List.getElem?_range hi] at hk
      exact (Option.some.inj hk).symm.trans k3
    have hcd : h.CodeRec (.ref c') (env.qual ++ "<lambda>") := by
      obtain ⟨c2, oc, vc, tc, e1, e2, e3, e4⟩ := hc
      exact ⟨c2, oc, vc, tc, e1, hkeep c2 oc (hLn c2 oc e2 fun _ _ => by rw [e3]; nofun) e2, e3, e4⟩
    refine nh ?_
    exact lam_call (s := { s with heap := h, toks := tk' }) D.globs hlim (by have := R.depth; show A.depth < _; omega) (hkeep f _ hfL ho) hcd (X.bind ..) X.kind X.co X.gen X.cell X.loc X.locs X.len X.glen X.mx X.my X.c1 X.c2 X.c3 X.c4 ha3
      (by rw [List.getElem?_set_ne hTU]; exact hσU) k1 k2 (I₂.ext (mkX h hz hkeep) lowL offL)
  · obtain ⟨o, hr', hio⟩ := rises_of hi hko
    have hz : h₂.objs.size ≤ h'.objs.size := Nat.le_trans hge (Nat.le_of_lt (Heap.lt_size hD))
    have ho2 : o.length ≤ 20000 := by rw [hr'.perm.length_eq, List.length_range]; omega
    have rv : ∀ {ψ : Phi} {hh : Heap} {ws : List Value} {zs : List Nat}, IntsAre ws (zs.map Int.ofNat) → RVs ψ hh (zs.map fun i : Nat => PV.int (i : Int)) ws := by
      intro ψ hh ws zs
      induction zs generalizing ws with
      | nil => intro h; cases h; exact .nil
      | cons z zs ih => intro h; cases h with | cons _ t h => exact .cons (.int _ t) (ih h)
    obtain ⟨I', S'⟩ := I₂.allocX (c := .lst (o.map fun i : Nat => .int (i : Int))) (p := (Dd, Dd)) (mkX h' hz hkeep) lowL offL hge ⟨rfl, by rw [List.length_map]; exact ho2, out.toList, ce, by simpa using hD, rv hio⟩
    refine ⟨h', tk', rfl, _, o, hr', ((S₁.trans S₂).more (by simp)).trans S', I', ⟨⟨m, hns', fun j y v h1 h2 => ?_⟩, F₂.len, F₂.low, ?_, F₂.cells.mono S'.ext⟩, .obj (p := (Dd, Dd)) (by rw [← I₂.len]; simp)⟩
    · obtain ⟨u, hu, q⟩ := hlo j y v h1 h2
      exact ⟨u, hu, q.mono S'.toGrow⟩
    · intro p hp
      rcases List.mem_append.mp hp with hp | hp
      · exact F₂.off p hp
      · simp only [List.mem_singleton] at hp
        refine Eq.symm (hp) ▸ ?_
        exact Nat.ne_of_gt (Nat.lt_of_lt_of_le hlt hge)
end
end Mine
end
section
namespace Mine
open PySem PyProof.Rows PySem.Spec
section
variable {prog : Program} {w : World} {h₀ : Heap} {G : List (Str × PV)} {T : Tab} {d n : Nat} {γ : Gm} {env : Env} {fm : Fm} {A : Around} {s : Shared} {φ : Phi} {σ σ₂ : St}
theorem for_sorted (D : Wd prog w h₀ G T d) (R : Room d A) (E : EnvOk γ env) {tg it : Expr} {t : MT} {b : List Stmt} {mb : MSs} {p : Pos} {nn : Nat} {g : Nat → Int} {X : Fm → St → Prop} (hset : ∀ x, foldedSetIterable it env x = pure x) (g0 : target γ tg = some t) (g2 : seqS (b.map (cS G n γ)) = some mb)
    (H : W prog w A (eval it env) s (SortedAt h₀ γ env fm φ s.heap σ₂ nn g)) (F : FrAt h₀ γ env fm φ s.heap)
    (hl : ∀ o, Rises nn g o → ∃ fm' σ', loopM (.one (.obj σ₂.length)) (forBody T t mb) fuel 0 fm (σ₂ ++ [.lst (o.map fun i : Nat => .int (i : Int))]) = some ((fm', none), σ') ∧ X fm' σ') :
    W prog w A (exec (.For tg it b [] p) env) s fun f h' => ∃ fm' σ', X fm' σ' ∧ ExR h₀ γ env φ s.heap fm' none σ' f h' := by
  refine hid fun Rq hRq => ?_
  refine wpAny_For ?_ hset
  refine H.go fun u h' tk x => ?_
  refine byc fun nh => ?_
  obtain ⟨φ₁, o, ho, S₁, I₁, F₁, q⟩ := x
  have hn : nth1 (σ₂ ++ [.lst (o.map fun i : Nat => PV.int (i : Int))]) (.obj σ₂.length) 0 = some ((o.map fun i : Nat => PV.int (i : Int))[0]?) := by
    exact nth1_lst List.getElem?_concat_length
  refine nh ?_
  refine (pyIter_sound (s := { s with heap := h', toks := tk }) hn I₁ q).go fun u h'' tk' x => ?_
  obtain ⟨rfl, x1, x2, _⟩ := x
  obtain ⟨fm', σ', e, hX⟩ := hl o ho
  have I₂ := I₁.ext0 x1
  have hlt : env.locals < h'.objs.size := by
    obtain ⟨oL, eL, _⟩ := F₁.there
    exact Heap.lt_size eL
  refine for_loop R E g0 (block_sound (st_sound D n) R E b _ g2) _ _ _ _ _ _ _ _ e { s with heap := h'', toks := tk' } φ₁ h'.objs.size [h'.objs.size] I₂ (F₁.step0 (x1.step (φ := φ₁))) (.one x2 (I₁.fresh (Nat.le_refl _)) (Nat.le_trans I₁.sz (Nat.le_refl _))) (by simpa using Nat.ne_of_lt hlt) rfl _ fun f h2 tk2 x => ?_
  refine byc fun nh => ?_
  obtain ⟨φ₂, S₂, I₃, F₃, hf⟩ := x
  have S12 : Step [env.locals] φ φ₁ s.heap h'' := S₁.trans ((x1.step (φ := φ₁)).more (by exact nil0))
  refine nh ?_
  refine (hRq _ h2 tk2 ⟨fm', σ', hX, φ₂, ((S12.more (Y := env.locals :: [h'.objs.size]) (by exact one1)).trans S₂).less ?_, I₃, F₃, hf⟩)
  intro y hy
  rcases List.mem_cons.mp hy with rfl | hy
  · exact .inl (by exact List.mem_cons_self)
  · simp only [List.mem_singleton] at hy
    refine Eq.symm (hy) ▸ ?_
    exact .inr S₁.size
end
end Mine
end
section
namespace Mine
open PySem PyProof.Rows
noncomputable def runSp (T : Tab) (c : CF) (sp : Fm → M Unit) (mb2 : MSs) (vs : List PV) : M PV :=
  bnd (allocCells c.nc) fun ks => bnd (setVs ⟨List.replicate c.nl none, ks⟩ c.pms vs) fun fm => bnd (exs T c.mb fm) fun r => match r with
    | (fm1, none) => bnd (sp fm1) fun _ => bnd (exs T mb2 fm1) fun r => rt (r.2.getD .none)
    | _ => fail
noncomputable def p00 : Pos := ⟨0, 0, 0, 0⟩
noncomputable def nthS (b : List Stmt) (k : Nat) : Stmt := match b.drop k with | s :: _ => s | [] => .Pass p00
noncomputable def cf2 (G : List (Str × PV)) (fd : FuncData) (ps : List Str) (k : Nat) : Option (CF × MSs) :=
  bind3 (ps.mapM (mv (gmFn fd.scope))) (seqS (((stmtsOf fd.body).take k).map (cS G 40 (gmFn fd.scope)))) (seqS (((stmtsOf fd.body).drop (k + 1)).map (cS G 40 (gmFn fd.scope)))) fun pms m1 m2 =>
    if (stmtsOf fd.body).drop k = [] then none else some (⟨(namesOf .local fd.scope.names).length, (namesOf .cell fd.scope.names).length, pms, m1⟩, m2)
noncomputable def cf2Get (G : List (Str × PV)) (fd : FuncData) (ps : List Str) (k : Nat) : CF × MSs := (cf2 G fd ps k).getD (⟨0, 0, [], .nil⟩, .nil)
structure Cf2Ok (G : List (Str × PV)) (fd : FuncData) (ps : List Str) (k : Nat) (c : CF) (m2 : MSs) : Prop where
  blk : blockOk fd.scope.names = true
  nl : (namesOf .local fd.scope.names).length = c.nl
  nc : (namesOf .cell fd.scope.names).length = c.nc
  pms : ps.mapM (mv (gmFn fd.scope)) = some c.pms
  mb : seqS (((stmtsOf fd.body).take k).map (cS G 40 (gmFn fd.scope))) = some c.mb
  mb2 : seqS (((stmtsOf fd.body).drop (k + 1)).map (cS G 40 (gmFn fd.scope))) = some m2
  eq : stmtsOf fd.body = (stmtsOf fd.body).take k ++ nthS (stmtsOf fd.body) k :: (stmtsOf fd.body).drop (k + 1)
theorem cut_eq {b : List Stmt} {k : Nat} (h : b.drop k ≠ []) : b = b.take k ++ nthS b k :: b.drop (k + 1) := by
  have e : b.drop k = nthS b k :: b.drop (k + 1) := by
    unfold nthS
    cases hd : b.drop k with
    | nil => exact absurd hd h
    | cons s r => rw [← List.drop_drop, hd]; rfl
  rw [← e, List.take_append_drop]
theorem cf2_of {G : List (Str × PV)} {fd : FuncData} {ps : List Str} {k : Nat} (hb : blockOk fd.scope.names = true) (h : (cf2 G fd ps k).isSome = true) : Cf2Ok G fd ps k (cf2Get G fd ps k).1 (cf2Get G fd ps k).2 := by
  unfold cf2Get
  obtain ⟨c, hc⟩ := Option.isSome_iff_exists.mp h
  refine Eq.symm (hc) ▸ ?_
  refine byc fun nh => ?_
  obtain ⟨pms, m1, m2, h1, h2, h3, hc⟩ := opt3 hc
  obtain ⟨hne, hc⟩ := ifN hc
  obtain rfl := smi hc
  refine nh ?_
  exact ⟨hb, rfl, rfl, h1, h2, h3, cut_eq hne⟩
noncomputable def slcV (v1 v2 : PV) : M Unit := match v1, v2 with
  | .obj k1, .obj k2 => fun σ => (lstAt σ k1).bind fun _ => (lstAt σ k2).bind fun ys => if k1 = k2 then none else some ((), σ.set k1 (.lst ys))
  | _, _ => fail
noncomputable def slcF (T : Tab) (mo me : ME) (fm : Fm) : M Unit := bnd (ev T me fm) fun v2 => bnd (ev T mo fm) fun v1 => slcV v1 v2
noncomputable def delV (C : Addr) (F : List PV → List (Str × PV) → M PV) (o iv : PV) : M Unit := match o with
  | .obj k => fun σ => ((σ[k]?).bind cellI).bind fun p => if p.1 = C then bnd (F [.obj k, iv] []) (fun _ => rt ()) σ else none
  | _ => fail
noncomputable def delF (T : Tab) (C : Addr) (F : List PV → List (Str × PV) → M PV) (mo mi : ME) (fm : Fm) : M Unit := bnd (ev T mo fm) fun o => bnd (ev T mi fm) fun iv => delV C F o iv
section
variable {prog : Program} {w : World} {h₀ : Heap} {G : List (Str × PV)} {T : Tab} {d n : Nat} {γ : Gm} {env : Env} {fm : Fm} {A : Around} {s : Shared} {φ : Phi} {σ σ' : St}
theorem slcF_sound (D : Wd prog w h₀ G T d) (R : Room d A) (E : EnvOk γ env) {o elt : Expr} {gens : List Comprehension} {sc : Scope} {cp q p ps : Pos} {mo me : ME} (h0 : cE G n γ o = some mo) (h2 : cE G n γ (.ListComp elt gens sc cp) = some me)
    (hv : slcF T mo me fm σ = some ((), σ')) (I : Inv h₀ φ σ s.heap) (F : FrAt h₀ γ env fm φ s.heap) :
    W prog w A (exec (.Assign [.Subscript o (.Slice none none none ps) q] (.ListComp elt gens sc cp) p) env) s (ExR h₀ γ env φ s.heap fm none σ') := by
  refine byc fun nh => ?_
  obtain ⟨v2, σ₁, e1, hv1⟩ := bnd_some hv
  obtain ⟨v1, σ₂, e2, hv2⟩ := bnd_some hv1
  clear hv hv1
  cases v1 with
  | obj k1 =>
    cases v2 with
    | obj k2 =>
      obtain ⟨xs, l1, hv⟩ := obind hv2
      obtain ⟨ys, l2, hv⟩ := obind hv
      obtain ⟨hne, hv⟩ := ifN hv
      obtain ⟨_, rfl⟩ := smp hv
      refine nh ?_
      exact st_slcset D R E h0 h2 e1 e2 l1 l2 hne I F
    | _ => refine nh ?_; exact nsm hv2
  | _ => refine nh ?_; exact nsm hv2
theorem delF_sound (D : Wd prog w h₀ G T d) (R : Room d A) (E : EnvOk γ env) {o i : Expr} {q p : Pos} {mo mi : ME} {C f : Addr} {Fn : List PV → List (Str × PV) → M PV} (K : MthOk h₀ C "__delitem__" f) (H : FnSnd prog w h₀ d f Fn) (h0 : cE G n γ o = some mo) (h1 : cE G n γ i = some mi)
    (hv : delF T C Fn mo mi fm σ = some ((), σ')) (I : Inv h₀ φ σ s.heap) (F : FrAt h₀ γ env fm φ s.heap) :
    W prog w A (exec (.Delete [.Subscript o i q] p) env) s (ExR h₀ γ env φ s.heap fm none σ') := by
  refine byc fun nh => ?_
  obtain ⟨v1, σ₁, e1, hv1⟩ := bnd_some hv
  obtain ⟨v2, σ₂, e2, hv2⟩ := bnd_some hv1
  clear hv hv1
  refine nh ?_
  cases v1 with
  | obj k =>
    refine byc fun nh => ?_
    obtain ⟨⟨C', as⟩, hi, hv⟩ := obind hv2
    obtain ⟨c, hl, hc⟩ := obind hi
    obtain rfl := cellI_some hc
    obtain ⟨hC, hv3⟩ := ifS hv
    obtain ⟨rv, σ₃, e3, e4⟩ := bnd_some hv3
    obtain ⟨_, rfl⟩ := rt_eq e4
    subst hC
    refine nh ?_
    exact st_del D R E K H h0 h1 e1 e2 hl e3 I F
  | _ => exact nsm hv2
end
section
variable {prog : Program} {w : World} {h₀ : Heap} {G : List (Str × PV)} {T : Tab} {d : Nat}
theorem sp_fn (D : Wd prog w h₀ G T d) {fa : Addr} {fd : FuncData} {ps : List Str} {k : Nat} {c : CF} {m2 : MSs} (K : FnOk h₀ fa fd (stmtsOf fd.body)) (C : Cf2Ok G fd ps k c m2) {sp : Fm → M Unit} {bd : List PV → List (Str × PV) → Option (List PV)} (hb : BindOk prog w h₀ fd ps bd)
    (hst : ∀ fm σ σ', sp fm σ = some ((), σ') → ∀ (A : Around) (env : Env) (s : Shared) (φ : Phi), Room d A → EnvOk (gmFn fd.scope) env → Inv h₀ φ σ s.heap → FrAt h₀ (gmFn fd.scope) env fm φ s.heap → W prog w A (exec (nthS (stmtsOf fd.body) k) env) s (ExR h₀ (gmFn fd.scope) env φ s.heap fm none σ')) :
    FnSnd prog w h₀ (d + 1) fa (fun vs kvs => match bd vs kvs with | some ws => runSp T c sp m2 ws | none => fail) := by
  intro vs kvs σ v σ' hv A s φ us kus R I r rk
  dsimp only at hv
  cases hw : bd vs kvs with
  | none => rw [hw] at hv; exact nomatch hv
  | some ws =>
  replace hv := (hw) ▸ hv
  refine byc fun nh => ?_
  obtain ⟨ks, σ₁, hks, hv1⟩ := bnd_some hv
  obtain ⟨fm, σ₂, hset, hv2⟩ := bnd_some hv1
  obtain ⟨⟨fm1, r1⟩, σ₃, hex1, hv3⟩ := bnd_some hv2
  induction r1 with
  | some x => refine nh ?_; exact nomatch hv3
  | none =>
  obtain ⟨_, σ₄, hsp, hv4⟩ := bnd_some hv3
  obtain ⟨⟨fm', r'⟩, σ₅, hex2, hv5⟩ := bnd_some hv4
  obtain ⟨hvv, hσ⟩ := rt_eq hv5
  refine nh ?_
  refine (run_rel R (Out := fun v' σ₆ => v' = v ∧ σ₆ = σ') (C.eq ▸ K) C.blk C.pms I ((hb vs kvs ws hw A.in1 s φ σ us kus I r rk).mono fun binds h₁ x => ?_)).mono fun u h' x => ?_
  · obtain ⟨φ₁, S₁, I₁, hn, r₁⟩ := x
    refine ⟨φ₁, ws, ks, σ₁, fm, σ₂, S₁, I₁, hn, r₁, by rw [C.nc]; exact hks, by rw [C.nl]; exact hset, fun A env s φ' R E I F _ _ hcd hφ => ?_⟩
    exact sp_body D R E (code := env.code) (φ₀ := []) (X := fun fm2 σ₆ => fm2 = fm1 ∧ σ₆ = σ₄) (Out := fun v' σ₆ => v' = v ∧ σ₆ = σ') rfl List.nil_prefix C.mb C.mb2 hex1 (fun A env s φ R E _ _ I F => (hst _ _ _ hsp A env s φ R E I F).mono fun f h' x => ⟨_, _, ⟨rfl, rfl⟩, x⟩)
      (fun fm2 σ₆ ⟨e1, e2⟩ => ⟨fm', r', σ₅, by rw [e1, e2]; exact hex2, hvv.symm, hσ.symm⟩) I F
  · obtain ⟨v', σ₄, ⟨rfl, rfl⟩, x⟩ := x
    exact x
end
end Mine
end
section
namespace Mine
open PySem PyProof.Rows
section
variable {prog : Program} {w : World} {h₀ : Heap} {G : List (Str × PV)} {T : Tab} {d n : Nat} {γ : Gm} {env : Env} {fm : Fm} {A : Around} {s : Shared} {φ : Phi} {σ σ₁ : St}
theorem st_rel (D : Wd prog w h₀ G T d) (R : Room d A) (E : EnvOk γ env) {x f : Str} {px pf pc p : Pos} {es : List Expr} {mes : MEs} {i : Nat} {uf : Value} {vs : List PV} {Out : PV → St → Prop} {φ₀ : Phi}
    (hf : γ.names.lookup f = some .globalImplicit) (hg : G.lookup f = some (.top uf)) (hd : (f == ("__debug__" : Str)) = false) (h1 : seqL (es.map (cE G n γ)) = some mes) (hx : mv γ x = some (.loc i)) (hv : evs T mes fm σ = some (vs, σ₁)) (K : Kept prog w h₀ uf) (hφ : φ₀ <+: φ)
    (H : ∀ (s : Shared) (φ : Phi) (us : List Value), φ₀ <+: φ → Inv h₀ φ σ₁ s.heap → RVs φ s.heap vs us → W prog w A (call uf us []) s fun u h' => ∃ v σ', Out v σ' ∧ Ret h₀ [] φ s.heap v σ' u h')
    (I : Inv h₀ φ σ s.heap) (F : FrAt h₀ γ env fm φ s.heap) :
    W prog w A (exec (.Assign [.Name x px] (.Call (.Name f pf) es [] pc) p) env) s fun fl h' => ∃ fm' σ', (∃ v, Out v σ' ∧ fm' = ⟨fm.ρ.set i (some v), fm.cs⟩) ∧ ExR h₀ γ env φ s.heap fm' none σ' fl h' := by
  have hsw : swapsWithSole [.Name x px] (.Call (.Name f pf) es [] pc) p.line env = pure false := rfl
  rw [arm_exec_Assign, hsw]
  refine wpAny_bind (wpAny_standAt (wpAny_bind (wpAny_pure ?_)))
  refine Eq.symm (if_neg Bool.false_ne_true) ▸ ?_
  have he : eval (.Call (.Name f pf) es [] pc) env = (eval (.Name f pf) env >>= fun u => callWith pc u [] (backTo pc (starEach es env)) (backToKw pc (keywordEach [] env))) := rfl
  refine Eq.symm (he) ▸ ?_
  have hN : W prog w A (eval (.Name f pf) env) s fun u h' => h' = s.heap ∧ u = uf :=
    wpAny_Name ((glob_sound D.globs E hf hg I).mono fun u h' x => ⟨x.1, x.2.i_top⟩) hd
  refine wpAny_bind (wpAny_bind (hN.go fun u h' tk x => ?_))
  refine byc fun nh => ?_
  obtain ⟨rfl, rfl⟩ := x
  obtain ⟨ha1, _⟩ := stars_plain (env := env) pc es mes h1
  have HC : W prog w A (callWith pc u [] (backTo pc (starEach es env)) (backToKw pc (keywordEach [] env))) { s with toks := tk } fun u h' => ∃ v σ', Out v σ' ∧ Ret h₀ [] φ s.heap v σ' u h' := by
    refine W.callWith_of (P := fun h => ∀ b o, h₀.get? b = some o → h.get? b = some o) (by rw [ha1]; rfl) K ?_
    refine (args_sound (ev_sound D n).1 R E pc (ks := []) (mk := .nil) (f := u) h1 rfl hv rfl (s := { s with toks := tk }) I F).go fun a h' tk r => ?_
    obtain ⟨φ₁, S₁, I₁, q, q'⟩ := r
    refine ⟨I₁.base, ?_⟩
    have : a.kw = [] := q'.e_nil
    refine Eq.symm (this) ▸ ?_
    refine (H { s with heap := h', toks := tk } φ₁ a.pos (hφ.trans S₁.ext) I₁ q).go fun u h'' tk' r => ?_
    obtain ⟨v, σ', hO, r⟩ := r
    exact ⟨h'', tk', rfl, v, σ', hO, Ret.before S₁ r⟩
  refine nh ?_
  refine HC.go fun u h' tk' r => ?_
  · obtain ⟨v, σ', hO, φ₁, S₁, I₁, q⟩ := r
    have hsw : swappedStores [.Name x px] (.Call (.Name f pf) es [] pc) env = pure none := rfl
    refine Eq.symm (hsw) ▸ ?_
    refine wpAny_bind (wpAny_pure ?_)
    have ht : [Expr.Name x px].mapM (target γ) = some [.one (.loc i)] := by
      have : target γ (Expr.Name x px) = some (.one (.loc i)) := by show (mv γ x).map _ = _; rw [hx]; rfl
      simp [this]
    refine wpAny_bind ((setTs_sound (s := { s with heap := h', toks := tk' }) R.free E [.Name x px] [.one (.loc i)] v u fm σ' ⟨fm.ρ.set i (some v), fm.cs⟩ σ' ht rfl I₁ (F.step0 S₁) q).go fun _ h'' tk'' st => wpAny_pure ⟨h'', tk'', rfl, _, σ', ⟨v, hO, rfl⟩, φ₁, S₁.nil.trans st.S, st.I, st.F, rfl⟩)
end
end Mine
end
section
namespace Mine
open PySem PyProof.Rows
theorem len1 {us : List Value} (h : us.length = 1) : ∃ a, us = [a] := List.length_eq_one_iff.mp h
theorem len2 {us : List Value} (h : us.length = 2) : ∃ a b, us = [a, b] := by
  induction us with
  | nil => cases h
  | cons a us =>
    obtain ⟨b, rfl⟩ := len1 (us := us) (by simpa using h)
    exact ⟨a, b, rfl⟩
theorem len3 {us : List Value} (h : us.length = 3) : ∃ a b c, us = [a, b, c] := by
  induction us with
  | nil => cases h
  | cons a us =>
    obtain ⟨b, c, rfl⟩ := len2 (us := us) (by simpa using h)
    exact ⟨a, b, c, rfl⟩
theorem len4 {us : List Value} (h : us.length = 4) : ∃ a b c d, us = [a, b, c, d] := by
  induction us with
  | nil => cases h
  | cons a us =>
    obtain ⟨b, c, d, rfl⟩ := len3 (us := us) (by simpa using h)
    exact ⟨a, b, c, d, rfl⟩
noncomputable def P0 : Params := { strHash := fun _ => 0, shareClass := fun a => a, mergeTok := fun t => t, idOf := fun _ => 0, idOfShared := fun _ _ => 0, followText := fun _ => false, idOfImm := fun _ => 0 }
noncomputable def K1 : Params → W.Frag := pre.heap_1_41
noncomputable def fdIn (K : Params → W.Frag) (a : Addr) : FuncData := match (K P0).lookup a with
  | some ⟨_, _, .func fd, _⟩ => fd
  | _ => default
noncomputable def G1 : List (Str × PV) := [("_MOVE_COST", .int 2), ("_CASE_COST", .int 1), ("_MAX_STRING_SIZE", .int 40), ("len", .top (.builtin "len")), ("min", .top (.builtin "min")), ("max", .top (.builtin "max")), ("sorted", .top (.builtin "sorted")), ("range", .top (.type "range")), ("list", .top (.type "list")), ("int", .top (.type "int")),
  ("type", .top (.type "type")), ("str", .top (.type "str")), ("zip", .top (.type "zip")), ("_name_disallowed_re", .top (.ref 69)), ("_value_disallowed_re", .top (.ref 74)), ("_formatparam", .top (.ref 82)),
  ("_substitution_cost", .top (.ref 45)), ("_strcoll", .top (.ref 59)), ("_levenshtein_distance", .top (.ref 52)), ("Headers", .top (.ref 203)),
  ("_law_word", .top (.ref 214)), ("_law_under", .top (.ref 221)), ("_law_seat", .top (.ref 228)), ("_law_chains", .top (.ref 233)), ("_law_only_adds", .top (.ref 240)), ("_law_width", .top (.ref 245))]
noncomputable def cfOf (G : List (Str × PV)) (fd : FuncData) (ps : List Str) : Option CF :=
  match ps.mapM (mv (gmFn fd.scope)), seqS ((stmtsOf fd.body).map (cS G 40 (gmFn fd.scope))) with
  | some pms, some mb => some ⟨(namesOf .local fd.scope.names).length, (namesOf .cell fd.scope.names).length, pms, mb⟩
  | _, _ => none
noncomputable def cfGet (G : List (Str × PV)) (fd : FuncData) (ps : List Str) : CF := (cfOf G fd ps).getD ⟨0, 0, [], .nil⟩
set_option tactic.hygienic true in
theorem cfOk_of {G : List (Str × PV)} {fd : FuncData} {ps : List Str} (hb : blockOk fd.scope.names = true) (h : (cfOf G fd ps).isSome = true) : CfOk G fd ps (cfGet G fd ps) := by
  unfold cfGet
  obtain ⟨c, hc⟩ := Option.isSome_iff_exists.mp h
  refine Eq.symm (hc) ▸ ?_
  unfold cfOf at hc
  split at hc
  · rename_i pms mb h1 h2
    obtain rfl := smi hc
    exact ⟨hb, rfl, rfl, h1, 40, h2⟩
  · exact nsm hc
theorem g1_ok (P : Params) : G1.all (gOk (K1 P)) = true := by kernel_rfl
structure Plain (K : Params → W.Frag) (G : List (Str × PV)) (fa : Addr) (ps : List Str) : Prop where
  look : ∀ P, (K P).lookup fa = some ⟨.type "function", none, .func (fdIn K fa), #[]⟩
  ok : ∀ P, fnOk (K P) (fdIn K fa) = true
  keep : ∀ P, W.keepIn (K P) (.ref fa) = true
  cf : CfOk G (fdIn K fa) ps (cfGet G (fdIn K fa) ps)
theorem pl_59 : Plain K1 G1 59 ["a", "b"] := ⟨fun P => by kernel_rfl, fun P => by kernel_rfl, fun P => by kernel_rfl, cfOk_of (by decide +kernel) (by decide +kernel)⟩
theorem pl_45 : Plain K1 G1 45 ["ch_a", "ch_b"] := ⟨fun P => by kernel_rfl, fun P => by kernel_rfl, fun P => by kernel_rfl, cfOk_of (by decide +kernel) (by decide +kernel)⟩
theorem pl_52 : Plain K1 G1 52 ["a", "b", "max_cost"] := ⟨fun P => by kernel_rfl, fun P => by kernel_rfl, fun P => by kernel_rfl, cfOk_of (by decide +kernel) (by decide +kernel)⟩
theorem pl_214 : Plain K1 G1 214 ["number"] := ⟨fun P => by kernel_rfl, fun P => by kernel_rfl, fun P => by kernel_rfl, cfOk_of (by decide +kernel) (by decide +kernel)⟩
theorem pl_221 : Plain K1 G1 221 ["words", "ranks"] := ⟨fun P => by kernel_rfl, fun P => by kernel_rfl, fun P => by kernel_rfl, cfOk_of (by decide +kernel) (by decide +kernel)⟩
theorem pl_228 : Plain K1 G1 228 ["table", "under", "high", "tried"] := ⟨fun P => by kernel_rfl, fun P => by kernel_rfl, fun P => by kernel_rfl, cfOk_of (by decide +kernel) (by decide +kernel)⟩
theorem pl_240 : Plain K1 G1 240 ["row"] := ⟨fun P => by kernel_rfl, fun P => by kernel_rfl, fun P => by kernel_rfl, cfOk_of (by decide +kernel) (by decide +kernel)⟩
theorem pl_245 : Plain K1 G1 245 ["sets"] := ⟨fun P => by kernel_rfl, fun P => by kernel_rfl, fun P => by kernel_rfl, cfOk_of (by decide +kernel) (by decide +kernel)⟩
theorem pl_97 : Plain K1 G1 97 ["self", "headers"] := ⟨fun P => by kernel_rfl, fun P => by kernel_rfl, fun P => by kernel_rfl, cfOk_of (by decide +kernel) (by decide +kernel)⟩
theorem pl_104 : Plain K1 G1 104 ["self", "value", "name"] := ⟨fun P => by kernel_rfl, fun P => by kernel_rfl, fun P => by kernel_rfl, cfOk_of (by decide +kernel) (by decide +kernel)⟩
theorem pl_142 : Plain K1 G1 142 ["self", "name"] := ⟨fun P => by kernel_rfl, fun P => by kernel_rfl, fun P => by kernel_rfl, cfOk_of (by decide +kernel) (by decide +kernel)⟩
theorem pl_150 : Plain K1 G1 150 ["self", "name", "default"] := ⟨fun P => by kernel_rfl, fun P => by kernel_rfl, fun P => by kernel_rfl, cfOk_of (by decide +kernel) (by decide +kernel)⟩
theorem pl_155 : Plain K1 G1 155 ["self"] := ⟨fun P => by kernel_rfl, fun P => by kernel_rfl, fun P => by kernel_rfl, cfOk_of (by decide +kernel) (by decide +kernel)⟩
theorem pl_167 : Plain K1 G1 167 ["self"] := ⟨fun P => by kernel_rfl, fun P => by kernel_rfl, fun P => by kernel_rfl, cfOk_of (by decide +kernel) (by decide +kernel)⟩
noncomputable def cf (a : Addr) (ps : List Str) : CF := cfGet G1 (fdIn K1 a) ps
noncomputable def Ta : Tab := addFn (addFn (addFn T0 59 (pureFn T0 (cf 59 ["a", "b"]) 2)) 45 (pureFn T0 (cf 45 ["ch_a", "ch_b"]) 2)) 214 (pureFn T0 (cf 214 ["number"]) 1)
noncomputable def Tb : Tab := addFn Ta 52 (pureFn Ta (cf 52 ["a", "b", "max_cost"]) 3)
section
variable {prog : Program} {w : World} {h₀ : Heap} {P : Params}
theorem Plain.fn {K : Params → W.Frag} {G : List (Str × PV)} {fa : Addr} {ps : List Str} (p : Plain K G fa ps) (X : (K P).In h₀) (hl : h₀.NoLimit) : FnOk h₀ fa (fdIn K fa) (stmtsOf (fdIn K fa).body) := fnOk_of X hl (p.look P) (p.ok P)
theorem wd_a (X : (K1 P).In h₀) (hl : h₀.NoLimit) (Gl : Globs h₀ G1) : Wd prog w h₀ G1 Ta 1 := by
  have D0 : Wd prog w h₀ G1 T0 1 := wd0 Gl 1
  refine addFn_wd (addFn_wd (addFn_wd D0 (kept_fn X (pl_59.keep P)) ?_) (kept_fn X (pl_45.keep P)) ?_) (kept_fn X (pl_214.keep P)) ?_
  · exact pure_sound (wd0 Gl 0) (pl_59.fn X hl) pl_59.cf (fun us hu => by obtain ⟨a, b, rfl⟩ := len2 hu; kernel_rfl)
  · exact pure_sound (wd0 Gl 0) (pl_45.fn X hl) pl_45.cf (fun us hu => by obtain ⟨a, b, rfl⟩ := len2 hu; kernel_rfl)
  · exact pure_sound (wd0 Gl 0) (pl_214.fn X hl) pl_214.cf (fun us hu => by obtain ⟨a, rfl⟩ := len1 hu; kernel_rfl)
theorem wd_b (X : (K1 P).In h₀) (hl : h₀.NoLimit) (Gl : Globs h₀ G1) : Wd prog w h₀ G1 Tb 2 := by
  refine addFn_wd ((wd_a X hl Gl).up (by decide)) (kept_fn X (pl_52.keep P)) ?_
  · exact pure_sound (wd_a X hl Gl) (pl_52.fn X hl) pl_52.cf (fun us hu => by obtain ⟨a, b, c, rfl⟩ := len3 hu; kernel_rfl)
end
end Mine
end
section
namespace Mine
open PySem PyProof.Rows
theorem bind_104 (a b c : Value) : bindArgs (fdIn K1 104) ⟨[a, b], [(("name" : Str), c)]⟩ = pure ([("self", a), ("value", b), ("name", c)] : List (Str × Value)) := by kernel_rfl
noncomputable def packB (fd : FuncData) (us : List Value) : { k : Option (Array Value) → Sem (List (Str × Value)) // bindArgs fd ⟨us, []⟩ = seqItems? fd.defaults >>= k } := ⟨_, rfl⟩
section
variable {s : Shared} {P : Params}
theorem bind_97 (X : (K1 P).In s.heap) (a : Value) : BindsTo s (fdIn K1 97) ⟨[a], []⟩ [("self", a), ("headers", .none)] :=
  W.binds_K (T := 90) (o := { cls := .type "tuple", data := .seq #[.none] }) (items := #[.none]) X (by kernel_rfl) (by kernel_rfl) rfl (packB (fdIn K1 97) [a]).2 (by kernel_rfl)
theorem bind_150 (X : (K1 P).In s.heap) (a b : Value) : BindsTo s (fdIn K1 150) ⟨[a, b], []⟩ [("self", a), ("name", b), ("default", .none)] :=
  W.binds_K (T := 143) (o := { cls := .type "tuple", data := .seq #[.none] }) (items := #[.none]) X (by kernel_rfl) (by kernel_rfl) rfl (packB (fdIn K1 150) [a, b]).2 (by kernel_rfl)
end
section
variable {prog : Program} {w : World} {h₀ : Heap} {P : Params}
noncomputable def bdD (n : Nat) (vs : List PV) (kvs : List (Str × PV)) : Option (List PV) := if kvs.isEmpty && decide (vs.length = n) then some (vs ++ [.none]) else none
theorem bdD_ok {fd : FuncData} {ps : List Str} {n : Nat} (hn : ps.length = n + 1)
    (hb : ∀ (s : Shared) (us : List Value), (∀ b o, h₀.get? b = some o → s.heap.get? b = some o) → us.length = n → BindsTo s fd ⟨us, []⟩ (ps.zip (us ++ [.none]))) : BindOk prog w h₀ fd ps (bdD n) := by
  intro vs kvs ws hw A s φ σ us kus I r rk
  unfold bdD at hw
  split at hw
  · rename_i hc
    obtain rfl := smi hw
    simp only [Bool.and_eq_true, List.isEmpty_iff, decide_eq_true_eq] at hc
    obtain ⟨rfl, hl⟩ := hc
    cases rk with | nil =>
    have hu : us.length = n := by rw [← r.length]; exact hl
    refine hb s us I.base hu _ _ _ _ ⟨_, _, rfl, φ, Step.refl _ _ _, I, ?_, ?_⟩
    · exact List.map_fst_zip (by simp; omega)
    · rw [List.map_snd_zip (by simp; omega)]; exact r.append (.cons .none .nil)
  · exact nsm hw
noncomputable def bdK (n : Nat) (x : Str) (vs : List PV) (kvs : List (Str × PV)) : Option (List PV) := match kvs with
  | [(y, v)] => if y = x ∧ vs.length = n then some (vs ++ [v]) else none
  | _ => none
set_option tactic.hygienic true in
theorem bdK_ok {fd : FuncData} {ps : List Str} {n : Nat} {x : Str} (hn : ps.length = n + 1)
    (hb : ∀ (us : List Value) (u : Value), us.length = n → bindArgs fd ⟨us, [(x, u)]⟩ = pure (ps.zip (us ++ [u]))) : BindOk prog w h₀ fd ps (bdK n x) := by
  intro vs kvs ws hw A s φ σ us kus I r rk
  unfold bdK at hw
  split at hw
  · rename_i y v
    split at hw
    · rename_i hc
      obtain rfl := smi hw
      obtain ⟨rfl, hl⟩ := hc
      cases rk with | cons q rk =>
      cases rk with | nil =>
      rename_i u
      have hu : us.length = n := by rw [← r.length]; exact hl
      refine Eq.symm (hb us u hu) ▸ ?_
      refine W.pure ⟨φ, Step.refl _ _ _, I, ?_, ?_⟩
      · exact List.map_fst_zip (by simp; omega)
      · rw [List.map_snd_zip (by simp; omega)]; exact r.append (.cons q .nil)
    · exact nsm hw
  · exact nsm hw
theorem bo_104 : BindOk prog w h₀ (fdIn K1 104) ["self", "value", "name"] (bdK 2 "name") :=
  bdK_ok rfl fun us u hu => by obtain ⟨a, b, rfl⟩ := len2 hu; exact bind_104 a b u
theorem bo_97 (X : (K1 P).In h₀) : BindOk prog w h₀ (fdIn K1 97) ["self", "headers"] (bdD 1) :=
  bdD_ok rfl fun s us k hu => by obtain ⟨a, rfl⟩ := len1 hu; exact bind_97 (X.keeps k) a
theorem bo_150 (X : (K1 P).In h₀) : BindOk prog w h₀ (fdIn K1 150) ["self", "name", "default"] (bdD 2) :=
  bdD_ok rfl fun s us k hu => by obtain ⟨a, b, rfl⟩ := len2 hu; exact bind_150 (X.keeps k) a b
theorem bo_142 : BindOk prog w h₀ (fdIn K1 142) ["self", "name"] (bdN 2) := bdN_ok (ps := ["self", "name"]) fun us hu => by obtain ⟨a, b, rfl⟩ := len2 hu; kernel_rfl
theorem bo_155 : BindOk prog w h₀ (fdIn K1 155) ["self"] (bdN 1) := bdN_ok (ps := ["self"]) fun us hu => by obtain ⟨a, rfl⟩ := len1 hu; kernel_rfl
theorem bo_167 : BindOk prog w h₀ (fdIn K1 167) ["self"] (bdN 1) := bdN_ok (ps := ["self"]) fun us hu => by obtain ⟨a, rfl⟩ := len1 hu; kernel_rfl
theorem bo_221 : BindOk prog w h₀ (fdIn K1 221) ["words", "ranks"] (bdN 2) := bdN_ok (ps := ["words", "ranks"]) fun us hu => by obtain ⟨a, b, rfl⟩ := len2 hu; kernel_rfl
theorem bo_228 : BindOk prog w h₀ (fdIn K1 228) ["table", "under", "high", "tried"] (bdN 4) := bdN_ok (ps := ["table", "under", "high", "tried"]) fun us hu => by obtain ⟨a, b, c, d, rfl⟩ := len4 hu; kernel_rfl
theorem bo_240 : BindOk prog w h₀ (fdIn K1 240) ["row"] (bdN 1) := bdN_ok (ps := ["row"]) fun us hu => by obtain ⟨a, rfl⟩ := len1 hu; kernel_rfl
theorem bo_245 : BindOk prog w h₀ (fdIn K1 245) ["sets"] (bdN 1) := bdN_ok (ps := ["sets"]) fun us hu => by obtain ⟨a, rfl⟩ := len1 hu; kernel_rfl
end
end Mine
end
section
namespace Mine
open PySem PyProof.Rows
noncomputable def objN (P : Params) : Obj := ((K1 P).lookup 202).getD default
noncomputable def objC (P : Params) : Obj := ((K1 P).lookup 203).getD default
theorem look_191 (P : Params) : (K1 P).lookup 202 = some (objN P) := by kernel_rfl
theorem look_192 (P : Params) : (K1 P).lookup 203 = some (objC P) := by kernel_rfl
theorem look_192' (P : Params) : (K1 P).lookup 203 = some (excClassObj "Headers" "Headers" 203 202 [.type "object"] [.type "object"] true [] [] false none none none none (some (.str "Headers" 441)) (some (.str "Headers" 449)) (some (.bool true)) "object.__new__") := by kernel_rfl
noncomputable def isNsO (o : Obj) : Bool := match o.data with | .dict es _ => es.all (fun e => match e.key with | .str _ _ => true | _ => false) | _ => false
noncomputable def nsO (o : Obj) (x : Str) : Option Value := match o.data with | .dict es _ => nsFind es x | _ => none
theorem isNs_191 (P : Params) : isNsO (objN P) = true := by kernel_rfl
section
variable {prog : Program} {w : World} {h₀ : Heap} {P : Params}
theorem ns_191 (X : (K1 P).In h₀) : h₀.Ns 202 (nsO (objN P)) := by
  have e := X 202 _ (look_191 P)
  have h : h₀.isNs 202 = true := by unfold Heap.isNs; rw [e]; exact isNs_191 P
  have := Heap.Ns.of_isNs h
  have e2 : h₀.nsMap 202 = nsO (objN P) := by funext x; unfold Heap.nsMap; rw [e]; rfl
  rwa [e2] at this
theorem cls_192 (X : (K1 P).In h₀) : ClsAt h₀ 203 202 (nsO (objN P)) := ⟨⟨_, _, _, _, _, _, _, _, _, _, _, _, X 203 _ (look_192' P)⟩, ns_191 X⟩
theorem mth_of (X : (K1 P).In h₀) {x : Str} {f : Addr} {o : Obj} (h1 : nsO (objN P) x = some (.ref f)) (h2 : (K1 P).lookup f = some o) (h3 : o.cls = .type "function") {y : Option Value} (h4 : typeLookup (.type "object") x = pure y) : MthOk h₀ 203 x f where
  cls := ⟨202, _, cls_192 X, by kernel_rfl, by kernel_rfl, h1⟩
  fn := ⟨o, X f _ h2, h3⟩
  obj := ⟨y, h4⟩
theorem at_headers (X : (K1 P).In h₀) : ClsOk h₀ 203 "_headers" where
  cls := ⟨202, _, cls_192 X, by kernel_rfl, by kernel_rfl, by kernel_rfl⟩
  obj := by rw [typeLookup_type, builtinLookup_eq_fast]; kernel_rfl
theorem lk_97 : typeLookup (.type "object") "__init__" = pure (some (.builtin "object.__init__")) := by rw [typeLookup_type, builtinLookup_eq_fast]; kernel_rfl
theorem mth_97 (X : (K1 P).In h₀) : MthOk h₀ 203 "__init__" 97 := mth_of X (by kernel_rfl) (pl_97.look P) rfl lk_97
theorem lk_104 : typeLookup (.type "object") "_convert_string_type" = pure (none) := by rw [typeLookup_type, builtinLookup_eq_fast]; kernel_rfl
theorem mth_104 (X : (K1 P).In h₀) : MthOk h₀ 203 "_convert_string_type" 104 := mth_of X (by kernel_rfl) (pl_104.look P) rfl lk_104
theorem lk_142 : typeLookup (.type "object") "get_all" = pure (none) := by rw [typeLookup_type, builtinLookup_eq_fast]; kernel_rfl
theorem mth_142 (X : (K1 P).In h₀) : MthOk h₀ 203 "get_all" 142 := mth_of X (by kernel_rfl) (pl_142.look P) rfl lk_142
theorem lk_150 : typeLookup (.type "object") "get" = pure (none) := by rw [typeLookup_type, builtinLookup_eq_fast]; kernel_rfl
theorem mth_150 (X : (K1 P).In h₀) : MthOk h₀ 203 "get" 150 := mth_of X (by kernel_rfl) (pl_150.look P) rfl lk_150
theorem lk_155 : typeLookup (.type "object") "keys" = pure (none) := by rw [typeLookup_type, builtinLookup_eq_fast]; kernel_rfl
theorem mth_155 (X : (K1 P).In h₀) : MthOk h₀ 203 "keys" 155 := mth_of X (by kernel_rfl) (pl_155.look P) rfl lk_155
theorem lk_167 : typeLookup (.type "object") "items" = pure (none) := by rw [typeLookup_type, builtinLookup_eq_fast]; kernel_rfl
theorem mth_167 (X : (K1 P).In h₀) : MthOk h₀ 203 "items" 167 := mth_of X (by kernel_rfl) (pl_167.look P) rfl lk_167
theorem look_200 (P : Params) : (K1 P).lookup 200 = some ⟨.type "function", none, .func (fdIn K1 200), #[]⟩ := by kernel_rfl
theorem lk_200 : typeLookup (.type "object") "add_header" = pure (none) := by rw [typeLookup_type, builtinLookup_eq_fast]; kernel_rfl
theorem mth_200 (X : (K1 P).In h₀) : MthOk h₀ 203 "add_header" 200 := mth_of X (by kernel_rfl) (look_200 P) rfl lk_200
theorem look_118 (P : Params) : (K1 P).lookup 118 = some ⟨.type "function", none, .func (fdIn K1 118), #[]⟩ := by kernel_rfl
theorem lk_118 : typeLookup (.type "object") "__setitem__" = pure (none) := by rw [typeLookup_type, builtinLookup_eq_fast]; kernel_rfl
theorem mth_118 (X : (K1 P).In h₀) : MthOk h₀ 203 "__setitem__" 118 := mth_of X (by kernel_rfl) (look_118 P) rfl lk_118
theorem look_123 (P : Params) : (K1 P).lookup 123 = some ⟨.type "function", none, .func (fdIn K1 123), #[]⟩ := by kernel_rfl
theorem lk_123 : typeLookup (.type "object") "__delitem__" = pure (none) := by rw [typeLookup_type, builtinLookup_eq_fast]; kernel_rfl
theorem mth_123 (X : (K1 P).In h₀) : MthOk h₀ 203 "__delitem__" 123 := mth_of X (by kernel_rfl) (look_123 P) rfl lk_123
end
end Mine
end
section
namespace Mine
open PySem PyProof.Rows PySem.Builtin PySem.Builtin.Re
noncomputable def isNo {α β : Type} : Except α (Bool × β) → Bool
  | .ok (false, _) => true
  | _ => false
theorem isNo_ok {α β : Type} {x : Except α (Bool × β)} (h : isNo x = true) : ∃ s, x = .ok (false, s) := by
  unfold isNo at h
  split at h
  · exact ⟨_, rfl⟩
  · exact absurd h (by decide)
noncomputable def codeAt (a : Addr) : Array Value := match (K1 P0).lookup a with | some ⟨_, _, .seq vs _, _⟩ => vs | _ => #[]
noncomputable def allNo (code : Array Nat) (seen : Sre.Seen) : Bool := (List.range 95).all fun k => isNo (Sre.inSet code (32 + k) code.size 5 true seen)
theorem setNo_of {code : Array Nat} (h : ∀ seen, allNo code seen = true) (c : Nat) (h1 : 32 ≤ c) (h2 : c < 127) : setNo code c := by
  intro seen
  have := h seen
  unfold allNo at this
  rw [List.all_eq_true] at this
  have := this (c - 32) (List.mem_range.mpr (by omega))
  have e : 32 + (c - 32) = c := by omega
  rw [e] at this
  exact isNo_ok this
theorem no_68 (seen : Sre.Seen) : allNo (((codeAt 68).map reRawOf).map (·.toNat)) seen = true := by kernel_rfl
theorem no_73 (seen : Sre.Seen) : allNo (((codeAt 73).map reRawOf).map (·.toNat)) seen = true := by kernel_rfl
section
variable {prog : Program} {w : World} {h₀ : Heap} {P : Params}
theorem look_68 (P : Params) : (K1 P).lookup 68 = some { cls := .type "tuple", data := .seq (codeAt 68) } := by kernel_rfl
theorem look_73 (P : Params) : (K1 P).lookup 73 = some { cls := .type "tuple", data := .seq (codeAt 73) } := by kernel_rfl
theorem look_69 (P : Params) : (K1 P).lookup 69 = some { cls := .type "re.Pattern", dict := none, data := .fields #[.str "[\\x00-\\x1F\\x7F]" 372, .int 32 395, .int 0 0, .none, .none, .ref 68, .int 0 0], slots := #[] } := by kernel_rfl
theorem look_74 (P : Params) : (K1 P).lookup 74 = some { cls := .type "re.Pattern", dict := none, data := .fields #[.str "[\\x00-\\x08\\x0A-\\x1F\\x7F]" 398, .int 32 429, .int 0 0, .none, .none, .ref 73, .int 0 0], slots := #[] } := by kernel_rfl
theorem pat_69 (X : (K1 P).In h₀) : Pat h₀ 69 := ⟨⟨_, _, 68, _, _, _, X 69 _ (look_69 P), X 68 _ (look_68 P), rfl, by kernel_rfl, setNo_of no_68⟩⟩
theorem pat_74 (X : (K1 P).In h₀) : Pat h₀ 74 := ⟨⟨_, _, 73, _, _, _, X 74 _ (look_74 P), X 73 _ (look_73 P), rfl, by kernel_rfl, setNo_of no_73⟩⟩
noncomputable def cl (T : Tab) (a : Addr) (ps : List Str) (bd : List PV → List (Str × PV) → Option (List PV)) (more : Nat) := callFn T (cf a ps) bd more
noncomputable def Tr : Tab := addMt (addAt (addRe Tb [69, 74]) 203 "_headers") 203 "_convert_string_type" 104
noncomputable def Tc : Tab := addFn Tr 104 (cl Tr 104 ["self", "value", "name"] (bdK 2 "name") 0)
theorem wd_r (X : (K1 P).In h₀) (hl : h₀.NoLimit) (Gl : Globs h₀ G1) : Wd prog w h₀ G1 Tr 2 :=
  addMt_wd (addAt_wd (addRe_wd (wd_b X hl Gl) (fun a ha => by
    simp only [List.mem_cons, List.not_mem_nil, or_false] at ha
    rcases ha with rfl | rfl
    · exact pat_69 X
    · exact pat_74 X)) (at_headers X)) (mth_104 X)
theorem wd_c (X : (K1 P).In h₀) (hl : h₀.NoLimit) (Gl : Globs h₀ G1) : Wd prog w h₀ G1 Tc 3 :=
  addFn_wd ((wd_r X hl Gl).up (by decide)) (kept_fn X (pl_104.keep P)) (callFn_sound (wd_r X hl Gl) (pl_104.fn X hl) pl_104.cf 0 bo_104)
end
end Mine
end
section
namespace Mine
open PySem PyProof.Rows
noncomputable def sT : Stmt → Expr | .For t _ _ _ _ => t | _ => .Name "" p00
noncomputable def sI : Stmt → Expr | .For _ i _ _ _ => i | _ => .Name "" p00
noncomputable def sB : Stmt → List Stmt | .For _ _ b _ _ => b | _ => []
noncomputable def sP : Stmt → Pos | .For _ _ _ _ p => p | _ => p00
noncomputable def tE : Expr → List Expr | .Tuple es _ _ => es | _ => []
noncomputable def tN : Expr → Nat | .Tuple _ n _ => n | _ => 0
noncomputable def tP : Expr → Pos | .Tuple _ _ p => p | _ => p00
noncomputable def nP : Expr → Pos | .Name _ p => p | _ => p00
noncomputable def cF : Expr → Expr | .Call f _ _ _ => f | _ => .Name "" p00
noncomputable def cP : Expr → Pos | .Call _ _ _ p => p | _ => p00
noncomputable def aO : Expr → Expr | .Attribute o _ _ => o | _ => .Name "" p00
noncomputable def aP : Expr → Pos | .Attribute _ _ p => p | _ => p00
noncomputable abbrev fdA : FuncData := fdIn K1 200
noncomputable abbrev gmA : Gm := gmFn fdA.scope
noncomputable def hdB : List Stmt := stmtsOf fdA.body
noncomputable def hd1 : List Stmt := hdB.take 2
noncomputable def hd2 : List Stmt := hdB.drop 3
noncomputable def hdS : Stmt := match hdB.drop 2 with | s :: _ => s | [] => .Pass ⟨0, 0, 0, 0⟩
theorem hdB_eq : hdB = hd1 ++ hdS :: hd2 := by
  have h : hdB.drop 2 = hdS :: hd2 := by kernel_rfl
  unfold hd1
  rw [← h, List.take_append_drop]
theorem hdS_eq : hdS = .For (.Tuple [.Name "k" (nP ((tE (sT hdS)).getD 0 (.Name "" p00))), .Name "v" (nP ((tE (sT hdS)).getD 1 (.Name "" p00)))] (tN (sT hdS)) (tP (sT hdS)))
    (.Call (.Attribute (.Name "_params" (nP (aO (cF (sI hdS))))) "items" (aP (cF (sI hdS)))) [] [] (cP (sI hdS))) (sB hdS) [] (sP hdS) := by kernel_rfl
theorem hdS_line : ((aP (cF (sI hdS))).endLine == (cP (sI hdS)).line) = true := by kernel_rfl
theorem gmA_k : gmA.names.lookup ("k" : Str) = some .local := by decide +kernel
theorem gmA_v : gmA.names.lookup ("v" : Str) = some .local := by decide +kernel
noncomputable def locAt : Option MV → Option Nat
  | some (.loc i) => some i
  | _ => none
noncomputable def ipA : Nat := (locAt (mv gmA "_params")).getD 0
theorem gmA_p : mv gmA "_params" = some (.loc ipA) := by kernel_rfl
noncomputable def cfA2 (G : List (Str × PV)) (fd : FuncData) (ps : List Str) (b1 b2 : List Stmt) : Option (CF × MSs) :=
  match ps.mapM (mv (gmFn fd.scope)), seqS (b1.map (cS G 40 (gmFn fd.scope))), seqS (b2.map (cS G 40 (gmFn fd.scope))) with
  | some pms, some m1, some m2 => some (⟨(namesOf .local fd.scope.names).length, (namesOf .cell fd.scope.names).length, pms, m1⟩, m2)
  | _, _, _ => none
noncomputable def psA : List Str := ["self", "_name", "_value", "_params"]
noncomputable def cA : CF × MSs := (cfA2 G1 fdA psA hd1 hd2).getD (⟨0, 0, [], .nil⟩, .nil)
theorem cA_some : (cfA2 G1 fdA psA hd1 hd2).isSome = true := by decide +kernel
set_option tactic.hygienic true in
theorem cA_ok : psA.mapM (mv gmA) = some cA.1.pms ∧ seqS (hd1.map (cS G1 40 gmA)) = some cA.1.mb ∧ seqS (hd2.map (cS G1 40 gmA)) = some cA.2 ∧ cA.1.nl = (namesOf .local fdA.scope.names).length ∧ cA.1.nc = (namesOf .cell fdA.scope.names).length := by
  unfold cA
  obtain ⟨c, hc⟩ := Option.isSome_iff_exists.mp cA_some
  refine Eq.symm (hc) ▸ ?_
  unfold cfA2 at hc
  split at hc
  · rename_i pms m1 m2 h1 h2 h3
    obtain rfl := smi hc
    exact ⟨h1, h2, h3, rfl, rfl⟩
  · exact nsm hc
theorem bkA : blockOk fdA.scope.names = true := by decide +kernel
theorem bindA (a b c : Value) : bindArgs fdA ⟨[a, b, c], []⟩ = (PySem.alloc emptyD >>= fun d => pure ([("self", a), ("_name", b), ("_value", c), ("_params", .ref d)] : List (Str × Value))) := by kernel_rfl
theorem okA (P : Params) : fnOk (K1 P) fdA = true := by kernel_rfl
theorem keepA (P : Params) : W.keepIn (K1 P) (.ref 200) = true := by kernel_rfl
section
variable {prog : Program} {w : World} {h₀ : Heap} {P : Params} {T : Tab} {d : Nat}
theorem idleA (X : (K1 P).In h₀) : IdleOk prog w h₀ gmA ipA hdS := by
  intro A env fm s φ σ a d R E hρ he hlow hne I F
  refine Eq.symm (hdS_eq) ▸ ?_
  have h182 : (203 : Nat) < h₀.objs.size := Heap.lt_size (X 203 _ (look_192 P))
  refine idle_sound R E gmA_p (by decide) gmA_k gmA_v hρ he ?_ hne (by decide) hdS_line I F rfl (fun _ => rfl)
  have : sysModules = 1 := rfl
  have h2 : sysModules < a := Nat.lt_of_lt_of_le (Nat.lt_trans (show (1 : Nat) < 203 by decide) h182) hlow
  rw [beq_eq_false_iff_ne]
  exact Nat.ne_of_gt h2
theorem addA_sound (D : Wd prog w h₀ G1 T d) (X : (K1 P).In h₀) (hl : h₀.NoLimit) {f : List PV → List (Str × PV) → M PV}
    (hf : ∀ vs kvs σ v σ', f vs kvs σ = some (v, σ') → kvs = [] ∧ vs.length = 3 ∧ ∀ a, runIdle T cA.1.nl cA.1.nc cA.1.pms cA.1.mb cA.2 ipA a vs σ = some (v, σ')) : FnSnd prog w h₀ (d + 1) 200 f := by
  intro vs kvs σ v σ' hv A s φ us kus R I r rk
  obtain ⟨rfl, hn, hr⟩ := hf _ _ _ _ _ hv
  cases rk with | nil =>
  obtain ⟨h1, h2, h3, h4, h5⟩ := cA_ok
  rw [h4, h5] at hr
  have K : FnOk h₀ 200 fdA (hd1 ++ hdS :: hd2) := by
    have := fnOk_of X hl (look_200 P) (okA P)
    rw [← hdB_eq]; exact this
  refine idle_run D R K bkA h1 h2 h3 (idleA X) hr I ?_
  have hu : us.length = 3 := by rw [← r.length]; exact hn
  obtain ⟨u1, u2, u3, rfl⟩ := len3 hu
  · rw [bindA]
    refine wpAny_bind (wpAny_alloc (wpAny_pure ?_))
    have x := Ext.push s.heap emptyD
    refine ⟨_, _, rfl, s.heap.objs.size, ⟨x.step, I.ext0 x⟩, Heap.get?_push_size _ rfl, I.sz, I.fresh (Nat.le_refl _), rfl, ?_⟩
    exact (r.mono x.grow).append (.cons (.top _) .nil)
end
end Mine
end
section
namespace Mine
open PySem PyProof.Rows
noncomputable def sAt (a : Addr) (k : Nat) : Stmt := nthS (stmtsOf (fdIn K1 a).body) k
noncomputable def lT : Stmt → Expr | .Assign [t] _ _ => t | .Delete [t] _ => t | _ => .Name "" p00
noncomputable def lV : Stmt → Expr | .Assign _ v _ => v | _ => .Name "" p00
noncomputable def lP : Stmt → Pos | .Assign _ _ p => p | .Delete _ p => p | _ => p00
noncomputable def uO : Expr → Expr | .Subscript o _ _ => o | _ => .Name "" p00
noncomputable def uI : Expr → Expr | .Subscript _ i _ => i | _ => .Name "" p00
noncomputable def uP : Expr → Pos | .Subscript _ _ p => p | .Slice _ _ _ p => p | .ListComp _ _ _ p => p | _ => p00
noncomputable def mE : Expr → Expr | .ListComp e _ _ _ => e | _ => .Name "" p00
noncomputable def mG : Expr → List Comprehension | .ListComp _ g _ _ => g | _ => []
noncomputable def mS : Expr → Scope | .ListComp _ _ s _ => s | _ => default
theorem s123 : sAt 123 1 = .Assign [.Subscript (uO (lT (sAt 123 1))) (.Slice none none none (uP (uI (lT (sAt 123 1))))) (uP (lT (sAt 123 1)))] (.ListComp (mE (lV (sAt 123 1))) (mG (lV (sAt 123 1))) (mS (lV (sAt 123 1))) (uP (lV (sAt 123 1)))) (lP (sAt 123 1)) := by kernel_rfl
theorem s118 : sAt 118 0 = .Delete [.Subscript (uO (lT (sAt 118 0))) (uI (lT (sAt 118 0))) (uP (lT (sAt 118 0)))] (lP (sAt 118 0)) := by kernel_rfl
noncomputable abbrev gm (a : Addr) : Gm := gmFn (fdIn K1 a).scope
noncomputable def meAt (a : Addr) (e : Expr) : ME := (cE G1 40 (gm a) e).getD (.cst .none)
theorem me_of {a : Addr} {e : Expr} (h : (cE G1 40 (gm a) e).isSome = true) : cE G1 40 (gm a) e = some (meAt a e) := by
  unfold meAt
  obtain ⟨c, hc⟩ := Option.isSome_iff_exists.mp h
  rw [hc]; rfl
noncomputable def o123 : ME := meAt 123 (uO (lT (sAt 123 1)))
noncomputable def e123 : ME := meAt 123 (.ListComp (mE (lV (sAt 123 1))) (mG (lV (sAt 123 1))) (mS (lV (sAt 123 1))) (uP (lV (sAt 123 1))))
noncomputable def o118 : ME := meAt 118 (uO (lT (sAt 118 0)))
noncomputable def i118 : ME := meAt 118 (uI (lT (sAt 118 0)))
theorem o123_ok : cE G1 40 (gm 123) (uO (lT (sAt 123 1))) = some o123 := me_of (by decide +kernel)
theorem e123_ok : cE G1 40 (gm 123) (.ListComp (mE (lV (sAt 123 1))) (mG (lV (sAt 123 1))) (mS (lV (sAt 123 1))) (uP (lV (sAt 123 1)))) = some e123 := me_of (by decide +kernel)
theorem o118_ok : cE G1 40 (gm 118) (uO (lT (sAt 118 0))) = some o118 := me_of (by decide +kernel)
theorem i118_ok : cE G1 40 (gm 118) (uI (lT (sAt 118 0))) = some i118 := me_of (by decide +kernel)
noncomputable def cf' (a : Addr) (ps : List Str) (k : Nat) : CF × MSs := cf2Get G1 (fdIn K1 a) ps k
theorem cf_123 : Cf2Ok G1 (fdIn K1 123) ["self", "name"] 1 (cf' 123 ["self", "name"] 1).1 (cf' 123 ["self", "name"] 1).2 := cf2_of (by decide +kernel) (by decide +kernel)
theorem cf_118 : Cf2Ok G1 (fdIn K1 118) ["self", "name", "val"] 0 (cf' 118 ["self", "name", "val"] 0).1 (cf' 118 ["self", "name", "val"] 0).2 := cf2_of (by decide +kernel) (by decide +kernel)
noncomputable def del123 (T : Tab) (vs : List PV) (kvs : List (Str × PV)) : M PV := match bdN 2 vs kvs with
  | some ws => runSp T (cf' 123 ["self", "name"] 1).1 (slcF T o123 e123) (cf' 123 ["self", "name"] 1).2 ws
  | none => fail
noncomputable def set118 (T : Tab) (F : List PV → List (Str × PV) → M PV) (vs : List PV) (kvs : List (Str × PV)) : M PV := match bdN 3 vs kvs with
  | some ws => runSp T (cf' 118 ["self", "name", "val"] 0).1 (delF T 203 F o118 i118) (cf' 118 ["self", "name", "val"] 0).2 ws
  | none => fail
section
variable {prog : Program} {w : World} {h₀ : Heap} {P : Params} {T : Tab} {d : Nat}
theorem bo_123 : BindOk prog w h₀ (fdIn K1 123) ["self", "name"] (bdN 2) := bdN_ok (ps := ["self", "name"]) fun us hu => by obtain ⟨a, b, rfl⟩ := len2 hu; kernel_rfl
theorem bo_118 : BindOk prog w h₀ (fdIn K1 118) ["self", "name", "val"] (bdN 3) := bdN_ok (ps := ["self", "name", "val"]) fun us hu => by obtain ⟨a, b, c, rfl⟩ := len3 hu; kernel_rfl
theorem ok_123 (P : Params) : fnOk (K1 P) (fdIn K1 123) = true := by kernel_rfl
theorem ok_118 (P : Params) : fnOk (K1 P) (fdIn K1 118) = true := by kernel_rfl
theorem snd_123 (D : Wd prog w h₀ G1 T d) (X : (K1 P).In h₀) (hl : h₀.NoLimit) : FnSnd prog w h₀ (d + 1) 123 (del123 T) :=
  sp_fn D (fnOk_of X hl (look_123 P) (ok_123 P)) cf_123 bo_123 fun fm σ σ' hv A env s φ R E I F => by
    show W prog w A (exec (sAt 123 1) env) s _
    rw [s123]
    exact slcF_sound D R E o123_ok e123_ok hv I F
theorem snd_118 (D : Wd prog w h₀ G1 T d) (X : (K1 P).In h₀) (hl : h₀.NoLimit) {Fn : List PV → List (Str × PV) → M PV} (H : FnSnd prog w h₀ d 123 Fn) : FnSnd prog w h₀ (d + 1) 118 (set118 T Fn) :=
  sp_fn D (fnOk_of X hl (look_118 P) (ok_118 P)) cf_118 bo_118 fun fm σ σ' hv A env s φ R E I F => by
    show W prog w A (exec (sAt 118 0) env) s _
    rw [s118]
    exact delF_sound D R E (mth_123 X) H o118_ok i118_ok hv I F
end
end Mine
end
section
namespace Mine
open PySem PyProof.Rows
noncomputable def fT : Stmt → Expr | .For t _ _ _ _ => t | _ => .Name "" p00
noncomputable def fI : Stmt → Expr | .For _ i _ _ _ => i | _ => .Name "" p00
noncomputable def fB : Stmt → List Stmt | .For _ _ b _ _ => b | _ => []
noncomputable def fP : Stmt → Pos | .For _ _ _ _ p => p | _ => p00
noncomputable def kA : Expr → List Expr | .Call _ a _ _ => a | _ => []
noncomputable def kF : Expr → Expr | .Call f _ _ _ => f | _ => .Name "" p00
noncomputable def kK : Expr → List Keyword | .Call _ _ k _ => k | _ => []
noncomputable def kP : Expr → Pos | .Call _ _ _ p => p | .Name _ p => p | .Subscript _ _ p => p | .Lambda _ _ _ p => p | _ => p00
noncomputable def wV : Keyword → Expr | ⟨_, v, _⟩ => v
noncomputable def wP : Keyword → Pos | ⟨_, _, p⟩ => p
noncomputable def lA : Expr → Arguments | .Lambda a _ _ _ => a | _ => default
noncomputable def lS : Expr → Scope | .Lambda _ _ s _ => s | _ => default
noncomputable def lB : Expr → Expr | .Lambda _ b _ _ => b | _ => .Name "" p00
noncomputable def sF : Stmt := sAt 233 2
noncomputable def sK : Keyword := (kK (fI sF)).getD 0 ⟨none, .Name "" p00, p00⟩
noncomputable def sL : Expr := wV sK
noncomputable def sA : Expr := (kA (fI sF)).getD 0 (.Name "" p00)
noncomputable def sU : Expr := (kA (lB sL)).getD 0 (.Name "" p00)
noncomputable def sLp : Arguments := lA sL
noncomputable def sLs : Scope := lS sL
theorem sF_eq : sF = .For (fT sF) (.Call (.Name "sorted" (kP (kF (fI sF)))) [sA] [⟨some "key", .Lambda sLp (.Call (.Name "len" (kP (kF (lB sL)))) [.Subscript (.Name "under" (kP (uO sU))) (.Name "place" (kP (uI sU))) (kP sU)] [] (kP (lB sL))) sLs (kP sL), wP sK⟩] (kP (fI sF))) (fB sF) [] (fP sF) := by kernel_rfl
noncomputable def tF : MT := (target (gm 233) (fT sF)).getD (.tup [])
theorem tF_ok : target (gm 233) (fT sF) = some tF := by
  have h : (target (gm 233) (fT sF)).isSome = true := by decide +kernel
  unfold tF
  obtain ⟨c, hc⟩ := Option.isSome_iff_exists.mp h
  rw [hc]; rfl
noncomputable def bF : MSs := (seqS ((fB sF).map (cS G1 40 (gm 233)))).getD .nil
theorem bF_ok : seqS ((fB sF).map (cS G1 40 (gm 233))) = some bF := by
  have h : (seqS ((fB sF).map (cS G1 40 (gm 233)))).isSome = true := by decide +kernel
  unfold bF
  obtain ⟨c, hc⟩ := Option.isSome_iff_exists.mp h
  rw [hc]; rfl
noncomputable def aF : MEs := (seqL ([sA].map (cE G1 40 (gm 233)))).getD .nil
theorem aF_ok : seqL ([sA].map (cE G1 40 (gm 233))) = some aF := by
  have h : (seqL ([sA].map (cE G1 40 (gm 233)))).isSome = true := by decide +kernel
  unfold aF
  obtain ⟨c, hc⟩ := Option.isSome_iff_exists.mp h
  rw [hc]; rfl
theorem cf_233 : Cf2Ok G1 (fdIn K1 233) ["table", "words", "under"] 2 (cf' 233 ["table", "words", "under"] 2).1 (cf' 233 ["table", "words", "under"] 2).2 := cf2_of (by decide +kernel) (by decide +kernel)
theorem look_233 (P : Params) : (K1 P).lookup 233 = some ⟨.type "function", none, .func (fdIn K1 233), #[]⟩ := by kernel_rfl
theorem ok_233 (P : Params) : fnOk (K1 P) (fdIn K1 233) = true := by kernel_rfl
theorem keep_233 (P : Params) : W.keepIn (K1 P) (.ref 233) = true := by kernel_rfl
theorem code_233 : (fdIn K1 233).code = .ref 232 := by kernel_rfl
theorem lam_text : LamText G1 "under" "place" sLp sLs where
  kind := by kernel_rfl
  co := by kernel_rfl
  gen := by kernel_rfl
  cell := by
    have h : sLs.names.all (fun x => decide (x.2 ≠ .cell)) = true := by decide +kernel
    exact fun x hx => of_decide_eq_true (List.all_eq_true.mp h x hx)
  loc := by decide +kernel
  locs := by decide +kernel
  len := by decide +kernel
  glen := by kernel_rfl
  mx := by kernel_rfl
  my := by kernel_rfl
  c1 := by decide
  c2 := by decide
  c3 := by decide
  c4 := by decide
  clos := fun env a h => by
    have hc : cellOf env "under" = pure a := by unfold cellOf; rw [h]
    have e : closureFor sLs env = ((forIn sLs.names [] fun x cells => if x.2 == .free then (do let a ← cellOf env x.1; pure (.yield ((x.1, a) :: cells))) else pure (.yield cells) : Sem (List (Str × Addr))) >>= fun s => pure s) := rfl
    have hn : sLs.names = [(("place" : Str), .local), ("under", .free), ("len", .globalImplicit)] := by kernel_rfl
    rw [e, hn]
    simp only [List.forIn_cons, hc]
    rfl
  dflt := fun env => by kernel_rfl
  bind := fun name qual body cl pm cd ct i t => by kernel_rfl
end Mine
end
section
namespace Mine
open PySem PyProof.Rows
noncomputable def c233 : CF := (cf' 233 ["table", "words", "under"] 2).1
noncomputable def m233 : MSs := (cf' 233 ["table", "words", "under"] 2).2
noncomputable def jF : Nat := (place (gm 233).cells "under").getD 99
theorem jF_ok : place (gm 233).cells "under" = some jF := by
  have h : (place (gm 233).cells "under").isSome = true := by decide +kernel
  unfold jF
  obtain ⟨c, hc⟩ := Option.isSome_iff_exists.mp h
  rw [hc]; rfl
theorem iset_F : ∀ (env : Env) (x : Value), foldedSetIterable (.Call (.Name "sorted" (kP (kF (fI sF)))) [sA] [⟨some "key", .Lambda sLp (.Call (.Name "len" (kP (kF (lB sL)))) [.Subscript (.Name "under" (kP (uO sU))) (.Name "place" (kP (uI sU))) (kP sU)] [] (kP (lB sL))) sLs (kP sL), wP sK⟩] (kP (fI sF))) env x = pure x := fun _ _ => rfl
structure ChRun (T : Tab) (kT : Nat) (vs : List PV) (σ : St) (Out : PV → St → Prop) (ks : List Nat) (σ₁ : St) (fm : Fm) (σ₂ : St) (fm1 : Fm) (σ₃ σ₄ : St) (nn : Nat) (g : Nat → Int) (kU nU : Nat) : Prop where
  hks : allocCells c233.nc σ = some (ks, σ₁)
  hset : setVs ⟨List.replicate c233.nl none, ks⟩ c233.pms vs σ₁ = some (fm, σ₂)
  hex : exs T c233.mb fm σ₂ = some ((fm1, none), σ₃)
  hv : evs T aF fm1 σ₃ = some ([.range 0 (nn : Int) 1], σ₄)
  h64 : nn < 64
  hσT : σ₄[kT]? = some (.tab true)
  hcs : fm1.cs[jF]? = some kU
  hσU : σ₄[kU]? = some (.cel (some (.obj nU)))
  hTU : kT ≠ kU
  keys : ∀ i, i < nn → ∃ m xs, item (σ₄.set kT (.tab false)) (.obj nU) (.int (i : Int)) = some (.obj m) ∧ lstAt (σ₄.set kT (.tab false)) m = some xs ∧ g i = (xs.length : Int)
  loop : ∀ o, Rises nn g o → ∃ fm' σ', loopM (.one (.obj σ₄.length)) (forBody T tF bF) fuel 0 fm1 (σ₄.set kT (.tab false) ++ [.lst (o.map fun i : Nat => .int (i : Int))]) = some ((fm', none), σ') ∧ ∃ fm3 r σ₅, exs T m233 fm' σ' = some ((fm3, r), σ₅) ∧ Out (r.getD .none) σ₅
section
variable {prog : Program} {w : World} {h₀ : Heap} {P : Params} {T : Tab} {d : Nat}
theorem chains_snd (D : Wd prog w h₀ G1 T d) (X : (K1 P).In h₀) (hl : h₀.NoLimit) {Pt : Addr} (L : LamOk h₀ 232 Pt) {kT : Nat} {vs : List PV} {σ : St} {Out : PV → St → Prop} {ks : List Nat} {σ₁ : St} {fm : Fm} {σ₂ : St} {fm1 : Fm} {σ₃ σ₄ : St} {nn : Nat} {g : Nat → Int} {kU nU : Nat}
    (C : ChRun T kT vs σ Out ks σ₁ fm σ₂ fm1 σ₃ σ₄ nn g kU nU) (hlen : vs.length = 3) {A : Around} {s : Shared} {φ : Phi} {us : List Value} (R : Room (d + 1) A) (hφ : φ[kT]? = some (Pt, Pt)) (I : Inv h₀ φ σ s.heap) (r : RVs φ s.heap vs us) :
    W prog w A (call (.ref 233) us []) s fun u h' => ∃ v σ', Out v σ' ∧ Ret h₀ [] φ s.heap v σ' u h' := by
  have Cf := cf_233
  refine run_rel R (b := (stmtsOf (fdIn K1 233).body).take 2 ++ nthS (stmtsOf (fdIn K1 233).body) 2 :: (stmtsOf (fdIn K1 233).body).drop 3) (Cf.eq ▸ fnOk_of X hl (look_233 P) (ok_233 P)) Cf.blk Cf.pms I ?_
  have hu : us.length = 3 := by rw [← r.length]; exact hlen
  refine byc fun nh => ?_
  obtain ⟨u1, u2, u3, rfl⟩ := len3 hu
  refine nh ?_
  refine (bind_plain (fd := fdIn K1 233) (ps := ["table", "words", "under"]) (by kernel_rfl) rfl I r).mono fun binds h₁ x => ?_
  refine byc fun nh => ?_
  obtain ⟨φ₁, S₁, I₁, hn, r₁⟩ := x
  refine nh ?_
  refine ⟨φ₁, vs, ks, σ₁, fm, σ₂, S₁, I₁, hn, r₁, by rw [Cf.nc]; exact C.hks, by rw [Cf.nl]; exact C.hset, fun A env s φ' R E I F _ _ hcd hφ' => ?_⟩
  rw [code_233] at hcd
  refine sp_body D R E (code := .ref 232) (φ₀ := φ₁) (X := fun fm' σ' => ∃ fm3 r σ₅, exs T m233 fm' σ' = some ((fm3, r), σ₅) ∧ Out (r.getD .none) σ₅) hcd hφ' Cf.mb Cf.mb2 C.hex ?_ (fun fm2 σ₂ h => ?_) I F
  · intro A env s φ₂ R E hcd hφ₂ I F
    show W prog w A (exec sF env) s _
    refine Eq.symm (sF_eq) ▸ ?_
    have hT : φ₂[kT]? = some (Pt, Pt) := by
      obtain ⟨ψ, rfl⟩ := S₁.ext.trans hφ₂
      rw [List.getElem?_append_left (List.getElem?_eq_some_iff.mp hφ).1]; exact hφ
    refine for_sorted D R E (iset_F env) tF_ok bF_ok (sort_eval (g := g) D R E hl L hcd lam_text (by decide +kernel) (by kernel_rfl) aF_ok C.hv C.h64 hT C.hσT jF_ok C.hcs C.hσU C.hTU C.keys I F) F ?_
    refine Eq.symm (List.length_set) ▸ ?_
    exact C.loop
  · obtain ⟨fm3, r, σ₅, e, hO⟩ := h
    exact ⟨fm3, r, σ₅, e, hO⟩
end
end Mine
end
section
namespace Mine
open PySem PyProof.Rows
section
variable {T : Tab} {fm : Fm} {σ σ' : St} {α β : Type}
theorem q_bnd (m : M α) (f : α → M β) : bnd m f σ = match m σ with
  | some (a, σ') => f a σ'
  | none => none := rfl
theorem q_rt (a : α) : rt a σ = some (a, σ) := rfl
theorem q_alloc (c : Cell) : alloc c σ = some (.obj σ.length, σ ++ [c]) := rfl
theorem q_look (f : St → Option α) : look f σ = match f σ with
  | some a => some (a, σ)
  | none => none := rfl
theorem look_at {f : St → Option α} {a : α} (h : f σ = some a) : look f σ = some (a, σ) := by
  show (f σ).map _ = _
  rw [h]; rfl
theorem q_ite {c : Prop} [Decidable c] (m m' : M α) : (if c then m else m') σ = if c then m σ else m' σ := by split <;> rfl
theorem q_cst (v : PV) : ev T (.cst v) fm σ = if plainC v = true then some (v, σ) else none := (q_ite (c := plainC v = true) (rt v) fail).trans rfl
theorem q_lift (o : Option α) : lift o σ = match o with
  | some a => some (a, σ)
  | none => none := rfl
theorem q_var (x : MV) : ev T (.var x) fm σ = getV fm x σ := rfl
theorem q_gl (i : Nat) : getV fm (.loc i) σ = lift (fm.ρ[i]?.join) σ := rfl
noncomputable def celAt (cs : List Nat) (i : Nat) (σ : St) : Option PV := (cs[i]?).bind fun k => (σ[k]?).bind cellV
theorem q_gc (i : Nat) : getV fm (.cel i) σ = look (celAt fm.cs i) σ := rfl
theorem q_and (a b : ME) : ev T (.and a b) fm σ = bnd (ev T a fm) (fun v => bnd (look (truth · v)) fun t => if t then ev T b fm else rt v) σ := rfl
theorem q_or (a b : ME) : ev T (.or a b) fm σ = bnd (ev T a fm) (fun v => bnd (look (truth · v)) fun t => if t then rt v else ev T b fm) σ := rfl
theorem q_iteE (t b o : ME) : ev T (.ite t b o) fm σ = bnd (ev T t fm) (fun v => bnd (look (truth · v)) fun c => if c then ev T b fm else ev T o fm) σ := rfl
theorem q_bin (op : Operator) (a b : ME) : ev T (.bin op a b) fm σ = bnd (ev T a fm) (fun x => bnd (ev T b fm) fun y => binop op x y) σ := rfl
theorem q_cmp (a : ME) (r : MC) : ev T (.cmp a r) fm σ = bnd (ev T a fm) (fun x => bnd (evC T r x fm) fun b => rt (.bool b)) σ := rfl
theorem q_list (es : MEs) : ev T (.list es) fm σ = bnd (evs T es fm) (fun vs => if vs.length ≤ 1000 then alloc (.lst vs) else fail) σ := rfl
theorem q_tup (es : MEs) : ev T (.tup es) fm σ = bnd (evs T es fm) (fun vs => if vs.length ≤ 1000 then rt (.tup vs) else fail) σ := rfl
theorem q_call (f : ME) (es : MEs) (ks : MK) : ev T (.call f es ks) fm σ = bnd (ev T f fm) (fun fv => bnd (evs T es fm) fun vs => bnd (evK T ks fm) fun kvs => T.ap fv vs kvs) σ := rfl
theorem q_meth (o : ME) (x : Str) (es : MEs) (ks : MK) : ev T (.meth o x es ks) fm σ = bnd (ev T o fm) (fun ov => bnd (look fun σ => T.mt σ ov x) fun fv => bnd (evs T es fm) fun vs => bnd (evK T ks fm) fun kvs => T.ap (.top fv) (ov :: vs) kvs) σ := rfl
theorem q_attr (o : ME) (x : Str) : ev T (.attr o x) fm σ = bnd (ev T o fm) (fun ov => attrM T.at_ ov x) σ := rfl
theorem q_idx (o i : ME) : ev T (.idx o i) fm σ = bnd (ev T o fm) (fun ov => bnd (ev T i fm) fun iv => look fun σ => item σ ov iv) σ := rfl
theorem q_slc (o l u s : ME) : ev T (.slc o l u s) fm σ = bnd (ev T o fm) (fun ov => bnd (ev T l fm) fun lv => bnd (ev T u fm) fun uv => bnd (ev T s fm) fun sv => slice ov lv uv sv) σ := rfl
theorem q_nil : evs T .nil fm σ = some ([], σ) := rfl
theorem q_cons (e : ME) (r : MEs) : evs T (.cons e r) fm σ = bnd (ev T e fm) (fun v => bnd (evs T r fm) fun vs => rt (v :: vs)) σ := rfl
theorem q_knil : evK T .nil fm σ = some ([], σ) := rfl
theorem q_kcons (x : Str) (e : ME) (r : MK) : evK T (.cons x e r) fm σ = bnd (ev T e fm) (fun v => bnd (evK T r fm) fun vs => rt ((x, v) :: vs)) σ := rfl
theorem q_ccons (op : CmpOp) (e : ME) (r : MC) (a : PV) : evC T (.cons op e r) a fm σ = bnd (ev T e fm) (fun b => bnd (look fun σ => cmpop σ op a b) rt) σ := rfl
theorem q_ival (e : ME) : evI T (.val e) fm σ = bnd (ev T e fm) (fun v => fun σ => if (nth1 σ v 0).isSome then some (.one v, σ) else none) σ := rfl
theorem q_izip (es : MEs) : evI T (.zip es) fm σ = bnd (evs T es fm) (fun vs => fun σ => if vs.length == 2 && vs.all zipable then some (.zip vs σ.length, σ ++ [.own vs.length]) else none) σ := rfl
theorem q_inil : evIfs T .nil fm σ = some (true, σ) := rfl
theorem q_icons (e : ME) (r : MEs) : evIfs T (.cons e r) fm σ = bnd (ev T e fm) (fun v => bnd (look (truth · v)) fun t => if t then evIfs T r fm else rt false) σ := rfl
theorem q_lvl (t : MT) (ifs : MEs) (r : MG) (acc v : PV) : evG T (.lvl t ifs r) acc (some v) fm σ = bnd (setT fm v t) (fun fm' => bnd (evIfs T ifs fm') fun ok => if ok then evG T r acc none fm' else rt fm') σ := rfl
theorem q_elt (e : ME) (acc : PV) (v : Option PV) : evG T (.elt e) acc v fm σ = bnd (ev T e fm) (fun v => bnd (push acc v) fun _ => rt fm) σ := rfl
theorem q_snil : exs T .nil fm σ = some ((fm, none), σ) := rfl
theorem q_scons (s : MS) (r : MSs) : exs T (.cons s r) fm σ = match ex T s fm σ with
  | some ((fm', some v), σ') => some ((fm', some v), σ')
  | some ((fm', none), σ') => exs T r fm' σ'
  | none => none := by
  simp only [exs, bnd]
  rcases ex T s fm σ with _ | ⟨⟨fm', _ | v⟩, σ'⟩ <;> rfl
theorem q_expr (e : ME) : ex T (.expr e) fm σ = bnd (ev T e fm) (fun _ => rt (fm, none)) σ := rfl
theorem q_ret (e : ME) : ex T (.ret e) fm σ = bnd (ev T e fm) (fun v => rt (fm, some v)) σ := rfl
theorem q_set (ts : List MT) (e : ME) : ex T (.set ts e) fm σ = bnd (ev T e fm) (fun v => bnd (setTs v ts fm) fun fm' => rt (fm', none)) σ := rfl
theorem q_seti (o i e : ME) : ex T (.seti o i e) fm σ = bnd (ev T e fm) (fun v => bnd (ev T o fm) fun ov => bnd (ev T i fm) fun iv => bnd (T.si ov iv v) fun _ => rt (fm, none)) σ := rfl
theorem q_seta (o : ME) (x : Str) (e : ME) : ex T (.seta o x e) fm σ = bnd (ev T e fm) (fun v => bnd (ev T o fm) fun ov => bnd (seta T ov x v) fun _ => rt (fm, none)) σ := rfl
theorem q_cond (t : ME) (b o : MSs) : ex T (.cond t b o) fm σ = bnd (ev T t fm) (fun v => bnd (look (truth · v)) fun c => if c then exs T b fm else exs T o fm) σ := rfl
theorem q_loop (t : MT) (it : MI) (b : MSs) : ex T (.loop t it b) fm σ = bnd (evI T it fm) (fun src => loopM src (fun v fm' => bnd (setT fm' v t) fun fm'' => exs T b fm'') fuel 0 fm) σ := rfl
theorem q_sTn (v : PV) : setTs v [] fm σ = some (fm, σ) := rfl
theorem q_sTc (v : PV) (t : MT) (ts : List MT) : setTs v (t :: ts) fm σ = bnd (setT fm v t) (fun fm' => setTs v ts fm') σ := rfl
theorem q_sT1 (v : PV) (i : Nat) : setT fm v (.one (.loc i)) σ = some (⟨fm.ρ.set i (some v), fm.cs⟩, σ) := rfl
theorem q_sTt (vs : List PV) (xs : List MV) : setT fm (.tup vs) (.tup xs) σ = setVs fm xs vs σ := rfl
theorem q_sVn : setVs fm [] [] σ = some (fm, σ) := rfl
theorem q_sVc (i : Nat) (xs : List MV) (v : PV) (vs : List PV) : setVs fm (.loc i :: xs) (v :: vs) σ = setVs ⟨fm.ρ.set i (some v), fm.cs⟩ xs vs σ := rfl
theorem q_app {n : Nat} (τ : St) (h : n < σ.length) : (σ ++ τ)[n]? = σ[n]? := List.getElem?_append_left h
theorem q_last {n : Nat} (c : Cell) (h : n = σ.length) : (σ ++ [c])[n]? = some c := by subst h; simp
theorem lt_of_get {n : Nat} {c : Cell} (h : σ[n]? = some c) : n < σ.length := (List.getElem?_eq_some_iff.mp h).1
theorem q_len (c : Cell) : (σ ++ [c]).length = σ.length + 1 := by simp
theorem get_pre {n : Nat} {c : Cell} (p : σ <+: σ') (h : σ[n]? = some c) : σ'[n]? = some c := by
  obtain ⟨τ, rfl⟩ := p
  rw [q_app _ (lt_of_get h)]; exact h
theorem loop_rule {γ : Type} {src : PI} {body : PV → β → M (β × Option γ)} {xs : List PV} (I : Nat → β → St → Prop)
    (hn : ∀ i b σ, I i b σ → nth σ src i = some xs[i]?)
    (hs : ∀ i (h : i < xs.length) b σ, I i b σ → ∃ b' σ', body xs[i] b σ = some ((b', none), σ') ∧ I (i + 1) b' σ') :
    ∀ (k i : Nat) (b : β) (σ : St), I i b σ → i ≤ xs.length → xs.length < i + k → ∃ b' σ', loopM src body k i b σ = some ((b', none), σ') ∧ I xs.length b' σ' := by
  intro k
  induction k with
  | zero => intro i b σ _ h1 h2; exact absurd (by assumption) (Nat.not_lt.2 (by assumption))
  | succ k ih =>
    intro i b σ hI h1 h2
    by_cases h : i < xs.length
    · obtain ⟨b', σ', e, hI'⟩ := hs i h b σ hI
      obtain ⟨b'', σ'', e', hI''⟩ := ih (i + 1) b' σ' hI' h (by omega)
      refine ⟨b'', σ'', ?_, hI''⟩
      simp only [loopM, hn _ _ _ hI, List.getElem?_eq_getElem h, e]
      exact e'
    · obtain rfl : i = xs.length := by omega
      refine ⟨b, σ, ?_, hI⟩
      simp only [loopM, hn _ _ _ hI, List.getElem?_eq_none (Nat.le_refl _)]
theorem loop_stop {γ : Type} {src : PI} {body : PV → β → M (β × Option γ)} {xs : List PV} (I : Nat → β → St → Prop) (R : γ → St → Prop)
    (hn : ∀ i b σ, I i b σ → nth σ src i = some xs[i]?)
    (hs : ∀ i (h : i < xs.length) b σ, I i b σ → (∃ b' σ', body xs[i] b σ = some ((b', none), σ') ∧ I (i + 1) b' σ') ∨ ∃ b' r σ', body xs[i] b σ = some ((b', some r), σ') ∧ R r σ') :
    ∀ (k i : Nat) (b : β) (σ : St), I i b σ → i ≤ xs.length → xs.length < i + k → (∃ b' σ', loopM src body k i b σ = some ((b', none), σ') ∧ I xs.length b' σ') ∨ ∃ b' r σ', loopM src body k i b σ = some ((b', some r), σ') ∧ R r σ' := by
  intro k
  induction k with
  | zero => intro i b σ _ h1 h2; exact absurd (by assumption) (Nat.not_lt.2 (by assumption))
  | succ k ih =>
    intro i b σ hI h1 h2
    by_cases h : i < xs.length
    · have hl : loopM src body (k + 1) i b σ = match body xs[i] b σ with
          | none => none
          | some ((b', some r), σ') => some ((b', some r), σ')
          | some ((b', none), σ') => loopM src body k (i + 1) b' σ' := by
        simp only [loopM, hn _ _ _ hI, List.getElem?_eq_getElem h]
        all_goals (rcases body xs[i] b σ with _ | ⟨⟨_, _ | _⟩, _⟩ <;> rfl)
      rcases hs i h b σ hI with ⟨b', σ', e, hI'⟩ | ⟨b', r, σ', e, hR⟩
      · rcases ih (i + 1) b' σ' hI' h (by omega) with ⟨b'', σ'', e', hI''⟩ | ⟨b'', r, σ'', e', hR⟩
        · exact .inl ⟨b'', σ'', by rw [hl, e]; exact e', hI''⟩
        · exact .inr ⟨b'', r, σ'', by rw [hl, e]; exact e', hR⟩
      · exact .inr ⟨b', r, σ', by rw [hl, e], hR⟩
    · obtain rfl : i = xs.length := by omega
      refine .inl ⟨b, σ, ?_, hI⟩
      simp only [loopM, hn _ _ _ hI, List.getElem?_eq_none (Nat.le_refl _)]
theorem nth_lst {n i : Nat} {xs : List PV} (h : σ[n]? = some (.lst xs)) : nth σ (.one (.obj n)) i = some xs[i]? := by
  exact nth1_lst h
end
end Mine
end
section
namespace Mine
open PySem PyProof.Rows
section
variable {T : Tab} {σ σ' : St}
theorem eq_at {a b : PV} {x y : PyData} (h1 : deep σ 6 a = some x) (h2 : deep σ 6 b = some y) : eqTop σ a b = some (PyData.eqv x y) := by
  show ((deep σ 6 a).bind fun x => (deep σ 6 b).map (PyData.eqv x)) = _
  rw [h1, h2]; rfl
theorem e_eqs (x y : Str) : eqTop σ (.str x) (.str y) = some (x == y) := by rw [eq_at (x := .str x) (y := .str y) rfl rfl, PyData.eqv]
theorem e_eqi (x y : Int) : eqTop σ (.int x) (.int y) = some (x == y) := by rw [eq_at (x := .int x) (y := .int y) rfl rfl, PyData.eqv]
theorem e_tru (b : Bool) : truth σ (.bool b) = some b := rfl
theorem e_trn : truth σ .none = some false := rfl
theorem q_run0 (nl : Nat) (pms : List MV) (mb : MSs) (vs : List PV) : run T nl 0 pms mb vs σ = match setVs ⟨List.replicate nl none, []⟩ pms vs σ with
  | some (fm, σ₁) => (match exs T mb fm σ₁ with
    | some (r, σ₂) => some (r.2.getD .none, σ₂)
    | none => none)
  | none => none := by
  show bnd (setVs ⟨List.replicate nl none, []⟩ pms vs) (fun fm => bnd (exs T mb fm) fun r => rt (r.2.getD .none)) σ = _
  simp only [bnd]
  rcases setVs ⟨List.replicate nl none, []⟩ pms vs σ with _ | ⟨fm, σ₁⟩
  · rfl
  · dsimp only
    rcases exs T mb fm σ₁ with _ | ⟨r, σ₂⟩ <;> rfl
noncomputable def fin (o : Option ((Fm × Option PV) × St)) : Option (PV × St) := match o with
  | some (r, σ) => some (r.2.getD .none, σ)
  | none => none
theorem q_run {c : CF} {nl : Nat} {pms : List MV} {mb : MSs} (h : c = ⟨nl, 0, pms, mb⟩) {vs : List PV} {fm : Fm} (h1 : setVs ⟨List.replicate nl none, []⟩ pms vs σ = some (fm, σ)) {r : PV × St} (h2 : fin (exs T mb fm σ) = some r) :
    c.run T vs σ = some r := by
  subst h
  show run T nl 0 pms mb vs σ = _
  rw [q_run0, h1]
  rw [← h2]
  dsimp only
  rcases exs T mb fm σ with _ | ⟨r, σ₂⟩ <;> rfl
theorem cut_len {m : M PV} {v : PV} {more : Nat} (h : m σ = some (v, σ')) (_ : σ'.length = σ.length) : cut m more σ = some (v, σ') := h
theorem cut_new {m : M PV} {v : PV} {more : Nat} (h : m σ = some (v, σ')) (_ : σ'.length = σ.length + 1) : cut m more σ = some (v, σ') := h
theorem cut_any {m : M PV} {v : PV} {more : Nat} (h : m σ = some (v, σ')) : cut m more σ = some (v, σ') := h
theorem pure_at {c : CF} {n : Nat} {vs : List PV} {v : PV} {junk : St} (h : c.run T vs [] = some (v, junk)) (hn : (decide (vs.length = n) && vs.all flat && flat v) = true) : pureFn T c n vs [] σ = some (v, σ) := by
  simp only [Bool.and_eq_true] at hn
  unfold pureFn
  rw [if_pos (by simp [hn.1.1, hn.1.2]), h]
  dsimp only
  rw [if_pos hn.2]; rfl
noncomputable def isStr (o : Option (PV × St)) (x : Str) : Bool := match o with
  | some (.str y, _) => y == x
  | _ => false
noncomputable def isInt (o : Option (PV × St)) (x : Int) : Bool := match o with
  | some (.int y, _) => y == x
  | _ => false
set_option tactic.hygienic true in
theorem isStr_some {o : Option (PV × St)} {x : Str} (h : isStr o x = true) : ∃ j, o = some (.str x, j) := by
  unfold isStr at h
  split at h
  · rename_i y j
    obtain rfl : y = x := by simpa using h
    exact ⟨j, rfl⟩
  · exact absurd h (by decide)
set_option tactic.hygienic true in
theorem isInt_some {o : Option (PV × St)} {x : Int} (h : isInt o x = true) : ∃ j, o = some (.int x, j) := by
  unfold isInt at h
  split at h
  · rename_i y j
    obtain rfl : y = x := by simpa using h
    exact ⟨j, rfl⟩
  · exact absurd h (by decide)
theorem bi_lower {x : Str} (h : (asc x && fits (low x)) = true) : bi "str.lower" [.str x] [] σ = some (.str (low x), σ) := by
  show (if (asc x && fits (low x)) = true then rt (PV.str (low x)) else fail) σ = _
  rw [if_pos (by simp [h])]; rfl
theorem bi_upper {x : Str} (h : (asc x && fits (upp x)) = true) : bi "str.upper" [.str x] [] σ = some (.str (upp x), σ) := by
  show (if (asc x && fits (upp x)) = true then rt (PV.str (upp x)) else fail) σ = _
  rw [if_pos h]; rfl
theorem bi_append (l v : PV) : bi "list.append" [l, v] [] σ = bnd (push l v) (fun _ => rt .none) σ := rfl
theorem bi_lens (x : Str) : bi "len" [.str x] [] σ = some (.int x.length, σ) := rfl
theorem bi_lenl {n : Nat} {xs : List PV} (h : σ[n]? = some (.lst xs)) : bi "len" [.obj n] [] σ = some (.int xs.length, σ) := by
  show look (fun σ => (lstAt σ n).map fun xs => PV.int xs.length) σ = _
  exact look_at (by rw [lst_of h]; rfl)
theorem bi_join {x : Str} {n : Nat} {ys : List Str} (h : (lstAt σ n).bind strsO = some ys) (h2 : (JoinOk x ys && fits (Txt.join x ys)) = true) : bi "str.join" [.str x, .obj n] [] σ = some (.str (Txt.join x ys), σ) := by
  show (((lstAt σ n).bind strsO).bind fun ys => if (JoinOk x ys && fits (Txt.join x ys)) = true then some (PV.str (Txt.join x ys), σ) else none) = _
  rw [h]; exact if_pos h2
theorem push_at {n : Nat} {xs : List PV} {v : PV} (h : σ[n]? = some (.lst xs)) (hl : xs.length ≤ 10000) : push (.obj n) v σ = some ((), σ.set n (.lst (xs ++ [v]))) := by
  show ((lstAt σ n).bind fun xs => if xs.length ≤ 10000 then some ((), σ.set n (.lst (xs ++ [v]))) else none) = _
  rw [lst_of h]; exact if_pos hl
end
end Mine
end
section
namespace Mine
open PySem PyProof.Rows
section
variable {T : Tab} {σ σ' σ₁ : St} {t hs n : Nat}
noncomputable def tp (p : Str × Str) : PV := .tup [.str p.1, .str p.2]
noncomputable def okV (x : Str) : Bool := prn x && fits x
noncomputable def okN (x : Str) : Bool := asc x && fits (low x) && prn (low x) && okV x
theorem okN_v {x : Str} (h : okN x = true) : okV x = true := by simp only [okN, Bool.and_eq_true] at h; exact h.2
theorem okN_l {x : Str} (h : okN x = true) : (asc x && fits (low x)) = true := by simp only [okN, Bool.and_eq_true] at h ⊢; exact h.1.1
theorem okN_lv {x : Str} (h : okN x = true) : okV (low x) = true := by simp only [okN, okV, Bool.and_eq_true] at h ⊢; exact ⟨h.1.2, h.1.1.2⟩
theorem ty_str (x : Str) : ty "type" [.str x] [] σ = some (.top (.type "str"), σ) := by kernel_rfl
theorem c_is : cmpop σ .Is (.top (.type "str")) (.top (.type "str")) = some true := by kernel_rfl
theorem set_last (c c' : Cell) : (σ ++ [c]).set σ.length c' = σ ++ [c'] := by
  rw [List.set_append_right _ _ (Nat.le_refl _), Nat.sub_self]; rfl
theorem push_last {zs : List PV} {v : PV} (h : zs.length ≤ 10000) : push (.obj σ.length) v (σ ++ [.lst zs]) = some ((), σ ++ [.lst (zs ++ [v])]) := by
  rw [push_at (q_last _ rfl) h, set_last]
theorem q_comp (nl : Nat) (frees : List Nat) (it : MI) (g : MG) (fm : Fm) : ev T (.comp nl 0 frees it g) fm σ = bnd (evI T it fm) (fun src => bnd (alloc (.lst [])) fun acc => bnd (lift ((frees.mapM fun i => fm.cs[i]?).map List.reverse)) fun fs =>
      bnd (loopM (γ := Unit) src (fun v fm' => bnd (evG T g acc (some v) fm') fun fm'' => rt (fm'', none)) fuel 0 ⟨List.replicate nl none, fs⟩) fun _ => rt acc) σ := rfl
theorem comp_rule {nl : Nat} {frees : List Nat} {it : MI} {g : MG} {fm : Fm} {xs : List PV} {fs : List Nat} (f : PV → List PV) (F : Fm → Prop)
    (h1 : evI T it fm σ = some (.one (.obj n), σ₁)) (h2 : σ₁[n]? = some (.lst xs)) (h3 : (frees.mapM fun i => fm.cs[i]?).map List.reverse = some fs) (h4 : F ⟨List.replicate nl none, fs⟩) (h5 : xs.length < 90) (h6 : ∀ x ∈ xs, (f x).length ≤ 1)
    (hs : ∀ x ∈ xs, ∀ fm' zs, F fm' → zs.length ≤ 100 → ∃ fm'', evG T g (.obj σ₁.length) (some x) fm' (σ₁ ++ [.lst zs]) = some (fm'', σ₁ ++ [.lst (zs ++ f x)]) ∧ F fm'') :
    ev T (.comp nl 0 frees it g) fm σ = some (.obj σ₁.length, σ₁ ++ [.lst (xs.flatMap f)]) := by
  have key := loop_rule (γ := Unit) (src := .one (.obj n)) (body := fun v fm' => bnd (evG T g (.obj σ₁.length) (some v) fm') fun fm'' => rt (fm'', none)) (xs := xs)
    (fun i b σ' => F b ∧ σ' = σ₁ ++ [.lst ((xs.take i).flatMap f)] ∧ ((xs.take i).flatMap f).length ≤ i)
    (fun i b σ' hI => by
      refine byc fun nh => ?_
      obtain ⟨_, rfl, _⟩ := hI
      refine nh ?_
      exact nth_lst (by rw [q_app _ (lt_of_get h2)]; exact h2))
    (fun i hi b σ' hI => by
      refine byc fun nh => ?_
      obtain ⟨hF, rfl, hl⟩ := hI
      obtain ⟨fm'', e, hF'⟩ := hs _ (List.getElem_mem hi) b ((xs.take i).flatMap f) hF (by omega)
      refine nh ?_
      refine ⟨fm'', _, ?_, hF', rfl, ?_⟩
      · simp only [↓q_bnd, e, ↓q_rt]
        refine Eq.symm (List.take_succ_eq_append_getElem hi) ▸ ?_
        refine Eq.symm (List.flatMap_append) ▸ ?_
        simp
      · refine Eq.symm (List.take_succ_eq_append_getElem hi) ▸ ?_
        refine Eq.symm (List.flatMap_append) ▸ ?_
        have := h6 _ (List.getElem_mem hi)
        simp only [List.length_append, List.flatMap_cons, List.flatMap_nil, List.append_nil]
        exact Nat.add_le_add (by assumption) (by assumption))
    fuel 0 ⟨List.replicate nl none, fs⟩ (σ₁ ++ [.lst []]) ⟨h4, by exact rfl, by exact Nat.le_refl _⟩ (by exact Nat.zero_le _) (by simp [fuel]; exact Nat.lt_of_lt_of_le (by assumption) (by decide))
  refine byc fun nh => ?_
  obtain ⟨b', σ', ke, _, rfl, _⟩ := key
  refine nh ?_
  rw [q_comp]
  simp only [↓q_bnd, h1, ↓q_alloc, ↓q_lift, h3, ke, ↓q_rt, List.take_length]
theorem flat_map {α β : Type} (h : α → β) (xs : List α) : xs.flatMap (fun x => [h x]) = xs.map h := by
  induction xs with
  | nil => rfl
  | cons x xs ih => simp [ih]
theorem evI_lst {e : ME} {fm : Fm} {xs : List PV} (h : ev T e fm σ = some (.obj n, σ₁)) (h2 : σ₁[n]? = some (.lst xs)) : evI T (.val e) fm σ = some (.one (.obj n), σ₁) := by
  simp only [q_ival, ↓q_bnd, h, nth1, lst_of (h2), Option.bind_some, Option.map_some, Option.isSome_some, if_true]
theorem pick_range (xs : List PV) (a : Nat) : ∀ m, ((List.range m).map (a + ·)).filterMap (fun k => xs[k]?) = (xs.drop a).take m
  | 0 => by exact rfl
  | m + 1 => by
    rw [List.range_succ, List.map_append, List.filterMap_append, pick_range xs a m, List.take_add_one, List.getElem?_drop]
    congr 1
theorem slice_plain (xs : List PV) (lo hi : Option Int) : slicePV xs lo hi none = (xs.drop (lo.elim 0 (clipAt xs.length))).take (hi.elim xs.length (clipAt xs.length) - lo.elim 0 (clipAt xs.length)) := by
  unfold slicePV
  rw [sliceBounds_plain]
  dsimp only
  rw [sliceRange_one, pick_range]
theorem o_none : optInt .none = some none := rfl
theorem o_int (i : Int) (h : small i = true) : optInt (.int i) = some (some i) := by
  show (if small i = true then some (some i) else none) = _
  rw [if_pos h]
theorem slice_gen {xs : List PV} {l u s : PV} {a b c : Option Int} (h1 : optInt l = some a) (h2 : optInt u = some b) (h3 : optInt s = some c) (h0 : (c == some 0) = false) (h : σ[n]? = some (.lst xs)) : slice (.obj n) l u s σ = some (.obj σ.length, σ ++ [.lst (slicePV xs a b c)]) := by
  show ((optInt l).bind fun l => (optInt u).bind fun u => (optInt s).bind fun s => if s == some 0 then none else ((σ[n]?).bind cellL).bind fun xs => alloc (.lst (slicePV xs l u s)) σ) = _
  rw [h1, h2, h3]
  show (if c == some 0 then none else ((σ[n]?).bind cellL).bind fun xs => alloc (.lst (slicePV xs a b c)) σ) = _
  rw [h0, h]; rfl
theorem slice_genc {xs : List PV} {l u s : PV} {a b c : Option Int} (h1 : optInt l = some a) (h2 : optInt u = some b) (h3 : optInt s = some c) (h0 : (c == some 0) = false) (h : σ[n]? = some (.const xs)) : slice (.obj n) l u s σ = some (.obj σ.length, σ ++ [.lst (slicePV xs a b c)]) := by
  show ((optInt l).bind fun l => (optInt u).bind fun u => (optInt s).bind fun s => if s == some 0 then none else ((σ[n]?).bind cellL).bind fun xs => alloc (.lst (slicePV xs l u s)) σ) = _
  rw [h1, h2, h3]
  show (if c == some 0 then none else ((σ[n]?).bind cellL).bind fun xs => alloc (.lst (slicePV xs a b c)) σ) = _
  rw [h0, h]; rfl
theorem slice_all {xs : List PV} (h : σ[n]? = some (.lst xs)) : slice (.obj n) .none .none .none σ = some (.obj σ.length, σ ++ [.lst xs]) := by
  have e : slicePV xs none none none = xs := by rw [slice_plain]; simp
  rw [slice_gen o_none o_none o_none rfl h, e]
theorem take_e (xs : List PV) (k : Nat) : slicePV xs none (some (k : Int)) none = xs.take k := by
  rw [slice_plain]
  show (xs.drop 0).take (clipAt xs.length (k : Int) - 0) = _
  rw [clipAt_nat, List.drop_zero, Nat.sub_zero]
  by_cases h : k ≤ xs.length
  · rw [Nat.min_eq_left h]
  · rw [Nat.min_eq_right (by omega), List.take_of_length_le (Nat.le_refl _), List.take_of_length_le (by omega)]
theorem slice_take {xs : List PV} (i : Int) (k : Nat) (hi : i = k) (hk : small i = true) (h : σ[n]? = some (.lst xs)) : slice (.obj n) .none (.int i) .none σ = some (.obj σ.length, σ ++ [.lst (xs.take k)]) := by
  rw [slice_gen o_none (o_int i hk) o_none rfl h, hi, take_e]
theorem slice_const {xs : List PV} (i : Int) (k : Nat) (hi : i = k) (hk : small i = true) (h : σ[n]? = some (.const xs)) : slice (.obj n) .none (.int i) .none σ = some (.obj σ.length, σ ++ [.lst (xs.take k)]) := by
  rw [slice_genc o_none (o_int i hk) o_none rfl h, hi, take_e]
noncomputable def fst' : PV → PV
  | .tup [a, _] => a
  | v => v
theorem fst_tup (a b : PV) : fst' (.tup [a, b]) = a := rfl
noncomputable def snd' : PV → PV
  | .tup [_, b] => b
  | v => v
theorem d_int (k : Nat) (x : Int) : deep σ k (.int x) = some (.int x) := by cases k <;> rfl
theorem d_str (k : Nat) (x : Str) : deep σ k (.str x) = some (.str x) := by cases k <;> rfl
theorem m_cons {f : PV → Option PyData} {x : PV} {xs : List PV} {y : PyData} {ys : List PyData} (h1 : f x = some y) (h2 : mapO f xs = some ys) : mapO f (x :: xs) = some (y :: ys) := by
  simp only [mapO, h1, h2]
theorem in_at {x : PV} {ys : List PV} {d : PyData} {ds : List PyData} (h1 : deep σ 6 x = some d) (h2 : mapO (deep σ 5) ys = some ds) : isIn σ x ys = some (ds.any fun y => PyData.eqv y d) := by
  show ((deep σ 6 x).bind fun d => (mapO (deep σ 5) ys).map fun ds => ds.any fun y => PyData.eqv y d) = _
  rw [h1, h2]; rfl
theorem inO_obj {x : PV} {n : Nat} {ys : List PV} (h : σ[n]? = some (.lst ys)) : inO σ x (.obj n) = isIn σ x ys := by
  show (lstAt σ n).bind (isIn σ x) = _
  rw [lst_of h]; rfl
theorem mapO_int (k : Nat) : ∀ r : List Int, mapO (deep σ (k + 1)) (r.map PV.int) = some (r.map PyData.int)
  | [] => rfl
  | x :: r => m_cons (d_int _ x) (mapO_int k r)
theorem any_int (v : Int) : ∀ r : List Int, ((r.map PyData.int).any fun y => PyData.eqv y (.int v)) = decide (v ∈ r)
  | [] => rfl
  | x :: r => by
    rw [List.map_cons, List.any_cons, any_int v r]
    simp only [PyData.eqv, List.mem_cons, Bool.decide_or]
    congr 1
    by_cases h : x = v
    · subst h; simp
    · simp [h, Ne.symm h]
theorem isIn_int (v : Int) (r : List Int) : isIn σ (.int v) (r.map PV.int) = some (decide (v ∈ r)) :=
  (in_at (d_int _ v) (mapO_int 4 r)).trans (congrArg some (any_int v r))
theorem get_set {k j : Nat} {c : Cell} (h : k ≠ j) : (σ.set j c)[k]? = σ[k]? := List.getElem?_set_ne (Ne.symm h)
theorem get_set_same {j : Nat} {c c' : Cell} (h : σ[j]? = some c') : (σ.set j c)[j]? = some c := List.getElem?_set_self (lt_of_get h)
theorem celAt_i {k i : Nat} {cs : List Nat} {v : PV} (h0 : cs[i]? = some k) (h : σ[k]? = some (.cel (some v))) : celAt cs i σ = some v := by
  show ((cs[i]?).bind fun k => (σ[k]?).bind cellV) = _
  rw [h0]
  show (σ[k]?).bind cellV = _
  rw [h]; rfl
theorem ne_of {a b : PV} {c : Bool} (h : eqTop σ a b = some c) : cmpop σ .NotEq a b = some !c := by
  show (eqTop σ a b).map (!·) = _
  rw [h]; rfl
theorem e_nei (x : Int) : cmpop σ .NotEq (.int x) (.int x) = some false := by rw [ne_of (e_eqi x x), beq_self_eq_true]; rfl
theorem d_obj {k n : Nat} {xs : List PV} (h : σ[n]? = some (.lst xs)) : deep σ (k + 1) (.obj n) = (mapO (deep σ k) xs).map .list := by
  show ((lstAt σ n).bind fun xs => (mapO (deep σ k) xs).map PyData.list) = _
  rw [lst_of h]; rfl
theorem d_lst {k n : Nat} {xs : List PV} {ds : List PyData} (h : σ[n]? = some (.lst xs)) (hd : mapO (deep σ k) xs = some ds) : deep σ (k + 1) (.obj n) = some (.list ds) := by rw [d_obj h, hd]; rfl
theorem e_lst {n m : Nat} {xs : List PV} {ds : List PyData} (h1 : σ[n]? = some (.lst xs)) (h2 : σ[m]? = some (.lst xs)) (hd : mapO (deep σ 5) xs = some ds) (he : PyData.eqvAll ds ds = true) : cmpop σ .NotEq (.obj n) (.obj m) = some false := by
  rw [ne_of (eq_at (d_lst h1 hd) (d_lst h2 hd)), PyData.eqv, he]; rfl
theorem mapO_str (k : Nat) : ∀ r : List Str, mapO (deep σ (k + 1)) (r.map PV.str) = some (r.map PyData.str)
  | [] => rfl
  | x :: r => m_cons (d_str _ x) (mapO_str k r)
theorem eqv_strs : ∀ r : List Str, PyData.eqvAll (r.map PyData.str) (r.map PyData.str) = true
  | [] => rfl
  | x :: r => by simp only [List.map_cons, PyData.eqvAll, PyData.eqv, beq_self_eq_true, eqv_strs r, Bool.and_self]
noncomputable def Old (σ σ' : St) : Prop := σ.length ≤ σ'.length ∧ ∀ (k : Nat) (c : Cell), σ[k]? = some c → σ'[k]? = some c
theorem Old.refl (σ : St) : Old σ σ := ⟨Nat.le_refl _, fun _ _ h => h⟩
theorem Old.trans {σ₂ : St} (a : Old σ σ') (b : Old σ' σ₂) : Old σ σ₂ := ⟨Nat.le_trans a.1 b.1, fun k c h => b.2 k c (a.2 k c h)⟩
theorem Old.app (σ τ : St) : Old σ (σ ++ τ) := ⟨by simp, fun k c h => by rw [q_app _ (lt_of_get h)]; exact h⟩
theorem Old.set {c : Cell} (a : Old σ σ') (h : σ.length ≤ n) : Old σ (σ'.set n c) := ⟨by simpa using a.1, fun k c h' => by
  rw [get_set (by have := lt_of_get h'; exact Nat.ne_of_lt (Nat.lt_of_lt_of_le (by assumption) (by assumption)))]; exact a.2 k c h'⟩
theorem cut_obj {m : M PV} (h : m σ = some (.obj n, σ₁)) (_ : σ.length ≤ n) : cut m 0 σ = some (.obj n, σ₁) := h
theorem comp_grow {nl : Nat} {frees : List Nat} {it : MI} {g : MG} {fm : Fm} {src : PI} {xs : List PV} {fs : List Nat} (f : PV → List PV) (F : Fm → Prop)
    (h1 : evI T it fm σ = some (src, σ₁)) (hn : ∀ σ' i, Old σ₁ σ' → nth σ' src i = some xs[i]?) (h3 : (frees.mapM fun i => fm.cs[i]?).map List.reverse = some fs) (h4 : F ⟨List.replicate nl none, fs⟩) (h5 : xs.length < 90) (h6 : ∀ x ∈ xs, (f x).length ≤ 1)
    (hs : ∀ x ∈ xs, ∀ fm' zs σ', F fm' → Old σ₁ σ' → σ'[σ₁.length]? = some (.lst zs) → zs.length ≤ 100 → ∃ fm'' σ'', evG T g (.obj σ₁.length) (some x) fm' σ' = some (fm'', σ'') ∧ F fm'' ∧ Old σ₁ σ'' ∧ σ''[σ₁.length]? = some (.lst (zs ++ f x))) :
    ∃ σ', ev T (.comp nl 0 frees it g) fm σ = some (.obj σ₁.length, σ') ∧ Old σ₁ σ' ∧ σ'[σ₁.length]? = some (.lst (xs.flatMap f)) := by
  have key := loop_rule (γ := Unit) (src := src) (body := fun v fm' => bnd (evG T g (.obj σ₁.length) (some v) fm') fun fm'' => rt (fm'', none)) (xs := xs)
    (fun i b σ' => F b ∧ Old σ₁ σ' ∧ σ'[σ₁.length]? = some (.lst ((xs.take i).flatMap f)) ∧ ((xs.take i).flatMap f).length ≤ i)
    (fun i b σ' hI => hn σ' i hI.2.1)
    (fun i hi b σ' hI => by
      refine byc fun nh => ?_
      obtain ⟨hF, ho, hl, hz⟩ := hI
      obtain ⟨fm'', σ'', e, hF', ho', hl'⟩ := hs _ (List.getElem_mem hi) b ((xs.take i).flatMap f) σ' hF ho hl (by omega)
      have e2 : (xs.take (i + 1)).flatMap f = (xs.take i).flatMap f ++ f xs[i] := by
        rw [List.take_succ_eq_append_getElem hi, List.flatMap_append]; simp
      refine nh ?_
      refine ⟨fm'', σ'', by simp only [↓q_bnd, e, ↓q_rt], hF', ho', by rw [e2]; exact hl', ?_⟩
      rw [e2, List.length_append]
      have := h6 _ (List.getElem_mem hi)
      exact Nat.add_le_add (by assumption) (by assumption))
    fuel 0 ⟨List.replicate nl none, fs⟩ (σ₁ ++ [.lst []]) ⟨h4, Old.app _ _, q_last (σ := σ₁) (.lst []) rfl, by exact Nat.le_refl _⟩ (by exact Nat.zero_le _) (by simp [fuel]; exact Nat.lt_of_lt_of_le (by assumption) (by decide))
  refine byc fun nh => ?_
  obtain ⟨b', σ', ke, _, ho, hl, _⟩ := key
  rw [List.take_length] at hl
  refine nh ?_
  refine ⟨σ', ?_, ho, hl⟩
  rw [q_comp]
  simp only [↓q_bnd, h1, ↓q_alloc, ↓q_lift, h3, ke, ↓q_rt]
theorem push_old {xs : List PV} {v : PV} {zs : List PV} {σ₀ : St} (o : Old σ₀ σ) (hl : σ₀.length ≤ n) (h : σ[n]? = some (.lst zs)) (hz : zs.length ≤ 10000) : push (.obj n) v σ = some ((), σ.set n (.lst (zs ++ [v]))) ∧ Old σ₀ (σ.set n (.lst (zs ++ [v]))) ∧ (σ.set n (.lst (zs ++ [v])))[n]? = some (.lst (zs ++ [v])) :=
  ⟨push_at h hz, o.set hl, get_set_same h⟩
theorem nth_range (n i : Nat) : nth σ (.one (.range 0 (n : Int) 1)) i = some ((List.range n).map fun k => PV.int ((k : Nat) : Int))[i]? := by
  simp only [nth, nth1]
  by_cases h : i < n
  · have h1 : (0 : Int) + 1 * (i : Int) < (n : Int) := by omega
    rw [if_pos h1, List.getElem?_map, List.getElem?_range h]
    simp
  · have h1 : ¬ ((0 : Int) + 1 * (i : Int) < (n : Int)) := by omega
    rw [if_neg h1, List.getElem?_eq_none (by simpa using h)]
end
end Mine
end
section
set_option tactic.hygienic true
namespace Mine
open PySem PyProof.Rows
noncomputable def s_59_0 : MS := (.ret (.bin .Sub (.cmp (.var (.loc 0)) (.cons .Gt (.var (.loc 1)) .nil)) (.cmp (.var (.loc 0)) (.cons .Lt (.var (.loc 1)) .nil))))
noncomputable def b_59 : MSs := (.cons s_59_0 .nil)
noncomputable def k_59 : CF := ⟨2, 0, [(.loc 0), (.loc 1)], b_59⟩
noncomputable def s_45_0 : MS := (.cond (.cmp (.var (.loc 0)) (.cons .Eq (.var (.loc 1)) .nil)) (.cons (.ret (.cst (.int 0))) .nil) .nil)
noncomputable def s_45_1 : MS := (.cond (.cmp (.meth (.var (.loc 0)) "lower" .nil .nil) (.cons .Eq (.meth (.var (.loc 1)) "lower" .nil .nil) .nil)) (.cons (.ret (.cst (.int 1))) .nil) .nil)
noncomputable def s_45_2 : MS := (.ret (.cst (.int 2)))
noncomputable def b_45 : MSs := (.cons s_45_0 (.cons s_45_1 (.cons s_45_2 .nil)))
noncomputable def k_45 : CF := ⟨2, 0, [(.loc 0), (.loc 1)], b_45⟩
noncomputable def s_52_0 : MS := (.cond (.cmp (.var (.loc 0)) (.cons .Eq (.var (.loc 1)) .nil)) (.cons (.ret (.cst (.int 0))) .nil) .nil)
noncomputable def s_52_1 : MS := (.set [(.one (.loc 3))] (.cst (.int 0)))
noncomputable def s_52_2_0 : MS := (.aug (.loc 3) .Add (.cst (.int 1)))
noncomputable def b_52_2 : MSs := (.cons s_52_2_0 .nil)
noncomputable def s_52_2 : MS := (.whil (.and (.slc (.var (.loc 0)) (.var (.loc 3)) (.cst .none) (.cst .none)) (.and (.slc (.var (.loc 1)) (.var (.loc 3)) (.cst .none) (.cst .none)) (.cmp (.idx (.var (.loc 0)) (.var (.loc 3))) (.cons .Eq (.idx (.var (.loc 1)) (.var (.loc 3))) .nil)))) b_52_2)
noncomputable def s_52_3 : MS := (.set [(.one (.loc 0))] (.slc (.var (.loc 0)) (.var (.loc 3)) (.cst .none) (.cst .none)))
noncomputable def s_52_4 : MS := (.set [(.one (.loc 1))] (.slc (.var (.loc 1)) (.var (.loc 3)) (.cst .none) (.cst .none)))
noncomputable def s_52_5 : MS := (.set [(.one (.loc 4))] (.cst (.int 0)))
noncomputable def s_52_6_0 : MS := (.aug (.loc 4) .Sub (.cst (.int 1)))
noncomputable def b_52_6 : MSs := (.cons s_52_6_0 .nil)
noncomputable def s_52_6 : MS := (.whil (.and (.slc (.var (.loc 0)) (.cst .none) (.or (.var (.loc 4)) (.cst .none)) (.cst .none)) (.and (.slc (.var (.loc 1)) (.cst .none) (.or (.var (.loc 4)) (.cst .none)) (.cst .none)) (.cmp (.idx (.var (.loc 0)) (.bin .Sub (.var (.loc 4)) (.cst (.int 1)))) (.cons .Eq (.idx (.var (.loc 1)) (.bin .Sub (.var (.loc 4)) (.cst (.int 1)))) .nil)))) b_52_6)
noncomputable def s_52_7 : MS := (.set [(.one (.loc 0))] (.slc (.var (.loc 0)) (.cst .none) (.or (.var (.loc 4)) (.cst .none)) (.cst .none)))
noncomputable def s_52_8 : MS := (.set [(.one (.loc 1))] (.slc (.var (.loc 1)) (.cst .none) (.or (.var (.loc 4)) (.cst .none)) (.cst .none)))
noncomputable def s_52_9 : MS := (.cond (.or (.not (.var (.loc 0))) (.not (.var (.loc 1)))) (.cons (.ret (.bin .Mult (.cst (.int 2)) (.bin .Add (.call (.cst (.top (.builtin "len"))) (.cons (.var (.loc 0)) .nil) .nil) (.call (.cst (.top (.builtin "len"))) (.cons (.var (.loc 1)) .nil) .nil)))) .nil) .nil)
noncomputable def s_52_10 : MS := (.cond (.or (.cmp (.call (.cst (.top (.builtin "len"))) (.cons (.var (.loc 0)) .nil) .nil) (.cons .Gt (.cst (.int 40)) .nil)) (.cmp (.call (.cst (.top (.builtin "len"))) (.cons (.var (.loc 1)) .nil) .nil) (.cons .Gt (.cst (.int 40)) .nil))) (.cons (.ret (.bin .Add (.var (.loc 2)) (.cst (.int 1)))) .nil) .nil)
noncomputable def s_52_11 : MS := (.cond (.cmp (.call (.cst (.top (.builtin "len"))) (.cons (.var (.loc 1)) .nil) .nil) (.cons .Lt (.call (.cst (.top (.builtin "len"))) (.cons (.var (.loc 0)) .nil) .nil) .nil)) (.cons (.set [(.tup [(.loc 0), (.loc 1)])] (.tup (.cons (.var (.loc 1)) (.cons (.var (.loc 0)) .nil)))) .nil) .nil)
noncomputable def s_52_12 : MS := (.cond (.cmp (.bin .Mult (.bin .Sub (.call (.cst (.top (.builtin "len"))) (.cons (.var (.loc 1)) .nil) .nil) (.call (.cst (.top (.builtin "len"))) (.cons (.var (.loc 0)) .nil) .nil)) (.cst (.int 2))) (.cons .Gt (.var (.loc 2)) .nil)) (.cons (.ret (.bin .Add (.var (.loc 2)) (.cst (.int 1)))) .nil) .nil)
noncomputable def s_52_13 : MS := (.set [(.one (.loc 5))] (.call (.cst (.top (.type "list"))) (.cons (.call (.cst (.top (.type "range"))) (.cons (.cst (.int 2)) (.cons (.bin .Mult (.cst (.int 2)) (.bin .Add (.call (.cst (.top (.builtin "len"))) (.cons (.var (.loc 0)) .nil) .nil) (.cst (.int 1)))) (.cons (.cst (.int 2)) .nil))) .nil) .nil) .nil))
noncomputable def s_52_14 : MS := (.set [(.one (.loc 6))] (.cst (.int 0)))
noncomputable def s_52_15_0 : MS := (.set [(.one (.loc 8))] (.idx (.var (.loc 1)) (.var (.loc 7))))
noncomputable def s_52_15_1 : MS := (.set [(.one (.loc 9)), (.one (.loc 6))] (.bin .Mult (.var (.loc 7)) (.cst (.int 2))))
noncomputable def s_52_15_2 : MS := (.set [(.one (.loc 10))] (.cst (.int 9223372036854775807)))
noncomputable def s_52_15_3_0 : MS := (.set [(.one (.loc 12))] (.bin .Add (.var (.loc 9)) (.call (.cst (.top (.ref 45))) (.cons (.var (.loc 8)) (.cons (.idx (.var (.loc 0)) (.var (.loc 11))) .nil)) .nil)))
noncomputable def s_52_15_3_1 : MS := (.set [(.one (.loc 9))] (.idx (.var (.loc 5)) (.var (.loc 11))))
noncomputable def s_52_15_3_2 : MS := (.set [(.one (.loc 13))] (.bin .Add (.call (.cst (.top (.builtin "min"))) (.cons (.var (.loc 6)) (.cons (.var (.loc 9)) .nil)) .nil) (.cst (.int 2))))
noncomputable def s_52_15_3_3 : MS := (.set [(.one (.loc 6))] (.call (.cst (.top (.builtin "min"))) (.cons (.var (.loc 13)) (.cons (.var (.loc 12)) .nil)) .nil))
noncomputable def s_52_15_3_4 : MS := (.seti (.var (.loc 5)) (.var (.loc 11)) (.var (.loc 6)))
noncomputable def s_52_15_3_5 : MS := (.cond (.cmp (.var (.loc 6)) (.cons .Lt (.var (.loc 10)) .nil)) (.cons (.set [(.one (.loc 10))] (.var (.loc 6))) .nil) .nil)
noncomputable def b_52_15_3 : MSs := (.cons s_52_15_3_0 (.cons s_52_15_3_1 (.cons s_52_15_3_2 (.cons s_52_15_3_3 (.cons s_52_15_3_4 (.cons s_52_15_3_5 .nil))))))
noncomputable def s_52_15_3 : MS := (.loop (.one (.loc 11)) (.val (.call (.cst (.top (.type "range"))) (.cons (.call (.cst (.top (.builtin "len"))) (.cons (.var (.loc 0)) .nil) .nil) .nil) .nil)) b_52_15_3)
noncomputable def s_52_15_4 : MS := (.cond (.cmp (.var (.loc 10)) (.cons .Gt (.var (.loc 2)) .nil)) (.cons (.ret (.bin .Add (.var (.loc 2)) (.cst (.int 1)))) .nil) .nil)
noncomputable def b_52_15 : MSs := (.cons s_52_15_0 (.cons s_52_15_1 (.cons s_52_15_2 (.cons s_52_15_3 (.cons s_52_15_4 .nil)))))
noncomputable def s_52_15 : MS := (.loop (.one (.loc 7)) (.val (.call (.cst (.top (.type "range"))) (.cons (.call (.cst (.top (.builtin "len"))) (.cons (.var (.loc 1)) .nil) .nil) .nil) .nil)) b_52_15)
noncomputable def s_52_16 : MS := (.ret (.var (.loc 6)))
noncomputable def b_52 : MSs := (.cons s_52_0 (.cons s_52_1 (.cons s_52_2 (.cons s_52_3 (.cons s_52_4 (.cons s_52_5 (.cons s_52_6 (.cons s_52_7 (.cons s_52_8 (.cons s_52_9 (.cons s_52_10 (.cons s_52_11 (.cons s_52_12 (.cons s_52_13 (.cons s_52_14 (.cons s_52_15 (.cons s_52_16 .nil)))))))))))))))))
noncomputable def k_52 : CF := ⟨14, 0, [(.loc 0), (.loc 1), (.loc 2)], b_52⟩
noncomputable def s_214_0 : MS := (.set [(.one (.loc 1))] (.cst (.str "")))
noncomputable def s_214_1_0 : MS := (.aug (.loc 1) .Add (.ite (.bin .Mod (.bin .FloorDiv (.var (.loc 0)) (.var (.loc 2))) (.cst (.int 2))) (.var (.loc 4)) (.var (.loc 3))))
noncomputable def b_214_1 : MSs := (.cons s_214_1_0 .nil)
noncomputable def s_214_1 : MS := (.loop (.tup [(.loc 2), (.loc 3), (.loc 4)]) (.val (.list (.cons (.tup (.cons (.cst (.int 8)) (.cons (.cst (.str "a")) (.cons (.cst (.str "A")) .nil)))) (.cons (.tup (.cons (.cst (.int 4)) (.cons (.cst (.str "b")) (.cons (.cst (.str "B")) .nil)))) (.cons (.tup (.cons (.cst (.int 2)) (.cons (.cst (.str "y")) (.cons (.cst (.str "p")) .nil)))) (.cons (.tup (.cons (.cst (.int 1)) (.cons (.cst (.str "z")) (.cons (.cst (.str "")) .nil)))) .nil)))))) b_214_1)
noncomputable def s_214_2 : MS := (.ret (.var (.loc 1)))
noncomputable def b_214 : MSs := (.cons s_214_0 (.cons s_214_1 (.cons s_214_2 .nil)))
noncomputable def k_214 : CF := ⟨5, 0, [(.loc 0)], b_214⟩
noncomputable def s_221_0 : MS := (.set [(.one (.loc 2))] (.list .nil))
noncomputable def s_221_1_0 : MS := (.set [(.one (.loc 4))] (.list .nil))
noncomputable def s_221_1_1_0 : MS := (.set [(.one (.loc 6))] (.call (.cst (.top (.ref 59))) (.cons (.idx (.var (.loc 0)) (.var (.loc 5))) (.cons (.idx (.var (.loc 0)) (.var (.loc 3))) .nil)) .nil))
noncomputable def s_221_1_1_1 : MS := (.set [(.one (.loc 7))] (.bin .Sub (.idx (.var (.loc 1)) (.var (.loc 3))) (.idx (.var (.loc 1)) (.var (.loc 5)))))
noncomputable def s_221_1_1_2 : MS := (.cond (.and (.cmp (.var (.loc 6)) (.cons .Eq (.cst (.int 0)) .nil)) (.cmp (.var (.loc 5)) (.cons .Lt (.var (.loc 3)) .nil))) (.cons (.expr (.meth (.var (.loc 4)) "append" (.cons (.var (.loc 5)) .nil) .nil)) .nil) .nil)
noncomputable def s_221_1_1_3 : MS := (.cond (.and (.cmp (.var (.loc 6)) (.cons .Eq (.cst (.int 1)) .nil)) (.cmp (.call (.cst (.top (.ref 52))) (.cons (.idx (.var (.loc 0)) (.var (.loc 5))) (.cons (.idx (.var (.loc 0)) (.var (.loc 3))) (.cons (.var (.loc 7)) .nil))) .nil) (.cons .Eq (.var (.loc 7)) .nil))) (.cons (.expr (.meth (.var (.loc 4)) "append" (.cons (.var (.loc 5)) .nil) .nil)) .nil) .nil)
noncomputable def b_221_1_1 : MSs := (.cons s_221_1_1_0 (.cons s_221_1_1_1 (.cons s_221_1_1_2 (.cons s_221_1_1_3 .nil))))
noncomputable def s_221_1_1 : MS := (.loop (.one (.loc 5)) (.val (.call (.cst (.top (.type "range"))) (.cons (.call (.cst (.top (.builtin "len"))) (.cons (.var (.loc 0)) .nil) .nil) .nil) .nil)) b_221_1_1)
noncomputable def s_221_1_2 : MS := (.expr (.meth (.var (.loc 2)) "append" (.cons (.var (.loc 4)) .nil) .nil))
noncomputable def b_221_1 : MSs := (.cons s_221_1_0 (.cons s_221_1_1 (.cons s_221_1_2 .nil)))
noncomputable def s_221_1 : MS := (.loop (.one (.loc 3)) (.val (.call (.cst (.top (.type "range"))) (.cons (.call (.cst (.top (.builtin "len"))) (.cons (.var (.loc 0)) .nil) .nil) .nil) .nil)) b_221_1)
noncomputable def s_221_2 : MS := (.ret (.var (.loc 2)))
noncomputable def b_221 : MSs := (.cons s_221_0 (.cons s_221_1 (.cons s_221_2 .nil)))
noncomputable def k_221 : CF := ⟨8, 0, [(.loc 0), (.loc 1)], b_221⟩
noncomputable def s_228_0_0 : MS := (.cond (.cmp (.var (.loc 4)) (.cons .NotIn (.var (.loc 3)) .nil)) (.cons (.expr (.meth (.var (.loc 3)) "append" (.cons (.var (.loc 4)) .nil) .nil)) (.cons (.set [(.one (.loc 5))] (.meth (.var (.loc 0)) "get" (.cons (.idx (.cst (.str "klmnop")) (.var (.loc 4))) .nil) .nil)) (.cons (.cond (.or (.cmp (.var (.loc 5)) (.cons .Is (.cst .none) .nil)) (.call (.cst (.top (.ref 228))) (.cons (.var (.loc 0)) (.cons (.var (.loc 1)) (.cons (.call (.cst (.top (.type "int"))) (.cons (.var (.loc 5)) .nil) .nil) (.cons (.var (.loc 3)) .nil)))) .nil)) (.cons (.seti (.var (.loc 0)) (.idx (.cst (.str "KLMNOP")) (.var (.loc 4))) (.bin .Mod (.cst (.str "%d")) (.var (.loc 2)))) (.cons (.ret (.cst (.bool true))) .nil)) .nil) .nil))) .nil)
noncomputable def b_228_0 : MSs := (.cons s_228_0_0 .nil)
noncomputable def s_228_0 : MS := (.loop (.one (.loc 4)) (.val (.idx (.var (.loc 1)) (.var (.loc 2)))) b_228_0)
noncomputable def s_228_1 : MS := (.ret (.cst (.bool false)))
noncomputable def b_228 : MSs := (.cons s_228_0 (.cons s_228_1 .nil))
noncomputable def k_228 : CF := ⟨6, 0, [(.loc 0), (.loc 1), (.loc 2), (.loc 3)], b_228⟩
noncomputable def s_240_0_0 : MS := (.cond (.cmp (.call (.cst (.top (.builtin "len"))) (.cons (.idx (.var (.loc 0)) (.var (.loc 1))) .nil) .nil) (.cons .Gt (.call (.cst (.top (.builtin "len"))) (.cons (.idx (.var (.loc 0)) (.bin .Sub (.var (.loc 1)) (.cst (.int 1)))) .nil) .nil) .nil)) (.cons (.ret (.cst (.bool false))) .nil) .nil)
noncomputable def s_240_0_1_0 : MS := (.cond (.and (.cmp (.var (.loc 2)) (.cons .NotEq (.var (.loc 3)) .nil)) (.or (.cmp (.var (.loc 2)) (.cons .NotIn (.cst (.str "aby")) .nil)) (.cmp (.var (.loc 3)) (.cons .NotIn (.cst (.str "ABp")) .nil)))) (.cons (.ret (.cst (.bool false))) .nil) .nil)
noncomputable def b_240_0_1 : MSs := (.cons s_240_0_1_0 .nil)
noncomputable def s_240_0_1 : MS := (.loop (.tup [(.loc 2), (.loc 3)]) (.zip (.cons (.idx (.var (.loc 0)) (.bin .Sub (.var (.loc 1)) (.cst (.int 1)))) (.cons (.idx (.var (.loc 0)) (.var (.loc 1))) .nil))) b_240_0_1)
noncomputable def b_240_0 : MSs := (.cons s_240_0_0 (.cons s_240_0_1 .nil))
noncomputable def s_240_0 : MS := (.loop (.one (.loc 1)) (.val (.call (.cst (.top (.type "range"))) (.cons (.cst (.int 1)) (.cons (.call (.cst (.top (.builtin "len"))) (.cons (.var (.loc 0)) .nil) .nil) .nil)) .nil)) b_240_0)
noncomputable def s_240_1 : MS := (.ret (.cst (.bool true)))
noncomputable def b_240 : MSs := (.cons s_240_0 (.cons s_240_1 .nil))
noncomputable def k_240 : CF := ⟨4, 0, [(.loc 0)], b_240⟩
noncomputable def s_245_0 : MS := (.cond (.cmp (.var (.cel 0)) (.cons .Eq (.list .nil) .nil)) (.cons (.ret (.cst (.int 0))) .nil) .nil)
noncomputable def s_245_1 : MS := (.set [(.one (.loc 0))] (.comp 2 0 [0] (.val (.slc (.var (.cel 0)) (.cst (.int 1)) (.cst .none) (.cst .none))) (.lvl (.one (.loc 1)) (.cons (.cmp (.bin .BitAnd (.var (.loc 1)) (.idx (.var (.cel 0)) (.cst (.int 0)))) (.cons .NotIn (.tup (.cons (.var (.loc 1)) (.cons (.idx (.var (.cel 0)) (.cst (.int 0))) .nil))) .nil)) .nil) (.elt (.var (.loc 1))))))
noncomputable def s_245_2 : MS := (.ret (.call (.cst (.top (.builtin "max"))) (.cons (.call (.cst (.top (.ref 245))) (.cons (.slc (.var (.cel 0)) (.cst (.int 1)) (.cst .none) (.cst .none)) .nil) .nil) (.cons (.bin .Add (.cst (.int 1)) (.call (.cst (.top (.ref 245))) (.cons (.var (.loc 0)) .nil) .nil)) .nil)) .nil))
noncomputable def b_245 : MSs := (.cons s_245_0 (.cons s_245_1 (.cons s_245_2 .nil)))
noncomputable def k_245 : CF := ⟨1, 1, [(.cel 0)], b_245⟩
noncomputable def s_97_0 : MS := (.set [(.one (.loc 1))] (.ite (.cmp (.var (.loc 1)) (.cons .IsNot (.cst .none) .nil)) (.var (.loc 1)) (.list .nil)))
noncomputable def s_97_1 : MS := (.cond (.cmp (.call (.cst (.top (.type "type"))) (.cons (.var (.loc 1)) .nil) .nil) (.cons .IsNot (.cst (.top (.type "list"))) .nil)) (.cons .bad .nil) .nil)
noncomputable def s_97_2 : MS := (.seta (.var (.loc 0)) "_headers" (.var (.loc 1)))
noncomputable def s_97_3t_0_0 : MS := (.expr (.meth (.var (.loc 0)) "_convert_string_type" (.cons (.var (.loc 2)) .nil) (.cons "name" (.cst (.bool true)) .nil)))
noncomputable def s_97_3t_0_1 : MS := (.expr (.meth (.var (.loc 0)) "_convert_string_type" (.cons (.var (.loc 3)) .nil) (.cons "name" (.cst (.bool false)) .nil)))
noncomputable def b_97_3t_0 : MSs := (.cons s_97_3t_0_0 (.cons s_97_3t_0_1 .nil))
noncomputable def s_97_3t_0 : MS := (.loop (.tup [(.loc 2), (.loc 3)]) (.val (.var (.loc 1))) b_97_3t_0)
noncomputable def b_97_3t : MSs := (.cons s_97_3t_0 .nil)
noncomputable def s_97_3 : MS := (.cond (.cst (.bool true)) b_97_3t .nil)
noncomputable def b_97 : MSs := (.cons s_97_0 (.cons s_97_1 (.cons s_97_2 (.cons s_97_3 .nil))))
noncomputable def k_97 : CF := ⟨4, 0, [(.loc 0), (.loc 1)], b_97⟩
noncomputable def s_104_0 : MS := (.cond (.cmp (.call (.cst (.top (.type "type"))) (.cons (.var (.loc 1)) .nil) .nil) (.cons .Is (.cst (.top (.type "str"))) .nil)) (.cons (.set [(.one (.loc 3))] (.ite (.var (.loc 2)) (.cst (.top (.ref 69))) (.cst (.top (.ref 74))))) (.cons (.cond (.meth (.var (.loc 3)) "search" (.cons (.var (.loc 1)) .nil) .nil) (.cons .bad .nil) .nil) (.cons (.ret (.var (.loc 1))) .nil))) .nil)
noncomputable def s_104_1 : MS := .bad
noncomputable def b_104 : MSs := (.cons s_104_0 (.cons s_104_1 .nil))
noncomputable def k_104 : CF := ⟨4, 0, [(.loc 0), (.loc 1), (.loc 2)], b_104⟩
noncomputable def s_142_0 : MS := (.set [(.one (.cel 0))] (.meth (.var (.loc 0)) "_convert_string_type" (.cons (.meth (.var (.cel 0)) "lower" .nil .nil) .nil) (.cons "name" (.cst (.bool true)) .nil)))
noncomputable def s_142_1 : MS := (.ret (.comp 2 0 [0] (.val (.attr (.var (.loc 0)) "_headers")) (.lvl (.one (.loc 1)) (.cons (.cmp (.meth (.idx (.var (.loc 1)) (.cst (.int 0))) "lower" .nil .nil) (.cons .Eq (.var (.cel 0)) .nil)) .nil) (.elt (.idx (.var (.loc 1)) (.cst (.int 1)))))))
noncomputable def b_142 : MSs := (.cons s_142_0 (.cons s_142_1 .nil))
noncomputable def k_142 : CF := ⟨1, 1, [(.loc 0), (.cel 0)], b_142⟩
noncomputable def s_150_0 : MS := (.set [(.one (.loc 1))] (.meth (.var (.loc 0)) "_convert_string_type" (.cons (.meth (.var (.loc 1)) "lower" .nil .nil) .nil) (.cons "name" (.cst (.bool true)) .nil)))
noncomputable def s_150_1_0 : MS := (.cond (.cmp (.meth (.var (.loc 3)) "lower" .nil .nil) (.cons .Eq (.var (.loc 1)) .nil)) (.cons (.ret (.var (.loc 4))) .nil) .nil)
noncomputable def b_150_1 : MSs := (.cons s_150_1_0 .nil)
noncomputable def s_150_1 : MS := (.loop (.tup [(.loc 3), (.loc 4)]) (.val (.attr (.var (.loc 0)) "_headers")) b_150_1)
noncomputable def s_150_2 : MS := (.ret (.var (.loc 2)))
noncomputable def b_150 : MSs := (.cons s_150_0 (.cons s_150_1 (.cons s_150_2 .nil)))
noncomputable def k_150 : CF := ⟨5, 0, [(.loc 0), (.loc 1), (.loc 2)], b_150⟩
noncomputable def s_155_0 : MS := (.ret (.comp 3 0 [] (.val (.attr (.var (.loc 0)) "_headers")) (.lvl (.tup [(.loc 1), (.loc 2)]) .nil (.elt (.var (.loc 1))))))
noncomputable def b_155 : MSs := (.cons s_155_0 .nil)
noncomputable def k_155 : CF := ⟨1, 0, [(.loc 0)], b_155⟩
noncomputable def s_167_0 : MS := (.ret (.slc (.attr (.var (.loc 0)) "_headers") (.cst .none) (.cst .none) (.cst .none)))
noncomputable def b_167 : MSs := (.cons s_167_0 .nil)
noncomputable def k_167 : CF := ⟨1, 0, [(.loc 0)], b_167⟩
noncomputable def s_123_0 : MS := (.set [(.one (.cel 0))] (.meth (.var (.loc 0)) "_convert_string_type" (.cons (.meth (.var (.cel 0)) "lower" .nil .nil) .nil) (.cons "name" (.cst (.bool true)) .nil)))
noncomputable def b_123 : MSs := (.cons s_123_0 .nil)
noncomputable def k_123 : CF := ⟨1, 1, [(.loc 0), (.cel 0)], b_123⟩
noncomputable def b_123x : MSs := .nil
noncomputable def b_118 : MSs := .nil
noncomputable def k_118 : CF := ⟨3, 0, [(.loc 0), (.loc 1), (.loc 2)], b_118⟩
noncomputable def s_118x_0 : MS := (.expr (.meth (.attr (.var (.loc 0)) "_headers") "append" (.cons (.tup (.cons (.meth (.var (.loc 0)) "_convert_string_type" (.cons (.var (.loc 1)) .nil) (.cons "name" (.cst (.bool true)) .nil)) (.cons (.meth (.var (.loc 0)) "_convert_string_type" (.cons (.var (.loc 2)) .nil) (.cons "name" (.cst (.bool false)) .nil)) .nil))) .nil) .nil))
noncomputable def b_118x : MSs := (.cons s_118x_0 .nil)
noncomputable def s_233_0 : MS := (.set [(.one (.cel 1))] (.slc (.list (.cons (.cst (.str "k")) (.cons (.cst (.str "l")) (.cons (.cst (.str "m")) (.cons (.cst (.str "n")) (.cons (.cst (.str "o")) (.cons (.cst (.str "p")) .nil))))))) (.cst .none) (.call (.cst (.top (.builtin "len"))) (.cons (.var (.loc 1)) .nil) .nil) (.cst .none)))
noncomputable def s_233_1 : MS := (.set [(.one (.cel 0))] (.call (.cst (.top (.ref 203))) .nil .nil))
noncomputable def b_233 : MSs := (.cons s_233_0 (.cons s_233_1 .nil))
noncomputable def k_233 : CF := ⟨5, 3, [(.loc 0), (.loc 1), (.cel 2)], b_233⟩
noncomputable def s_233x_0 : MS := (.ret (.comp 2 0 [0, 1] (.val (.cst (.str "KlMnOp"))) (.lvl (.one (.loc 1)) (.cons (.cmp (.meth (.var (.loc 1)) "lower" .nil .nil) (.cons .In (.var (.cel 0)) .nil)) .nil) (.elt (.meth (.var (.cel 1)) "get_all" (.cons (.var (.loc 1)) .nil) .nil)))))
noncomputable def b_233x : MSs := (.cons s_233x_0 .nil)
noncomputable def s_250_0 : MS := (.set [(.one (.loc 1))] (.slc (.bin .Add (.slc (.var (.loc 0)) (.cst .none) (.cst (.int 6)) (.cst .none)) (.list (.cons (.cst (.int 1)) (.cons (.cst (.int 2)) (.cons (.cst (.int 3)) (.cons (.cst (.int 5)) .nil)))))) (.cst .none) (.call (.cst (.top (.builtin "max"))) (.cons (.cst (.int 4)) (.cons (.call (.cst (.top (.builtin "len"))) (.cons (.slc (.var (.loc 0)) (.cst .none) (.cst (.int 6)) (.cst .none)) .nil) .nil) .nil)) .nil) (.cst .none)))
noncomputable def s_250_1 : MS := (.set [(.one (.cel 4))] (.comp 2 0 [] (.val (.var (.loc 1))) (.lvl (.one (.loc 1)) .nil (.elt (.bin .Mod (.var (.loc 1)) (.cst (.int 16)))))))
noncomputable def s_250_2 : MS := (.set [(.one (.cel 3))] (.comp 2 0 [] (.val (.var (.cel 4))) (.lvl (.one (.loc 1)) .nil (.elt (.call (.cst (.top (.ref 214))) (.cons (.var (.loc 1)) .nil) .nil)))))
noncomputable def s_250_3 : MS := (.set [(.one (.loc 2))] (.comp 2 0 [] (.val (.var (.cel 3))) (.lvl (.one (.loc 1)) .nil (.elt (.call (.cst (.top (.ref 52))) (.cons (.cst (.str "abyz")) (.cons (.var (.loc 1)) (.cons (.cst (.int 6)) .nil))) .nil)))))
noncomputable def s_250_4 : MS := (.cond (.cmp (.var (.loc 2)) (.cons .NotEq (.comp 2 0 [] (.val (.var (.cel 4))) (.lvl (.one (.loc 1)) .nil (.elt (.bin .Add (.bin .Add (.bin .Add (.bin .FloorDiv (.var (.loc 1)) (.cst (.int 8))) (.bin .Mod (.bin .FloorDiv (.var (.loc 1)) (.cst (.int 4))) (.cst (.int 2)))) (.bin .Mult (.cst (.int 2)) (.bin .Mod (.bin .FloorDiv (.var (.loc 1)) (.cst (.int 2))) (.cst (.int 2))))) (.bin .Mult (.cst (.int 2)) (.bin .Mod (.var (.loc 1)) (.cst (.int 2)))))))) .nil)) (.cons (.ret (.cst (.bool false))) .nil) .nil)
noncomputable def s_250_5 : MS := (.set [(.one (.loc 3))] (.comp 1 1 [3] (.val (.var (.cel 3))) (.lvl (.one (.cel 0)) .nil (.elt (.comp 2 0 [0] (.val (.var (.cel 1))) (.lvl (.one (.loc 1)) .nil (.elt (.call (.cst (.top (.ref 59))) (.cons (.var (.cel 0)) (.cons (.var (.loc 1)) .nil)) .nil))))))))
noncomputable def s_250_6 : MS := (.cond (.cmp (.var (.loc 3)) (.cons .NotEq (.comp 1 1 [4] (.val (.var (.cel 4))) (.lvl (.one (.cel 0)) .nil (.elt (.comp 2 0 [0] (.val (.var (.cel 1))) (.lvl (.one (.loc 1)) .nil (.elt (.bin .Sub (.cmp (.var (.loc 1)) (.cons .Gt (.var (.cel 0)) .nil)) (.cmp (.var (.loc 1)) (.cons .Lt (.var (.cel 0)) .nil))))))))) .nil)) (.cons (.ret (.cst (.bool false))) .nil) .nil)
noncomputable def s_250_7 : MS := (.set [(.one (.cel 2))] (.call (.cst (.top (.ref 221))) (.cons (.var (.cel 3)) (.cons (.var (.loc 2)) .nil)) .nil))
noncomputable def s_250_8 : MS := (.set [(.one (.cel 1))] (.call (.cst (.top (.type "range"))) (.cons (.call (.cst (.top (.builtin "len"))) (.cons (.var (.cel 4)) .nil) .nil) .nil) .nil))
noncomputable def s_250_9 : MS := (.cond (.cmp (.var (.cel 2)) (.cons .NotEq (.comp 1 1 [1, 4] (.val (.var (.cel 1))) (.lvl (.one (.cel 0)) .nil (.elt (.comp 2 0 [0, 1] (.val (.var (.cel 2))) (.lvl (.one (.loc 1)) (.cons (.and (.cmp (.bin .BitAnd (.idx (.var (.cel 0)) (.var (.loc 1))) (.idx (.var (.cel 0)) (.var (.cel 1)))) (.cons .Eq (.idx (.var (.cel 0)) (.var (.loc 1))) .nil)) (.or (.cmp (.idx (.var (.cel 0)) (.var (.loc 1))) (.cons .NotEq (.idx (.var (.cel 0)) (.var (.cel 1))) .nil)) (.cmp (.var (.loc 1)) (.cons .Lt (.var (.cel 1)) .nil)))) .nil) (.elt (.var (.loc 1)))))))) .nil)) (.cons (.ret (.cst (.bool false))) .nil) .nil)
noncomputable def s_250_10 : MS := (.set [(.one (.cel 0))] (.call (.cst (.top (.ref 203))) .nil .nil))
noncomputable def s_250_11 : MS := (.set [(.one (.loc 4))] (.comp 2 0 [0, 2] (.val (.var (.cel 1))) (.lvl (.one (.loc 1)) .nil (.elt (.call (.cst (.top (.ref 228))) (.cons (.var (.cel 1)) (.cons (.var (.cel 0)) (.cons (.var (.loc 1)) (.cons (.list .nil) .nil)))) .nil)))))
noncomputable def b_250 : MSs := (.cons s_250_0 (.cons s_250_1 (.cons s_250_2 (.cons s_250_3 (.cons s_250_4 (.cons s_250_5 (.cons s_250_6 (.cons s_250_7 (.cons s_250_8 (.cons s_250_9 (.cons s_250_10 (.cons s_250_11 .nil))))))))))))
noncomputable def k_250 : CF := ⟨6, 5, [(.loc 0)], b_250⟩
noncomputable def s_250x_0 : MS := (.cond (.or (.cmp (.call (.cst (.top (.builtin "len"))) (.cons (.var (.loc 5)) .nil) .nil) (.cons .NotEq (.bin .Sub (.call (.cst (.top (.builtin "len"))) (.cons (.var (.cel 3)) .nil) .nil) (.call (.cst (.top (.builtin "len"))) (.cons (.meth (.var (.cel 0)) "keys" .nil .nil) .nil) .nil)) .nil)) (.cmp (.meth (.var (.loc 4)) "count" (.cons (.cst (.bool true)) .nil) .nil) (.cons .NotEq (.call (.cst (.top (.builtin "len"))) (.cons (.meth (.var (.cel 0)) "keys" .nil .nil) .nil) .nil) .nil))) (.cons (.ret (.cst (.bool false))) .nil) .nil)
noncomputable def s_250x_1 : MS := (.cond (.cmp (.cst (.bool false)) (.cons .In (.comp 2 0 [] (.val (.var (.loc 5))) (.lvl (.one (.loc 1)) .nil (.elt (.call (.cst (.top (.ref 240))) (.cons (.var (.loc 1)) .nil) .nil)))) .nil)) (.cons (.ret (.cst (.bool false))) .nil) .nil)
noncomputable def s_250x_2 : MS := (.ret (.and (.cmp (.call (.cst (.top (.builtin "sorted"))) (.cons (.comp 3 0 [] (.val (.var (.loc 5))) (.lvl (.one (.loc 1)) .nil (.nest (.val (.var (.loc 1))) (.lvl (.one (.loc 2)) .nil (.elt (.var (.loc 2))))))) .nil) .nil) (.cons .Eq (.call (.cst (.top (.builtin "sorted"))) (.cons (.var (.cel 3)) .nil) .nil) .nil)) (.cmp (.call (.cst (.top (.builtin "len"))) (.cons (.var (.loc 5)) .nil) .nil) (.cons .Eq (.call (.cst (.top (.ref 245))) (.cons (.var (.cel 4)) .nil) .nil) .nil))))
noncomputable def b_250x : MSs := (.cons s_250x_0 (.cons s_250x_1 (.cons s_250x_2 .nil)))
noncomputable def s_200_0 : MS := (.set [(.one (.loc 4))] (.list .nil))
noncomputable def s_200_1 : MS := (.cond (.cmp (.var (.loc 2)) (.cons .IsNot (.cst .none) .nil)) (.cons (.set [(.one (.loc 2))] (.meth (.var (.loc 0)) "_convert_string_type" (.cons (.var (.loc 2)) .nil) (.cons "name" (.cst (.bool false)) .nil))) (.cons (.expr (.meth (.var (.loc 4)) "append" (.cons (.var (.loc 2)) .nil) .nil)) .nil)) .nil)
noncomputable def b_200 : MSs := (.cons s_200_0 (.cons s_200_1 .nil))
noncomputable def k_200 : CF := ⟨7, 0, [(.loc 0), (.loc 1), (.loc 2), (.loc 3)], b_200⟩
noncomputable def s_200x_0 : MS := (.expr (.meth (.attr (.var (.loc 0)) "_headers") "append" (.cons (.tup (.cons (.meth (.var (.loc 0)) "_convert_string_type" (.cons (.var (.loc 1)) .nil) (.cons "name" (.cst (.bool true)) .nil)) (.cons (.meth (.cst (.str "; ")) "join" (.cons (.var (.loc 4)) .nil) .nil) .nil))) .nil) .nil))
noncomputable def b_200x : MSs := (.cons s_200x_0 .nil)
noncomputable def s_233b_0_0 : MS := (.cond (.cmp (.var (.loc 4)) (.cons .Eq (.bin .Mod (.cst (.str "%d")) (.var (.loc 2))) .nil)) (.cons (.seti (.var (.cel 1)) (.var (.loc 2)) (.idx (.var (.cel 1)) (.meth (.cst (.str "KLMNOP")) "index" (.cons (.var (.loc 3)) .nil) .nil))) .nil) .nil)
noncomputable def b_233b_0 : MSs := (.cons s_233b_0_0 .nil)
noncomputable def s_233b_0 : MS := (.loop (.tup [(.loc 3), (.loc 4)]) (.val (.meth (.var (.loc 0)) "items" .nil .nil)) b_233b_0)
noncomputable def s_233b_1 : MS := (.expr (.meth (.var (.cel 0)) "add_header" (.cons (.ite (.bin .Mod (.var (.loc 2)) (.cst (.int 2))) (.meth (.idx (.var (.cel 1)) (.var (.loc 2))) "upper" .nil .nil) (.idx (.var (.cel 1)) (.var (.loc 2)))) (.cons (.idx (.var (.loc 1)) (.var (.loc 2))) .nil)) .nil))
noncomputable def b_233b : MSs := (.cons s_233b_0 (.cons s_233b_1 .nil))
theorem ke_59 : cf 59 ["a", "b"] = k_59 := by kernel_rfl
theorem ke_45 : cf 45 ["ch_a", "ch_b"] = k_45 := by kernel_rfl
theorem ke_52 : cf 52 ["a", "b", "max_cost"] = k_52 := by kernel_rfl
theorem ke_214 : cf 214 ["number"] = k_214 := by kernel_rfl
theorem ke_221 : cf 221 ["words", "ranks"] = k_221 := by kernel_rfl
theorem ke_228 : cf 228 ["table", "under", "high", "tried"] = k_228 := by kernel_rfl
theorem ke_240 : cf 240 ["row"] = k_240 := by kernel_rfl
theorem ke_245 : cf 245 ["sets"] = k_245 := by kernel_rfl
theorem ke_97 : cf 97 ["self", "headers"] = k_97 := by kernel_rfl
theorem ke_104 : cf 104 ["self", "value", "name"] = k_104 := by kernel_rfl
theorem ke_142 : cf 142 ["self", "name"] = k_142 := by kernel_rfl
theorem ke_150 : cf 150 ["self", "name", "default"] = k_150 := by kernel_rfl
theorem ke_155 : cf 155 ["self"] = k_155 := by kernel_rfl
theorem ke_167 : cf 167 ["self"] = k_167 := by kernel_rfl
theorem ke_123 : cf' 123 ["self", "name"] 1 = (k_123, b_123x) := by kernel_rfl
theorem ke_118 : cf' 118 ["self", "name", "val"] 0 = (k_118, b_118x) := by kernel_rfl
theorem ke_233 : cf' 233 ["table", "words", "under"] 2 = (k_233, b_233x) := by kernel_rfl
theorem ke_250 : cf' 250 ["script"] 12 = (k_250, b_250x) := by kernel_rfl
theorem ke_A : cA = (k_200, b_200x) := by kernel_rfl
theorem ke_ip : ipA = 3 := by kernel_rfl
theorem ke_jF : jF = 2 := by kernel_rfl
theorem ke_o123 : o123 = (.attr (.var (.loc 0)) "_headers") := by kernel_rfl
theorem ke_e123 : e123 = (.comp 2 0 [0] (.val (.attr (.var (.loc 0)) "_headers")) (.lvl (.one (.loc 1)) (.cons (.cmp (.meth (.idx (.var (.loc 1)) (.cst (.int 0))) "lower" .nil .nil) (.cons .NotEq (.var (.cel 0)) .nil)) .nil) (.elt (.var (.loc 1))))) := by kernel_rfl
theorem ke_o118 : o118 = (.var (.loc 0)) := by kernel_rfl
theorem ke_i118 : i118 = (.var (.loc 1)) := by kernel_rfl
theorem ke_tF : tF = (.one (.loc 2)) := by kernel_rfl
theorem ke_aF : aF = (.cons (.call (.cst (.top (.type "range"))) (.cons (.call (.cst (.top (.builtin "len"))) (.cons (.var (.loc 1)) .nil) .nil) .nil) .nil) .nil) := by kernel_rfl
theorem ke_bF : bF = b_233b := by kernel_rfl
noncomputable def TaL : Tab := addFn (addFn (addFn T0 59 (pureFn T0 k_59 2)) 45 (pureFn T0 k_45 2)) 214 (pureFn T0 k_214 1)
theorem Ta_L : Ta = TaL := by
  unfold Ta
  rw [ke_59, ke_45, ke_214]; rfl
noncomputable def TbL : Tab := addFn TaL 52 (pureFn TaL k_52 3)
section
variable {σ : St} {vs : List PV} {kvs : List (Str × PV)}
theorem Tr_type : Tr.ap (.top (.type "type")) vs kvs = ty "type" vs kvs := rfl
theorem Tc_str_lower : Tc.ap (.top (.builtin "str.lower")) vs kvs = bi "str.lower" vs kvs := by kernel_rfl
theorem Tc_str_join : Tc.ap (.top (.builtin "str.join")) vs kvs = bi "str.join" vs kvs := by kernel_rfl
theorem Tc_list_append : Tc.ap (.top (.builtin "list.append")) vs kvs = bi "list.append" vs kvs := by kernel_rfl
theorem Tc_type : Tc.ap (.top (.type "type")) vs kvs = ty "type" vs kvs := rfl
theorem Tc_m_lower (x : Str) : Tc.mt σ (.str x) "lower" = some (.builtin "str.lower") := by kernel_rfl
theorem Tc_m_join (x : Str) : Tc.mt σ (.str x) "join" = some (.builtin "str.join") := by kernel_rfl
theorem Tc_m_append {n : Nat} {xs : List PV} (h : σ[n]? = some (.lst xs)) : Tc.mt σ (.obj n) "append" = some (.builtin "list.append") := by
  simp only [Tc, Tr, Tb, Ta, T0, addFn, addMt, addAt, addRe, mt0, mtAt, lstAt, h]; kernel_rfl
theorem Tc_at : Tc.at_ 203 "_headers" = true := by kernel_rfl
theorem Tc_m_104 {n : Nat} {v : PV} (h : σ[n]? = some (.inst 203 [("_headers", v)])) : Tc.mt σ (.obj n) "_convert_string_type" = some (.ref 104) := by
  simp only [Tc, Tr, Tb, Ta, T0, addFn, addMt, addAt, addRe, mt0, mtAt, lstAt, h]; kernel_rfl
theorem Tc_104 : Tc.ap (.top (.ref 104)) vs kvs = cl Tr 104 ["self", "value", "name"] (bdK 2 "name") 0 vs kvs := rfl
theorem Tr_m_search (a : Addr) (h : (a == 69 || a == 74) = true) : Tr.mt σ (.top (.ref a)) "search" = some (.builtin "re.Pattern.search") := by
  simp only [Bool.or_eq_true, beq_iff_eq] at h
  rcases h with rfl | rfl <;> kernel_rfl
theorem Tr_search (a : Addr) (x : Str) (h : (a == 69 || a == 74) = true) (hx : (prn x && fits x) = true) : Tr.ap (.top (.builtin "re.Pattern.search")) [.top (.ref a), .str x] [] σ = some (.none, σ) := by
  have e : ∀ a, (a == 69 || a == 74) = true → Tr.ap (.top (.builtin "re.Pattern.search")) [.top (.ref a), .str x] [] = if (prn x && fits x) = true then rt .none else fail := by
    intro a h
    simp only [Bool.or_eq_true, beq_iff_eq] at h
    rcases h with rfl | rfl <;> kernel_rfl
  rw [e a h, if_pos hx]; rfl
end
end Mine
end
section
namespace Mine
open PySem PyProof.Rows
section
variable {T : Tab} {σ σ' σ₁ : St} {t hs n : Nat}
theorem r_104 (x : Str) (b : Bool) (h : okV x = true) : cl Tr 104 ["self", "value", "name"] (bdK 2 "name") 0 [.obj t, .str x] [("name", .bool b)] σ = some (.str x, σ) := by
  have hb : bdK 2 "name" [.obj t, .str x] [("name", .bool b)] = some [.obj t, .str x, .bool b] := by simp [bdK]
  unfold cl callFn
  rw [hb]
  refine cut_len (q_run ke_104 rfl ?_) rfl
  unfold b_104 s_104_0 s_104_1
  have e1 := Tr_m_search (σ := σ) 69 rfl
  have e2 := Tr_m_search (σ := σ) 74 rfl
  have e3 := Tr_search (σ := σ) 69 x rfl h
  have e4 := Tr_search (σ := σ) 74 x rfl h
  cases b
  · simp only [↓q_scons, ↓q_snil, ↓q_cond, ↓q_ret, ↓q_set, ↓q_bnd, ↓q_rt, ↓q_ite, ↓q_cst, ↓q_var, ↓q_gl, ↓q_lift, ↓q_look, ↓q_iteE, ↓q_cmp, ↓q_call, ↓q_meth, ↓q_nil, ↓q_cons, ↓q_knil, ↓q_ccons, ↓q_sTn, ↓q_sTc, ↓q_sT1, List.getElem?_cons_succ, List.getElem?_cons_zero, Option.join_some, List.set_cons_succ, List.set_cons_zero, plainC, ↓reduceIte, Bool.false_eq_true, e_tru, List.replicate_succ, List.replicate_zero, Tr_type, ty_str, c_is, e2, e4, e_trn]
    rfl
  · simp only [↓q_scons, ↓q_snil, ↓q_cond, ↓q_ret, ↓q_set, ↓q_bnd, ↓q_rt, ↓q_ite, ↓q_cst, ↓q_var, ↓q_gl, ↓q_lift, ↓q_look, ↓q_iteE, ↓q_cmp, ↓q_call, ↓q_meth, ↓q_nil, ↓q_cons, ↓q_knil, ↓q_ccons, ↓q_sTn, ↓q_sTc, ↓q_sT1, List.getElem?_cons_succ, List.getElem?_cons_zero, Option.join_some, List.set_cons_succ, List.set_cons_zero, plainC, ↓reduceIte, Bool.false_eq_true, e_tru, List.replicate_succ, List.replicate_zero, Tr_type, ty_str, c_is, e1, e3, e_trn]
    rfl
structure HdAt (σ : St) (t hs : Nat) (ps : List (Str × Str)) : Prop where
  obj : σ[t]? = some (.inst 203 [("_headers", .obj hs)])
  lst : σ[hs]? = some (.lst (ps.map tp))
  ok : ∀ p ∈ ps, okN p.1 = true
  few : ps.length < 90
theorem attr_at {at_ : Addr → Str → Bool} {C : Addr} {as : List (Str × PV)} {x : Str} {v : PV} (h : σ[t]? = some (.inst C as)) (hT : at_ C x = true) (e : as.lookup x = some v) (hn : isTop v = false) : attrM at_ (.obj t) x σ = some (v, σ) := by
  show ((((σ[t]?).bind cellI).bind fun p => if at_ p.1 x = true then (p.2.lookup x).bind fun v => if isTop v = true then none else some v else none).map fun a => (a, σ)) = _
  rw [h]
  show ((if at_ C x = true then (as.lookup x).bind fun v => if isTop v = true then none else some v else none).map fun a => (a, σ)) = _
  rw [if_pos hT, e]
  show ((if isTop v = true then none else some v).map fun a => (a, σ)) = _
  rw [hn]; rfl
theorem seta_at {T : Tab} {C : Addr} {as : List (Str × PV)} {x : Str} {v : PV} (h : σ[t]? = some (.inst C as)) (hc : (T.at_ C x && decide (as.length ≤ 100)) = true) : seta T (.obj t) x v σ = some ((), σ.set t (.inst C (putA x v as))) := by
  show (((σ[t]?).bind cellI).bind fun p => if (T.at_ p.1 x && decide (p.2.length ≤ 100)) = true then some ((), σ.set t (.inst p.1 (putA x v p.2))) else none) = _
  rw [h]; exact if_pos hc
theorem a_headers {T : Tab} (hT : T.at_ 203 "_headers" = true) (h : σ[t]? = some (.inst 203 [("_headers", .obj hs)])) : attrM T.at_ (.obj t) "_headers" σ = some (.obj hs, σ) := attr_at h hT rfl rfl
theorem r_155 {ps : List (Str × Str)} (H : HdAt σ t hs ps) :
    cl Tc 155 ["self"] (bdN 1) 1 [.obj t] [] σ = some (.obj σ.length, σ ++ [.lst (ps.map fun p => .str p.1)]) := by
  have hb : bdN 1 [.obj t] [] = some [.obj t] := rfl
  unfold cl callFn
  refine Eq.symm (hb) ▸ ?_
  refine cut_new (q_run ke_155 rfl ?_) (by simp)
  unfold b_155 s_155_0
  have e5 : evI Tc (.val (.attr (.var (.loc 0)) "_headers")) ⟨[some (.obj t)], []⟩ σ = some (.one (.obj hs), σ) := evI_lst (by simp only [↓q_bnd, ↓q_var, ↓q_gl, ↓q_lift, ↓q_attr, List.getElem?_cons_zero, Option.join_some, (a_headers Tc_at H.obj)]) H.lst
  have key := comp_rule (nl := 3) (frees := []) (g := .lvl (.tup [.loc 1, .loc 2]) .nil (.elt (.var (.loc 1)))) (fun x => [fst' x]) (fun fm' => ∃ a b c, fm' = ⟨[a, b, c], []⟩) e5 H.lst rfl ⟨_, _, _, rfl⟩ (by simpa using H.few) (fun _ _ => by exact Nat.le_refl _) (fun x hx fm' zs hF hz => by
    refine byc fun nh => ?_
    obtain ⟨a, b, c, rfl⟩ := hF
    obtain ⟨p, hp, rfl⟩ := List.mem_map.mp hx
    refine nh ?_
    simp only [↓q_bnd, ↓q_rt, ↓q_ite, ↓q_var, ↓q_gl, ↓q_lift, ↓q_sTt, ↓q_sVn, ↓q_sVc, ↓q_inil, ↓q_lvl, ↓q_elt, List.getElem?_cons_succ, List.getElem?_cons_zero, Option.join_some, List.set_cons_succ, List.set_cons_zero, ↓reduceIte, tp, push_last (show zs.length ≤ 10000 by exact Nat.le_trans (by assumption) (by decide)), fst_tup]
    exact ⟨_, rfl, _, _, _, rfl⟩)
  simp only [↓q_scons, ↓q_ret, ↓q_bnd, ↓q_rt, List.set_cons_zero, List.replicate_succ, List.replicate_zero, key]
  rw [flat_map, List.map_map]
  rfl
theorem r_203 : newFn 203 (cl Tc 97 ["self", "headers"] (bdD 1) 1) [] [] σ = some (.obj σ.length, (σ ++ [.inst 203 [("_headers", .obj (σ.length + 1))]]) ++ [.lst []]) := by
  have hb : bdD 1 [.obj σ.length] [] = some [.obj σ.length, .none] := rfl
  have e1 : cl Tc 97 ["self", "headers"] (bdD 1) 1 [.obj σ.length] [] (σ ++ [.inst 203 []]) = some (.none, (σ ++ [.inst 203 [("_headers", .obj (σ.length + 1))]]) ++ [.lst []]) := by
    unfold cl callFn
    refine Eq.symm (hb) ▸ ?_
    refine cut_any (q_run ke_97 rfl ?_)
    · unfold b_97 s_97_0 s_97_1 s_97_2 s_97_3 b_97_3t s_97_3t_0
      have n0 : cmpop (σ ++ [.inst 203 []]) .IsNot .none .none = some false := rfl
      have hq2 : ((σ ++ [.inst 203 []]) ++ [.lst []])[σ.length + 1]? = some (.lst []) := q_last _ (by simp)
      have hq1 : ((σ ++ [.inst 203 []]) ++ [.lst []])[σ.length]? = some (.inst 203 []) := by rw [q_app _ (by simp)]; exact (q_last (σ := σ) (.inst 203 []) rfl)
      have e2 : ty "type" [.obj (σ.length + 1)] [] ((σ ++ [.inst 203 []]) ++ [.lst []]) = some (.top (.type "list"), (σ ++ [.inst 203 []]) ++ [.lst []]) := by
        show look (fun σ => (lstAt σ _).map fun _ => PV.top (.type "list")) _ = _
        exact look_at (by rw [lst_of hq2]; rfl)
      have n1 : cmpop ((σ ++ [.inst 203 []]) ++ [.lst []]) .IsNot (.top (.type "list")) (.top (.type "list")) = some false := by kernel_rfl
      have e3 : seta Tc (.obj σ.length) "_headers" (.obj (σ.length + 1)) ((σ ++ [.inst 203 []]) ++ [.lst []]) = some ((), (σ ++ [.inst 203 [("_headers", .obj (σ.length + 1))]]) ++ [.lst []]) := by
        rw [seta_at hq1 (by rw [Tc_at]; rfl), List.set_append_left _ _ (by simp), set_last]; rfl
      have hq3 : ((σ ++ [.inst 203 [("_headers", .obj (σ.length + 1))]]) ++ [.lst []])[σ.length + 1]? = some (.lst []) := q_last _ (by simp)
      have e4 : evI Tc (.val (.var (.loc 1))) ⟨[some (.obj σ.length), some (.obj (σ.length + 1)), none, none], []⟩ ((σ ++ [.inst 203 [("_headers", .obj (σ.length + 1))]]) ++ [.lst []]) = some (.one (.obj (σ.length + 1)), (σ ++ [.inst 203 [("_headers", .obj (σ.length + 1))]]) ++ [.lst []]) :=
        evI_lst (by simp only [↓q_var, ↓q_gl, ↓q_lift, List.getElem?_cons_succ, List.getElem?_cons_zero, Option.join_some]) hq3
      have e5 (body : PV → Fm → M (Fm × Option PV)) (fm : Fm) : loopM body (src := .one (.obj (σ.length + 1))) fuel 0 fm ((σ ++ [.inst 203 [("_headers", .obj (σ.length + 1))]]) ++ [.lst []]) = some ((fm, none), (σ ++ [.inst 203 [("_headers", .obj (σ.length + 1))]]) ++ [.lst []]) := by
        simp only [fuel, loopM, nth_lst hq3]; rfl
      simp only [↓q_scons, ↓q_snil, ↓q_cond, ↓q_set, ↓q_seta, ↓q_bnd, ↓q_rt, ↓q_ite, ↓q_cst, ↓q_var, ↓q_gl, ↓q_lift, ↓q_look, ↓q_iteE, ↓q_cmp, ↓q_list, ↓q_call, ↓q_nil, ↓q_cons, ↓q_knil, ↓q_ccons, ↓q_sTn, ↓q_sTc, ↓q_sT1, ↓q_alloc, List.getElem?_cons_succ, List.getElem?_cons_zero, Option.join_some, List.set_cons_succ, List.set_cons_zero, plainC, ↓reduceIte, Bool.false_eq_true, e_tru, List.length_nil, ↓q_loop, List.replicate_succ, List.replicate_zero, n0, show (0 : Nat) ≤ 1000 by decide, q_len, Tc_type, e2, n1, e3, e4, e5]
      rfl
  unfold newFn
  simp only [List.isEmpty_nil, if_true, ↓q_bnd, ↓q_alloc, e1, ↓q_rt]
end
end Mine
end
section
namespace Mine
open PySem PyProof.Rows
section
variable {T : Tab} {σ σ' σ₁ : St} {t hs n : Nat}
theorem q_runn {c : CF} {nl nc : Nat} {pms : List MV} {mb : MSs} (h : c = ⟨nl, nc, pms, mb⟩) {vs : List PV} {fm : Fm} {ks : List Nat} {σ₀ : St} (h0 : allocCells nc σ = some (ks, σ₀)) (h1 : setVs ⟨List.replicate nl none, ks⟩ pms vs σ₀ = some (fm, σ₁)) {r : PV × St} (h2 : fin (exs T mb fm σ₁) = some r) :
    c.run T vs σ = some r := by
  subst h
  show bnd (allocCells nc) (fun ks => bnd (setVs ⟨List.replicate nl none, ks⟩ pms vs) fun fm => bnd (exs T mb fm) fun r => rt (r.2.getD .none)) σ = _
  rw [bnd_eq h0, bnd_eq h1, ← h2]
  simp only [bnd]
  rcases exs T mb fm σ₁ with _ | ⟨r, σ₂⟩ <;> rfl
theorem cells1 : allocCells 1 σ = some ([σ.length], σ ++ [.cel none]) := rfl
theorem setV_cel {fm : Fm} {v : PV} {i k : Nat} {o : Option PV} (h1 : fm.cs[i]? = some k) (h2 : σ[k]? = some (.cel o)) : setV fm v (.cel i) σ = some (fm, σ.set k (.cel (some v))) := by
  show ((fm.cs[i]?).bind fun k => (σ[k]?).bind fun c => if isCel c = true then some (fm, σ.set k (.cel (some v))) else none) = _
  rw [h1]
  show ((σ[k]?).bind fun c => if isCel c = true then some (fm, σ.set k (.cel (some v))) else none) = _
  rw [h2]; rfl
theorem item0 (a b : PV) : item σ (.tup [a, b]) (.int 0) = some a := by kernel_rfl
theorem item1 (a b : PV) : item σ (.tup [a, b]) (.int 1) = some b := by kernel_rfl
noncomputable def getAll (s : Str) (ps : List (Str × Str)) : List Str := (ps.filter fun p => low p.1 == s).map (·.2)
theorem getAll_flat (s : Str) : ∀ ps : List (Str × Str), (ps.map tp).flatMap (fun x => match x with | .tup [.str a, .str b] => if low a == s then [PV.str b] else [] | _ => []) = (getAll s ps).map PV.str
  | [] => rfl
  | p :: ps => by
    rw [List.map_cons, List.flatMap_cons, getAll_flat s ps]
    unfold getAll
    rw [List.filter_cons]
    show (if low p.1 == s then [PV.str p.2] else []) ++ _ = _
    by_cases h : (low p.1 == s) = true
    · rw [if_pos h, if_pos h]; rfl
    · rw [if_neg h, if_neg h]; rfl
theorem r_142 {ps : List (Str × Str)} (H : HdAt σ t hs ps) {x : Str} (h : okN x = true) :
    cl Tc 142 ["self", "name"] (bdN 2) 0 [.obj t, .str x] [] σ = some (.obj (σ.length + 1), (σ ++ [.cel (some (.str (low x)))]) ++ [.lst ((getAll (low x) ps).map .str)]) := by
  have hb : bdN 2 [.obj t, .str x] [] = some [.obj t, .str x] := rfl
  unfold cl callFn
  refine Eq.symm (hb) ▸ ?_
  refine cut_obj (q_runn (σ₁ := σ ++ [.cel (some (.str x))]) (fm := ⟨[some (.obj t)], [σ.length]⟩) ke_142 cells1 ?_ ?_) (by exact Nat.le_add_right _ _)
  · have := setV_cel (σ := σ ++ [.cel none]) (fm := ⟨[some (.obj t)], [σ.length]⟩) (v := .str x) (i := 0) (k := σ.length) rfl (q_last _ rfl)
    rw [set_last] at this
    show bnd (setV ⟨[some (.obj t)], [σ.length]⟩ (.str x) (.cel 0)) (fun fm' => setVs fm' [] []) _ = _
    rw [bnd_eq this]; rfl
  · unfold b_142 s_142_0 s_142_1
    have p1 : σ <+: σ ++ [.cel (some (.str x))] := List.prefix_append _ _
    have p2 : σ <+: σ ++ [.cel (some (.str (low x)))] := List.prefix_append _ _
    have H2 := HdAt.mk (get_pre p2 H.obj) (get_pre p2 H.lst) H.ok H.few
    have c1 : celAt [σ.length] 0 (σ ++ [.cel (some (.str x))]) = some (.str x) := celAt_i rfl (q_last _ rfl)
    have e1 := Tc_m_104 (HdAt.mk (get_pre p1 H.obj) (get_pre p1 H.lst) H.ok H.few).obj
    have e3 := r_104 (σ := σ ++ [.cel (some (.str x))]) (t := t) (low x) true (okN_lv h)
    have e6 := setV_cel (σ := σ ++ [.cel (some (.str x))]) (fm := ⟨[some (.obj t)], [σ.length]⟩) (v := .str (low x)) (i := 0) (k := σ.length) rfl (q_last _ rfl)
    rw [set_last] at e6
    have e5 : evI Tc (.val (.attr (.var (.loc 0)) "_headers")) ⟨[some (.obj t)], [σ.length]⟩ (σ ++ [.cel (some (.str (low x)))]) = some (.one (.obj hs), σ ++ [.cel (some (.str (low x)))]) := evI_lst (by simp only [↓q_bnd, ↓q_var, ↓q_gl, ↓q_lift, ↓q_attr, List.getElem?_cons_zero, Option.join_some, (a_headers Tc_at H2.obj)]) H2.lst
    have key := comp_rule (nl := 2) (frees := [0]) (g := .lvl (.one (.loc 1)) (.cons (.cmp (.meth (.idx (.var (.loc 1)) (.cst (.int 0))) "lower" .nil .nil) (.cons .Eq (.var (.cel 0)) .nil)) .nil) (.elt (.idx (.var (.loc 1)) (.cst (.int 1)))))
      (fun x' => match x' with | .tup [.str a, .str b] => if low a == low x then [PV.str b] else [] | _ => []) (fun fm' => ∃ a b, fm' = ⟨[a, b], [σ.length]⟩) e5 H2.lst rfl ⟨_, _, rfl⟩ (by simpa using H.few) (fun y _ => by split <;> (try split) <;> simp) (fun y hy fm' zs hF hz => by
      obtain ⟨a, b, rfl⟩ := hF
      obtain ⟨p, hp, rfl⟩ := List.mem_map.mp hy
      have c2 : celAt [σ.length] 0 ((σ ++ [.cel (some (.str (low x)))]) ++ [.lst zs]) = some (.str (low x)) := celAt_i rfl (by rw [q_app _ (by simp)]; exact q_last _ rfl)
      have u0 := bi_lower (σ := (σ ++ [Cell.cel (some (.str (low x)))]) ++ [Cell.lst zs]) (okN_l (H.ok p hp))
      by_cases hc : (low p.1 == low x) = true
      · simp only [↓q_bnd, ↓q_rt, ↓q_ite, ↓q_cst, ↓q_var, ↓q_gl, ↓q_gc, ↓q_lift, ↓q_look, ↓q_cmp, ↓q_meth, ↓q_idx, ↓q_nil, ↓q_knil, ↓q_ccons, ↓q_sT1, ↓q_inil, ↓q_icons, ↓q_lvl, ↓q_elt, List.getElem?_cons_succ, List.getElem?_cons_zero, Option.join_some, List.set_cons_succ, List.set_cons_zero, plainC, ↓reduceIte, e_eqs, e_tru, tp, item0, item1, Tc_m_lower, Tc_str_lower, u0, c2, cmpop, hc, push_last (show zs.length ≤ 10000 by exact Nat.le_trans (by assumption) (by decide))]
        exact ⟨_, rfl, _, _, rfl⟩
      · rw [Bool.not_eq_true] at hc
        simp only [↓q_bnd, ↓q_rt, ↓q_ite, ↓q_cst, ↓q_var, ↓q_gl, ↓q_gc, ↓q_lift, ↓q_look, ↓q_cmp, ↓q_meth, ↓q_idx, ↓q_nil, ↓q_knil, ↓q_ccons, ↓q_sT1, ↓q_icons, ↓q_lvl, List.getElem?_cons_succ, List.getElem?_cons_zero, Option.join_some, List.set_cons_succ, List.set_cons_zero, plainC, ↓reduceIte, Bool.false_eq_true, e_eqs, e_tru, tp, item0, Tc_m_lower, Tc_str_lower, u0, c2, cmpop, hc, List.append_nil]
        exact ⟨_, rfl, _, _, rfl⟩)
    rw [getAll_flat] at key
    simp only [↓q_scons, ↓q_ret, ↓q_set, ↓q_bnd, ↓q_rt, ↓q_cst, ↓q_var, ↓q_gl, ↓q_gc, ↓q_lift, ↓q_look, ↓q_meth, ↓q_nil, ↓q_cons, ↓q_knil, ↓q_kcons, ↓q_sTn, ↓q_sTc, List.getElem?_cons_zero, Option.join_some, plainC, ↓reduceIte, c1, Tc_m_lower, Tc_str_lower, (bi_lower (σ := σ ++ [.cel (some (.str x))]) (okN_l h)), e1, Tc_104, e3, setT, e6, key]
    simp only [q_len]
    rfl
end
end Mine
end
section
namespace Mine
open PySem PyProof.Rows
noncomputable def objV : PV → Option Nat
  | .obj n => some n
  | _ => none
theorem objV_some {v : PV} {n : Nat} (h : objV v = some n) : v = .obj n := by
  cases v with
  | obj m => exact smi h ▸ rfl
  | _ => exact nsm h
noncomputable def hdOf (as : List (Str × PV)) : Option Nat := match as with
  | [p] => if p.1 = "_headers" then objV p.2 else none
  | _ => none
theorem hdOf_some {as : List (Str × PV)} {n : Nat} (h : hdOf as = some n) : as = [(("_headers" : Str), PV.obj n)] := by
  cases as with
  | nil => exact nsm h
  | cons p r =>
    induction r with
    | cons => exact nsm h
    | nil =>
      obtain ⟨h1, h2⟩ := ifS h
      obtain ⟨y, v⟩ := p
      obtain rfl := objV_some h2
      obtain rfl := h1
      rfl
noncomputable def hdrAt (σ : St) (t : Nat) : Option (Nat × List PV) := ((σ[t]?).bind cellI).bind fun p => if p.1 = 203 then (hdOf p.2).bind fun hs => (lstAt σ hs).map fun xs => (hs, xs) else none
theorem hdrAt_some {σ : St} {t hs : Nat} {xs : List PV} (h : hdrAt σ t = some (hs, xs)) : σ[t]? = some (.inst 203 [("_headers", .obj hs)]) ∧ σ[hs]? = some (.lst xs) := by
  obtain ⟨⟨C, as⟩, hi, h⟩ := obind h
  obtain ⟨c, hσ, hc⟩ := obind hi
  obtain rfl := cellI_some hc
  obtain ⟨h1, h⟩ := ifS h
  obtain rfl : C = 203 := h1
  obtain ⟨hs', ho, h⟩ := obind h
  obtain ⟨xs', hl, h⟩ := omap h
  cases h
  obtain rfl := hdOf_some ho
  exact ⟨hσ, lstAt_get hl⟩
theorem hdrAt_of {σ : St} {t hs : Nat} {xs : List PV} (h1 : σ[t]? = some (.inst 203 [("_headers", .obj hs)])) (h2 : σ[hs]? = some (.lst xs)) : hdrAt σ t = some (hs, xs) := by
  show ((σ[t]?).bind cellI).bind _ = _
  rw [h1]
  show (lstAt σ hs).map _ = _
  rw [lst_of h2]; rfl
noncomputable def addM3 (a b c : PV) : M PV := fun σ => (objV a).bind fun t => (strOf b).bind fun x => (strOf c).bind fun v => (hdrAt σ t).bind fun q =>
  let hs := q.1
  let xs := q.2
  if (okV x && okV v && decide (xs.length ≤ 1000) && JoinOk ("; " : Str) [v] && fits (Txt.join ("; " : Str) [v])) = true then some (.none, (σ ++ [Cell.lst [PV.str v]]).set hs (Cell.lst (xs ++ [PV.tup [.str x, .str (Txt.join ("; " : Str) [v])]]))) else none
noncomputable def arg3 (f : PV → PV → PV → M PV) (vs : List PV) : M PV := match vs with
  | [a, b, c] => f a b c
  | _ => fail
inductive Arg3 (f : PV → PV → PV → M PV) (σ : St) (r : PV × St) : List PV → Prop
  | mk (a b c : PV) (h : f a b c σ = some r) : Arg3 f σ r [a, b, c]
theorem arg3_some {f : PV → PV → PV → M PV} {vs : List PV} {σ : St} {r : PV × St} (h : arg3 f vs σ = some r) : Arg3 f σ r vs := by
  cases vs with
  | nil => exact nsm h
  | cons a vs =>
    cases vs with
    | nil => exact nsm h
    | cons b vs =>
      cases vs with
      | nil => exact nsm h
      | cons c vs =>
        induction vs with
        | nil => exact ⟨a, b, c, h⟩
        | cons => exact nsm h
noncomputable def addHd (vs : List PV) (kvs : List (Str × PV)) : M PV := nok (arg3 addM3) vs kvs
section
variable {σ σ' : St}
theorem addHd_run {vs : List PV} {kvs : List (Str × PV)} {v : PV} (h : addHd vs kvs σ = some (v, σ')) : kvs = [] ∧ vs.length = 3 ∧ ∀ a, runIdle Tc cA.1.nl cA.1.nc cA.1.pms cA.1.mb cA.2 ipA a vs σ = some (v, σ') := by
  obtain ⟨hk, h0⟩ := if_kv h
  have zq1 := arg3_some h0
  induction zq1 with | mk a  b  c  h1 =>
  obtain ⟨t, ha, h2⟩ := obind h1
  obtain ⟨x, hb, h3⟩ := obind h2
  obtain ⟨y, hc0, h4⟩ := obind h3
  obtain ⟨⟨hs, xs⟩, e, h5⟩ := obind h4
  obtain ⟨hc, h6⟩ := ifS h5
  clear h h0 h1 h2 h3 h4 h5
  subst hk
  obtain rfl := objV_some ha
  obtain rfl := strOf_some hb
  obtain rfl := strOf_some hc0
  clear ha hb hc0
  obtain ⟨e1, e2⟩ := hdrAt_some e
  dsimp only at hc h6
  obtain ⟨rfl, rfl⟩ := smp h6
  simp only [Bool.and_eq_true, decide_eq_true_eq] at hc
  obtain ⟨⟨⟨⟨hx, hy⟩, hl⟩, hj⟩, hf⟩ := hc
  refine ⟨rfl, rfl, fun a => ?_⟩
  refine Eq.symm (ke_A) ▸ ?_
  refine Eq.symm (ke_ip) ▸ ?_
  show bnd (setVs ⟨List.replicate 7 none, []⟩ [.loc 0, .loc 1, .loc 2, .loc 3] [.obj t, .str x, .str y, .top (.ref a)]) (fun fm => bnd (exs Tc b_200 fm) fun r => match r with
    | (fm1, none) => if topAt fm1.ρ[3]? = some a then bnd (exs Tc b_200x fm1) (fun r => rt (r.2.getD .none)) else fail
    | _ => fail) σ = _
  have p1 : σ <+: σ ++ [.lst []] := List.prefix_append _ _
  have p2 : σ <+: σ ++ [.lst [.str y]] := List.prefix_append _ _
  have c1 := r_104 (σ := σ ++ [.lst []]) (t := t) y false hy
  have c2 := r_104 (σ := σ ++ [.lst [.str y]]) (t := t) x true hx
  have n1 : cmpop (σ ++ [.lst []]) .IsNot (.str y) .none = some true := rfl
  have m3 := Tc_m_append (q_last (σ := σ) (.lst []) rfl)
  have u1 := push_last (σ := σ) (zs := []) (v := .str y) (by decide)
  rw [List.nil_append] at u1
  have a1 := a_headers Tc_at (get_pre p2 e1)
  have m4 := Tc_m_append (get_pre p2 e2)
  have j1 : bi "str.join" [.str "; ", .obj σ.length] [] (σ ++ [.lst [.str y]]) = some (.str (Txt.join ("; " : Str) [y]), σ ++ [.lst [.str y]]) := bi_join (by rw [lst_of (q_last (σ := σ) (.lst [.str y]) rfl)]; rfl) (by simp [hj, hf])
  have u2 := push_at (v := .tup [.str x, .str (Txt.join ("; " : Str) [y])]) (get_pre p2 e2) (by exact Nat.le_trans (by assumption) (by decide))
  unfold b_200 s_200_0 s_200_1
  simp only [↓q_scons, ↓q_snil, ↓q_cond, ↓q_set, ↓q_expr, ↓q_bnd, ↓q_rt, ↓q_ite, ↓q_cst, ↓q_var, ↓q_gl, ↓q_lift, ↓q_look, ↓q_cmp, ↓q_list, ↓q_meth, ↓q_nil, ↓q_cons, ↓q_knil, ↓q_kcons, ↓q_ccons, ↓q_sTn, ↓q_sTc, ↓q_sT1, ↓q_sVn, ↓q_sVc, ↓q_alloc, List.getElem?_cons_succ, List.getElem?_cons_zero, Option.join_some, List.set_cons_succ, List.set_cons_zero, plainC, ↓reduceIte, e_tru, List.length_nil, List.replicate_succ, List.replicate_zero, show (0 : Nat) ≤ 1000 by decide, n1, (Tc_m_104 (get_pre p1 e1)), Tc_104, c1, m3, Tc_list_append, bi_append, u1]
  have t1 : topAt (some (some (.top (.ref a)))) = some a := rfl
  unfold b_200x s_200x_0
  simp only [↓q_scons, ↓q_snil, ↓q_expr, ↓q_bnd, ↓q_rt, ↓q_ite, ↓q_cst, ↓q_var, ↓q_gl, ↓q_lift, ↓q_look, ↓q_tup, ↓q_meth, ↓q_attr, ↓q_nil, ↓q_cons, ↓q_knil, ↓q_kcons, List.getElem?_cons_succ, List.getElem?_cons_zero, Option.join_some, plainC, ↓reduceIte, List.length_cons, List.length_nil, t1, a1, m4, (Tc_m_104 (get_pre p2 e1)), Tc_104, c2, Tc_m_join, Tc_str_join, j1, show (2 : Nat) ≤ 1000 by decide, Tc_list_append, bi_append, u2, Option.getD_none]
end
end Mine
end
section
namespace Mine
open PySem PyProof.Rows
noncomputable def getF (s : Str) (ps : List (Str × Str)) : Option Str := (ps.find? fun p => low p.1 == s).map (·.2)
theorem find_at {s : Str} {ps : List (Str × Str)} {i : Nat} (h : i < ps.length) (h1 : (ps.take i).find? (fun p => low p.1 == s) = none) (h2 : (low ps[i].1 == s) = true) : getF s ps = some ps[i].2 := by
  have e2 : (ps.take i ++ ps[i] :: ps.drop (i + 1)).find? (fun p => low p.1 == s) = some ps[i] := by
    rw [List.find?_append, h1, Option.none_or, List.find?_cons, h2]
  have e : ps.take i ++ ps[i] :: ps.drop (i + 1) = ps := by rw [← List.drop_eq_getElem_cons h, List.take_append_drop]
  rw [e] at e2
  unfold getF
  rw [e2]; rfl
theorem find_next {s : Str} {ps : List (Str × Str)} {i : Nat} (h : i < ps.length) (h1 : (ps.take i).find? (fun p => low p.1 == s) = none) (h2 : (low ps[i].1 == s) = false) : (ps.take (i + 1)).find? (fun p => low p.1 == s) = none := by
  rw [List.take_succ_eq_append_getElem h, List.find?_append, h1]
  simp [h2]
section
variable {T : Tab} {σ σ' σ₁ : St} {t hs n : Nat}
theorem r_150 {ps : List (Str × Str)} (H : HdAt σ t hs ps) {x : Str} (h : okN x = true) :
    cl Tc 150 ["self", "name", "default"] (bdD 2) 0 [.obj t, .str x] [] σ = some (match getF (low x) ps with | some v => .str v | none => .none, σ) := by
  have hb : bdD 2 [.obj t, .str x] [] = some [.obj t, .str x, .none] := rfl
  unfold cl callFn
  refine Eq.symm (hb) ▸ ?_
  refine cut_len (q_run ke_150 rfl ?_) rfl
  unfold b_150 s_150_0 s_150_1 s_150_2
  have e2 := bi_lower (σ := σ) (okN_l h)
  have e3 := r_104 (σ := σ) (t := t) (low x) true (okN_lv h)
  have e5 : evI Tc (.val (.attr (.var (.loc 0)) "_headers")) ⟨[some (.obj t), some (.str (low x)), some .none, none, none], []⟩ σ = some (.one (.obj hs), σ) := by
    simp only [q_ival, ↓q_bnd, ↓q_var, ↓q_gl, ↓q_lift, ↓q_attr, List.getElem?_cons_zero, Option.join_some, ↓reduceIte, (a_headers Tc_at H.obj), nth1, lst_of (H.lst), Option.map_some, Option.isSome_some]
  have key := loop_stop (src := .one (.obj hs)) (body := fun v fm' => bnd (setT fm' v (.tup [.loc 3, .loc 4])) fun fm'' => exs Tc b_150_1 fm'') (xs := ps.map tp)
    (fun i b σ' => σ' = σ ∧ (∃ a c, b = ⟨[some (.obj t), some (.str (low x)), some .none, a, c], []⟩) ∧ (ps.take i).find? (fun p => low p.1 == low x) = none)
    (fun r σ' => σ' = σ ∧ ∃ v, getF (low x) ps = some v ∧ r = .str v)
    (fun i b σ' hI => by obtain ⟨rfl, _⟩ := hI; exact nth_lst H.lst)
    (fun i hi b σ' hI => by
      obtain ⟨rfl, ⟨a, c, rfl⟩, hf⟩ := hI
      have hi' : i < ps.length := by simpa using hi
      have ex : (ps.map tp)[i] = tp ps[i] := by simp
      have e6 := bi_lower (σ := σ') (okN_l (H.ok _ (List.getElem_mem hi')))
      rw [ex]
      unfold b_150_1 s_150_1_0
      by_cases hc : (low ps[i].1 == low x) = true
      · refine .inr ?_
        simp only [↓q_scons, ↓q_cond, ↓q_ret, ↓q_bnd, ↓q_rt, ↓q_ite, ↓q_var, ↓q_gl, ↓q_lift, ↓q_look, ↓q_cmp, ↓q_meth, ↓q_nil, ↓q_knil, ↓q_ccons, ↓q_sTt, ↓q_sVn, ↓q_sVc, List.getElem?_cons_succ, List.getElem?_cons_zero, Option.join_some, List.set_cons_succ, List.set_cons_zero, ↓reduceIte, e_eqs, e_tru, tp, Tc_m_lower, Tc_str_lower, e6, cmpop, hc]
        exact ⟨_, _, _, rfl, rfl, _, find_at hi' hf hc, rfl⟩
      · rw [Bool.not_eq_true] at hc
        refine .inl ?_
        simp only [↓q_scons, ↓q_snil, ↓q_cond, ↓q_bnd, ↓q_rt, ↓q_ite, ↓q_var, ↓q_gl, ↓q_lift, ↓q_look, ↓q_cmp, ↓q_meth, ↓q_nil, ↓q_knil, ↓q_ccons, ↓q_sTt, ↓q_sVn, ↓q_sVc, List.getElem?_cons_succ, List.getElem?_cons_zero, Option.join_some, List.set_cons_succ, List.set_cons_zero, ↓reduceIte, Bool.false_eq_true, e_eqs, e_tru, tp, Tc_m_lower, Tc_str_lower, e6, cmpop, hc]
        exact ⟨_, _, rfl, rfl, ⟨_, _, rfl⟩, find_next hi' hf hc⟩)
    fuel 0 ⟨[some (.obj t), some (.str (low x)), some .none, none, none], []⟩ σ ⟨rfl, ⟨_, _, rfl⟩, by exact rfl⟩ (by exact Nat.zero_le _) (by have := H.few; simp [fuel]; exact Nat.lt_of_lt_of_le (by assumption) (by decide))
  simp only [↓q_scons, ↓q_snil, ↓q_ret, ↓q_set, ↓q_bnd, ↓q_rt, ↓q_cst, ↓q_var, ↓q_gl, ↓q_lift, ↓q_look, ↓q_meth, ↓q_nil, ↓q_cons, ↓q_knil, ↓q_kcons, ↓q_sTn, ↓q_sTc, ↓q_sT1, List.getElem?_cons_succ, List.getElem?_cons_zero, Option.join_some, List.set_cons_succ, List.set_cons_zero, plainC, ↓reduceIte, ↓q_loop, List.replicate_succ, List.replicate_zero, Tc_m_lower, Tc_str_lower, e2, (Tc_m_104 H.obj), Tc_104, e3, e5]
  rcases key with ⟨b', σ', ke, rfl, ⟨a, c, rfl⟩, hf⟩ | ⟨b', r, σ', ke, rfl, v, hv, rfl⟩
  · refine Eq.symm (ke) ▸ ?_
    have : getF (low x) ps = none := by
      rw [List.length_map, List.take_length] at hf
      unfold getF; rw [hf]; rfl
    rw [this]
    simp only [List.getElem?_cons_succ, List.getElem?_cons_zero, Option.join_some]
    rfl
  · rw [ke, hv]; rfl
theorem r_167 {ps : List (Str × Str)} (H : HdAt σ t hs ps) :
    cl Tc 167 ["self"] (bdN 1) 1 [.obj t] [] σ = some (.obj σ.length, σ ++ [.lst (ps.map tp)]) := by
  have hb : bdN 1 [.obj t] [] = some [.obj t] := rfl
  unfold cl callFn
  refine Eq.symm (hb) ▸ ?_
  refine cut_new (q_run ke_167 rfl ?_) (by simp)
  unfold b_167 s_167_0
  have e5 := slice_all H.lst
  simp only [↓q_scons, ↓q_ret, ↓q_bnd, ↓q_rt, ↓q_cst, ↓q_var, ↓q_gl, ↓q_lift, ↓q_attr, ↓q_slc, List.getElem?_cons_zero, Option.join_some, List.set_cons_zero, plainC, ↓reduceIte, List.replicate_succ, List.replicate_zero, (a_headers Tc_at H.obj), e5]
  rfl
noncomputable def Keep (X : List Nat) (σ σ' : St) : Prop := σ.length ≤ σ'.length ∧ ∀ (k : Nat) (c : Cell), k ∉ X → σ[k]? = some c → σ'[k]? = some c
theorem Keep.refl (X : List Nat) (σ : St) : Keep X σ σ := ⟨Nat.le_refl _, fun _ _ _ h => h⟩
theorem Keep.trans {X : List Nat} {σ₂ : St} (a : Keep X σ σ') (b : Keep X σ' σ₂) : Keep X σ σ₂ := ⟨Nat.le_trans a.1 b.1, fun k c i h => b.2 k c i (a.2 k c i h)⟩
theorem Keep.app (X : List Nat) (σ τ : St) : Keep X σ (σ ++ τ) := ⟨by simp, fun k c _ h => by rw [q_app _ (lt_of_get h)]; exact h⟩
theorem Keep.set {X : List Nat} {c : Cell} (a : Keep X σ σ') (h : n ∈ X ∨ σ.length ≤ n) : Keep X σ (σ'.set n c) := ⟨by simpa using a.1, fun k c i h' => by
  rw [get_set (by rcases h with h | h
                  · exact fun e => i (e ▸ h)
                  · have := lt_of_get h'; exact Nat.ne_of_lt (Nat.lt_of_lt_of_le (by assumption) (by assumption)))]; exact a.2 k c i h'⟩
theorem Old.keep (X : List Nat) (o : Old σ σ') : Keep X σ σ' := ⟨o.1, fun k c _ h => o.2 k c h⟩
theorem Keep.more {X Y : List Nat} (o : Keep X σ σ') (h : ∀ x ∈ X, x ∈ Y) : Keep Y σ σ' := ⟨o.1, fun k c i e => o.2 k c (fun m => i (h k m)) e⟩
theorem HdAt.old {ps : List (Str × Str)} (H : HdAt σ t hs ps) (o : Old σ σ') : HdAt σ' t hs ps := ⟨o.2 _ _ H.obj, o.2 _ _ H.lst, H.ok, H.few⟩
theorem HdAt.ne {ps : List (Str × Str)} (H : HdAt σ t hs ps) : t ≠ hs := fun e => by have := H.obj; rw [e, H.lst] at this; cases this
theorem HdAt.keep {X : List Nat} {ps : List (Str × Str)} (H : HdAt σ t hs ps) (o : Keep X σ σ') (h1 : t ∉ X) (h2 : hs ∉ X) : HdAt σ' t hs ps := ⟨o.2 _ _ h1 H.obj, o.2 _ _ h2 H.lst, H.ok, H.few⟩
noncomputable def hdel (x : Str) (ps : List (Str × Str)) : List (Str × Str) := ps.filter fun p => !(low p.1 == low x)
noncomputable def hput (x v : Str) (ps : List (Str × Str)) : List (Str × Str) := hdel x ps ++ [(x, v)]
noncomputable def fdel (x : Str) : PV → List PV := fun y => match y with | .tup [.str a, .str b] => if low a == low x then [] else [.tup [.str a, .str b]] | _ => []
theorem hdel_flat (x : Str) : ∀ ps : List (Str × Str), (ps.map tp).flatMap (fdel x) = (hdel x ps).map tp
  | [] => rfl
  | p :: ps => by
    rw [List.map_cons, List.flatMap_cons, hdel_flat x ps]
    unfold hdel
    rw [List.filter_cons]
    simp only [tp, fdel]
    split <;> simp [*, tp]
theorem q_sp {c : CF} {sp : Fm → M Unit} {mb2 : MSs} {vs : List PV} {ks : List Nat} {fm fm1 : Fm} {σ₀ σ₂ σ₃ : St} {r : PV × St} (h0 : allocCells c.nc σ = some (ks, σ₀)) (h1 : setVs ⟨List.replicate c.nl none, ks⟩ c.pms vs σ₀ = some (fm, σ₁)) (h2 : exs T c.mb fm σ₁ = some ((fm1, none), σ₂)) (h3 : sp fm1 σ₂ = some ((), σ₃)) (h4 : fin (exs T mb2 fm1 σ₃) = some r) : runSp T c sp mb2 vs σ = some r := by
  unfold runSp
  rw [bnd_eq h0, bnd_eq h1, bnd_eq h2]
  dsimp only
  rw [bnd_eq h3, ← h4]
  simp only [bnd]
  rcases exs T mb2 fm1 σ₃ with _ | ⟨r, σ₂⟩ <;> rfl
theorem r_123 {ps : List (Str × Str)} (H : HdAt σ t hs ps) {x : Str} (h : okN x = true) :
    ∃ σ', del123 Tc [.obj t, .str x] [] σ = some (.none, σ') ∧ Keep [hs] σ σ' ∧ HdAt σ' t hs (hdel x ps) := by
  have hb : bdN 2 [.obj t, .str x] [] = some [.obj t, .str x] := rfl
  have p1 : σ <+: σ ++ [.cel (some (.str x))] := List.prefix_append _ _
  have p2 : σ <+: σ ++ [.cel (some (.str (low x)))] := List.prefix_append _ _
  have H2 := HdAt.mk (get_pre p2 H.obj) (get_pre p2 H.lst) H.ok H.few
  have c1 : celAt [σ.length] 0 (σ ++ [.cel (some (.str x))]) = some (.str x) := celAt_i rfl (q_last _ rfl)
  have e1 := Tc_m_104 (HdAt.mk (get_pre p1 H.obj) (get_pre p1 H.lst) H.ok H.few).obj
  have e3 := r_104 (σ := σ ++ [.cel (some (.str x))]) (t := t) (low x) true (okN_lv h)
  have e6 := setV_cel (σ := σ ++ [.cel (some (.str x))]) (fm := ⟨[some (.obj t)], [σ.length]⟩) (v := .str (low x)) (i := 0) (k := σ.length) rfl (q_last _ rfl)
  rw [set_last] at e6
  have e5 : evI Tc (.val (.attr (.var (.loc 0)) "_headers")) ⟨[some (.obj t)], [σ.length]⟩ (σ ++ [.cel (some (.str (low x)))]) = some (.one (.obj hs), σ ++ [.cel (some (.str (low x)))]) := evI_lst (by simp only [↓q_bnd, ↓q_var, ↓q_gl, ↓q_lift, ↓q_attr, List.getElem?_cons_zero, Option.join_some, (a_headers Tc_at H2.obj)]) H2.lst
  have key := comp_rule (nl := 2) (frees := [0]) (g := .lvl (.one (.loc 1)) (.cons (.cmp (.meth (.idx (.var (.loc 1)) (.cst (.int 0))) "lower" .nil .nil) (.cons .NotEq (.var (.cel 0)) .nil)) .nil) (.elt (.var (.loc 1))))
    (fdel x) (fun fm' => ∃ a b, fm' = ⟨[a, b], [σ.length]⟩) e5 H2.lst rfl ⟨_, _, rfl⟩ (by simpa using H.few) (fun y _ => by unfold fdel; split <;> (try split) <;> simp) (fun y hy fm' zs hF hz => by
    obtain ⟨a, b, rfl⟩ := hF
    obtain ⟨p, hp, rfl⟩ := List.mem_map.mp hy
    have c2 : celAt [σ.length] 0 ((σ ++ [.cel (some (.str (low x)))]) ++ [.lst zs]) = some (.str (low x)) := celAt_i rfl (by rw [q_app _ (by simp)]; exact q_last _ rfl)
    have u0 := bi_lower (σ := (σ ++ [Cell.cel (some (.str (low x)))]) ++ [Cell.lst zs]) (okN_l (H.ok p hp))
    by_cases hc : (low p.1 == low x) = true
    · simp only [↓q_bnd, ↓q_rt, ↓q_ite, ↓q_cst, ↓q_var, ↓q_gl, ↓q_gc, ↓q_lift, ↓q_look, ↓q_cmp, ↓q_meth, ↓q_idx, ↓q_nil, ↓q_knil, ↓q_ccons, ↓q_sT1, ↓q_icons, ↓q_lvl, List.getElem?_cons_succ, List.getElem?_cons_zero, Option.join_some, List.set_cons_succ, List.set_cons_zero, plainC, ↓reduceIte, Bool.false_eq_true, e_eqs, e_tru, tp, fdel, item0, Tc_m_lower, Tc_str_lower, u0, c2, cmpop, hc, Option.map_some, Bool.not_true, List.append_nil]
      exact ⟨_, rfl, _, _, rfl⟩
    · rw [Bool.not_eq_true] at hc
      simp only [↓q_bnd, ↓q_rt, ↓q_ite, ↓q_cst, ↓q_var, ↓q_gl, ↓q_gc, ↓q_lift, ↓q_look, ↓q_cmp, ↓q_meth, ↓q_idx, ↓q_nil, ↓q_knil, ↓q_ccons, ↓q_sT1, ↓q_inil, ↓q_icons, ↓q_lvl, ↓q_elt, List.getElem?_cons_succ, List.getElem?_cons_zero, Option.join_some, List.set_cons_succ, List.set_cons_zero, plainC, ↓reduceIte, Bool.false_eq_true, e_eqs, e_tru, tp, fdel, item0, Tc_m_lower, Tc_str_lower, u0, c2, cmpop, hc, Option.map_some, Bool.not_false, push_last (show zs.length ≤ 10000 by exact Nat.le_trans (by assumption) (by decide))]
      exact ⟨_, rfl, _, _, rfl⟩)
  rw [hdel_flat] at key
  obtain ⟨σ₂, h2⟩ : ∃ σ₂ : St, σ₂ = (σ ++ [Cell.cel (some (.str (low x)))]) ++ [Cell.lst ((hdel x ps).map tp)] := ⟨_, rfl⟩
  rw [← h2] at key
  have o2 : Old (σ ++ [Cell.cel (some (.str (low x)))]) σ₂ := by rw [h2]; exact Old.app _ _
  have H3 := H2.old o2
  have q2 : σ₂[(σ ++ [Cell.cel (some (.str (low x)))]).length]? = some (.lst ((hdel x ps).map tp)) := by rw [h2]; exact q_last _ rfl
  have hne : hs ≠ (σ ++ [Cell.cel (some (.str (low x)))]).length := Nat.ne_of_lt (lt_of_get H2.lst)
  have e8 : slcF Tc (.attr (.var (.loc 0)) "_headers") (.comp 2 0 [0] (.val (.attr (.var (.loc 0)) "_headers")) (.lvl (.one (.loc 1)) (.cons (.cmp (.meth (.idx (.var (.loc 1)) (.cst (.int 0))) "lower" .nil .nil) (.cons .NotEq (.var (.cel 0)) .nil)) .nil) (.elt (.var (.loc 1))))) ⟨[some (.obj t)], [σ.length]⟩ (σ ++ [.cel (some (.str (low x)))]) = some ((), σ₂.set hs (.lst ((hdel x ps).map tp))) := by
    have e9 : ev Tc (.attr (.var (.loc 0)) "_headers") ⟨[some (.obj t)], [σ.length]⟩ σ₂ = some (.obj hs, σ₂) := by simp only [↓q_bnd, ↓q_var, ↓q_gl, ↓q_lift, ↓q_attr, List.getElem?_cons_zero, Option.join_some, a_headers Tc_at H3.obj]
    unfold slcF
    refine Eq.symm (bnd_eq key) ▸ ?_
    refine Eq.symm (bnd_eq e9) ▸ ?_
    show ((lstAt σ₂ hs).bind fun _ => (lstAt σ₂ (σ ++ [Cell.cel (some (.str (low x)))]).length).bind fun ys => if hs = (σ ++ [Cell.cel (some (.str (low x)))]).length then none else some ((), σ₂.set hs (.lst ys))) = _
    rw [lst_of H3.lst]
    show ((lstAt σ₂ (σ ++ [Cell.cel (some (.str (low x)))]).length).bind fun ys => if hs = (σ ++ [Cell.cel (some (.str (low x)))]).length then none else some ((), σ₂.set hs (.lst ys))) = _
    rw [lst_of q2]; exact if_neg hne
  refine ⟨σ₂.set hs (.lst ((hdel x ps).map tp)), ?_, ?_, ?_⟩
  · unfold del123
    refine Eq.symm (hb) ▸ ?_
    refine Eq.symm (ke_123) ▸ ?_
    refine Eq.symm (ke_o123) ▸ ?_
    refine Eq.symm (ke_e123) ▸ ?_
    have s2 := setV_cel (σ := σ ++ [.cel none]) (fm := ⟨[some (.obj t)], [σ.length]⟩) (v := .str x) (i := 0) (k := σ.length) rfl (q_last _ rfl)
    rw [set_last] at s2
    have s3 : exs Tc b_123 ⟨[some (.obj t)], [σ.length]⟩ (σ ++ [.cel (some (.str x))]) = some ((⟨[some (.obj t)], [σ.length]⟩, none), σ ++ [.cel (some (.str (low x)))]) := by
      unfold b_123 s_123_0
      simp only [↓q_scons, ↓q_snil, ↓q_set, ↓q_bnd, ↓q_rt, ↓q_cst, ↓q_var, ↓q_gl, ↓q_gc, ↓q_lift, ↓q_look, ↓q_meth, ↓q_nil, ↓q_cons, ↓q_knil, ↓q_kcons, ↓q_sTn, ↓q_sTc, List.getElem?_cons_zero, Option.join_some, plainC, ↓reduceIte, c1, Tc_m_lower, Tc_str_lower, (bi_lower (σ := σ ++ [.cel (some (.str x))]) (okN_l h)), e1, Tc_104, e3, setT, e6]
    refine q_sp (c := k_123) (ks := [σ.length]) (σ₀ := σ ++ [Cell.cel none]) (σ₁ := σ ++ [Cell.cel (some (PV.str x))]) (σ₂ := σ ++ [Cell.cel (some (PV.str (low x)))]) (fm := ⟨[some (.obj t)], [σ.length]⟩) (fm1 := ⟨[some (.obj t)], [σ.length]⟩) rfl ?_ s3 e8 rfl
    show bnd (setV ⟨[some (.obj t)], [σ.length]⟩ (.str x) (.cel 0)) (fun fm' => setVs fm' [] []) _ = _
    rw [bnd_eq s2]; rfl
  · have k2 : Keep [hs] σ σ₂ := ((Old.app σ _).trans o2).keep _
    exact k2.set (.inl (by exact List.mem_cons_self))
  · exact ⟨by rw [get_set H.ne]; exact H3.obj, get_set_same H3.lst, fun p hp => H.ok p (List.mem_filter.mp hp).1, Nat.lt_of_le_of_lt (List.length_filter_le _ _) H.few⟩
theorem r_118 {ps : List (Str × Str)} (H : HdAt σ t hs ps) {x v : Str} (h : okN x = true) (hv : okV v = true) (hl : ps.length < 80) :
    ∃ σ', set118 Tc (del123 Tc) [.obj t, .str x, .str v] [] σ = some (.none, σ') ∧ Keep [hs] σ σ' ∧ HdAt σ' t hs (hput x v ps) := by
  have hb : bdN 3 [.obj t, .str x, .str v] [] = some [.obj t, .str x, .str v] := rfl
  refine byc fun nh => ?_
  obtain ⟨σ₁, d1, k1, H1⟩ := r_123 H h
  have hz : (hdel x ps).length ≤ ps.length := List.length_filter_le _ _
  have e4 := a_headers Tc_at H1.obj
  have e5 := Tc_m_append H1.lst
  have e6 := r_104 (σ := σ₁) (t := t) x true (okN_v h)
  have e7 := r_104 (σ := σ₁) (t := t) v false hv
  have e8 : push (.obj hs) (.tup [.str x, .str v]) σ₁ = some ((), σ₁.set hs (.lst ((hput x v ps).map tp))) := by
    rw [push_at H1.lst (by simp; omega)]; simp [tp, hput]
  refine nh ?_
  refine ⟨σ₁.set hs (.lst ((hput x v ps).map tp)), ?_, k1.set (.inl (by exact List.mem_cons_self)), ?_⟩
  · unfold set118
    refine Eq.symm (hb) ▸ ?_
    refine Eq.symm (ke_118) ▸ ?_
    refine Eq.symm (ke_o118) ▸ ?_
    refine Eq.symm (ke_i118) ▸ ?_
    have s1 : delF Tc 203 (del123 Tc) (.var (.loc 0)) (.var (.loc 1)) ⟨[some (.obj t), some (.str x), some (.str v)], []⟩ σ = some ((), σ₁) := by
      unfold delF
      rw [bnd_eq (a := .obj t) (σ₁ := σ) rfl, bnd_eq (a := .str x) (σ₁ := σ) rfl]
      show (((σ[t]?).bind cellI).bind fun p => if p.1 = 203 then bnd (del123 Tc [.obj t, .str x] []) (fun _ => rt ()) σ else none) = _
      rw [H.obj]
      show (if 203 = 203 then bnd (del123 Tc [.obj t, .str x] []) (fun _ => rt ()) σ else none) = _
      rw [if_pos rfl, bnd_eq d1]; rfl
    have s2 : exs Tc b_118x ⟨[some (.obj t), some (.str x), some (.str v)], []⟩ σ₁ = some ((⟨[some (.obj t), some (.str x), some (.str v)], []⟩, none), σ₁.set hs (.lst ((hput x v ps).map tp))) := by
      unfold b_118x s_118x_0
      simp only [↓q_scons, ↓q_snil, ↓q_expr, ↓q_bnd, ↓q_rt, ↓q_ite, ↓q_cst, ↓q_var, ↓q_gl, ↓q_lift, ↓q_look, ↓q_tup, ↓q_meth, ↓q_attr, ↓q_nil, ↓q_cons, ↓q_knil, ↓q_kcons, List.getElem?_cons_succ, List.getElem?_cons_zero, Option.join_some, plainC, ↓reduceIte, List.length_cons, List.length_nil, (Tc_m_104 H1.obj), e4, e5, Tc_104, e6, e7, Tc_list_append, bi_append, e8, show (2 : Nat) ≤ 1000 by decide]
    exact q_sp (c := k_118) (ks := []) (σ₀ := σ) (σ₁ := σ) (σ₂ := σ) (σ₃ := σ₁) (fm := ⟨[some (.obj t), some (.str x), some (.str v)], []⟩) (fm1 := ⟨[some (.obj t), some (.str x), some (.str v)], []⟩) rfl rfl rfl s1 (by show fin (exs Tc b_118x _ σ₁) = _; rw [s2]; rfl)
  · refine ⟨by rw [get_set H.ne]; exact H1.obj, get_set_same H1.lst, fun p hp => ?_, by unfold hput; simp; omega⟩
    rcases List.mem_append.mp hp with hp | hp
    · exact H1.ok p hp
    · simp at hp; subst hp; exact h
end
end Mine
end
section
namespace Mine
open PySem PyProof.Rows
noncomputable def Td0 : Tab := addFn (addFn (addFn (addFn (addFn Tc
  142 (cl Tc 142 ["self", "name"] (bdN 2) 0)) 150 (cl Tc 150 ["self", "name", "default"] (bdD 2) 0)) 155 (cl Tc 155 ["self"] (bdN 1) 1)) 167 (cl Tc 167 ["self"] (bdN 1) 1)) 200 addHd
noncomputable def Td : Tab := addMt (addMt (addMt (addMt (addMt Td0 203 "get_all" 142) 203 "get" 150) 203 "keys" 155) 203 "items" 167) 203 "add_header" 200
noncomputable def Te0 : Tab := addV (addV (addV (addV (addV (addFn Td 203 (newFn 203 (cl Tc 97 ["self", "headers"] (bdD 1) 1))) (.type "int") intM) (.builtin "max") maxM) (.builtin "list.count") cntM) (.builtin "str.index") idxM) (.builtin "sorted") sortM
noncomputable def Te : Tab := addSi Te0 203 (set118 Tc (del123 Tc))
noncomputable def seatF : Nat → List PV → List (Str × PV) → M PV
  | 0 => fun _ _ => fail
  | k + 1 => cl (addFn Te 228 (seatF k)) 228 ["table", "under", "high", "tried"] (bdN 4) 0
noncomputable def widthF : Nat → List PV → List (Str × PV) → M PV
  | 0 => fun _ _ => fail
  | k + 1 => cl (addFn Te 245 (widthF k)) 245 ["sets"] (bdN 1) 0
noncomputable def Tf : Tab := addFn (addFn (addFn (addFn Te 221 (cl Tb 221 ["words", "ranks"] (bdN 2) 0)) 240 (cl Te 240 ["row"] (bdN 1) 0)) 228 (seatF 7)) 245 (widthF 7)
theorem keep_203 (P : Params) : W.keepIn (K1 P) (.ref 203) = true := by kernel_rfl
section
variable {prog : Program} {w : World} {h₀ : Heap} {P : Params}
theorem wd_d (X : (K1 P).In h₀) (hl : h₀.NoLimit) (Gl : Globs h₀ G1) : Wd prog w h₀ G1 Td 4 := by
  have D := wd_c (prog := prog) (w := w) X hl Gl
  refine addMt_wd (addMt_wd (addMt_wd (addMt_wd (addMt_wd (addFn_wd (addFn_wd (addFn_wd (addFn_wd (addFn_wd (D.up (by decide))
    (kept_fn X (pl_142.keep P)) ?_) (kept_fn X (pl_150.keep P)) ?_) (kept_fn X (pl_155.keep P)) ?_) (kept_fn X (pl_167.keep P)) ?_) (kept_fn X (keepA P)) ?_)
    (mth_142 X)) (mth_150 X)) (mth_155 X)) (mth_167 X)) (mth_200 X)
  · exact callFn_sound D (pl_142.fn X hl) pl_142.cf 0 bo_142
  · exact callFn_sound D (pl_150.fn X hl) pl_150.cf 0 (bo_150 X)
  · exact callFn_sound D (pl_155.fn X hl) pl_155.cf 1 bo_155
  · exact callFn_sound D (pl_167.fn X hl) pl_167.cf 1 bo_167
  · exact addA_sound D X hl fun _ _ _ _ _ h => addHd_run h
theorem wd_e (X : (K1 P).In h₀) (hl : h₀.NoLimit) (Gl : Globs h₀ G1) : Wd prog w h₀ G1 Te 5 := by
  have D := wd_c (prog := prog) (w := w) X hl Gl
  refine addSi_wd (addV_wd (addV_wd (addV_wd (addV_wd (addV_wd (addFn_wd ((wd_d X hl Gl).up (by decide)) (kept_fn X (keep_203 P)) ?_) (kept_type _) intM_snd) (kept_builtin _) maxM_snd) (kept_builtin _) cntM_snd) (kept_builtin _) idxM_snd) (kept_builtin _) sortM_snd)
    (mth_118 X) (snd_118 (D.up (by decide)) X hl (snd_123 D X hl))
  exact newFn_sound (mth_97 X) (callFn_sound D (pl_97.fn X hl) pl_97.cf 1 (bo_97 X))
theorem seat_snd (X : (K1 P).In h₀) (hl : h₀.NoLimit) (Gl : Globs h₀ G1) : ∀ k, FnSnd prog w h₀ (5 + k) 228 (seatF k)
  | 0 => fun _ _ _ _ _ h => nomatch h
  | k + 1 => callFn_sound (addFn_wd ((wd_e X hl Gl).up (Nat.le_add_right 5 k)) (kept_fn X (pl_228.keep P)) (seat_snd X hl Gl k)) (pl_228.fn X hl) pl_228.cf 0 bo_228
theorem width_snd (X : (K1 P).In h₀) (hl : h₀.NoLimit) (Gl : Globs h₀ G1) : ∀ k, FnSnd prog w h₀ (5 + k) 245 (widthF k)
  | 0 => fun _ _ _ _ _ h => nomatch h
  | k + 1 => callFn_sound (addFn_wd ((wd_e X hl Gl).up (Nat.le_add_right 5 k)) (kept_fn X (pl_245.keep P)) (width_snd X hl Gl k)) (pl_245.fn X hl) pl_245.cf 0 bo_245
theorem wd_f (X : (K1 P).In h₀) (hl : h₀.NoLimit) (Gl : Globs h₀ G1) : Wd prog w h₀ G1 Tf 12 := by
  refine addFn_wd (addFn_wd (addFn_wd (addFn_wd ((wd_e X hl Gl).up (by decide)) (kept_fn X (pl_221.keep P)) ?_) (kept_fn X (pl_240.keep P)) ?_) (kept_fn X (pl_228.keep P)) (seat_snd X hl Gl 7)) (kept_fn X (pl_245.keep P)) (width_snd X hl Gl 7)
  · exact callFn_sound ((wd_b X hl Gl).up (by decide)) (pl_221.fn X hl) pl_221.cf 0 bo_221
  · exact callFn_sound ((wd_e X hl Gl).up (by decide)) (pl_240.fn X hl) pl_240.cf 0 bo_240
end
theorem look_250 (P : Params) : (K1 P).lookup 250 = some ⟨.type "function", none, .func (fdIn K1 250), #[]⟩ := by kernel_rfl
theorem ok_250 (P : Params) : fnOk (K1 P) (fdIn K1 250) = true := by kernel_rfl
theorem cf_250 : Cf2Ok G1 (fdIn K1 250) ["script"] 12 (cf' 250 ["script"] 12).1 (cf' 250 ["script"] 12).2 := cf2_of (by decide +kernel) (by decide +kernel)
theorem bind_250 (a : Value) : bindArgs (fdIn K1 250) ⟨[a], []⟩ = pure ([("script", a)] : List (Str × Value)) := by kernel_rfl
noncomputable def as_ : Stmt → Expr | .Assign [t] _ _ => t | _ => .Name "" p00
noncomputable def sR : Stmt := sAt 250 12
theorem sR_eq : sR = .Assign [.Name "rows" (kP (as_ sR))] (.Call (.Name "_law_chains" (kP (kF (lV sR)))) (kA (lV sR)) [] (kP (lV sR))) (lP sR) := by kernel_rfl
noncomputable def aR : MEs := (seqL ((kA (lV sR)).map (cE G1 40 (gm 250)))).getD .nil
theorem aR_ok : seqL ((kA (lV sR)).map (cE G1 40 (gm 250))) = some aR := by
  have h : (seqL ((kA (lV sR)).map (cE G1 40 (gm 250)))).isSome = true := by decide +kernel
  unfold aR
  obtain ⟨c, hc⟩ := Option.isSome_iff_exists.mp h
  rw [hc]; rfl
theorem ke_aR : aR = .cons (.var (.cel 0)) (.cons (.var (.cel 3)) (.cons (.var (.cel 2)) .nil)) := by kernel_rfl
end Mine
end
section
namespace Mine
open PySem PyProof.Rows
noncomputable abbrev F16 := _root_.Fin 16
noncomputable def bitB (a : F16) (k : Nat) : Bool := a.val.testBit k
noncomputable def word (a : F16) : Str := ⟨([if bitB a 3 then 65 else 97, if bitB a 2 then 66 else 98, if bitB a 1 then 112 else 121] ++ if bitB a 0 then [] else [122]).toArray⟩
noncomputable def rank (a : F16) : Nat := a.val / 8 + a.val / 4 % 2 + 2 * (a.val / 2 % 2) + 2 * (a.val % 2)
noncomputable def sgn (a b : F16) : Int := (if decide (b > a) then 1 else 0) - if decide (b < a) then 1 else 0
noncomputable def subW (a b : F16) : Bool := decide (a.val &&& b.val = a.val)
noncomputable def num (n : Nat) : Str := Str.ofString (toString ((n : Nat) : Int))
noncomputable def iv (a : F16) : PV := .int (a.val : Int)
noncomputable def wv (a : F16) : PV := .str (word a)
noncomputable def nv (k : Nat) : PV := .int ((k : Nat) : Int)
noncomputable def levOk (o : Option (PV × St)) (way : Int) (b : Bool) : Bool := match o with
  | some (.int i, _) => (i == way) == b
  | _ => false
set_option tactic.hygienic true in
theorem levOk_some {o : Option (PV × St)} {way : Int} {b : Bool} (h : levOk o way b = true) : ∃ i j, o = some (.int i, j) ∧ (i == way) = b := by
  unfold levOk at h
  split at h
  · rename_i i j
    exact ⟨i, j, rfl, by simpa using h⟩
  · exact absurd h (by decide)
noncomputable def moreOf (a b : F16) : Int := (rank b : Int) - (rank a : Int)
theorem g_214 : ∀ a : F16, isStr (k_214.run T0 [.int (a.val : Int)] []) (word a) = true := by decide +kernel
theorem g_rank : ∀ a : F16, isInt (k_52.run TaL [.str "abyz", .str (word a), .int 6] []) (rank a : Int) = true := by decide +kernel
theorem g_59 : ∀ a b : F16, isInt (k_59.run T0 [.str (word a), .str (word b)] []) (sgn a b) = true := by decide +kernel
noncomputable def row52 (a : F16) : Bool := (List.finRange 16).all fun b => !decide (a < b) || levOk (k_52.run TaL [.str (word a), .str (word b), .int (moreOf a b)] []) (moreOf a b) (subW a b)
theorem g_row0 : row52 0 = true := by decide +kernel
theorem g_row1 : row52 1 = true := by decide +kernel
theorem g_row2 : row52 2 = true := by decide +kernel
theorem g_row3 : row52 3 = true := by decide +kernel
theorem g_row4 : row52 4 = true := by decide +kernel
theorem g_row5 : row52 5 = true := by decide +kernel
theorem g_row6 : row52 6 = true := by decide +kernel
theorem g_row7 : row52 7 = true := by decide +kernel
theorem g_row8 : row52 8 = true := by decide +kernel
theorem g_row9 : row52 9 = true := by decide +kernel
theorem g_row10 : row52 10 = true := by decide +kernel
theorem g_row11 : row52 11 = true := by decide +kernel
theorem g_row12 : row52 12 = true := by decide +kernel
theorem g_row13 : row52 13 = true := by decide +kernel
theorem g_row14 : row52 14 = true := by decide +kernel
theorem g_row15 : row52 15 = true := by decide +kernel
theorem g_row : ∀ a : F16, row52 a = true
  | ⟨0, _⟩ => g_row0
  | ⟨1, _⟩ => g_row1
  | ⟨2, _⟩ => g_row2
  | ⟨3, _⟩ => g_row3
  | ⟨4, _⟩ => g_row4
  | ⟨5, _⟩ => g_row5
  | ⟨6, _⟩ => g_row6
  | ⟨7, _⟩ => g_row7
  | ⟨8, _⟩ => g_row8
  | ⟨9, _⟩ => g_row9
  | ⟨10, _⟩ => g_row10
  | ⟨11, _⟩ => g_row11
  | ⟨12, _⟩ => g_row12
  | ⟨13, _⟩ => g_row13
  | ⟨14, _⟩ => g_row14
  | ⟨15, _⟩ => g_row15
  | ⟨n + 16, h⟩ => absurd h (by omega)
theorem g_52 (a b : F16) (h : a < b) : levOk (k_52.run TaL [.str (word a), .str (word b), .int (moreOf a b)] []) (moreOf a b) (subW a b) = true := by
  have := (List.all_eq_true.mp (g_row a)) b (List.mem_finRange b)
  rwa [decide_eq_true h, Bool.not_true, Bool.false_or] at this
theorem g_word : ∀ a : F16, okV (word a) = true := by decide +kernel
theorem g_num : ∀ n : _root_.Fin 40, (okV (num n.val) && (numOf (num n.val) == some n.val) && fits (num n.val)) = true := by decide +kernel
end Mine
end
section
namespace Mine
open PySem PyProof.Rows
theorem idx_at (k n : Nat) (h : k < n) (hk : small (k : Int) = true) : idxAt (k : Int) n = some k := by
  have e : seqIndex? (k : Int) n = some k := by
    have h1 : ¬ ((k : Int) < 0) := by omega
    have h2 : ((k : Int) < (n : Int)) := by omega
    simp [seqIndex?, h1, h2]
  show (if small (k : Int) = true then seqIndex? _ _ else none) = _
  rw [if_pos hk, e]
theorem seti_at {σ : St} {n : Nat} {xs : List PV} {v : PV} {i : Int} {k : Nat} (h : σ[n]? = some (.lst xs)) (hk : idxAt i xs.length = some k) : seti (.obj n) (.int i) v σ = some ((), σ.set n (.lst (xs.set k v))) := by
  show ((lstAt σ n).bind fun xs => (idxAt i xs.length).bind fun k => some ((), σ.set n (.lst (xs.set k v)))) = _
  rw [lst_of h]
  show ((idxAt i xs.length).bind fun k => some ((), σ.set n (.lst (xs.set k v)))) = _
  rw [hk]; rfl
theorem item_at {σ : St} {n : Nat} {xs : List PV} {i : Int} {k : Nat} (h : σ[n]? = some (.lst xs)) (hk : idxAt i xs.length = some k) : item σ (.obj n) (.int i) = xs[k]? := by
  show ((lstAt σ n).bind fun xs => (idxAt i xs.length).bind fun k => xs[k]?) = _
  rw [lst_of h]
  show ((idxAt i xs.length).bind fun k => xs[k]?) = _
  rw [hk]; rfl
theorem small_16 : ∀ k : _root_.Fin 40, small ((k.val : Nat) : Int) = true := by decide +kernel
theorem idx_16 (k n : Nat) (h : k < n) (hk : k < 40) : idxAt (k : Int) n = some k := idx_at k n h (small_16 ⟨k, hk⟩)
section
variable {T : Tab} {σ σ' σ₁ σ₂ : St} {t hs n : Nat} {fm : Fm}
theorem cond_ne {e1 e2 : ME} {b : MSs} {u v : PV} (h1 : ev T e1 fm σ = some (u, σ₁)) (h2 : ev T e2 fm σ₁ = some (v, σ₂)) (h : cmpop σ₂ .NotEq u v = some false) (r : MSs) : exs T (.cons (.cond (.cmp e1 (.cons .NotEq e2 .nil)) b .nil) r) fm σ = exs T r fm σ₂ := by
  simp only [↓q_scons, ↓q_snil, ↓q_cond, ↓q_bnd, ↓q_rt, ↓q_ite, ↓q_look, ↓q_cmp, ↓q_ccons, ↓reduceIte, Bool.false_eq_true, e_tru, h1, h2, h]
theorem comp_map {frees : List Nat} {it : MI} {e : ME} {src : PI} {xs : List PV} {fs : List Nat} (h : PV → PV) (h1 : evI T it fm σ = some (src, σ₁)) (hn : ∀ σ' i, Old σ₁ σ' → nth σ' src i = some xs[i]?) (h3 : (frees.mapM fun i => fm.cs[i]?).map List.reverse = some fs) (h5 : xs.length < 90)
    (he : ∀ x ∈ xs, ∀ v0 σ', ev T e ⟨[v0, some x], fs⟩ σ' = some (h x, σ')) : ∃ σ', ev T (.comp 2 0 frees it (.lvl (.one (.loc 1)) .nil (.elt e))) fm σ = some (.obj σ₁.length, σ') ∧ Old σ₁ σ' ∧ σ'[σ₁.length]? = some (.lst (xs.map h)) := by
  refine byc fun nh => ?_
  obtain ⟨σ', e1, o, hl⟩ := comp_grow (nl := 2) (frees := frees) (g := .lvl (.one (.loc 1)) .nil (.elt e)) (fun x => [h x]) (fun fm' => ∃ a b, fm' = ⟨[a, b], fs⟩) h1 hn h3 ⟨_, _, rfl⟩ h5 (fun _ _ => by simp) (fun x hx fm' zs σ' hF o hz hzl => by
    obtain ⟨a, b, rfl⟩ := hF
    obtain ⟨p1, p2, p3⟩ := push_old (xs := []) (v := h x) o (Nat.le_refl _) hz (by omega)
    refine ⟨⟨[a, some x], fs⟩, _, ?_, ⟨_, _, rfl⟩, p2, p3⟩
    simp only [↓q_bnd, ↓q_rt, ↓q_ite, ↓q_sT1, ↓q_inil, ↓q_lvl, ↓q_elt, List.set_cons_succ, List.set_cons_zero, ↓reduceIte, he x hx, p1])
  rw [flat_map] at hl
  refine nh ?_
  exact ⟨σ', e1, o, hl⟩
theorem ev_slc {fm : Fm} {o l u s : ME} {ov lv uv sv : PV} {r : Option (PV × St)} (h1 : ev T o fm σ = some (ov, σ)) (h2 : ev T l fm σ = some (lv, σ)) (h3 : ev T u fm σ = some (uv, σ)) (h4 : ev T s fm σ = some (sv, σ)) (h : slice ov lv uv sv σ = r) : ev T (.slc o l u s) fm σ = r := by
  rw [q_slc, bnd_eq h1, bnd_eq h2, bnd_eq h3, bnd_eq h4]; exact h
theorem evI_range {e : ME} {fm : Fm} {a b c : Int} (h : ev T e fm σ = some (.range a b c, σ)) : evI T (.val e) fm σ = some (.one (.range a b c), σ) := by
  rw [q_ival, bnd_eq h]
  simp only [nth1, Option.isSome_some, if_true]
theorem ty_range1 (n : Int) (h : small n = true) : ty "range" [.int n] [] σ = some (.range 0 n 1, σ) := by
  show (if small n = true then rt (PV.range 0 n 1) else fail) σ = _
  rw [if_pos h]; rfl
theorem add_lst {i j : Nat} {xs ys : List PV} (h1 : σ[i]? = some (.lst xs)) (h2 : σ[j]? = some (.lst ys)) (hl : xs.length + ys.length ≤ 10000) : binop .Add (.obj i) (.obj j) σ = some (.obj σ.length, σ ++ [.lst (xs ++ ys)]) := by
  show ((lstAt σ i).bind fun xs => (lstAt σ j).bind fun ys => if xs.length + ys.length ≤ 10000 then alloc (.lst (xs ++ ys)) σ else none) = _
  rw [lst_of h1]
  show ((lstAt σ j).bind fun ys => if xs.length + ys.length ≤ 10000 then alloc (.lst (xs ++ ys)) σ else none) = _
  rw [lst_of h2]; exact if_pos hl
inductive RowsAt (σ : St) (r n : Nat) (f : Nat → List PV) : Prop where
  | mk (ks : List Nat) (len : ks.length = n) (lst : σ[r]? = some (.lst (ks.map .obj))) (rows : ∀ (i k : Nat), ks[i]? = some k → σ[k]? = some (.lst (f i))) : RowsAt σ r n f
theorem RowsAt.old {r : Nat} {f : Nat → List PV} (R : RowsAt σ r n f) (o : Old σ σ') : RowsAt σ' r n f := by
  obtain ⟨ks, h1, h2, h3⟩ := R
  exact ⟨ks, h1, o.2 _ _ h2, fun i k h => o.2 _ _ (h3 i k h)⟩
theorem RowsAt.get {r : Nat} {f : Nat → List PV} (R : RowsAt σ r n f) {i : Nat} (h : i < n) (h4 : i < 40) : ∃ k, item σ (.obj r) (.int (i : Int)) = some (.obj k) ∧ σ[k]? = some (.lst (f i)) := by
  refine byc fun nh => ?_
  obtain ⟨ks, h1, h2, h3⟩ := R
  have hi : i < ks.length := by omega
  refine nh ?_
  refine ⟨ks[i], ?_, h3 i _ (List.getElem?_eq_getElem hi)⟩
  rw [item_at h2 (idx_16 i _ (by rw [List.length_map]; exact hi) h4), List.getElem?_map, List.getElem?_eq_getElem hi]; rfl
theorem rows_deep : ∀ (ks : List Nat) (g : Nat → List Int), (∀ (i k : Nat), ks[i]? = some k → σ[k]? = some (.lst ((g i).map .int))) → mapO (deep σ 5) (ks.map .obj) = some ((List.range ks.length).map fun i => PyData.list ((g i).map .int))
  | [], _, _ => rfl
  | k :: ks, g, h => by
    have e1 : deep σ 5 (.obj k) = some (.list ((g 0).map .int)) := by rw [d_obj (h 0 k rfl), mapO_int 3]; rfl
    rw [List.map_cons, List.length_cons, List.range_succ_eq_map, List.map_cons, List.map_map]
    exact m_cons e1 (rows_deep ks (fun i => g (i + 1)) fun i k hk => h (i + 1) k hk)
theorem eqv_ints : ∀ r : List Int, PyData.eqvAll (r.map PyData.int) (r.map PyData.int) = true
  | [] => rfl
  | x :: r => by simp only [List.map_cons, PyData.eqvAll, PyData.eqv, beq_self_eq_true, eqv_ints r, Bool.and_self]
theorem eqv_rows (g : Nat → List Int) : ∀ l : List Nat, PyData.eqvAll (l.map fun i => PyData.list ((g i).map .int)) (l.map fun i => PyData.list ((g i).map .int)) = true
  | [] => rfl
  | x :: r => by simp only [List.map_cons, PyData.eqvAll, PyData.eqv, eqv_ints, eqv_rows g r, Bool.and_self]
theorem e_rows {a b : Nat} {f f' : Nat → List PV} {g : Nat → List Int} (R : RowsAt σ a n f) (R' : RowsAt σ b n f') (h : ∀ i, i < n → f i = (g i).map .int) (h' : ∀ i, i < n → f' i = (g i).map .int) : cmpop σ .NotEq (.obj a) (.obj b) = some false := by
  obtain ⟨ks, h1, h2, h3⟩ := R
  obtain ⟨ks', h1', h2', h3'⟩ := R'
  have d1 : deep σ 6 (.obj a) = some (.list ((List.range n).map fun i => PyData.list ((g i).map .int))) := by
    rw [d_obj h2, rows_deep ks g fun i k hk => by rw [h3 i k hk, h i (by rw [← h1]; exact (List.getElem?_eq_some_iff.mp hk).1)], h1]; rfl
  have d2 : deep σ 6 (.obj b) = some (.list ((List.range n).map fun i => PyData.list ((g i).map .int))) := by
    rw [d_obj h2', rows_deep ks' g fun i k hk => by rw [h3' i k hk, h' i (by rw [← h1']; exact (List.getElem?_eq_some_iff.mp hk).1)], h1']; rfl
  rw [ne_of (eq_at d1 d2), PyData.eqv, eqv_rows]; rfl
theorem q_comp1 (frees : List Nat) (it : MI) (g : MG) (fm : Fm) : ev T (.comp 1 1 frees it g) fm σ = bnd (evI T it fm) (fun src => bnd (alloc (.lst [])) fun acc => bnd (allocCells 1) fun ks => bnd (lift ((frees.mapM fun i => fm.cs[i]?).map List.reverse)) fun fs =>
      bnd (loopM (γ := Unit) src (fun v fm' => bnd (evG T g acc (some v) fm') fun fm'' => rt (fm'', none)) fuel 0 ⟨[none], ks ++ fs⟩) fun _ => rt acc) σ := rfl
theorem comp_cell {frees : List Nat} {it : MI} {inner : ME} {src : PI} {xs : List PV} {fs : List Nat} (f : Nat → List PV)
    (h1 : evI T it fm σ = some (src, σ₁)) (hn : ∀ σ' i, Old σ₁ σ' → nth σ' src i = some xs[i]?) (h3 : (frees.mapM fun i => fm.cs[i]?).map List.reverse = some fs) (h5 : xs.length < 90)
    (hs : ∀ i x, xs[i]? = some x → ∀ σ', Old σ₁ σ' → σ'[σ₁.length + 1]? = some (.cel (some x)) → ∃ k σ'', ev T inner ⟨[none], (σ₁.length + 1) :: fs⟩ σ' = some (.obj k, σ'') ∧ Old σ' σ'' ∧ σ'.length ≤ k ∧ σ''[k]? = some (.lst (f i))) :
    ∃ σ', ev T (.comp 1 1 frees it (.lvl (.one (.cel 0)) .nil (.elt inner))) fm σ = some (.obj σ₁.length, σ') ∧ Old σ₁ σ' ∧ RowsAt σ' σ₁.length xs.length f := by
  have key := loop_rule (γ := Unit) (src := src) (body := fun v fm' => bnd (evG T (.lvl (.one (.cel 0)) .nil (.elt inner)) (.obj σ₁.length) (some v) fm') fun fm'' => rt (fm'', none)) (xs := xs)
    (fun i b σ' => b = ⟨[none], (σ₁.length + 1) :: fs⟩ ∧ Old σ₁ σ' ∧ (∃ o, σ'[σ₁.length + 1]? = some (.cel o)) ∧ ∃ ks : List Nat, ks.length = i ∧ σ'[σ₁.length]? = some (.lst (ks.map .obj)) ∧ ∀ (j k : Nat), ks[j]? = some k → σ₁.length + 1 < k ∧ σ'[k]? = some (.lst (f j)))
    (fun i b σ' hI => hn σ' i hI.2.1)
    (fun i hi b σ' hI => by
      refine byc fun nh => ?_
      obtain ⟨rfl, o, ⟨oc, hc⟩, ks, hk, ha, hr⟩ := hI
      have sv := setV_cel (σ := σ') (fm := ⟨[none], (σ₁.length + 1) :: fs⟩) (v := xs[i]) (i := 0) (k := σ₁.length + 1) rfl hc
      obtain ⟨σ₂, h2⟩ : ∃ σ₂, σ₂ = σ'.set (σ₁.length + 1) (.cel (some xs[i])) := ⟨_, rfl⟩
      rw [← h2] at sv
      have o2 : Old σ₁ σ₂ := by rw [h2]; exact o.set (Nat.le_succ _)
      have c2 : σ₂[σ₁.length + 1]? = some (.cel (some xs[i])) := by rw [h2]; exact get_set_same hc
      have l2 : σ₁.length + 1 < σ₂.length := lt_of_get c2
      obtain ⟨k, σ₃, e3, o3, hk3, r3⟩ := hs i _ (List.getElem?_eq_getElem hi) σ₂ o2 c2
      have a2 : σ₂[σ₁.length]? = some (.lst (ks.map .obj)) := by rw [h2, get_set (by omega)]; exact ha
      have a3 := o3.2 _ _ a2
      have p3 := push_at (v := .obj k) a3 (by rw [List.length_map]; omega)
      refine nh ?_
      refine ⟨_, σ₃.set σ₁.length (.lst (ks.map .obj ++ [.obj k])), ?_, rfl, (o2.trans o3).set (Nat.le_refl _), ⟨_, by rw [get_set (by omega)]; exact o3.2 _ _ c2⟩, ks ++ [k], by simp [hk], ?_, fun j k' hj => ?_⟩
      · simp only [↓q_bnd, ↓q_lvl, setT, sv, ↓q_inil, ↓reduceIte, ↓q_elt, e3, p3, ↓q_rt]
      · rw [get_set_same a3, List.map_append]; rfl
      · by_cases hj' : j < ks.length
        · rw [List.getElem?_append_left hj'] at hj
          obtain ⟨g1, g2⟩ := hr j k' hj
          refine ⟨g1, ?_⟩
          rw [get_set (by omega)]
          exact o3.2 _ _ (by rw [h2, get_set (by omega)]; exact g2)
        · have hl := (List.getElem?_eq_some_iff.mp hj).1
          simp at hl
          have e : j = ks.length := by omega
          rw [e, List.getElem?_concat_length] at hj
          obtain rfl := Option.some.inj hj
          rw [e, hk]
          exact ⟨by omega, by rw [get_set (by omega)]; exact r3⟩)
    fuel 0 ⟨[none], (σ₁.length + 1) :: fs⟩ ((σ₁ ++ [.lst []]) ++ [.cel none]) ⟨rfl, (Old.app σ₁ _).trans (Old.app _ _), ⟨none, q_last (σ := σ₁ ++ [Cell.lst []]) _ (by simp)⟩, [], rfl, by rw [q_app _ (by simp)]; exact q_last (σ := σ₁) (.lst []) rfl, nofun⟩ (by omega) (by simp [fuel]; omega)
  refine byc fun nh => ?_
  obtain ⟨b', σ', ke, _, ho, _, ks, hk, ha, hr⟩ := key
  refine nh ?_
  refine ⟨σ', ?_, ho, ⟨ks, hk, ha, fun i k h => (hr i k h).2⟩⟩
  have e1 : allocCells 1 (σ₁ ++ [.lst []]) = some ([σ₁.length + 1], (σ₁ ++ [.lst []]) ++ [.cel none]) := by rw [cells1, q_len]
  rw [q_comp1]
  simp only [↓q_bnd, h1, ↓q_alloc, e1, ↓q_lift, h3, List.cons_append, List.nil_append, ke, ↓q_rt]
end
end Mine
end
section
namespace Mine
noncomputable abbrev Prs := List (Nat × Nat)
noncomputable def tget (tb : Prs) (l : Nat) : Option Nat := tb.lookup l
noncomputable def tput (tb : Prs) (l h : Nat) : Prs := tb.filter (fun p => p.1 != l) ++ [(l, h)]
noncomputable def seatLoop (rec : Nat → Prs → List Nat → Bool × Prs × List Nat) (high : Nat) : List Nat → Prs → List Nat → Bool × Prs × List Nat
  | [], tb, tr => (false, tb, tr)
  | l :: ls, tb, tr => if l ∈ tr then seatLoop rec high ls tb tr else
    match tget tb l with
    | none => (true, tput tb l high, tr ++ [l])
    | some h => match rec h tb (tr ++ [l]) with
      | (true, tb', tr') => (true, tput tb' l high, tr')
      | (false, tb', tr') => seatLoop rec high ls tb' tr'
noncomputable def seat (under : Nat → List Nat) : Nat → Nat → Prs → List Nat → Bool × Prs × List Nat
  | 0, _, tb, tr => (false, tb, tr)
  | k + 1, high, tb, tr => seatLoop (seat under k) high (under high) tb tr
theorem nodup_le : ∀ (n : Nat) (l : List Nat), l.Nodup → (∀ x ∈ l, x < n) → l.length ≤ n
  | 0, [], _, _ => Nat.le_refl _
  | 0, x :: l, _, h => absurd (h x (by exact List.mem_cons_self)) (Nat.not_lt_zero _)
  | n + 1, l, d, h => by
    have := nodup_le n (l.erase n) (d.erase n) fun x hx => by
      have hx' := (List.Nodup.mem_erase_iff d).mp hx
      have := h x hx'.2
      omega
    by_cases hn : n ∈ l
    · rw [List.length_erase_of_mem hn] at this; omega
    · rw [List.erase_of_not_mem hn] at this; exact Nat.le_succ_of_le (by assumption)
theorem nodup_sub : ∀ (l l' : List Nat), l.Nodup → (∀ x ∈ l, x ∈ l') → l.length ≤ l'.length
  | [], _, _, _ => Nat.zero_le _
  | a :: l, l', d, h => by
    have d' := List.nodup_cons.mp d
    have ha := h a List.mem_cons_self
    have := nodup_sub l (l'.erase a) d'.2 fun x hx => (List.mem_erase_of_ne fun e : x = a => d'.1 (e ▸ hx)).mpr (h x (List.mem_cons_of_mem _ hx))
    replace this := (List.length_erase_of_mem ha) ▸ this
    have := List.length_pos_of_mem ha
    refine Eq.symm (List.length_cons) ▸ ?_
    omega
noncomputable abbrev keysT (tb : Prs) : List Nat := tb.map (·.1)
noncomputable abbrev valsT (tb : Prs) : List Nat := tb.map (·.2)
theorem key_mem {tb : Prs} {l h : Nat} (m : (l, h) ∈ tb) : l ∈ keysT tb := List.mem_map_of_mem (f := Prod.fst) m
theorem tget_mem {tb : Prs} {l h : Nat} (e : tget tb l = some h) : (l, h) ∈ tb := by
  induction tb with
  | nil => cases e
  | cons p tb ih =>
    unfold tget at e
    rw [List.lookup_cons] at e
    split at e
    · rename_i he
      obtain rfl := Option.some.inj e
      refine Eq.symm (beq_iff_eq.mp he) ▸ ?_
      exact List.mem_cons_self
    · exact List.mem_cons_of_mem _ (ih e)
theorem tget_of {tb : Prs} (d : (keysT tb).Nodup) {l h : Nat} (m : (l, h) ∈ tb) : tget tb l = some h := by
  induction tb with
  | nil => cases m
  | cons p tb ih =>
    have d' := List.nodup_cons.mp d
    unfold tget
    rw [List.lookup_cons]
    rcases List.mem_cons.mp m with rfl | m
    · simp
    · have : l ≠ p.1 := fun e => d'.1 (show p.1 ∈ keysT tb by rw [← e]; exact key_mem m)
      refine Eq.symm (beq_eq_false_iff_ne.mpr this) ▸ ?_
      exact ih d'.2 m
theorem tget_none {tb : Prs} {l : Nat} (e : tget tb l = none) : l ∉ keysT tb := by
  induction tb with
  | nil => simp
  | cons p tb ih =>
    unfold tget at e
    rw [List.lookup_cons] at e
    split at e
    · cases e
    · rename_i he
      exact fun h => (List.mem_cons.mp h).elim (fun h => beq_eq_false_iff_ne.mp he h) (ih e)
theorem tput_keys {tb : Prs} {l h : Nat} (d : (keysT tb).Nodup) : (keysT (tput tb l h)).Nodup := by
  have d1 : (keysT (tb.filter fun p => p.1 != l)).Nodup := d.sublist (List.filter_sublist.map _)
  unfold keysT tput
  rw [List.map_append, List.nodup_append]
  refine ⟨d1, by simp, fun a ha b hb e => ?_⟩
  obtain ⟨p, hp, rfl⟩ := List.mem_map.mp ha
  simp only [List.map_cons, List.map_nil, List.mem_singleton] at hb
  have := (List.mem_filter.mp hp).2
  simp only [bne_iff_ne, ne_eq] at this
  exact this (e.trans hb)
theorem tput_mem {tb : Prs} {l h : Nat} {p : Nat × Nat} (m : p ∈ tput tb l h) : p = (l, h) ∨ (p ∈ tb ∧ p.1 ≠ l) := by
  rcases List.mem_append.mp m with m | m
  · have := List.mem_filter.mp m
    exact .inr ⟨this.1, by simpa using this.2⟩
  · exact .inl (by simpa using m)
theorem tput_other {tb : Prs} {l h x : Nat} (d : (keysT tb).Nodup) (hx : x ≠ l) : tget (tput tb l h) x = tget tb x := by
  cases e : tget tb x with
  | some y => exact tget_of (tput_keys d) (List.mem_append_left _ (List.mem_filter.mpr ⟨tget_mem e, by simpa using hx⟩))
  | none =>
    cases e' : tget (tput tb l h) x with
    | none => rfl
    | some y =>
      rcases tput_mem (tget_mem e') with q | ⟨q, _⟩
      · exact absurd (congrArg (·.1) q) hx
      · rw [tget_of d q] at e; cases e
theorem tput_new {tb : Prs} {l h : Nat} (e : tget tb l = none) : valsT (tput tb l h) = valsT tb ++ [h] := by
  have hn := tget_none e
  have : tb.filter (fun p => p.1 != l) = tb := List.filter_eq_self.mpr fun p hp => by
    simp only [bne_iff_ne, ne_eq]
    exact fun e => hn (by rw [← e]; exact key_mem (h := p.2) hp)
  unfold valsT tput
  rw [this, List.map_append]; rfl
theorem tput_old : ∀ {tb : Prs} {l h o : Nat}, (keysT tb).Nodup → tget tb l = some o → (o :: valsT (tb.filter fun p => p.1 != l)).Perm (valsT tb)
  | [], _, _, _, _, e => nomatch e
  | p :: tb, l, h, o, d, e => by
    have d' := List.nodup_cons.mp d
    unfold tget at e
    rw [List.lookup_cons] at e
    by_cases he : l = p.1
    · rw [he, beq_self_eq_true] at e
      obtain rfl := Option.some.inj e
      have : tb.filter (fun q => q.1 != l) = tb := List.filter_eq_self.mpr fun q hq => by
        simp only [bne_iff_ne, ne_eq]
        exact fun z => d'.1 (show p.1 ∈ keysT tb by rw [← z.trans he]; exact key_mem (h := q.2) hq)
      rw [List.filter_cons, show (p.1 != l) = false by simp [he], if_neg (by simp), this]
      exact .refl _
    · rw [beq_eq_false_iff_ne.mpr he] at e
      rw [List.filter_cons, show (p.1 != l) = true by simpa using Ne.symm he, if_pos rfl]
      exact (List.Perm.swap _ _ _).trans ((tput_old (h := h) d'.2 e).cons _)
noncomputable def Shut (under : Nat → List Nat) (tb : Prs) (R : List Nat) : Prop := ∀ l ∈ R, ∃ h, tget tb l = some h ∧ ∀ y ∈ under h, y ∈ R
structure Won (under : Nat → List Nat) (tb tb' : Prs) (high : Nat) (tr : List Nat) : Prop where
  keys : (keysT tb').Nodup
  vals : (valsT tb').Perm (high :: valsT tb)
  same : ∀ l ∈ tr, tget tb' l = tget tb l
  shut : ∀ R, Shut under tb R → (∀ l ∈ R, tget tb' l = tget tb l) ∧ ¬ ∀ y ∈ under high, y ∈ R
  edge : ∀ p ∈ tb', p ∈ tb ∨ p.1 ∈ under p.2
structure Lost (under : Nat → List Nat) (tb : Prs) (ls tr tr' : List Nat) : Prop where
  all : ∀ l ∈ ls, l ∈ tr'
  held : ∀ l ∈ tr', l ∉ tr → ∃ h, tget tb l = some h ∧ ∀ y ∈ under h, y ∈ tr'
structure Tried (n : Nat) (tr tr' : List Nat) : Prop where
  nd : tr'.Nodup
  low : ∀ x ∈ tr', x < n
  sub : ∀ x ∈ tr, x ∈ tr'
set_option tactic.hygienic true in
theorem seat_spec {n : Nat} {under : Nat → List Nat} (hu : ∀ h l, l ∈ under h → l < n) : ∀ (k high : Nat) (tb : Prs) (tr : List Nat), n < k + tr.length → tr.Nodup → (∀ x ∈ tr, x < n) → (keysT tb).Nodup → ∀ b tb' tr', seat under k high tb tr = (b, tb', tr') →
    Tried n tr tr' ∧ (b = true → Won under tb tb' high tr) ∧ (b = false → tb' = tb ∧ Lost under tb (under high) tr tr') := by
  intro k
  induction k with
  | zero =>
    intro high tb tr hk hn hl
    have := nodup_le n tr hn hl
    omega
  | succ k ih =>
    intro high tb tr hk hn hl hd
    have loop : ∀ (ls : List Nat) (tr : List Nat), (∀ l ∈ ls, l ∈ under high) → n < k + 1 + tr.length → tr.Nodup → (∀ x ∈ tr, x < n) → ∀ b tb' tr', seatLoop (seat under k) high ls tb tr = (b, tb', tr') →
        Tried n tr tr' ∧ (b = true → Won under tb tb' high tr) ∧ (b = false → tb' = tb ∧ Lost under tb ls tr tr') := by
      intro ls
      induction ls with
      | nil =>
        intro tr _ _ hn hl b tb' tr' e
        cases e
        exact ⟨⟨hn, hl, fun _ h => h⟩, nofun, fun _ => ⟨rfl, ⟨nofun, fun l h h' => absurd h h'⟩⟩⟩
      | cons l ls ihl =>
        intro tr hls hk hn hl b tb' tr' e
        rw [seatLoop] at e
        have hlu := hls l List.mem_cons_self
        have hls' : ∀ x ∈ ls, x ∈ under high := fun x hx => hls x (List.mem_cons_of_mem _ hx)
        split at e
        · rename_i hm
          obtain ⟨T, w, f⟩ := ihl tr hls' hk hn hl b tb' tr' e
          refine ⟨T, w, fun hb => ⟨(f hb).1, fun x hx => ?_, (f hb).2.held⟩⟩
          rcases List.mem_cons.mp hx with rfl | hx
          · exact T.sub _ hm
          · exact (f hb).2.all x hx
        · rename_i hm
          have hn1 : (tr ++ [l]).Nodup := by
            rw [List.nodup_append]
            exact ⟨hn, by simp, fun a ha b hb z => hm (by simp only [List.mem_singleton] at hb; rw [← hb, ← z]; exact ha)⟩
          have hl1 : ∀ x ∈ tr ++ [l], x < n := fun x hx => (List.mem_append.mp hx).elim (hl x) fun h => by
            simp only [List.mem_singleton] at h
            exact h ▸ hu high l hlu
          have hk1 : n < k + (tr ++ [l]).length := by rw [List.length_append]; simp only [List.length_cons, List.length_nil]; omega
          split at e
          · rename_i e0
            cases e
            refine ⟨⟨hn1, hl1, fun x hx => List.mem_append_left _ hx⟩, fun _ => ⟨tput_keys hd, ?_, fun x hx => ?_, fun R hR => ?_, fun p hp => ?_⟩, nofun⟩
            · rw [tput_new e0]; exact List.perm_append_comm
            · exact tput_other hd fun z : x = l => hm (z ▸ hx)
            · have hlR : l ∉ R := fun h => by
                obtain ⟨x, hx, _⟩ := hR l h
                rw [e0] at hx; exact nsm hx
              exact ⟨fun x hx => tput_other hd fun z : x = l => hlR (z ▸ hx), fun h => hlR (h l hlu)⟩
            · rcases tput_mem hp with rfl | ⟨h, _⟩
              · exact .inr hlu
              · exact .inl h
          · rename_i h e0
            split at e
            · rename_i tb1 tr1 er
              refine byc fun nh => ?_
              cases e
              obtain ⟨T, w, _⟩ := ih h tb (tr ++ [l]) hk1 hn1 hl1 hd _ _ _ er
              have W := w rfl
              refine nh ?_
              refine ⟨⟨T.nd, T.low, fun x hx => T.sub x (List.mem_append_left _ hx)⟩, fun _ => ⟨tput_keys W.keys, ?_, fun x hx => ?_, fun R hR => ?_, fun p hp => ?_⟩, nofun⟩
              · have e1 : tget tb1 l = some h := (W.same l (by simp)).trans e0
                have p2 : (valsT (tput tb1 l high)).Perm (high :: valsT (tb1.filter fun p => p.1 != l)) := by
                  unfold tput valsT
                  rw [List.map_append]
                  exact List.perm_append_comm
                have p3 : (valsT (tb1.filter fun p => p.1 != l)).Perm (valsT tb) := (List.perm_cons h).mp ((tput_old (h := high) W.keys e1).trans W.vals)
                exact p2.trans (p3.cons _)
              · exact (tput_other W.keys fun z : x = l => hm (z ▸ hx)).trans (W.same x (List.mem_append_left _ hx))
              · obtain ⟨s1, s2⟩ := W.shut R hR
                have hlR : l ∉ R := fun q => by
                  obtain ⟨x, hx, hy⟩ := hR l q
                  rw [e0] at hx; cases hx
                  exact s2 hy
                exact ⟨fun x hx => (tput_other W.keys fun z : x = l => hlR (z ▸ hx)).trans (s1 x hx), fun q => hlR (q l hlu)⟩
              · rcases tput_mem hp with rfl | ⟨q, _⟩
                · exact .inr hlu
                · exact W.edge p q
            · rename_i tb1 tr1 er
              obtain ⟨T, _, f⟩ := ih h tb (tr ++ [l]) hk1 hn1 hl1 hd _ _ _ er
              obtain ⟨rfl, L⟩ := f rfl
              have len : (tr ++ [l]).length ≤ tr1.length := nodup_sub _ _ hn1 T.sub
              obtain ⟨T2, w, f2⟩ := ihl tr1 hls' (by rw [List.length_append] at len; simp only [List.length_cons, List.length_nil] at len; omega) T.nd T.low b tb' tr' e
              refine ⟨⟨T2.nd, T2.low, fun x hx => T2.sub x (T.sub x (List.mem_append_left _ hx))⟩, fun hb => ?_, fun hb => ⟨(f2 hb).1, fun x hx => ?_, fun x hx hx' => ?_⟩⟩
              · have W := w hb
                exact ⟨W.keys, W.vals, fun x hx => W.same x (T.sub x (List.mem_append_left _ hx)), W.shut, W.edge⟩
              · rcases List.mem_cons.mp hx with rfl | hx
                · exact T2.sub _ (T.sub _ (by simp))
                · exact (f2 hb).2.all x hx
              · by_cases h1 : x ∈ tr1
                · by_cases h2 : x = l
                  · subst h2
                    exact ⟨h, e0, fun y hy => T2.sub y (L.all y hy)⟩
                  · obtain ⟨z, hz, hy⟩ := L.held x h1 fun q => (List.mem_append.mp q).elim hx' fun q => h2 (by simpa using q)
                    exact ⟨z, hz, fun y q => T2.sub y (hy y q)⟩
                · exact (f2 hb).2.held x hx h1
    exact loop (under high) tr (fun _ h => h) (by exact (by assumption)) hn hl
end Mine
end
section
namespace Mine
structure Ord (n : Nat) (under : Nat → List Nat) : Prop where
  lt : ∀ h l, l ∈ under h → l < n
  nd : ∀ h, (under h).Nodup
  irr : ∀ x, x ∉ under x
  trans : ∀ x y z, x ∈ under y → y ∈ under z → x ∈ under z
theorem Ord.len {n : Nat} {under : Nat → List Nat} (O : Ord n under) {l h : Nat} (m : l ∈ under h) : (under l).length < (under h).length :=
  nodup_sub (l :: under l) (under h) (List.nodup_cons.mpr ⟨O.irr l, O.nd l⟩) fun x hx => (List.mem_cons.mp hx).elim (fun e => e ▸ m) fun q => O.trans _ _ _ q m
noncomputable def seats (under : Nat → List Nat) (k : Nat) : Nat → Prs × List Bool
  | 0 => ([], [])
  | j + 1 => ((seat under k j (seats under k j).1 []).2.1, (seats under k j).2 ++ [(seat under k j (seats under k j).1 []).1])
structure Stage (n : Nat) (under : Nat → List Nat) (j : Nat) (tb : Prs) (rs : List Bool) (R : List Nat) : Prop where
  len : rs.length = j
  keys : (keysT tb).Nodup
  edge : ∀ p ∈ tb, p.1 ∈ under p.2
  vals : (valsT tb).Nodup
  mem : ∀ h, h ∈ valsT tb ↔ rs[h]? = some true
  cnt : tb.length = rs.count true
  shut : Shut under tb R
  rnd : R.Nodup
  rlt : ∀ x ∈ R, x < n
  fail : ∀ h, rs[h]? = some false → ∀ y ∈ under h, y ∈ R
theorem stage {n k : Nat} {under : Nat → List Nat} (O : Ord n under) (hk : n < k) : ∀ j, ∃ R, Stage n under j (seats under k j).1 (seats under k j).2 R := by
  intro j
  induction j with
  | zero => exact ⟨[], rfl, List.nodup_nil, nofun, List.nodup_nil, fun h => ⟨nofun, nofun⟩, rfl, nofun, List.nodup_nil, nofun, nofun⟩
  | succ j ih =>
    obtain ⟨R, S⟩ := ih
    show ∃ R, Stage n under (j + 1) (seat under k j (seats under k j).1 []).2.1 ((seats under k j).2 ++ [(seat under k j (seats under k j).1 []).1]) R
    generalize (seats under k j).1 = tb at S
    generalize (seats under k j).2 = rs at S
    obtain ⟨b, tb', tr', e⟩ : ∃ b tb' tr', seat under k j tb [] = (b, tb', tr') := ⟨_, _, _, rfl⟩
    refine Eq.symm (e) ▸ ?_
    obtain ⟨T, w, f⟩ := seat_spec (n := n) O.lt k j tb [] (by simpa using hk) List.nodup_nil nofun S.keys b tb' tr' e
    have hj : rs[j]? = none := by rw [List.getElem?_eq_none_iff, S.len]; exact Nat.le_refl _
    have at_ : ∀ h x, (rs ++ [x])[h]? = if h = j then some x else rs[h]? := fun h x => by
      rcases Nat.lt_trichotomy h j with q | q | q
      · refine Eq.symm (if_neg (Nat.ne_of_lt q)) ▸ ?_
        refine Eq.symm (List.getElem?_append_left (by rw [S.len]; exact q)) ▸ ?_
        rfl
      · subst q
        rw [if_pos rfl, List.getElem?_append_right (by rw [S.len]; exact Nat.le_refl _), S.len, Nat.sub_self]
        rfl
      · rw [if_neg (Nat.ne_of_gt q), List.getElem?_eq_none_iff.mpr (by rw [List.length_append, S.len]; exact q), List.getElem?_eq_none_iff.mpr (by rw [S.len]; exact Nat.le_of_lt q)]
    cases b with
    | true =>
      have W := w rfl
      have hjv : j ∉ valsT tb := fun q => by rw [S.mem, hj] at q; cases q
      refine ⟨R, by rw [List.length_append, S.len]; rfl, W.keys, fun p hp => (W.edge p hp).elim (S.edge p) id, W.vals.nodup_iff.mpr (List.nodup_cons.mpr ⟨hjv, S.vals⟩), fun h => ?_, ?_, fun l hl => ?_, S.rnd, S.rlt, fun h hh => ?_⟩
      · rw [W.vals.mem_iff, List.mem_cons, S.mem, at_]
        by_cases q : h = j
        · simp [q]
        · simp [q]
      · have := W.vals.length_eq
        simp only [valsT, List.length_map, List.length_cons] at this
        rw [List.count_append, this, S.cnt]; rfl
      · obtain ⟨h, e1, e2⟩ := S.shut l hl
        exact ⟨h, ((W.shut R S.shut).1 l hl).trans e1, e2⟩
      · rw [at_] at hh
        split at hh
        · cases hh
        · exact S.fail h hh
    | false =>
      obtain ⟨rfl, L⟩ := f rfl
      have sub : ∀ x ∈ tr', x ∈ R ++ tr'.filter (fun x => decide (x ∉ R)) := fun x hx => by
        by_cases q : x ∈ R
        · exact List.mem_append_left _ q
        · exact List.mem_append_right _ (List.mem_filter.mpr ⟨hx, by simpa using q⟩)
      refine ⟨R ++ tr'.filter (fun x => decide (x ∉ R)), by rw [List.length_append, S.len]; rfl, S.keys, S.edge, S.vals, fun h => ?_, ?_, fun l hl => ?_, ?_, fun x hx => ?_, fun h hh => ?_⟩
      · rw [S.mem, at_]
        by_cases q : h = j
        · simp [q, hj]
        · simp [q]
      · rw [List.count_append, S.cnt]; rfl
      · by_cases q : l ∈ R
        · obtain ⟨h, e1, e2⟩ := S.shut l q
          exact ⟨h, e1, fun y hy => List.mem_append_left _ (e2 y hy)⟩
        · have hl' : l ∈ tr' := (List.mem_append.mp hl).elim (fun z => absurd z q) fun z => (List.mem_filter.mp z).1
          obtain ⟨h, e1, e2⟩ := L.held l hl' nofun
          exact ⟨h, e1, fun y hy => sub y (e2 y hy)⟩
      · rw [List.nodup_append]
        refine ⟨S.rnd, T.nd.sublist List.filter_sublist, fun a ha b hb z => ?_⟩
        have := (List.mem_filter.mp hb).2
        simp only [decide_eq_true_eq] at this
        exact this (z ▸ ha)
      · exact (List.mem_append.mp hx).elim (S.rlt x) fun z => T.low x (List.mem_filter.mp z).1
      · rw [at_] at hh
        split at hh
        · rename_i q
          subst q
          exact fun y hy => sub y (L.all y hy)
        · exact fun y hy => List.mem_append_left _ (S.fail h hh y hy)
theorem two_parts (p : Nat → Bool) : ∀ l : List Nat, l.length = (l.filter p).length + (l.filter fun x => !p x).length
  | [] => rfl
  | x :: l => by
    have := two_parts p l
    refine Eq.symm (List.filter_cons) ▸ ?_
    refine Eq.symm (List.filter_cons) ▸ ?_
    cases p x <;> simp <;> omega
theorem range_nodup (n : Nat) : (List.range n).Nodup := List.nodup_range
theorem unseated {n : Nat} {under : Nat → List Nat} {tb : Prs} {rs : List Bool} {R : List Nat} (S : Stage n under n tb rs R) : ((List.range n).filter fun x => !decide (x ∈ valsT tb)).length + tb.length = n := by
  have h1 := two_parts (fun x => decide (x ∈ valsT tb)) (List.range n)
  rw [List.length_range] at h1
  have lt : ∀ x ∈ valsT tb, x < n := fun x hx => by
    have := (List.getElem?_eq_some_iff.mp ((S.mem x).mp hx)).1
    rwa [S.len] at this
  have h2 : ((List.range n).filter fun x => decide (x ∈ valsT tb)).length = tb.length := by
    have e : tb.length = (valsT tb).length := by simp
    rw [e]
    refine Nat.le_antisymm (nodup_sub _ _ ((range_nodup n).sublist List.filter_sublist) fun x hx => ?_) (nodup_sub _ _ S.vals fun x hx => ?_)
    · simpa using (List.mem_filter.mp hx).2
    · exact List.mem_filter.mpr ⟨List.mem_range.mpr (lt x hx), by simpa using hx⟩
  omega
theorem wide {n : Nat} {under : Nat → List Nat} {tb : Prs} {rs : List Bool} {R : List Nat} (S : Stage n under n tb rs R) (O : Ord n under) :
    ∃ A : List Nat, A.Nodup ∧ (∀ x ∈ A, x < n) ∧ (∀ x ∈ A, ∀ y ∈ A, x ∉ under y) ∧ n ≤ A.length + tb.length := by
  have lt : ∀ x ∈ valsT tb, x < n := fun x hx => by
    have := (List.getElem?_eq_some_iff.mp ((S.mem x).mp hx)).1
    rwa [S.len] at this
  let U := (List.range n).filter fun x => !decide (x ∈ valsT tb)
  let H := R.map fun l => (tget tb l).getD 0
  have hH : ∀ x ∈ H, ∃ l ∈ R, tget tb l = some x ∧ ∀ y ∈ under x, y ∈ R := fun x hx => by
    obtain ⟨l, hl, rfl⟩ := List.mem_map.mp hx
    obtain ⟨h, e1, e2⟩ := S.shut l hl
    refine Eq.symm (e1) ▸ ?_
    exact ⟨l, hl, e1, e2⟩
  have hHv : ∀ x ∈ H, x ∈ valsT tb := fun x hx => by
    obtain ⟨l, _, e, _⟩ := hH x hx
    exact List.mem_map_of_mem (f := Prod.snd) (tget_mem e)
  have inj : ∀ (tb : Prs), (valsT tb).Nodup → ∀ l l' h, (l, h) ∈ tb → (l', h) ∈ tb → l = l' := by
    intro tb
    induction tb with
    | nil => exact fun _ _ _ _ m => nomatch m
    | cons p tb ih =>
      intro d l l' h m m'
      have d' := List.nodup_cons.mp d
      rcases List.mem_cons.mp m with e1 | m1
      · rcases List.mem_cons.mp m' with e2 | m2
        · exact congrArg Prod.fst (e1.trans e2.symm)
        · subst e1
          exact absurd (List.mem_map_of_mem (f := Prod.snd) m2) d'.1
      · rcases List.mem_cons.mp m' with e2 | m2
        · subst e2
          exact absurd (List.mem_map_of_mem (f := Prod.snd) m1) d'.1
        · exact ih d'.2 l l' h m1 m2
  have Hnd : ∀ R : List Nat, R.Nodup → (∀ l ∈ R, ∃ h, tget tb l = some h) → (R.map fun l => (tget tb l).getD 0).Nodup := by
    intro R
    induction R with
    | nil => exact fun _ _ => List.nodup_nil
    | cons l R ih =>
      intro d e
      have d' := List.nodup_cons.mp d
      rw [List.map_cons, List.nodup_cons]
      refine ⟨fun m => ?_, ih d'.2 fun x hx => e x (List.mem_cons_of_mem _ hx)⟩
      obtain ⟨l', hl', q⟩ := List.mem_map.mp m
      obtain ⟨h, e1⟩ := e l List.mem_cons_self
      obtain ⟨h', e2⟩ := e l' (List.mem_cons_of_mem _ hl')
      rw [e1, e2] at q
      obtain rfl : h' = h := q
      exact d'.1 (inj tb S.vals l l' h' (tget_mem e1) (tget_mem e2) ▸ hl')
  have Snd : (U ++ H).Nodup := by
    rw [List.nodup_append]
    refine ⟨(range_nodup n).sublist List.filter_sublist, Hnd R S.rnd fun l hl => (S.shut l hl).imp fun _ q => q.1, fun a ha b hb z => ?_⟩
    have := (List.mem_filter.mp ha).2
    simp only [Bool.not_eq_true', decide_eq_false_iff_not] at this
    exact this (z ▸ hHv b hb)
  have und : ∀ x ∈ U ++ H, ∀ y ∈ under x, y ∈ R := fun x hx => by
    rcases List.mem_append.mp hx with hx | hx
    · have h1 := List.mem_filter.mp hx
      have h2 : x < rs.length := by rw [S.len]; exact List.mem_range.mp h1.1
      have h3 : rs[x]? = some rs[x] := List.getElem?_eq_getElem h2
      cases q : rs[x] with
      | true =>
        rw [q] at h3
        have := (S.mem x).mpr h3
        simp [this] at h1
      | false => rw [q] at h3; exact S.fail x h3
    · obtain ⟨_, _, _, q⟩ := hH x hx
      exact q
  refine ⟨(U ++ H).filter fun x => !decide (x ∈ R), Snd.sublist List.filter_sublist, fun x hx => ?_, fun x hx y hy m => ?_, ?_⟩
  · rcases List.mem_append.mp (List.mem_filter.mp hx).1 with hx | hx
    · exact List.mem_range.mp (List.mem_filter.mp hx).1
    · exact lt x (hHv x hx)
  · have h1 := (List.mem_filter.mp hx).2
    simp only [Bool.not_eq_true', decide_eq_false_iff_not] at h1
    exact h1 (und y (List.mem_filter.mp hy).1 x m)
  · have h1 := two_parts (fun x => decide (x ∈ R)) (U ++ H)
    have h2 : ((U ++ H).filter fun x => decide (x ∈ R)).length ≤ R.length := nodup_sub _ _ (Snd.sublist List.filter_sublist) fun x hx => by simpa using (List.mem_filter.mp hx).2
    have h3 : (U ++ H).length = U.length + R.length := by rw [List.length_append, List.length_map]
    have h4 : U.length + tb.length = n := unseated S
    omega
noncomputable def lowOf (tb : Prs) (x : Nat) : Option Nat := (tb.find? fun p => p.2 == x).map (·.1)
theorem lowOf_mem {tb : Prs} {x l : Nat} (e : lowOf tb x = some l) : (l, x) ∈ tb := by
  obtain ⟨p, h1, rfl⟩ := Option.map_eq_some_iff.mp e
  have := List.find?_some h1
  refine (beq_iff_eq.mp this) ▸ ?_
  exact (List.mem_of_find?_eq_some h1)
theorem lowOf_none {tb : Prs} {x : Nat} : lowOf tb x = none ↔ x ∉ valsT tb := by
  unfold lowOf
  rw [Option.map_eq_none_iff, List.find?_eq_none]
  constructor
  · intro h m
    obtain ⟨p, hp, rfl⟩ := List.mem_map.mp m
    exact h p hp (by simp)
  · intro h p hp q
    exact h (by rw [← beq_iff_eq.mp q]; exact List.mem_map_of_mem (f := Prod.snd) hp)
theorem lowOf_inj {tb : Prs} (d : (keysT tb).Nodup) {x y l : Nat} (e : lowOf tb x = some l) (e' : lowOf tb y = some l) : x = y := by
  have h2 := tget_of d (lowOf_mem e')
  rw [(tget_of d (lowOf_mem e))] at h2
  exact Option.some.inj h2
inductive Dn (tb : Prs) : Nat → Nat → Prop where
  | refl (x : Nat) : Dn tb x x
  | step {y l x : Nat} : lowOf tb y = some l → Dn tb l x → Dn tb y x
theorem Dn.trans {tb : Prs} {x y z : Nat} (a : Dn tb x y) (b : Dn tb y z) : Dn tb x z := by
  induction a with
  | refl => exact b
  | step e _ ih => exact .step e (ih b)
theorem Dn.last {tb : Prs} {y x : Nat} (a : Dn tb y x) : y = x ∨ ∃ z, Dn tb y z ∧ lowOf tb z = some x := by
  induction a with
  | refl => exact .inl rfl
  | @step y l x e d ih =>
    rcases ih with rfl | ⟨z, h1, h2⟩
    · exact .inr ⟨y, .refl _, e⟩
    · exact .inr ⟨z, .step e h1, h2⟩
theorem Dn.meet {tb : Prs} (d : (keysT tb).Nodup) {x y r : Nat} (a : Dn tb x r) (b : Dn tb y r) : Dn tb x y ∨ Dn tb y x := by
  induction a with
  | refl => exact .inr b
  | @step x l r e _ ih =>
    rcases ih b with h | h
    · exact .inl (.step e h)
    · rcases h.last with rfl | ⟨z, h1, h2⟩
      · exact .inl (.step e (.refl _))
      · exact .inr (lowOf_inj d h2 e ▸ h1)
theorem Dn.under {n : Nat} {under : Nat → List Nat} (O : Ord n under) {tb : Prs} (edge : ∀ p ∈ tb, p.1 ∈ under p.2) {x y : Nat} (a : Dn tb y x) : y = x ∨ x ∈ under y := by
  induction a with
  | refl => exact .inl rfl
  | @step y l x e _ ih =>
    have := edge _ (lowOf_mem e)
    rcases ih with rfl | h
    · exact .inr this
    · exact .inr (O.trans _ _ _ h this)
noncomputable def rootF (tb : Prs) : Nat → Nat → Nat
  | 0, x => x
  | k + 1, x => match lowOf tb x with
    | some l => rootF tb k l
    | none => x
theorem rootF_end {n : Nat} {under : Nat → List Nat} (O : Ord n under) {tb : Prs} (edge : ∀ p ∈ tb, p.1 ∈ under p.2) : ∀ (k x : Nat), (under x).length < k → Dn tb x (rootF tb k x) ∧ lowOf tb (rootF tb k x) = none
  | k + 1, x, h => by
    cases e : lowOf tb x with
    | none => rw [rootF, e]; exact ⟨.refl _, e⟩
    | some l =>
      have : (under l).length < (under x).length := O.len (edge _ (lowOf_mem e))
      obtain ⟨h1, h2⟩ := rootF_end O edge k l (by omega)
      rw [rootF, e]
      exact ⟨.step e h1, h2⟩
noncomputable def root (under : Nat → List Nat) (tb : Prs) (x : Nat) : Nat := rootF tb ((under x).length + 1) x
theorem rootF_more {n : Nat} {under : Nat → List Nat} (O : Ord n under) {tb : Prs} (edge : ∀ p ∈ tb, p.1 ∈ under p.2) : ∀ (k k' x : Nat), (under x).length < k → (under x).length < k' → rootF tb k x = rootF tb k' x
  | k + 1, k' + 1, x, h, h' => by
    rw [rootF, rootF]
    cases e : lowOf tb x with
    | none => rfl
    | some l =>
      have : (under l).length < (under x).length := O.len (edge _ (lowOf_mem e))
      exact rootF_more O edge k k' l (by omega) (by omega)
theorem root_low {n : Nat} {under : Nat → List Nat} (O : Ord n under) {tb : Prs} (edge : ∀ p ∈ tb, p.1 ∈ under p.2) {x l : Nat} (e : lowOf tb x = some l) : root under tb x = root under tb l := by
  have : (under l).length < (under x).length := O.len (edge _ (lowOf_mem e))
  unfold root
  rw [rootF, e]
  exact rootF_more O edge _ _ l this (Nat.lt_succ_self _)
theorem root_top {under : Nat → List Nat} {tb : Prs} {x : Nat} (e : lowOf tb x = none) : root under tb x = x := by
  unfold root
  rw [rootF, e]
theorem root_end {n : Nat} {under : Nat → List Nat} (O : Ord n under) {tb : Prs} (edge : ∀ p ∈ tb, p.1 ∈ under p.2) (x : Nat) : Dn tb x (root under tb x) ∧ lowOf tb (root under tb x) = none :=
  rootF_end O edge _ x (Nat.lt_succ_self _)
theorem same_root {n : Nat} {under : Nat → List Nat} (O : Ord n under) {tb : Prs} (d : (keysT tb).Nodup) (edge : ∀ p ∈ tb, p.1 ∈ under p.2) {x y : Nat} (e : root under tb x = root under tb y) : x = y ∨ x ∈ under y ∨ y ∈ under x := by
  have hy := (root_end O edge y).1
  rw [← e] at hy
  rcases ((root_end O edge x).1).meet d hy with h | h
  · rcases h.under O edge with h | h
    · exact .inl h
    · exact .inr (.inr h)
  · rcases h.under O edge with h | h
    · exact .inl h.symm
    · exact .inr (.inl h)
theorem root_lt {n : Nat} {under : Nat → List Nat} (O : Ord n under) {tb : Prs} (edge : ∀ p ∈ tb, p.1 ∈ under p.2) {x : Nat} (hx : x < n) : root under tb x < n := by
  rcases (root_end O edge x).1.under O edge with h | h
  · exact h ▸ hx
  · exact O.lt _ _ h
theorem narrow {n : Nat} {under : Nat → List Nat} {tb : Prs} {rs : List Bool} {R : List Nat} (S : Stage n under n tb rs R) (O : Ord n under) {A : List Nat} (d : A.Nodup) (lt : ∀ x ∈ A, x < n) (ac : ∀ x ∈ A, ∀ y ∈ A, x ∉ under y) : A.length + tb.length ≤ n := by
  have h1 : (A.map (root under tb)).Nodup := by
    clear lt
    induction A with
    | nil => exact List.nodup_nil
    | cons a A ih =>
      have d' := List.nodup_cons.mp d
      rw [List.map_cons, List.nodup_cons]
      refine ⟨fun m => ?_, ih d'.2 fun x hx y hy => ac x (List.mem_cons_of_mem _ hx) y (List.mem_cons_of_mem _ hy)⟩
      obtain ⟨b, hb, e⟩ := List.mem_map.mp m
      rcases same_root O S.keys S.edge e with h | h | h
      · exact d'.1 (h ▸ hb)
      · exact ac b (List.mem_cons_of_mem _ hb) a List.mem_cons_self h
      · exact ac a List.mem_cons_self b (List.mem_cons_of_mem _ hb) h
  have h2 := nodup_sub _ ((List.range n).filter fun x => !decide (x ∈ valsT tb)) h1 fun x hx => by
    obtain ⟨a, ha, rfl⟩ := List.mem_map.mp hx
    refine List.mem_filter.mpr ⟨List.mem_range.mpr (root_lt O S.edge (lt a ha)), ?_⟩
    have := lowOf_none.mp (root_end O S.edge a).2
    simpa using this
  have h3 := unseated S
  rw [List.length_map] at h2
  omega
end Mine
end
section
namespace Mine
section
variable {α : Type} (cmp : α → α → Bool)
noncomputable def widthL : Nat → List α → Nat
  | 0, _ => 0
  | _ + 1, [] => 0
  | k + 1, a :: l => max (widthL k l) (1 + widthL k (l.filter fun b => !cmp a b))
theorem widthL_top : ∀ (k : Nat) (l A : List α), l.length ≤ k → A.Sublist l → A.Pairwise (fun a b => cmp a b = false) → A.length ≤ widthL cmp k l
  | k, [], A, _, s, _ => by rw [List.sublist_nil.mp s]; exact Nat.zero_le _
  | k + 1, a :: l, A, h, s, p => by
    have h' : l.length ≤ k := Nat.le_of_succ_le_succ h
    rw [widthL]
    cases s with
    | cons _ s => exact Nat.le_trans (widthL_top k l A h' s p) (Nat.le_max_left _ _)
    | @cons_cons B _ _ s =>
      have p' := List.pairwise_cons.mp p
      have s2 : B.Sublist (l.filter fun b => !cmp a b) := by
        have := s.filter fun b => !cmp a b
        rwa [List.filter_eq_self.mpr fun b hb => by rw [p'.1 b hb]; rfl] at this
      have := widthL_top k _ B (Nat.le_trans (List.length_filter_le _ _) h') s2 p'.2
      rw [List.length_cons]
      exact Nat.le_trans (by omega) (Nat.le_max_right _ _)
theorem widthL_has : ∀ (k : Nat) (l : List α), l.length ≤ k → ∃ A : List α, A.Sublist l ∧ A.Pairwise (fun a b => cmp a b = false) ∧ A.length = widthL cmp k l
  | 0, [], _ => ⟨[], .refl _, .nil, rfl⟩
  | k + 1, [], _ => ⟨[], .refl _, .nil, rfl⟩
  | k + 1, a :: l, h => by
    have h' : l.length ≤ k := Nat.le_of_succ_le_succ h
    rw [widthL]
    by_cases c : widthL cmp k l ≤ 1 + widthL cmp k (l.filter fun b => !cmp a b)
    · obtain ⟨A, s, p, e⟩ := widthL_has k (l.filter fun b => !cmp a b) (Nat.le_trans (List.length_filter_le _ _) h')
      refine ⟨a :: A, (s.trans List.filter_sublist).cons_cons a, List.pairwise_cons.mpr ⟨fun b hb => ?_, p⟩, ?_⟩
      · simpa using (List.mem_filter.mp (s.subset hb)).2
      · rw [Nat.max_eq_right c, List.length_cons, e, Nat.add_comm]
    · obtain ⟨A, s, p, e⟩ := widthL_has k l h'
      exact ⟨A, s.cons a, p, by rw [Nat.max_eq_left (by omega), e]⟩
theorem sub_idx {d : α} {A L : List α} (s : A.Sublist L) : ∃ is : List Nat, is.Pairwise (· < ·) ∧ (∀ i ∈ is, i < L.length) ∧ is.map (fun i => L.getD i d) = A := by
  induction s with
  | slnil => exact ⟨[], .nil, nofun, rfl⟩
  | @cons l1 l2 a _ ih =>
    obtain ⟨is, p, lt, e⟩ := ih
    refine ⟨is.map (· + 1), ?_, fun i hi => ?_, ?_⟩
    · rw [List.pairwise_map]; exact p.imp fun h => Nat.succ_lt_succ h
    · obtain ⟨j, hj, rfl⟩ := List.mem_map.mp hi
      exact Nat.succ_lt_succ (lt j hj)
    · rw [List.map_map, ← e]; rfl
  | @cons_cons l1 l2 a _ ih =>
    obtain ⟨is, p, lt, e⟩ := ih
    refine ⟨0 :: is.map (· + 1), ?_, fun i hi => ?_, ?_⟩
    · rw [List.pairwise_cons, List.pairwise_map]
      refine ⟨fun i hi => ?_, p.imp fun h => Nat.succ_lt_succ h⟩
      obtain ⟨j, _, rfl⟩ := List.mem_map.mp hi
      exact Nat.succ_pos _
    · rcases List.mem_cons.mp hi with rfl | hi
      · exact Nat.succ_pos _
      · obtain ⟨j, hj, rfl⟩ := List.mem_map.mp hi
        exact Nat.succ_lt_succ (lt j hj)
    · rw [List.map_cons, List.map_map, ← e]; rfl
end
noncomputable def nameRow (tb : Prs) (high : Nat) (nm : List Nat) : List Nat := tb.foldl (fun nm p => if p.2 = high then nm.set high (nm.getD p.1 0) else nm) nm
theorem nameRow_none : ∀ {tb : Prs} {high : Nat} {nm : List Nat}, high ∉ valsT tb → nameRow tb high nm = nm
  | [], _, _, _ => rfl
  | p :: tb, high, nm, h => by
    have h1 : p.2 ≠ high := fun e => h (by rw [← e]; exact List.mem_cons_self)
    show nameRow tb high (if p.2 = high then _ else nm) = nm
    rw [if_neg h1]
    exact nameRow_none fun m => h (List.mem_cons_of_mem _ m)
theorem nameRow_some : ∀ {tb : Prs} {high l : Nat} {nm : List Nat}, (valsT tb).Nodup → lowOf tb high = some l → nameRow tb high nm = nm.set high (nm.getD l 0)
  | [], _, _, _, _, e => nomatch e
  | p :: tb, high, l, nm, d, e => by
    have d' := List.nodup_cons.mp d
    show nameRow tb high (if p.2 = high then _ else nm) = _
    by_cases h : p.2 = high
    · have : l = p.1 := by
        unfold lowOf at e
        rw [List.find?_cons, beq_iff_eq.mpr h] at e
        exact (Option.some.inj e).symm
      rw [if_pos h, this]
      exact nameRow_none fun m => d'.1 (show p.2 ∈ valsT tb by rw [h]; exact m)
    · refine Eq.symm (if_neg h) ▸ ?_
      refine nameRow_some d'.2 ?_
      unfold lowOf at e
      rw [List.find?_cons, beq_eq_false_iff_ne.mpr h] at e
      exact e
structure Order (n : Nat) (under : Nat → List Nat) (o : List Nat) : Prop where
  perm : o.Perm (List.range n)
  up : o.Pairwise fun a b => (under a).length ≤ (under b).length
structure NamesAt (n : Nat) (under : Nat → List Nat) (tb : Prs) (dn : List Nat) (nm : List Nat) : Prop where
  len : nm.length = n
  done : ∀ x ∈ dn, nm[x]? = some (root under tb x)
  un : ∀ x, x < n → x ∉ dn → nm[x]? = some x
theorem names_step {n : Nat} {under : Nat → List Nat} {tb : Prs} {rs : List Bool} {R : List Nat} (S : Stage n under n tb rs R) (O : Ord n under) {o : List Nat} (P : Order n under o) {dn : List Nat} {high : Nat} {rest : List Nat} (e : o = dn ++ high :: rest) {nm : List Nat} (N : NamesAt n under tb dn nm) :
    NamesAt n under tb (dn ++ [high]) (nameRow tb high nm) ∧ (nameRow tb high nm)[high]? = some (root under tb high) := by
  have nd : o.Nodup := P.perm.nodup_iff.mpr (range_nodup n)
  have hn : high < n := List.mem_range.mp (P.perm.mem_iff.mp (by rw [e]; simp))
  have hh : high ∉ dn := fun m => by
    rw [e, List.nodup_append] at nd
    exact nd.2.2 high m high (by exact List.mem_cons_self) rfl
  have key : (nameRow tb high nm) = nm.set high (root under tb high) := by
    cases q : lowOf tb high with
    | none =>
      rw [nameRow_none (lowOf_none.mp q), root_top q]
      refine List.ext_getElem? fun i => ?_
      by_cases z : i = high
      · subst z
        refine Eq.symm (List.getElem?_set_self (by rw [N.len]; exact hn)) ▸ ?_
        refine Eq.symm (N.un i hn hh) ▸ ?_
        rfl
      · refine Eq.symm (List.getElem?_set_ne (Ne.symm z)) ▸ ?_
        rfl
    | some l =>
      have hl : l ∈ under high := S.edge _ (lowOf_mem q)
      have hlen := O.len hl
      have hlo : l ∈ o := P.perm.mem_iff.mpr (List.mem_range.mpr (O.lt _ _ hl))
      have hld : l ∈ dn := by
        rw [e] at hlo
        rcases List.mem_append.mp hlo with h | h
        · exact h
        · rcases List.mem_cons.mp h with h | h
          · exact absurd hl (h ▸ O.irr l)
          · have := P.up
            rw [e, List.pairwise_append] at this
            have := (List.pairwise_cons.mp this.2.1).1 l h
            exact absurd (by assumption) (Nat.not_lt.2 (by assumption))
      refine Eq.symm (nameRow_some S.vals q) ▸ ?_
      refine Eq.symm (root_low O S.edge q) ▸ ?_
      refine Eq.symm (List.getD_eq_getElem?_getD) ▸ ?_
      refine Eq.symm (N.done l hld) ▸ ?_
      rfl
  refine Eq.symm (key) ▸ ?_
  refine ⟨⟨by rw [List.length_set]; exact N.len, fun x hx => ?_, fun x hx hx' => ?_⟩, List.getElem?_set_self (by rw [N.len]; exact hn)⟩
  · by_cases z : x = high
    · rw [z]; exact List.getElem?_set_self (by rw [N.len]; exact hn)
    · refine Eq.symm (List.getElem?_set_ne (Ne.symm z)) ▸ ?_
      exact N.done x ((List.mem_append.mp hx).elim id fun h => absurd (by simpa using h) z)
  · have z : high ≠ x := fun z => hx' (by simp [z])
    refine Eq.symm (List.getElem?_set_ne z) ▸ ?_
    exact N.un x hx fun m => hx' (List.mem_append_left _ m)
noncomputable def headsOf (n : Nat) (under : Nat → List Nat) (tb : Prs) : List Nat := (List.range 6).filter fun j => decide (j ∈ (List.range n).map (root under tb))
theorem heads_len {n : Nat} {under : Nat → List Nat} {tb : Prs} {rs : List Bool} {R : List Nat} (S : Stage n under n tb rs R) (O : Ord n under) (h6 : n ≤ 6) : (headsOf n under tb).length + tb.length = n := by
  have h := unseated S
  have e : (headsOf n under tb).length = ((List.range n).filter fun x => !decide (x ∈ valsT tb)).length := by
    refine Nat.le_antisymm (nodup_sub _ _ ((range_nodup 6).sublist List.filter_sublist) fun j hj => ?_) (nodup_sub _ _ ((range_nodup n).sublist List.filter_sublist) fun j hj => ?_)
    · have := (List.mem_filter.mp hj).2
      simp only [decide_eq_true_eq] at this
      refine byc fun nh => ?_
      obtain ⟨x, hx, rfl⟩ := List.mem_map.mp this
      refine nh ?_
      refine List.mem_filter.mpr ⟨List.mem_range.mpr (root_lt O S.edge (List.mem_range.mp hx)), ?_⟩
      simpa using lowOf_none.mp (root_end O S.edge x).2
    · have h1 := List.mem_filter.mp hj
      have h2 : lowOf tb j = none := lowOf_none.mpr (by simpa using h1.2)
      refine List.mem_filter.mpr ⟨List.mem_range.mpr (Nat.lt_of_lt_of_le (List.mem_range.mp h1.1) h6), ?_⟩
      simp only [decide_eq_true_eq]
      exact List.mem_map.mpr ⟨j, h1.1, root_top h2⟩
  omega
theorem split_flat {β : Type} (f : Nat → Nat) : ∀ (o js : List Nat), js.Nodup → (∀ x ∈ o, f x ∈ js) → (js.flatMap fun j => o.filter fun x => decide (f x = j)).Perm o
  | [], js, _, _ => by
    have : (js.flatMap fun j => ([] : List Nat).filter fun x => decide (f x = j)) = [] := by
      induction js with
      | nil => rfl
      | cons j js ih => rw [List.flatMap_cons, ih (by assumption |> fun d => (List.nodup_cons.mp d).2) nofun]; rfl
    refine Eq.symm (this) ▸ ?_
    rfl
  | x :: o, js, d, h => by
    have ih := split_flat (β := β) f o js d fun y hy => h y (List.mem_cons_of_mem _ hy)
    refine List.Perm.trans ?_ (ih.cons x)
    have hx := h x List.mem_cons_self
    clear h ih
    induction js with
    | nil => cases hx
    | cons j js ihj =>
      have d' := List.nodup_cons.mp d
      rw [List.flatMap_cons, List.flatMap_cons, List.filter_cons]
      by_cases e : f x = j
      · have : (js.flatMap fun j => (x :: o).filter fun x => decide (f x = j)) = js.flatMap fun j => o.filter fun x => decide (f x = j) := by
          have : ∀ j' ∈ js, (x :: o).filter (fun x => decide (f x = j')) = o.filter fun x => decide (f x = j') := fun j' hj' => by
            rw [List.filter_cons, if_neg]
            simp only [decide_eq_true_eq]
            exact fun z => d'.1 ((e.symm.trans z) ▸ hj')
          rw [List.flatMap_def, List.flatMap_def, List.map_congr_left this]
        rw [this, if_pos (by simpa using e)]
        exact .refl _
      · rw [if_neg (by simpa using e)]
        have := ihj d'.2 ((List.mem_cons.mp hx).elim (fun z => absurd z e) id)
        exact (this.append_left _).trans List.perm_middle
end Mine
end
section
namespace Mine
noncomputable def subB (a b : _root_.Fin 16) : Bool := decide (a.val &&& b.val = a.val)
noncomputable def cmpB (a b : _root_.Fin 16) : Bool := subB a b || subB b a
theorem sub_trans : ∀ a b c : _root_.Fin 16, subB a b = true → subB b c = true → subB a c = true := by decide +kernel
theorem sub_anti : ∀ a b : _root_.Fin 16, subB a b = true → subB b a = true → a = b := by decide +kernel
theorem sub_refl : ∀ a : _root_.Fin 16, subB a a = true := by decide +kernel
noncomputable abbrev at16 (L : List (_root_.Fin 16)) (i : Nat) : _root_.Fin 16 := L.getD i 0
noncomputable def below (L : List (_root_.Fin 16)) (l h : Nat) : Bool := subB (at16 L l) (at16 L h) && (at16 L l != at16 L h || decide (l < h))
noncomputable def underOf (L : List (_root_.Fin 16)) (h : Nat) : List Nat := if h < L.length then (List.range L.length).filter fun l => below L l h else []
theorem under_mem {L : List (_root_.Fin 16)} {l h : Nat} : l ∈ underOf L h ↔ h < L.length ∧ l < L.length ∧ below L l h = true := by
  unfold underOf
  split
  · rename_i q
    rw [List.mem_filter, List.mem_range]
    exact ⟨fun x => ⟨q, x⟩, fun x => x.2⟩
  · rename_i q
    exact ⟨nofun, fun x => absurd x.1 q⟩
theorem below_iff {L : List (_root_.Fin 16)} {l h : Nat} : below L l h = true ↔ subB (at16 L l) (at16 L h) = true ∧ (at16 L l ≠ at16 L h ∨ l < h) := by
  unfold below
  rw [Bool.and_eq_true, Bool.or_eq_true, bne_iff_ne, decide_eq_true_eq]
theorem ord_of (L : List (_root_.Fin 16)) : Ord L.length (underOf L) where
  lt h l m := (under_mem.mp m).2.1
  nd h := by
    unfold underOf
    split
    · exact (range_nodup _).sublist List.filter_sublist
    · exact List.nodup_nil
  irr x m := by
    have := (below_iff.mp (under_mem.mp m).2.2).2
    exact this.elim (fun h => h rfl) (Nat.lt_irrefl x)
  trans x y z a b := by
    refine byc fun nh => ?_
    obtain ⟨_, a1, a2⟩ := under_mem.mp a
    obtain ⟨b0, _, b2⟩ := under_mem.mp b
    obtain ⟨a3, a4⟩ := below_iff.mp a2
    obtain ⟨b3, b4⟩ := below_iff.mp b2
    refine nh ?_
    refine under_mem.mpr ⟨b0, a1, below_iff.mpr ⟨sub_trans _ _ _ a3 b3, ?_⟩⟩
    by_cases e : at16 L x = at16 L z
    · refine .inr ?_
      rw [e] at a3 a4
      have e2 := sub_anti _ _ a3 b3
      have h2 := b4.resolve_left (fun h => h e2.symm)
      exact Nat.lt_trans (a4.resolve_left (fun h => h e2)) h2
    · exact .inl e
theorem apart_iff {L : List (_root_.Fin 16)} {x y : Nat} (hx : x < L.length) (hy : y < L.length) (h : cmpB (at16 L x) (at16 L y) = false) : x ∉ underOf L y ∧ y ∉ underOf L x := by
  obtain ⟨h1, h2⟩ := Bool.or_eq_false_iff.mp h
  refine ⟨fun m => ?_, fun m => ?_⟩
  · rw [(below_iff.mp (under_mem.mp m).2.2).1] at h1; exact absurd h1 (by decide)
  · rw [(below_iff.mp (under_mem.mp m).2.2).1] at h2; exact absurd h2 (by decide)
theorem apart_of {L : List (_root_.Fin 16)} {x y : Nat} (hx : x < L.length) (hy : y < L.length) (hne : x ≠ y) (h1 : x ∉ underOf L y) (h2 : y ∉ underOf L x) : cmpB (at16 L x) (at16 L y) = false := by
  refine Bool.or_eq_false_iff.mpr ⟨?_, ?_⟩
  · cases q : subB (at16 L x) (at16 L y) with
    | false => rfl
    | true =>
      exfalso
      by_cases e : at16 L x = at16 L y
      · rcases Nat.lt_or_gt_of_ne hne with g | g
        · exact h1 (under_mem.mpr ⟨hy, hx, below_iff.mpr ⟨q, .inr g⟩⟩)
        · exact h2 (under_mem.mpr ⟨hx, hy, below_iff.mpr ⟨e ▸ sub_refl _, .inr g⟩⟩)
      · exact h1 (under_mem.mpr ⟨hy, hx, below_iff.mpr ⟨q, .inl e⟩⟩)
  · cases q : subB (at16 L y) (at16 L x) with
    | false => rfl
    | true =>
      exfalso
      by_cases e : at16 L y = at16 L x
      · rcases Nat.lt_or_gt_of_ne hne with g | g
        · exact h1 (under_mem.mpr ⟨hy, hx, below_iff.mpr ⟨e ▸ sub_refl _, .inr g⟩⟩)
        · exact h2 (under_mem.mpr ⟨hx, hy, below_iff.mpr ⟨q, .inr g⟩⟩)
      · exact h2 (under_mem.mpr ⟨hx, hy, below_iff.mpr ⟨q, .inl e⟩⟩)
theorem dilworth (L : List (_root_.Fin 16)) (h6 : L.length ≤ 6) {tb : Prs} {rs : List Bool} {R : List Nat} (S : Stage L.length (underOf L) L.length tb rs R) : widthL cmpB 6 L + tb.length = L.length := by
  have O := ord_of L
  refine Nat.le_antisymm ?_ ?_
  · obtain ⟨A, s, p, e⟩ := widthL_has cmpB 6 L h6
    obtain ⟨is, up, lt, rfl⟩ := sub_idx (d := 0) s
    rw [← e, List.length_map]
    rw [List.pairwise_map] at p
    have nd : is.Nodup := up.imp fun h => Nat.ne_of_lt h
    refine narrow S O nd lt fun x hx y hy m => ?_
    have all : ∀ is : List Nat, is.Pairwise (fun a b => cmpB (L.getD a 0) (L.getD b 0) = false) → (∀ x ∈ is, x < L.length) → ∀ x ∈ is, ∀ y ∈ is, x ∉ underOf L y := by
      intro is
      induction is with
      | nil => exact fun _ _ x hx => nomatch hx
      | cons a is ih =>
        intro p lt x hx y hy
        have p' := List.pairwise_cons.mp p
        have la := lt a List.mem_cons_self
        have lt' := fun x hx => lt x (List.mem_cons_of_mem _ hx)
        rcases List.mem_cons.mp hx with e1 | hx1
        · rcases List.mem_cons.mp hy with e2 | hy1
          · rw [e1, e2]; exact O.irr _
          · rw [e1]; exact (apart_iff la (lt' y hy1) (p'.1 y hy1)).1
        · rcases List.mem_cons.mp hy with e2 | hy1
          · rw [e2]; exact (apart_iff la (lt' x hx1) (p'.1 x hx1)).2
          · exact ih p'.2 lt' x hx1 y hy1
    exact all is p lt x hx y hy m
  · obtain ⟨A, nd, lt, ac, len⟩ := wide S O
    have e1 : A.length ≤ ((List.range L.length).filter fun x => decide (x ∈ A)).length := nodup_sub _ _ nd fun x hx => List.mem_filter.mpr ⟨List.mem_range.mpr (lt x hx), by simpa using hx⟩
    have e2 : (List.range L.length).map (fun i => L.getD i 0) = L := by
      refine List.ext_getElem (by simp) fun i h1 h2 => ?_
      simp [List.getElem?_eq_getElem h2]
    have s : (((List.range L.length).filter fun x => decide (x ∈ A)).map fun i => L.getD i 0).Sublist L := by
      have := (List.filter_sublist (p := fun x => decide (x ∈ A)) (l := List.range L.length)).map fun i => L.getD i 0
      rwa [e2] at this
    have p : (((List.range L.length).filter fun x => decide (x ∈ A)).map fun i => L.getD i 0).Pairwise fun a b => cmpB a b = false := by
      rw [List.pairwise_map]
      refine List.Pairwise.imp_of_mem (fun {a b} ha hb hne => ?_) ((range_nodup L.length).sublist List.filter_sublist)
      have ha' : a ∈ A := by simpa using (List.mem_filter.mp ha).2
      have hb' : b ∈ A := by simpa using (List.mem_filter.mp hb).2
      exact apart_of (lt a ha') (lt b hb') hne (ac a ha' b hb') (ac b hb' a ha')
    have := widthL_top cmpB 6 L _ h6 s p
    rw [List.length_map] at this
    omega
theorem row_up {n : Nat} {under : Nat → List Nat} {tb : Prs} {rs : List Bool} {R : List Nat} (S : Stage n under n tb rs R) (O : Ord n under) {o : List Nat} (P : Order n under o) (j : Nat) : (o.filter fun x => decide (root under tb x = j)).Pairwise fun a b => a ∈ under b := by
  have nd : o.Nodup := P.perm.nodup_iff.mpr (range_nodup n)
  refine List.Pairwise.imp_of_mem (fun {a b} ha hb h => ?_) ((List.Pairwise.and P.up nd).sublist List.filter_sublist)
  have ha' : root under tb a = j := by simpa using (List.mem_filter.mp ha).2
  have hb' : root under tb b = j := by simpa using (List.mem_filter.mp hb).2
  rcases same_root O S.keys S.edge (ha'.trans hb'.symm) with q | q | q
  · exact absurd q h.2
  · exact q
  · have := O.len q
    omega
theorem rows_all {n : Nat} {under : Nat → List Nat} {tb : Prs} {o : List Nat} {rs : List Bool} {R : List Nat} (S : Stage n under n tb rs R) (O : Ord n under) (h6 : n ≤ 6) (P : Order n under o) :
    ((headsOf n under tb).flatMap fun j => o.filter fun x => decide (root under tb x = j)).Perm (List.range n) := by
  refine (split_flat (β := Nat) (root under tb) o (headsOf n under tb) ((range_nodup 6).sublist List.filter_sublist) fun x hx => ?_).trans P.perm
  have hn : x < n := List.mem_range.mp (P.perm.mem_iff.mp hx)
  refine List.mem_filter.mpr ⟨List.mem_range.mpr (Nat.lt_of_lt_of_le (root_lt O S.edge hn) h6), ?_⟩
  simp only [decide_eq_true_eq]
  exact List.mem_map_of_mem (List.mem_range.mpr hn)
end Mine
end
section
namespace Mine
open PySem PyProof.Rows
theorem item_map {α : Type} {g : α → PV} {xs : List α} {σ : St} {n i : Nat} (h : σ[n]? = some (.lst (xs.map g))) (hi : i < xs.length) (h4 : i < 40) : item σ (.obj n) (.int (i : Int)) = some (g xs[i]) := by
  rw [item_at h (idx_16 i _ (by rw [List.length_map]; exact hi) h4), List.getElem?_map, List.getElem?_eq_getElem hi]; rfl
structure SpU (T : Tab) : Prop where
  len : ∀ (vs : List PV), T.ap (.top (.builtin "len")) vs [] = bi "len" vs []
  range : ∀ (vs : List PV), T.ap (.top (.type "range")) vs [] = ty "range" vs []
  append : ∀ (vs : List PV), T.ap (.top (.builtin "list.append")) vs [] = bi "list.append" vs []
  mappend : ∀ {σ : St} {n : Nat} {xs : List PV}, σ[n]? = some (.lst xs) → T.mt σ (.obj n) "append" = some (.builtin "list.append")
  coll : ∀ (a b : F16) (σ : St), T.ap (.top (.ref 59)) [wv a, wv b] [] σ = some (.int (sgn a b), σ)
  lev : ∀ (a b : F16) (σ : St), a < b → ∃ i, T.ap (.top (.ref 52)) [wv a, wv b, .int (moreOf a b)] [] σ = some (.int i, σ) ∧ (i == moreOf a b) = subW a b
theorem sgn_eq : ∀ a b : F16, (sgn a b == 0) = (a == b) := by decide +kernel
theorem sgn_lt : ∀ a b : F16, (sgn a b == 1) = decide (a < b) := by decide +kernel
theorem sub_le : ∀ a b : F16, subB a b = (a == b || (decide (a < b) && subW a b)) := by decide +kernel
section
variable {T : Tab} {σ σ' σ₀ : St} {n t : Nat} {fm : Fm}
theorem ev_and {A B : ME} {x y : Bool} (h1 : ev T A fm σ = some (.bool x, σ)) (h2 : x = true → ev T B fm σ = some (.bool y, σ)) : ev T (.and A B) fm σ = some (.bool (x && y), σ) := by
  rw [q_and, bnd_eq h1, bnd_eq (a := x) (σ₁ := σ) rfl]
  induction x with
  | false => rfl
  | true => exact h2 rfl
theorem cond_app (S : SpU T) {te : ME} {c : Bool} {v : PV} {zs : List PV} {row : Nat} (hc : ev T te fm σ = some (.bool c, σ)) (h4 : fm.ρ[4]?.join = some (.obj row)) (h5 : fm.ρ[5]?.join = some v) (hr : σ[row]? = some (.lst zs)) (hz : zs.length ≤ 10000) (o : Old σ₀ σ) (hl : σ₀.length ≤ row) :
    ∃ σ', (∀ r, exs T (.cons (.cond te (.cons (.expr (.meth (.var (.loc 4)) "append" (.cons (.var (.loc 5)) .nil) .nil)) .nil) .nil) r) fm σ = exs T r fm σ') ∧ Old σ₀ σ' ∧ σ'[row]? = some (.lst (zs ++ if c then [v] else [])) := by
  induction c with
  | false =>
    refine ⟨σ, fun r => ?_, o, by simpa using hr⟩
    simp only [↓q_scons, ↓q_cond, ↓q_bnd, hc, ↓q_look, e_tru, Bool.false_eq_true, ↓reduceIte, ↓q_snil]
  | true =>
    obtain ⟨p1, p2, p3⟩ := push_old (v := v) (xs := []) o hl hr hz
    refine ⟨_, fun r => ?_, p2, p3⟩
    simp only [↓q_scons, ↓q_cond, ↓q_bnd, hc, ↓q_look, e_tru, ↓reduceIte, ↓q_snil, ↓q_expr, ↓q_meth, ↓q_var, ↓q_gl, ↓q_lift, h4, h5, S.mappend hr, ↓q_cons, ↓q_nil, ↓q_knil, ↓q_rt, S.append, bi_append, p1]
theorem ev_rng (hlen : ∀ (vs : List PV), T.ap (.top (.builtin "len")) vs [] = bi "len" vs []) (hrange : ∀ (vs : List PV), T.ap (.top (.type "range")) vs [] = ty "range" vs []) {x : MV} {xs : List PV} (h0 : getV fm x σ = some (.obj n, σ)) (h : σ[n]? = some (.lst xs)) (hl : xs.length < 40) : ev T (.call (.cst (.top (.type "range"))) (.cons (.call (.cst (.top (.builtin "len"))) (.cons (.var x) .nil) .nil) .nil) .nil) fm σ = some (.range 0 ((xs.length : Nat) : Int) 1, σ) := by
  have e1 : ev T (.call (.cst (.top (.builtin "len"))) (.cons (.var x) .nil) .nil) fm σ = some (.int ((xs.length : Nat) : Int), σ) := by
    rw [q_call, bnd_eq (a := .top (.builtin "len")) (σ₁ := σ) rfl, bnd_eq (a := [.obj n]) (σ₁ := σ) (by rw [q_cons, bnd_eq (by rw [q_var]; exact h0)]; rfl), bnd_eq (a := []) (σ₁ := σ) rfl, hlen]
    exact (bi_lenl h)
  rw [q_call, bnd_eq (a := .top (.type "range")) (σ₁ := σ) rfl, bnd_eq (a := [.int ((xs.length : Nat) : Int)]) (σ₁ := σ) (by rw [q_cons, bnd_eq e1]; rfl), bnd_eq (a := []) (σ₁ := σ) rfl, hrange]
  exact (ty_range1 (σ := σ) ((xs.length : Nat) : Int) (small_16 ⟨xs.length, hl⟩))
theorem ev_idx {x y : MV} {o i v : PV} (h1 : getV fm x σ = some (o, σ)) (h2 : getV fm y σ = some (i, σ)) (h : item σ o i = some v) : ev T (.idx (.var x) (.var y)) fm σ = some (v, σ) := by
  rw [q_idx, bnd_eq (by rw [q_var]; exact h1), bnd_eq (by rw [q_var]; exact h2)]
  exact look_at h
theorem ev_call1 {f : Value} {e1 : ME} {v : PV} {r : PV × St} (h1 : ev T e1 fm σ = some (v, σ')) (h : T.ap (.top f) [v] [] σ' = some r) : ev T (.call (.cst (.top f)) (.cons e1 .nil) .nil) fm σ = some r := by
  rw [q_call, bnd_eq (a := .top f) (σ₁ := σ) rfl, bnd_eq (a := [v]) (σ₁ := σ') (by rw [q_cons, bnd_eq h1]; rfl), bnd_eq (a := []) (σ₁ := σ') rfl]
  exact h
theorem ev_call2 {f : Value} {e1 e2 : ME} {v1 v2 : PV} {σ₂ : St} {r : PV × St} (h1 : ev T e1 fm σ = some (v1, σ')) (h2 : ev T e2 fm σ' = some (v2, σ₂)) (h : T.ap (.top f) [v1, v2] [] σ₂ = some r) : ev T (.call (.cst (.top f)) (.cons e1 (.cons e2 .nil)) .nil) fm σ = some r := by
  rw [q_call, bnd_eq (a := .top f) (σ₁ := σ) rfl, bnd_eq (a := [v1, v2]) (σ₁ := σ₂) (by rw [q_cons, bnd_eq h1, bnd_eq (a := [v2]) (σ₁ := σ₂) (by rw [q_cons, bnd_eq h2]; rfl)]; rfl), bnd_eq (a := []) (σ₁ := σ₂) rfl]
  exact h
theorem ev_cmp1 {op : CmpOp} {e1 e2 : ME} {v1 v2 : PV} {σ₂ : St} {b : Bool} (h1 : ev T e1 fm σ = some (v1, σ')) (h2 : ev T e2 fm σ' = some (v2, σ₂)) (h : cmpop σ₂ op v1 v2 = some b) : ev T (.cmp e1 (.cons op e2 .nil)) fm σ = some (.bool b, σ₂) := by
  rw [q_cmp, bnd_eq h1, bnd_eq (a := b) (σ₁ := σ₂) ?_]
  · rfl
  · rw [q_ccons, bnd_eq h2]
    rw [bnd_eq (look_at h)]; rfl
theorem st_set1 {e : ME} {v : PV} {i : Nat} (h : ev T e fm σ = some (v, σ')) (r : MSs) : exs T (.cons (.set [.one (.loc i)] e) r) fm σ = exs T r ⟨fm.ρ.set i (some v), fm.cs⟩ σ' := by
  simp only [↓q_scons, ↓q_set, ↓q_bnd, h, ↓q_sTc, ↓q_sT1, ↓q_sTn, ↓q_rt]
theorem c_lti (x y : Int) : cmpop σ .Lt (.int x) (.int y) = some (decide (x < y)) := rfl
theorem c_eqi (x y : Int) : cmpop σ .Eq (.int x) (.int y) = some (x == y) := e_eqi (σ := σ) x y
theorem under_step (S : SpU T) {L : List F16} (h6 : L.length ≤ 6) {nw nr row : Nat} {v3 v6 v7 : Option PV} {i j : Nat} (hi : i < L.length) (hj : j < L.length) (hw : σ₀[nw]? = some (.lst (L.map wv))) (hr : σ₀[nr]? = some (.lst (L.map fun a => nv (rank a)))) {zs : List PV} (hz : σ[row]? = some (.lst zs)) (hzl : zs.length ≤ 10) (o : Old σ₀ σ) (hl : σ₀.length ≤ row) :
    ∃ v6' v7' σ', exs T b_221_1_1 ⟨[some (.obj nw), some (.obj nr), v3, some (nv i), some (.obj row), some (nv j), v6, v7], []⟩ σ = some ((⟨[some (.obj nw), some (.obj nr), v3, some (nv i), some (.obj row), some (nv j), v6', v7'], []⟩, none), σ') ∧ Old σ₀ σ' ∧ σ'[row]? = some (.lst (zs ++ if below L j i then [nv j] else [])) := by
  have iw := fun (σ : St) (o : Old σ₀ σ) (k : Nat) (hk : k < L.length) => item_map (o.2 _ _ hw) hk (by exact Nat.lt_of_lt_of_le (by assumption) (Nat.le_trans (by assumption) (by decide)))
  have ir := fun (k : Nat) (hk : k < L.length) => item_map (o.2 _ _ hr) hk (by exact Nat.lt_of_lt_of_le (by assumption) (Nat.le_trans (by assumption) (by decide)))
  have a1 : ev T (.call (.cst (.top (.ref 59))) (.cons (.idx (.var (.loc 0)) (.var (.loc 5))) (.cons (.idx (.var (.loc 0)) (.var (.loc 3))) .nil)) .nil) ⟨[some (.obj nw), some (.obj nr), v3, some (nv i), some (.obj row), some (nv j), v6, v7], []⟩ σ = some (.int (sgn L[j] L[i]), σ) :=
    ev_call2 (ev_idx rfl rfl (iw σ o j hj)) (ev_idx rfl rfl (iw σ o i hi)) (S.coll _ _ _)
  have a2 : ev T (.bin .Sub (.idx (.var (.loc 1)) (.var (.loc 3))) (.idx (.var (.loc 1)) (.var (.loc 5)))) ⟨[some (.obj nw), some (.obj nr), v3, some (nv i), some (.obj row), some (nv j), some (.int (sgn L[j] L[i])), v7], []⟩ σ = some (.int (moreOf L[j] L[i]), σ) := by
    rw [q_bin, bnd_eq (ev_idx rfl rfl (ir i hi)), bnd_eq (ev_idx rfl rfl (ir j hj))]; rfl
  generalize hfm : (⟨[some (.obj nw), some (.obj nr), v3, some (nv i), some (.obj row), some (nv j), some (.int (sgn L[j] L[i])), some (.int (moreOf L[j] L[i]))], []⟩ : Fm) = fm
  have g0 : ∀ σ, getV fm (.loc 0) σ = some (.obj nw, σ) := fun σ => by subst hfm; rfl
  have g3 : ∀ σ, getV fm (.loc 3) σ = some (nv i, σ) := fun σ => by subst hfm; rfl
  have g5 : ∀ σ, getV fm (.loc 5) σ = some (nv j, σ) := fun σ => by subst hfm; rfl
  have g6 : ∀ σ, ev T (.var (.loc 6)) fm σ = some (.int (sgn L[j] L[i]), σ) := fun σ => by subst hfm; rfl
  have g7 : ∀ σ, ev T (.var (.loc 7)) fm σ = some (.int (moreOf L[j] L[i]), σ) := fun σ => by subst hfm; rfl
  have k4 : fm.ρ[4]?.join = some (.obj row) := by subst hfm; rfl
  have k5 : fm.ρ[5]?.join = some (nv j) := by subst hfm; rfl
  have b1 : ev T (.and (.cmp (.var (.loc 6)) (.cons .Eq (.cst (.int 0)) .nil)) (.cmp (.var (.loc 5)) (.cons .Lt (.var (.loc 3)) .nil))) fm σ = some (.bool ((L[j] == L[i]) && decide (j < i)), σ) := by
    refine ev_and (ev_cmp1 (g6 σ) rfl (by rw [c_eqi, sgn_eq])) fun _ => ev_cmp1 (by rw [q_var]; exact g5 σ) (by rw [q_var]; exact g3 σ) ?_
    unfold nv
    rw [c_lti]
    simp
  refine byc fun nh => ?_
  obtain ⟨σ₁, e1, o1, z1⟩ := cond_app S b1 k4 k5 hz (by exact Nat.le_trans (by assumption) (by decide)) o hl
  have b2 : ev T (.and (.cmp (.var (.loc 6)) (.cons .Eq (.cst (.int 1)) .nil)) (.cmp (.call (.cst (.top (.ref 52))) (.cons (.idx (.var (.loc 0)) (.var (.loc 5))) (.cons (.idx (.var (.loc 0)) (.var (.loc 3))) (.cons (.var (.loc 7)) .nil))) .nil) (.cons .Eq (.var (.loc 7)) .nil))) fm σ₁ = some (.bool (decide (L[j] < L[i]) && subW L[j] L[i]), σ₁) := by
    refine ev_and (ev_cmp1 (g6 σ₁) rfl (by rw [c_eqi, sgn_lt])) fun hlt => ?_
    obtain ⟨iv', e1, e2⟩ := S.lev L[j] L[i] σ₁ (of_decide_eq_true hlt)
    refine ev_cmp1 (v1 := .int iv') ?_ (g7 σ₁) (by rw [c_eqi, e2])
    rw [q_call, bnd_eq (a := .top (.ref 52)) (σ₁ := σ₁) rfl, bnd_eq (a := [wv L[j], wv L[i], .int (moreOf L[j] L[i])]) (σ₁ := σ₁) ?_, bnd_eq (a := []) (σ₁ := σ₁) rfl]
    · exact e1
    · rw [q_cons, bnd_eq (ev_idx (g0 _) (g5 _) (iw σ₁ o1 j hj)), bnd_eq (a := [wv L[i], .int (moreOf L[j] L[i])]) (σ₁ := σ₁) ?_]
      · rfl
      · rw [q_cons, bnd_eq (ev_idx (g0 _) (g3 _) (iw σ₁ o1 i hi)), bnd_eq (a := [.int (moreOf L[j] L[i])]) (σ₁ := σ₁) ?_]
        · rfl
        · rw [q_cons, bnd_eq (g7 _)]; rfl
  obtain ⟨σ₂, e2, o2, z2⟩ := cond_app S b2 k4 k5 z1 (by rw [List.length_append]; split <;> simp <;> exact Nat.le_trans (by assumption) (by decide)) o1 hl
  refine nh ?_
  refine ⟨some (.int (sgn L[j] L[i])), some (.int (moreOf L[j] L[i])), σ₂, ?_, o2, ?_⟩
  · unfold b_221_1_1 s_221_1_1_0 s_221_1_1_1 s_221_1_1_2 s_221_1_1_3
    rw [st_set1 a1]
    show exs T _ ⟨[some (.obj nw), some (.obj nr), v3, some (nv i), some (.obj row), some (nv j), some (.int (sgn L[j] L[i])), v7], []⟩ σ = _
    rw [st_set1 a2]
    show exs T _ (⟨[some (.obj nw), some (.obj nr), v3, some (nv i), some (.obj row), some (nv j), some (.int (sgn L[j] L[i])), some (.int (moreOf L[j] L[i]))], []⟩ : Fm) σ = _
    rw [hfm, e1, e2]
    rfl
  · rw [z2, List.append_assoc]
    have hd : ∀ k (hk : k < L.length), at16 L k = L[k] := fun k hk => by show L.getD k 0 = _; rw [List.getD_eq_getElem?_getD, List.getElem?_eq_getElem hk]; rfl
    unfold below
    rw [hd j hj, hd i hi, sub_le, bne]
    cases h1 : (L[j] == L[i]) with
    | true =>
      have e : L[j] = L[i] := eq_of_beq h1
      refine Eq.symm (e) ▸ ?_
      simp
    | false => cases decide (L[j] < L[i]) <;> simp
end
end Mine
end
section
namespace Mine
open PySem PyProof.Rows
section
variable {T : Tab} {σ σ' σ₀ : St} {n t : Nat} {fm : Fm}
theorem bd_range {n i : Nat} (h : i < ((List.range n).map nv).length) : i < n ∧ ((List.range n).map nv)[i] = nv i := by
  rw [List.length_map, List.length_range] at h
  exact ⟨h, by rw [List.getElem_map, List.getElem_range]⟩
theorem r_221 (S : SpU T) {L : List F16} (h6 : L.length ≤ 6) {nw nr : Nat} (hw : σ[nw]? = some (.lst (L.map wv))) (hr : σ[nr]? = some (.lst (L.map fun a => nv (rank a)))) :
    ∃ u σ', k_221.run T [.obj nw, .obj nr] σ = some (.obj u, σ') ∧ Old σ σ' ∧ RowsAt σ' u L.length (fun i => (underOf L i).map nv) := by
  refine byc fun nh => ?_
  obtain ⟨σ₁, h1⟩ : ∃ σ₁ : St, σ₁ = σ ++ [Cell.lst []] := ⟨_, rfl⟩
  have o1 : Old σ σ₁ := by rw [h1]; exact Old.app _ _
  have q1 : σ₁[σ.length]? = some (.lst []) := by rw [h1]; exact q_last _ rfl
  have key := loop_rule (γ := PV) (src := .one (.range 0 (L.length : Int) 1)) (body := fun v fm' => bnd (setT fm' v (.one (.loc 3))) fun fm'' => exs T b_221_1 fm'') (xs := (List.range L.length).map nv)
    (fun i m σ' => (∃ v3 v4 v5 v6 v7, m = ⟨[some (.obj nw), some (.obj nr), some (.obj σ.length), v3, v4, v5, v6, v7], []⟩) ∧ Old σ σ' ∧ ∃ ks : List Nat, ks.length = i ∧ σ'[σ.length]? = some (.lst (ks.map .obj)) ∧ ∀ (j k : Nat), ks[j]? = some k → σ.length < k ∧ σ'[k]? = some (.lst ((underOf L j).map nv)))
    (fun i m σ' _ => nth_range L.length i)
    (fun i hi m σ' hI => by
      obtain ⟨⟨v3, v4, v5, v6, v7, rfl⟩, o, ks, hk, ha, hrow⟩ := hI
      obtain ⟨hi', ex⟩ := bd_range hi
      refine Eq.symm (ex) ▸ ?_
      have hlt := lt_of_get ha
      obtain ⟨σ₂, h2⟩ : ∃ σ₂ : St, σ₂ = σ' ++ [Cell.lst []] := ⟨_, rfl⟩
      have o2 : Old σ' σ₂ := by rw [h2]; exact Old.app _ _
      have q2 : σ₂[σ'.length]? = some (.lst []) := by rw [h2]; exact q_last _ rfl
      have key2 := loop_rule (γ := PV) (src := .one (.range 0 (L.length : Int) 1)) (body := fun v fm' => bnd (setT fm' v (.one (.loc 5))) fun fm'' => exs T b_221_1_1 fm'') (xs := (List.range L.length).map nv)
        (fun j m σ'' => (∃ v5 v6 v7, m = ⟨[some (.obj nw), some (.obj nr), some (.obj σ.length), some (nv i), some (.obj σ'.length), v5, v6, v7], []⟩) ∧ Old σ' σ'' ∧ σ''[σ'.length]? = some (.lst (((List.range j).filter fun l => below L l i).map nv)))
        (fun j m σ'' _ => nth_range L.length j)
        (fun j hj m σ'' hI => by
          obtain ⟨⟨v5, v6, v7, rfl⟩, o'', hz⟩ := hI
          obtain ⟨hj', ex⟩ := bd_range hj
          refine Eq.symm (ex) ▸ ?_
          obtain ⟨v6', v7', σ₃, e3, o3, z3⟩ := under_step S h6 (v3 := some (.obj σ.length)) (v6 := v6) (v7 := v7) hi' hj' (o.2 _ _ hw) (o.2 _ _ hr) hz (by
            rw [List.length_map]
            have := List.length_filter_le (fun l => below L l i) (List.range j)
            rw [List.length_range] at this; omega) o'' (Nat.le_refl _)
          refine ⟨_, σ₃, e3, ⟨_, _, _, rfl⟩, o3, ?_⟩
          rw [z3, List.range_succ, List.filter_append, List.map_append, List.filter_cons]
          cases below L j i <;> rfl)
        fuel 0 ⟨[some (.obj nw), some (.obj nr), some (.obj σ.length), some (nv i), some (.obj σ'.length), v5, v6, v7], []⟩ σ₂ ⟨⟨_, _, _, rfl⟩, o2, q2⟩ (by exact Nat.zero_le _) (by simp [fuel]; exact Nat.lt_of_le_of_lt (by assumption) (by decide))
      obtain ⟨m2, σ₃, ke2, ⟨w5, w6, w7, rfl⟩, o3, z3⟩ := key2
      have hu : (underOf L i).map nv = ((List.range L.length).filter fun l => below L l i).map nv := by unfold underOf; rw [if_pos hi']
      rw [List.length_map, List.length_range, ← hu] at z3
      have a3 := o3.2 _ _ ha
      have p3 := push_at (v := .obj σ'.length) a3 (by rw [List.length_map]; omega)
      refine ⟨⟨[some (.obj nw), some (.obj nr), some (.obj σ.length), some (nv i), some (.obj σ'.length), w5, w6, w7], []⟩, σ₃.set σ.length (.lst (ks.map .obj ++ [.obj σ'.length])), ?_, ⟨_, _, _, _, _, rfl⟩, (o.trans o3).set (Nat.le_refl _), ks ++ [σ'.length], by simp [hk], ?_, fun j k hj => ?_⟩
      · show exs T b_221_1 ⟨[some (.obj nw), some (.obj nr), some (.obj σ.length), some (nv i), v4, v5, v6, v7], []⟩ σ' = _
        unfold b_221_1 s_221_1_0 s_221_1_1 s_221_1_2
        have ea : ev T (.list .nil) ⟨[some (.obj nw), some (.obj nr), some (.obj σ.length), some (nv i), v4, v5, v6, v7], []⟩ σ' = some (.obj σ'.length, σ₂) := by rw [h2]; rfl
        have er : evI T (.val (.call (.cst (.top (.type "range"))) (.cons (.call (.cst (.top (.builtin "len"))) (.cons (.var (.loc 0)) .nil) .nil) .nil) .nil)) ⟨[some (.obj nw), some (.obj nr), some (.obj σ.length), some (nv i), some (.obj σ'.length), v5, v6, v7], []⟩ σ₂ = some (.one (.range 0 (L.length : Int) 1), σ₂) := by
          have := evI_range (ev_rng (fm := ⟨[some (.obj nw), some (.obj nr), some (.obj σ.length), some (nv i), some (.obj σ'.length), v5, v6, v7], []⟩) S.len S.range (x := .loc 0) rfl (o2.2 _ _ (o.2 _ _ hw)) (by rw [List.length_map]; exact Nat.lt_of_le_of_lt (by assumption) (by decide)))
          rw [List.length_map] at this; exact this
        rw [st_set1 ea]
        show exs T _ ⟨[some (.obj nw), some (.obj nr), some (.obj σ.length), some (nv i), some (.obj σ'.length), v5, v6, v7], []⟩ σ₂ = _
        rw [q_scons, q_loop, bnd_eq er, ke2]
        simp only [↓q_scons, ↓q_snil, ↓q_expr, ↓q_bnd, ↓q_meth, ↓q_var, ↓q_gl, ↓q_lift, List.getElem?_cons_succ, List.getElem?_cons_zero, Option.join_some, ↓q_look, S.mappend a3, ↓q_cons, ↓q_nil, ↓q_knil, ↓q_rt, S.append, bi_append, p3]
      · rw [get_set_same a3, List.map_append]; rfl
      · by_cases hj' : j < ks.length
        · replace hj := (List.getElem?_append_left hj') ▸ hj
          obtain ⟨g1, g2⟩ := hrow j k hj
          exact ⟨g1, by rw [get_set (by exact Nat.ne_of_gt (by assumption))]; exact o3.2 _ _ g2⟩
        · have hl := (List.getElem?_eq_some_iff.mp hj).1
          simp at hl
          have e : j = ks.length := by omega
          rw [e, List.getElem?_concat_length] at hj
          obtain rfl := Option.some.inj hj
          rw [e, hk]
          exact ⟨hlt, by rw [get_set (by exact Nat.ne_of_gt (by assumption))]; exact z3⟩)
    fuel 0 ⟨[some (.obj nw), some (.obj nr), some (.obj σ.length), none, none, none, none, none], []⟩ σ₁ ⟨⟨_, _, _, _, _, rfl⟩, o1, [], rfl, q1, nofun⟩ (by exact Nat.zero_le _) (by simp [fuel]; exact Nat.lt_of_le_of_lt (by assumption) (by decide))
  obtain ⟨m, σ', ke, ⟨v3, v4, v5, v6, v7, rfl⟩, o, ks, hk, ha, hrow⟩ := key
  rw [List.length_map, List.length_range] at hk
  refine nh ?_
  refine ⟨σ.length, σ', q_run (nl := 8) (pms := [.loc 0, .loc 1]) (mb := b_221) (fm := ⟨[some (.obj nw), some (.obj nr), none, none, none, none, none, none], []⟩) rfl rfl ?_, o, ⟨ks, hk, ha, fun i k h => (hrow i k h).2⟩⟩
  unfold b_221 s_221_0 s_221_1 s_221_2
  have ea : ev T (.list .nil) ⟨[some (.obj nw), some (.obj nr), none, none, none, none, none, none], []⟩ σ = some (.obj σ.length, σ₁) := by rw [h1]; rfl
  have er : evI T (.val (.call (.cst (.top (.type "range"))) (.cons (.call (.cst (.top (.builtin "len"))) (.cons (.var (.loc 0)) .nil) .nil) .nil) .nil)) ⟨[some (.obj nw), some (.obj nr), some (.obj σ.length), none, none, none, none, none], []⟩ σ₁ = some (.one (.range 0 (L.length : Int) 1), σ₁) := by
    have := evI_range (ev_rng (fm := ⟨[some (.obj nw), some (.obj nr), some (.obj σ.length), none, none, none, none, none], []⟩) S.len S.range (x := .loc 0) rfl (o1.2 _ _ hw) (by rw [List.length_map]; exact Nat.lt_of_le_of_lt (by assumption) (by decide)))
    rw [List.length_map] at this; exact this
  rw [st_set1 ea]
  show fin (exs T _ ⟨[some (.obj nw), some (.obj nr), some (.obj σ.length), none, none, none, none, none], []⟩ σ₁) = _
  rw [q_scons, q_loop, bnd_eq er, ke]
  rfl
end
end Mine
end
section
namespace Mine
open PySem PyProof.Rows
noncomputable def LO (l : Nat) : Str := ⟨#[107 + l]⟩
noncomputable def UP (l : Nat) : Str := ⟨#[75 + l]⟩
noncomputable def psOf (tb : Prs) : List (Str × Str) := tb.map fun p => (UP p.1, num p.2)
theorem n_all (n : Nat) (h : n < 40) : okV (num n) = true ∧ numOf (num n) = some n ∧ fits (num n) = true := by
  have := g_num ⟨n, h⟩
  simp only [Bool.and_eq_true, beq_iff_eq] at this
  exact ⟨this.1.1, this.1.2, this.2⟩
theorem g_names : ∀ l : _root_.Fin 6, (okN (LO l.val) && okN (UP l.val) && (low (UP l.val) == LO l.val) && (low (LO l.val) == LO l.val)) = true := by decide +kernel
theorem name_all (l : Nat) (h : l < 6) : okN (LO l) = true ∧ okN (UP l) = true ∧ low (UP l) = LO l ∧ low (LO l) = LO l := by
  have := g_names ⟨l, h⟩
  simp only [Bool.and_eq_true, beq_iff_eq] at this
  exact ⟨this.1.1.1, this.1.1.2, this.1.2, this.2⟩
theorem LO_eq (a b : Nat) : (LO a == LO b) = (a == b) := by
  by_cases h : a = b
  · subst h; simp
  · have : LO a ≠ LO b := fun e => h (by
      have := congrArg (fun s : Str => s.cps.toList) e
      simp [LO] at this; exact this)
    rw [beq_eq_false_iff_ne.mpr this, beq_eq_false_iff_ne.mpr h]
structure TbOk (n : Nat) (tb : Prs) : Prop where
  key : ∀ p ∈ tb, p.1 < 6
  val : ∀ p ∈ tb, p.2 < n
  nd : (keysT tb).Nodup
theorem TbOk.few {n : Nat} {tb : Prs} (K : TbOk n tb) : tb.length ≤ 6 := by
  have := nodup_le 6 (keysT tb) K.nd fun x hx => by
    obtain ⟨p, hp, rfl⟩ := List.mem_map.mp hx
    exact K.key p hp
  rwa [List.length_map] at this
theorem getF_ps : ∀ {tb : Prs}, (∀ p ∈ tb, p.1 < 6) → ∀ l, l < 6 → getF (low (LO l)) (psOf tb) = (tget tb l).map num
  | [], _, l, _ => rfl
  | p :: tb, h, l, hl => by
    have ih := getF_ps (tb := tb) (fun q hq => h q (List.mem_cons_of_mem _ hq)) l hl
    have h2 := name_all l hl
    unfold getF tget psOf at ih ⊢
    rw [List.map_cons, List.find?_cons, List.lookup_cons]
    simp only [(name_all p.1 (h p List.mem_cons_self)).2.2.1, h2.2.2.2, LO_eq]
    rw [h2.2.2.2] at ih
    by_cases e : l = p.1
    · rw [e]; simp
    · rw [beq_eq_false_iff_ne.mpr e, beq_eq_false_iff_ne.mpr (Ne.symm e)]
      exact ih
theorem hput_ps {tb : Prs} (h : ∀ p ∈ tb, p.1 < 6) {l : Nat} (hl : l < 6) (v : Nat) : hput (UP l) (num v) (psOf tb) = psOf (tput tb l v) := by
  unfold hput tput psOf
  rw [List.map_append]
  congr 1
  unfold hdel
  rw [List.filter_map]
  congr 1
  refine List.filter_congr fun p hp => ?_
  have h2 := name_all l hl
  simp only [Function.comp, (name_all p.1 (h p hp)).2.2.1, h2.2.2.1, LO_eq, bne]
theorem TbOk.put {n : Nat} {tb : Prs} (K : TbOk n tb) {l v : Nat} (hl : l < 6) (hv : v < n) : TbOk n (tput tb l v) := by
  refine ⟨fun p hp => ?_, fun p hp => ?_, tput_keys K.nd⟩
  · rcases tput_mem hp with rfl | ⟨h, _⟩
    · exact hl
    · exact K.key p h
  · rcases tput_mem hp with rfl | ⟨h, _⟩
    · exact hv
    · exact K.val p h
theorem TbOk.won {n : Nat} {under : Nat → List Nat} {tb tb' : Prs} {high : Nat} {tr : List Nat} (K : TbOk n tb) (hu : ∀ h l, l ∈ under h → l < n) (h6 : n ≤ 6) (hh : high < n) (w : Won under tb tb' high tr) : TbOk n tb' := by
  refine ⟨fun p hp => ?_, fun p hp => ?_, w.keys⟩
  · rcases w.edge p hp with h | h
    · exact K.key p h
    · exact Nat.lt_of_lt_of_le (hu _ _ h) h6
  · have := w.vals.mem_iff.mp (List.mem_map_of_mem (f := Prod.snd) hp)
    rcases List.mem_cons.mp this with e | h
    · rw [e]; exact hh
    · obtain ⟨q, hq, e⟩ := List.mem_map.mp h
      rw [← e]; exact K.val q hq
section
variable {T : Tab} {σ σ' σb : St} {n t hs nt ru : Nat}
theorem item_lo : ∀ l, l < 6 → item σ (.str "klmnop") (nv l) = some (.str (LO l))
  | 0, _ => by kernel_rfl
  | 1, _ => by kernel_rfl
  | 2, _ => by kernel_rfl
  | 3, _ => by kernel_rfl
  | 4, _ => by kernel_rfl
  | 5, _ => by kernel_rfl
theorem item_up : ∀ l, l < 6 → item σ (.str "KLMNOP") (nv l) = some (.str (UP l))
  | 0, _ => by kernel_rfl
  | 1, _ => by kernel_rfl
  | 2, _ => by kernel_rfl
  | 3, _ => by kernel_rfl
  | 4, _ => by kernel_rfl
  | 5, _ => by kernel_rfl
theorem e_num (n : Nat) (h : n < 40) : binop .Mod (.str "%d") (nv n) σ = some (.str (num n), σ) := by
  have hf := (n_all n h).2.2
  have h1 : (0 : Int) ≤ (n : Int) := by exact Int.natCast_nonneg _
  have h2 : (n : Int) < 1000 := by omega
  unfold num at hf
  have e : binop .Mod (.str "%d") (nv n) = if ((("%d" : Str) == Str.ofString "%d") && decide ((0 : Int) ≤ (n : Int)) && decide ((n : Int) < 1000) && fits (Str.ofString (toString (n : Int)))) = true then rt (.str (Str.ofString (toString (n : Int)))) else fail := rfl
  rw [e, if_pos (by simp only [beq_self_eq_true, h1, h2, decide_true, Bool.and_self, hf])]; rfl
theorem isIn_nv (v : Nat) (r : List Nat) : isIn σ (nv v) (r.map nv) = some (decide (v ∈ r)) := by
  have e : r.map nv = (r.map fun k : Nat => (k : Int)).map PV.int := by rw [List.map_map]; rfl
  rw [e]
  unfold nv
  rw [isIn_int]
  congr 1
  simp only [List.mem_map, decide_eq_decide]
  exact ⟨fun ⟨a, h, e⟩ => by have : a = v := by omega
                             exact this ▸ h, fun h => ⟨v, h, rfl⟩⟩
theorem c_notin_nv {v : Nat} {r : List Nat} (h : σ[nt]? = some (.lst (r.map nv))) : cmpop σ .NotIn (nv v) (.obj nt) = some (!decide (v ∈ r)) := by
  show (inO σ (nv v) (.obj nt)).map (!·) = _
  rw [inO_obj h, isIn_nv]; rfl
theorem Old.kept {X : List Nat} (o : Old σb σ) (k : Keep X σ σ') (h : ∀ x ∈ X, σb.length ≤ x) : Old σb σ' := ⟨Nat.le_trans o.1 k.1, fun i c hc => k.2 i c (fun m => by have := h i m; have := lt_of_get hc; exact absurd (by assumption) (Nat.not_lt.2 (by assumption))) (o.2 i c hc)⟩
noncomputable def optS : Option Str → PV
  | some v => .str v
  | none => .none
structure SpS (T : Tab) (rec : List PV → List (Str × PV) → M PV) : Prop where
  append : ∀ (vs : List PV), T.ap (.top (.builtin "list.append")) vs [] = bi "list.append" vs []
  mappend : ∀ {σ : St} {n : Nat} {xs : List PV}, σ[n]? = some (.lst xs) → T.mt σ (.obj n) "append" = some (.builtin "list.append")
  int : ∀ (vs : List PV), T.ap (.top (.type "int")) vs [] = intM vs []
  mget : ∀ {σ : St} {n : Nat} {v : PV}, σ[n]? = some (.inst 203 [("_headers", v)]) → T.mt σ (.obj n) "get" = some (.ref 150)
  get : ∀ {σ : St} {t hs : Nat} {ps : List (Str × Str)}, HdAt σ t hs ps → ∀ {x : Str}, okN x = true → T.ap (.top (.ref 150)) [.obj t, .str x] [] σ = some (optS (getF (low x) ps), σ)
  set : ∀ {σ : St} {t hs : Nat} {ps : List (Str × Str)}, HdAt σ t hs ps → ∀ {x v : Str}, okN x = true → okV v = true → ps.length < 80 → ∃ σ', T.si (.obj t) (.str x) (.str v) σ = some ((), σ') ∧ Keep [hs] σ σ' ∧ HdAt σ' t hs (hput x v ps)
  seat : ∀ vs kvs, T.ap (.top (.ref 228)) vs kvs = rec vs kvs
structure Hunt (σb σ : St) (t hs nt : Nat) (tb : Prs) (tr : List Nat) : Prop where
  old : Old σb σ
  hd : HdAt σ t hs (psOf tb)
  tr : σ[nt]? = some (.lst (tr.map nv))
  lt : σb.length ≤ t
  lh : σb.length ≤ hs
  ln : σb.length ≤ nt
  n1 : nt ≠ t
  n2 : nt ≠ hs
theorem Hunt.put {tb : Prs} {tr : List Nat} {rec : List PV → List (Str × PV) → M PV} (S : SpS T rec) (H : Hunt σb σ t hs nt tb tr) (K : TbOk n tb) {l v : Nat} (hl : l < 6) (hv : v < 40) :
    ∃ σ', T.si (.obj t) (.str (UP l)) (.str (num v)) σ = some ((), σ') ∧ Keep [hs, nt] σ σ' ∧ Hunt σb σ' t hs nt (tput tb l v) tr := by
  refine byc fun nh => ?_
  obtain ⟨σ', e, k, h⟩ := S.set H.hd (name_all l hl).2.1 (n_all v hv).1 (by unfold psOf; rw [List.length_map]; have := K.few; exact Nat.lt_of_le_of_lt (by assumption) (by decide))
  rw [hput_ps K.key hl] at h
  refine nh ?_
  exact ⟨σ', e, k.more (by exact one1), ⟨H.old.kept k (by simpa using H.lh), h, k.2 _ _ (by simpa using H.n2) H.tr, H.lt, H.lh, H.ln, H.n1, H.n2⟩⟩
theorem Hunt.add {tb : Prs} {tr : List Nat} (H : Hunt σb σ t hs nt tb tr) (l : Nat) (hz : tr.length ≤ 1000) :
    push (.obj nt) (nv l) σ = some ((), σ.set nt (.lst ((tr ++ [l]).map nv))) ∧ Keep [hs, nt] σ (σ.set nt (.lst ((tr ++ [l]).map nv))) ∧ Hunt σb (σ.set nt (.lst ((tr ++ [l]).map nv))) t hs nt tb (tr ++ [l]) := by
  have p := push_at (v := nv l) H.tr (by rw [List.length_map]; exact Nat.le_trans (by assumption) (by decide))
  have e : tr.map nv ++ [nv l] = (tr ++ [l]).map nv := by rw [List.map_append]; rfl
  rw [e] at p
  have k : Keep [nt] σ (σ.set nt (.lst ((tr ++ [l]).map nv))) := (Keep.refl _ _).set (.inl (by exact List.mem_cons_self))
  exact ⟨p, k.more (by exact one2), ⟨H.old.kept k (by simpa using H.ln), H.hd.keep k (by simpa using Ne.symm H.n1) (by simpa using Ne.symm H.n2), get_set_same H.tr, H.lt, H.lh, H.ln, H.n1, H.n2⟩⟩
end
end Mine
end
section
namespace Mine
open PySem PyProof.Rows
section
variable {T : Tab} {σ σ' σ₁ σ₂ σ₃ : St} {fm fm' : Fm}
noncomputable def aft (T : Tab) (r : MSs) (o : Option ((Fm × Option PV) × St)) : Option ((Fm × Option PV) × St) := match o with
  | some ((fm', some v), σ') => some ((fm', some v), σ')
  | some ((fm', none), σ') => exs T r fm' σ'
  | none => none
theorem s_cond {te : ME} {b o r : MSs} {v : PV} {c : Bool} (h : ev T te fm σ = some (v, σ')) (ht : truth σ' v = some c) : exs T (.cons (.cond te b o) r) fm σ = aft T r (if c = true then exs T b fm σ' else exs T o fm σ') := by
  rw [q_scons, q_cond, bnd_eq h, bnd_eq (a := c) (σ₁ := σ') (look_at ht)]
  cases c <;> rfl
theorem s_condT {te : ME} {b o r : MSs} (h : ev T te fm σ = some (.bool true, σ')) : exs T (.cons (.cond te b o) r) fm σ = aft T r (exs T b fm σ') := s_cond h rfl
theorem s_condF {te : ME} {b r : MSs} (h : ev T te fm σ = some (.bool false, σ')) : exs T (.cons (.cond te b .nil) r) fm σ = exs T r fm σ' := s_cond h rfl
theorem s_expr {e : ME} {v : PV} {r : MSs} (h : ev T e fm σ = some (v, σ')) : exs T (.cons (.expr e) r) fm σ = exs T r fm σ' := by
  rw [q_scons, q_expr, bnd_eq h]; rfl
theorem s_ret {e : ME} {v : PV} {r : MSs} (h : ev T e fm σ = some (v, σ')) : exs T (.cons (.ret e) r) fm σ = some ((fm, some v), σ') := by
  rw [q_scons, q_ret, bnd_eq h]; rfl
theorem s_seti {o i e : ME} {v ov iv : PV} {r : MSs} (h1 : ev T e fm σ = some (v, σ₁)) (h2 : ev T o fm σ₁ = some (ov, σ₂)) (h3 : ev T i fm σ₂ = some (iv, σ₃)) (h : T.si ov iv v σ₃ = some ((), σ')) : exs T (.cons (.seti o i e) r) fm σ = exs T r fm σ' := by
  rw [q_scons, q_seti, bnd_eq h1, bnd_eq h2, bnd_eq h3, bnd_eq h]; rfl
theorem s_setC {e : ME} {v : PV} {i : Nat} {r : MSs} (h : ev T e fm σ = some (v, σ₁)) (h2 : setV fm v (.cel i) σ₁ = some (fm, σ')) : exs T (.cons (.set [.one (.cel i)] e) r) fm σ = exs T r fm σ' := by
  rw [q_scons, q_set, bnd_eq h]
  have : setTs v [.one (.cel i)] fm σ₁ = some (fm, σ') := by
    show bnd (setV fm v (.cel i)) (fun fm' => setTs v [] fm') σ₁ = _
    rw [bnd_eq h2]; rfl
  rw [bnd_eq this]; rfl
theorem s_loop {t : MT} {it : MI} {b r : MSs} {src : PI} {x : (Fm × Option PV) × St} (h : evI T it fm σ = some (src, σ₁)) (hl : loopM src (forBody T t b) fuel 0 fm σ₁ = some x) : exs T (.cons (.loop t it b) r) fm σ = aft T r (some x) := by
  rw [q_scons, q_loop, bnd_eq h]
  show aft T r (loopM src (forBody T t b) fuel 0 fm σ₁) = _
  rw [hl]
theorem ev_orT {A B : ME} (h1 : ev T A fm σ = some (.bool true, σ')) : ev T (.or A B) fm σ = some (.bool true, σ') := by
  rw [q_or, bnd_eq h1]; rfl
theorem ev_orF {A B : ME} {r : Option (PV × St)} (h1 : ev T A fm σ = some (.bool false, σ')) (h2 : ev T B fm σ' = r) : ev T (.or A B) fm σ = r := by
  rw [q_or, bnd_eq h1]; exact h2
theorem ev_meth0 {o : ME} {x : Str} {ov : PV} {f : Value} {r : PV × St} (h1 : ev T o fm σ = some (ov, σ₁)) (hm : T.mt σ₁ ov x = some f) (h : T.ap (.top f) [ov] [] σ₁ = some r) : ev T (.meth o x .nil .nil) fm σ = some r := by
  rw [q_meth, bnd_eq h1, bnd_eq (a := f) (σ₁ := σ₁) (look_at hm), bnd_eq (a := []) (σ₁ := σ₁) rfl, bnd_eq (a := []) (σ₁ := σ₁) rfl]; exact h
theorem ev_meth1 {o e1 : ME} {x : Str} {ov v1 : PV} {f : Value} {r : PV × St} (h1 : ev T o fm σ = some (ov, σ₁)) (hm : T.mt σ₁ ov x = some f) (h2 : ev T e1 fm σ₁ = some (v1, σ₂)) (h : T.ap (.top f) [ov, v1] [] σ₂ = some r) : ev T (.meth o x (.cons e1 .nil) .nil) fm σ = some r := by
  rw [q_meth, bnd_eq h1, bnd_eq (a := f) (σ₁ := σ₁) (look_at hm), bnd_eq (a := [v1]) (σ₁ := σ₂) (by rw [q_cons, bnd_eq h2]; rfl), bnd_eq (a := []) (σ₁ := σ₂) rfl]; exact h
theorem ev_meth2 {o e1 e2 : ME} {x : Str} {ov v1 v2 : PV} {f : Value} {r : PV × St} (h1 : ev T o fm σ = some (ov, σ₁)) (hm : T.mt σ₁ ov x = some f) (h2 : ev T e1 fm σ₁ = some (v1, σ₂)) (h3 : ev T e2 fm σ₂ = some (v2, σ₃)) (h : T.ap (.top f) [ov, v1, v2] [] σ₃ = some r) : ev T (.meth o x (.cons e1 (.cons e2 .nil)) .nil) fm σ = some r := by
  rw [q_meth, bnd_eq h1, bnd_eq (a := f) (σ₁ := σ₁) (look_at hm), bnd_eq (a := [v1, v2]) (σ₁ := σ₃) (by rw [q_cons, bnd_eq h2, bnd_eq (a := [v2]) (σ₁ := σ₃) (by rw [q_cons, bnd_eq h3]; rfl)]; rfl), bnd_eq (a := []) (σ₁ := σ₃) rfl]; exact h
theorem ev_bin {op : Operator} {a b : ME} {x y : PV} {r : Option (PV × St)} (h1 : ev T a fm σ = some (x, σ₁)) (h2 : ev T b fm σ₁ = some (y, σ₂)) (h : binop op x y σ₂ = r) : ev T (.bin op a b) fm σ = r := by
  rw [q_bin, bnd_eq h1, bnd_eq h2]; exact h
theorem ev_ix {o i : ME} {ov iv v : PV} (h1 : ev T o fm σ = some (ov, σ₁)) (h2 : ev T i fm σ₁ = some (iv, σ₂)) (h : item σ₂ ov iv = some v) : ev T (.idx o i) fm σ = some (v, σ₂) := by
  rw [q_idx, bnd_eq h1, bnd_eq h2]
  exact look_at h
theorem ev_cell {i k : Nat} {v : PV} (h0 : fm.cs[i]? = some k) (h : σ[k]? = some (.cel (some v))) : ev T (.var (.cel i)) fm σ = some (v, σ) := by
  rw [q_var, q_gc]
  exact look_at (celAt_i h0 h)
theorem ev_loc {i : Nat} {v : PV} (h : fm.ρ[i]?.join = some v) : ev T (.var (.loc i)) fm σ = some (v, σ) := by
  rw [q_var, q_gl]
  exact look_at (f := fun _ => fm.ρ[i]?.join) h
theorem loop_end {β γ : Type} {src : PI} {body : PV → β → M (β × Option γ)} {f i : Nat} {b : β} (h : nth σ src i = some none) : loopM src body (f + 1) i b σ = some ((b, none), σ) := by
  simp only [loopM, h]
theorem loop_on {β γ : Type} {src : PI} {body : PV → β → M (β × Option γ)} {f i : Nat} {b b' : β} {v : PV} (h : nth σ src i = some (some v)) (hb : body v b σ = some ((b', none), σ')) : loopM src body (f + 1) i b σ = loopM src body f (i + 1) b' σ' := by
  simp only [loopM, h, hb]
theorem loop_out {β γ : Type} {src : PI} {body : PV → β → M (β × Option γ)} {f i : Nat} {b b' : β} {v : PV} {r : γ} (h : nth σ src i = some (some v)) (hb : body v b σ = some ((b', some r), σ')) : loopM src body (f + 1) i b σ = some ((b', some r), σ') := by
  simp only [loopM, h, hb]
end
end Mine
end
section
namespace Mine
open PySem PyProof.Rows
section
variable {T : Tab} {σ σ' σb : St} {n t hs nt ru high : Nat}
noncomputable abbrev F6 (t ru high nt : Nat) (v4 v5 : Option PV) : Fm := ⟨[some (.obj t), some (.obj ru), some (nv high), some (.obj nt), v4, v5], []⟩
noncomputable def take228 : MSs := .cons (.seti (.var (.loc 0)) (.idx (.cst (.str "KLMNOP")) (.var (.loc 4))) (.bin .Mod (.cst (.str "%d")) (.var (.loc 2)))) (.cons (.ret (.cst (.bool true))) .nil)
noncomputable def ask228 : ME := .or (.cmp (.var (.loc 5)) (.cons .Is (.cst .none) .nil)) (.call (.cst (.top (.ref 228))) (.cons (.var (.loc 0)) (.cons (.var (.loc 1)) (.cons (.call (.cst (.top (.type "int"))) (.cons (.var (.loc 5)) .nil) .nil) (.cons (.var (.loc 3)) .nil)))) .nil)
theorem b228_eq : b_228_0 = .cons (.cond (.cmp (.var (.loc 4)) (.cons .NotIn (.var (.loc 3)) .nil)) (.cons (.expr (.meth (.var (.loc 3)) "append" (.cons (.var (.loc 4)) .nil) .nil)) (.cons (.set [(.one (.loc 5))] (.meth (.var (.loc 0)) "get" (.cons (.idx (.cst (.str "klmnop")) (.var (.loc 4))) .nil) .nil)) (.cons (.cond ask228 take228 .nil) .nil))) .nil) .nil := rfl
theorem seat_held {l : Nat} {v5 : Option PV} {tr : List Nat} (h : σ[nt]? = some (.lst (tr.map nv))) (hl : l ∈ tr) : exs T b_228_0 (F6 t ru high nt (some (nv l)) v5) σ = some ((F6 t ru high nt (some (nv l)) v5, none), σ) := by
  have c := c_notin_nv (v := l) h
  rw [decide_eq_true hl, Bool.not_true] at c
  rw [b228_eq, s_condF (ev_cmp1 (ev_loc rfl) (ev_loc rfl) c)]; rfl
theorem seat_new {rec : List PV → List (Str × PV) → M PV} (S : SpS T rec) {l : Nat} {v5 : Option PV} {tb : Prs} {tr : List Nat} (H : Hunt σb σ t hs nt tb tr) (K : TbOk n tb) (h6 : l < 6) (hl : l ∉ tr) (hz : tr.length ≤ 1000) :
    ∃ σ₁, Keep [hs, nt] σ σ₁ ∧ Hunt σb σ₁ t hs nt tb (tr ++ [l]) ∧ exs T b_228_0 (F6 t ru high nt (some (nv l)) v5) σ = aft T .nil (exs T (.cons (.cond ask228 take228 .nil) .nil) (F6 t ru high nt (some (nv l)) (some (optS ((tget tb l).map num)))) σ₁) := by
  have c := c_notin_nv (v := l) H.tr
  rw [decide_eq_false hl, Bool.not_false] at c
  refine byc fun nh => ?_
  obtain ⟨p, k, H1⟩ := H.add l hz
  have g := S.get H1.hd (name_all l h6).1
  rw [getF_ps K.key l h6] at g
  have ap : T.ap (.top (.builtin "list.append")) [.obj nt, nv l] [] σ = some (.none, σ.set nt (.lst ((tr ++ [l]).map nv))) := by
    rw [S.append, bi_append, bnd_eq p]; rfl
  refine nh ?_
  refine ⟨_, k, H1, ?_⟩
  rw [b228_eq, s_condT (ev_cmp1 (ev_loc rfl) (ev_loc rfl) c), s_expr (ev_meth1 (ev_loc rfl) (S.mappend H.tr) (ev_loc rfl) ap), st_set1 (ev_meth1 (ev_loc rfl) (S.mget H1.hd.obj) (ev_ix rfl (ev_loc rfl) (item_lo l h6)) g)]
  rfl
theorem seat_put {rec : List PV → List (Str × PV) → M PV} (S : SpS T rec) {l : Nat} {tb : Prs} {tr : List Nat} (H : Hunt σb σ t hs nt tb tr) (K : TbOk n tb) (h6 : l < 6) (hh : high < 40) {v5 : Option PV} :
    ∃ σ', Keep [hs, nt] σ σ' ∧ Hunt σb σ' t hs nt (tput tb l high) tr ∧ exs T take228 (F6 t ru high nt (some (nv l)) v5) σ = some ((F6 t ru high nt (some (nv l)) v5, some (.bool true)), σ') := by
  refine byc fun nh => ?_
  obtain ⟨σ', e, k, H'⟩ := H.put S K h6 hh
  refine nh ?_
  refine ⟨σ', k, H', ?_⟩
  unfold take228
  rw [s_seti (ev_bin rfl (ev_loc rfl) (e_num high hh)) (ev_loc rfl) (ev_ix rfl (ev_loc rfl) (item_up l h6)) e]; rfl
theorem ask_none {l : Nat} : ev T ask228 (F6 t ru high nt (some (nv l)) (some .none)) σ = some (.bool true, σ) :=
  ev_orT (ev_cmp1 (ev_loc rfl) rfl rfl)
theorem ask_some {rec : List PV → List (Str × PV) → M PV} (S : SpS T rec) {l v : Nat} (hv : v < 40) {b : Bool} (h : rec [.obj t, .obj ru, nv v, .obj nt] [] σ = some (.bool b, σ')) : ev T ask228 (F6 t ru high nt (some (nv l)) (some (.str (num v)))) σ = some (.bool b, σ') := by
  have i0 : intM [.str (num v)] [] σ = some (nv v, σ) := by show bnd (lift (numOf (num v))) (fun k => rt (PV.int (k : Int))) σ = _; exact (bnd_eq (show lift (numOf (num v)) σ = some (v, σ) from look_at (f := fun _ => numOf (num v)) (n_all v hv).2.1)).trans rfl
  have e1 : ev T (.call (.cst (.top (.type "int"))) (.cons (.var (.loc 5)) .nil) .nil) (F6 t ru high nt (some (nv l)) (some (.str (num v)))) σ = some (nv v, σ) := ev_call1 (ev_loc rfl) (by rw [S.int]; exact i0)
  refine ev_orF (ev_cmp1 (ev_loc rfl) rfl rfl) ?_
  rw [q_call, bnd_eq (a := .top (.ref 228)) (σ₁ := σ) rfl, bnd_eq (a := [.obj t, .obj ru, nv v, .obj nt]) (σ₁ := σ) ?_, bnd_eq (a := []) (σ₁ := σ) rfl, S.seat]
  · exact h
  · rw [q_cons, bnd_eq (ev_loc rfl), bnd_eq (a := [.obj ru, nv v, .obj nt]) (σ₁ := σ) ?_]
    · rfl
    · rw [q_cons, bnd_eq (ev_loc rfl), bnd_eq (a := [nv v, .obj nt]) (σ₁ := σ) ?_]
      · rfl
      · rw [q_cons, bnd_eq e1]; rfl
set_option tactic.hygienic true in
theorem seat_ev {under : Nat → List Nat} (O : Ord n under) (h6 : n ≤ 6) (Tk : Nat → Tab) (F : Nat → List PV → List (Str × PV) → M PV) (S : ∀ k, SpS (Tk k) (F k)) (hF : ∀ k vs σ, vs.length = 4 → F (k + 1) vs [] σ = k_228.run (Tk k) vs σ) (R : RowsAt σb ru n (fun i => (under i).map nv)) :
    ∀ (k high : Nat) (tb : Prs) (tr : List Nat) (σ : St), n < k + tr.length → tr.Nodup → (∀ x ∈ tr, x < n) → TbOk n tb → high < n → Hunt σb σ t hs nt tb tr → ∀ b tb' tr', seat under k high tb tr = (b, tb', tr') →
      ∃ σ', F k [.obj t, .obj ru, nv high, .obj nt] [] σ = some (.bool b, σ') ∧ Keep [hs, nt] σ σ' ∧ Hunt σb σ' t hs nt tb' tr' := by
  intro k
  induction k with
  | zero =>
    intro high tb tr σ hk hn hl
    have := nodup_le n tr hn hl
    omega
  | succ k ih =>
    intro high tb tr σ hk hn hl K hh H b tb' tr' eo
    refine byc fun nh => ?_
    obtain ⟨row, hi, hrow⟩ := R.get hh (by exact Nat.lt_of_lt_of_le (by assumption) (Nat.le_trans (by assumption) (by decide)))
    have hlen : (under high).length ≤ n := nodup_le n _ (O.nd high) (O.lt high)
    have loop : ∀ (ls : List Nat) (i f : Nat) (tr : List Nat) (σ : St) (v4 v5 : Option PV), (under high).drop i = ls → ls.length < f → n < k + 1 + tr.length → tr.Nodup → (∀ x ∈ tr, x < n) → Hunt σb σ t hs nt tb tr → ∀ b tb' tr', seatLoop (seat under k) high ls tb tr = (b, tb', tr') →
        ∃ fm' σ', loopM (.one (.obj row)) (forBody (Tk k) (.one (.loc 4)) b_228_0) f i (F6 t ru high nt v4 v5) σ = some ((fm', if b then some (.bool true) else none), σ') ∧ Keep [hs, nt] σ σ' ∧ Hunt σb σ' t hs nt tb' tr' := by
      intro ls
      induction ls with
      | nil =>
        intro i f tr σ v4 v5 hd hf hk hn hl H b tb' tr' es
        cases es
        obtain ⟨f, rfl⟩ : ∃ f', f = f' + 1 := ⟨f - 1, by simp at hf; exact (Nat.succ_pred_eq_of_pos (by assumption)).symm⟩
        have hi : ((under high).map nv)[i]? = none := by
          rw [List.getElem?_eq_none_iff, List.length_map]
          exact List.drop_eq_nil_iff.mp hd
        exact ⟨F6 t ru high nt v4 v5, σ, loop_end (by rw [nth_lst (H.old.2 _ _ hrow), hi]), Keep.refl _ _, H⟩
      | cons l ls ihl =>
        intro i f tr σ v4 v5 hd hf hk hn hl H b tb' tr' es
        obtain ⟨f, rfl⟩ : ∃ f', f = f' + 1 := ⟨f - 1, by simp at hf; omega⟩
        have hf' : ls.length < f := by simp at hf; exact (by assumption)
        have hi' : i < (under high).length := by
          have := congrArg List.length hd
          rw [List.length_drop] at this; simp at this; omega
        have hli : (under high)[i] = l ∧ (under high).drop (i + 1) = ls := by
          rw [List.drop_eq_getElem_cons hi'] at hd
          exact List.cons.inj hd
        have hlu : l ∈ under high := hli.1 ▸ List.getElem_mem hi'
        have l6 : l < 6 := Nat.lt_of_lt_of_le (O.lt _ _ hlu) h6
        have hx : ((under high).map nv)[i]? = some (nv l) := by rw [List.getElem?_map, List.getElem?_eq_getElem hi', hli.1]; rfl
        have hnx : nth σ (.one (.obj row)) i = some (some (nv l)) := by rw [nth_lst (H.old.2 _ _ hrow), hx]
        rw [seatLoop] at es
        split at es
        · rename_i hm
          rw [loop_on hnx (seat_held H.tr hm)]
          exact ihl (i + 1) f tr σ _ _ hli.2 hf' hk hn hl H b tb' tr' es
        · rename_i hm
          have hn1 : (tr ++ [l]).Nodup := by
            rw [List.nodup_append]
            exact ⟨hn, by simp, fun a ha b hb z => hm (by simp only [List.mem_singleton] at hb; rw [← hb, ← z]; exact ha)⟩
          have hl1 : ∀ x ∈ tr ++ [l], x < n := fun x hx => (List.mem_append.mp hx).elim (hl x) fun h => by
            simp only [List.mem_singleton] at h
            exact h ▸ O.lt high l hlu
          have hk1 : n < k + (tr ++ [l]).length := by rw [List.length_append]; simp only [List.length_cons, List.length_nil]; omega
          have htl := nodup_le n tr hn hl
          obtain ⟨σ₁, k1, H1, e1⟩ := seat_new (ru := ru) (high := high) (v5 := v5) (S k) H K l6 hm (by exact Nat.le_trans (by assumption) (Nat.le_trans (by assumption) (by decide)))
          split at es
          · rename_i e0
            cases es
            rw [e0] at e1
            obtain ⟨σ₂, k2, H2, e2⟩ := seat_put (ru := ru) (high := high) (v5 := some .none) (S k) H1 K l6 (by exact Nat.lt_of_lt_of_le (by assumption) (Nat.le_trans (by assumption) (by decide)))
            exact ⟨_, σ₂, loop_out hnx (by show exs (Tk k) b_228_0 (F6 t ru high nt (some (nv l)) v5) σ = _; rw [e1]; show aft _ _ (exs (Tk k) _ (F6 t ru high nt (some (nv l)) (some .none)) σ₁) = _; rw [s_condT ask_none, e2]; rfl), k1.trans k2, H2⟩
          · rename_i h e0
            rw [e0] at e1
            have hhn : h < n := K.val _ (tget_mem e0)
            split at es
            · rename_i tb1 tr1 er
              cases es
              obtain ⟨σ₂, c2, k2, H2⟩ := ih h tb (tr ++ [l]) σ₁ hk1 hn1 hl1 K hhn H1 _ _ _ er
              obtain ⟨_, w, _⟩ := seat_spec (n := n) O.lt k h tb (tr ++ [l]) hk1 hn1 hl1 K.nd _ _ _ er
              have K1 := K.won O.lt h6 hhn (w rfl)
              obtain ⟨σ₃, k3, H3, e3⟩ := seat_put (ru := ru) (high := high) (v5 := some (.str (num h))) (S k) H2 K1 l6 (by exact Nat.lt_of_lt_of_le (by assumption) (Nat.le_trans (by assumption) (by decide)))
              exact ⟨_, σ₃, loop_out hnx (by show exs (Tk k) b_228_0 (F6 t ru high nt (some (nv l)) v5) σ = _; rw [e1]; show aft _ _ (exs (Tk k) _ (F6 t ru high nt (some (nv l)) (some (.str (num h)))) σ₁) = _; rw [s_condT (ask_some (S k) (by exact Nat.lt_of_lt_of_le (by assumption) (Nat.le_trans (by assumption) (by decide))) c2), e3]; rfl), (k1.trans k2).trans k3, H3⟩
            · rename_i tb1 tr1 er
              obtain ⟨σ₂, c2, k2, H2⟩ := ih h tb (tr ++ [l]) σ₁ hk1 hn1 hl1 K hhn H1 _ _ _ er
              obtain ⟨Tr, _, f2⟩ := seat_spec (n := n) O.lt k h tb (tr ++ [l]) hk1 hn1 hl1 K.nd _ _ _ er
              obtain ⟨rfl, L⟩ := f2 rfl
              have len : (tr ++ [l]).length ≤ tr1.length := nodup_sub _ _ hn1 Tr.sub
              obtain ⟨fm', σ', e3, k3, H3⟩ := ihl (i + 1) f tr1 σ₂ (some (nv l)) (some (.str (num h))) hli.2 hf' (by rw [List.length_append] at len; simp only [List.length_cons, List.length_nil] at len; omega) Tr.nd Tr.low H2 b tb' tr' es
              refine ⟨fm', σ', ?_, (k1.trans k2).trans k3, H3⟩
              rw [loop_on hnx (b' := F6 t ru high nt (some (nv l)) (some (.str (num h)))) (σ' := σ₂) (by show exs (Tk k) b_228_0 (F6 t ru high nt (some (nv l)) v5) σ = _; rw [e1]; show aft _ _ (exs (Tk k) _ (F6 t ru high nt (some (nv l)) (some (.str (num h)))) σ₁) = _; rw [s_condF (ask_some (S k) (by exact Nat.lt_of_lt_of_le (by assumption) (Nat.le_trans (by assumption) (by decide))) c2)]; rfl)]
              exact e3
    obtain ⟨fm', σ', e2, k2, H2⟩ := loop (under high) 0 fuel tr σ none none rfl (by show _ < 100; exact Nat.lt_of_le_of_lt (by assumption) (Nat.lt_of_le_of_lt (by assumption) (by decide))) hk hn hl H b tb' tr' eo
    refine nh ?_
    refine ⟨σ', ?_, k2, H2⟩
    rw [hF k _ _ rfl]
    refine q_run (nl := 6) (pms := [.loc 0, .loc 1, .loc 2, .loc 3]) (mb := b_228) (fm := F6 t ru high nt none none) rfl rfl ?_
    unfold b_228 s_228_0 s_228_1
    have hi2 : item σ (.obj ru) (nv high) = some (.obj row) := by
      refine byc fun nh => ?_
      obtain ⟨ks, a1, a2, a3⟩ := R
      have h1 := item_at (H.old.2 _ _ a2) (idx_16 high (ks.map PV.obj).length (by rw [List.length_map]; exact Nat.lt_of_lt_of_eq (by assumption) (Eq.symm (by assumption))) (by exact Nat.lt_of_lt_of_le (by assumption) (Nat.le_trans (by assumption) (by decide))))
      have h2 := item_at a2 (idx_16 high (ks.map PV.obj).length (by rw [List.length_map]; exact Nat.lt_of_lt_of_eq (by assumption) (Eq.symm (by assumption))) (by exact Nat.lt_of_lt_of_le (by assumption) (Nat.le_trans (by assumption) (by decide))))
      refine nh ?_
      exact h1.trans (h2.symm.trans hi)
    have ei : evI (Tk k) (.val (.idx (.var (.loc 1)) (.var (.loc 2)))) (F6 t ru high nt none none) σ = some (.one (.obj row), σ) := evI_lst (ev_ix (ev_loc rfl) (ev_loc rfl) hi2) (H.old.2 _ _ hrow)
    refine Eq.symm (s_loop ei e2) ▸ ?_
    cases b <;> rfl
end
end Mine
end
section
namespace Mine
open PySem PyProof.Rows
theorem g_cmp : ∀ a b : F16, decide (Builtin.bitAnd (b.val : Int) (a.val : Int) ∈ ([(b.val : Int), (a.val : Int)] : List Int)) = cmpB a b := by decide +kernel
theorem drop_e (xs : List PV) (h : 1 ≤ xs.length) : slicePV xs (some 1) none none = xs.drop 1 := by
  rw [slice_plain]
  show (xs.drop (clipAt xs.length ((1 : Nat) : Int))).take (xs.length - clipAt xs.length ((1 : Nat) : Int)) = _
  rw [clipAt_nat, Nat.min_eq_left h, List.take_of_length_le (by simp)]
theorem small_1 : small 1 = true := by decide +kernel
structure SpW (T : Tab) (rec : List PV → List (Str × PV) → M PV) : Prop where
  max : ∀ (vs : List PV), T.ap (.top (.builtin "max")) vs [] = maxM vs []
  width : ∀ vs kvs, T.ap (.top (.ref 245)) vs kvs = rec vs kvs
noncomputable def fW (a : F16) : PV → List PV
  | .int i => if decide (Builtin.bitAnd i (a.val : Int) ∈ ([i, (a.val : Int)] : List Int)) then [] else [.int i]
  | _ => []
theorem fW_flat (a : F16) : ∀ l : List F16, (l.map iv).flatMap (fW a) = (l.filter fun b => !cmpB a b).map iv
  | [] => rfl
  | b :: l => by
    rw [List.map_cons, List.flatMap_cons, fW_flat a l, List.filter_cons]
    show (if decide (Builtin.bitAnd (b.val : Int) (a.val : Int) ∈ ([(b.val : Int), (a.val : Int)] : List Int)) = true then [] else [iv b]) ++ _ = _
    rw [g_cmp]
    cases cmpB a b <;> simp
section
variable {T : Tab} {σ σ' : St} {n : Nat}
theorem mapO_iv (k : Nat) (L : List F16) : mapO (deep σ (k + 1)) (L.map iv) = some ((L.map fun a => (a.val : Int)).map PyData.int) := by
  have : L.map iv = (L.map fun a => (a.val : Int)).map PV.int := by rw [List.map_map]; rfl
  rw [this, mapO_int]
theorem eq_empty {L : List F16} {m : Nat} (h : σ[n]? = some (.lst (L.map iv))) (h2 : σ[m]? = some (.lst [])) : cmpop σ .Eq (.obj n) (.obj m) = some L.isEmpty := by
  have e1 : deep σ 6 (.obj n) = some (.list ((L.map fun a => (a.val : Int)).map PyData.int)) := by rw [d_obj h, mapO_iv]; rfl
  have e2 : deep σ 6 (.obj m) = some (.list []) := by rw [d_obj h2]; rfl
  show eqTop σ _ _ = _
  rw [eq_at e1 e2]
  cases L <;> rfl
theorem width_ev (Tk : Nat → Tab) (F : Nat → List PV → List (Str × PV) → M PV) (S : ∀ k, SpW (Tk k) (F k)) (hF : ∀ k vs σ, vs.length = 1 → F (k + 1) vs [] σ = k_245.run (Tk k) vs σ) :
    ∀ (k : Nat) (L : List F16) (σ : St) (n : Nat), L.length ≤ k → k < 40 → σ[n]? = some (.lst (L.map iv)) → ∃ σ', F (k + 1) [.obj n] [] σ = some (.int ((widthL cmpB k L : Nat) : Int), σ') ∧ Old σ σ' := by
  intro k
  induction k with
  | zero =>
    intro L σ n hl _ h
    obtain rfl : L = [] := List.length_eq_zero_iff.mp (Nat.le_zero.mp hl)
    obtain ⟨σ₁, h1⟩ : ∃ σ₁ : St, σ₁ = σ ++ [Cell.cel (some (.obj n))] := ⟨_, rfl⟩
    have o1 : Old σ σ₁ := by rw [h1]; exact Old.app _ _
    have c1 : σ₁[σ.length]? = some (.cel (some (.obj n))) := by rw [h1]; exact q_last _ rfl
    have o2 : Old σ₁ (σ₁ ++ [Cell.lst []]) := Old.app _ _
    refine ⟨σ₁ ++ [Cell.lst []], ?_, o1.trans o2⟩
    rw [hF 0 _ _ rfl]
    refine q_runn (c := k_245) (nl := 1) (nc := 1) (σ₁ := σ₁) (fm := ⟨[none], [σ.length]⟩) rfl cells1 ?_ ?_
    · have := setV_cel (σ := σ ++ [Cell.cel none]) (fm := ⟨[none], [σ.length]⟩) (v := .obj n) (i := 0) (k := σ.length) rfl (q_last _ rfl)
      rw [set_last] at this
      show bnd (setV ⟨[none], [σ.length]⟩ (.obj n) (.cel 0)) (fun fm' => setVs fm' [] []) _ = _
      rw [bnd_eq this, h1]; rfl
    · unfold b_245 s_245_0
      rw [s_condT (ev_cmp1 (ev_cell rfl c1) (by rfl) (eq_empty (L := []) ((o1.trans o2).2 _ _ h) (q_last _ rfl)))]
      rfl
  | succ k ih =>
    intro L σ n hl hk h
    obtain ⟨σ₁, h1⟩ : ∃ σ₁ : St, σ₁ = σ ++ [Cell.cel (some (.obj n))] := ⟨_, rfl⟩
    have o1 : Old σ σ₁ := by rw [h1]; exact Old.app _ _
    have c1 : σ₁[σ.length]? = some (.cel (some (.obj n))) := by rw [h1]; exact q_last _ rfl
    obtain ⟨σ₂, h2⟩ : ∃ σ₂ : St, σ₂ = σ₁ ++ [Cell.lst []] := ⟨_, rfl⟩
    have o2 : Old σ₁ σ₂ := by rw [h2]; exact Old.app _ _
    have q2 : σ₂[σ₁.length]? = some (.lst []) := by rw [h2]; exact q_last _ rfl
    have el : ∀ fm, ev (Tk (k + 1)) (.list .nil) fm σ₁ = some (.obj σ₁.length, σ₂) := fun fm => by rw [h2]; rfl
    have H2 := (o1.trans o2).2 _ _ h
    have t0 := ev_cmp1 (op := .Eq) (ev_cell (T := Tk (k + 1)) (fm := ⟨[none], [σ.length]⟩) (i := 0) rfl c1) (el _) (eq_empty H2 q2)
    have fin0 : ∀ r, fin (exs (Tk (k + 1)) b_245 ⟨[none], [σ.length]⟩ σ₁) = some r → F (k + 1 + 1) [.obj n] [] σ = some r := fun r hr => by
      rw [hF (k + 1) _ _ rfl]
      refine q_runn (c := k_245) (nl := 1) (nc := 1) (σ₁ := σ₁) (fm := ⟨[none], [σ.length]⟩) rfl cells1 ?_ hr
      have := setV_cel (σ := σ ++ [Cell.cel none]) (fm := ⟨[none], [σ.length]⟩) (v := .obj n) (i := 0) (k := σ.length) rfl (q_last _ rfl)
      rw [set_last] at this
      show bnd (setV ⟨[none], [σ.length]⟩ (.obj n) (.cel 0)) (fun fm' => setVs fm' [] []) _ = _
      rw [bnd_eq this, h1]; rfl
    induction L with
    | nil =>
      refine ⟨σ₂, fin0 _ ?_, o1.trans o2⟩
      unfold b_245 s_245_0
      rw [s_condT t0]; rfl
    | cons a L =>
      have hl' : L.length ≤ k := Nat.le_of_succ_le_succ hl
      have sl : ∀ (σ : St), σ[n]? = some (.lst ((a :: L).map iv)) → slice (.obj n) (.int 1) .none .none σ = some (.obj σ.length, σ ++ [Cell.lst (L.map iv)]) := fun σ h => by
        rw [slice_gen (o_int 1 small_1) o_none o_none rfl h, drop_e _ (by exact Nat.zero_lt_succ _)]; rfl
      have ea : ∀ σ' fm, Old σ₂ σ' → fm.cs[0]? = some σ.length → ev (Tk (k + 1)) (.slc (.var (.cel 0)) (.cst (.int 1)) (.cst .none) (.cst .none)) fm σ' = some (.obj σ'.length, σ' ++ [Cell.lst (L.map iv)]) := fun σ' fm o hc =>
        ev_slc (ev_cell hc (o.2 _ _ (o2.2 _ _ c1))) rfl rfl rfl (sl σ' (o.2 _ _ H2))
      obtain ⟨σ₃, h3⟩ : ∃ σ₃ : St, σ₃ = σ₂ ++ [Cell.lst (L.map iv)] := ⟨_, rfl⟩
      have o3 : Old σ₂ σ₃ := by rw [h3]; exact Old.app _ _
      have q3 : σ₃[σ₂.length]? = some (.lst (L.map iv)) := by rw [h3]; exact q_last _ rfl
      have e3 := ea σ₂ ⟨[none], [σ.length]⟩ (Old.refl _) rfl
      rw [← h3] at e3
      have it : ∀ σ', Old σ₃ σ' → item σ' (.obj n) (.int 0) = some (iv a) := fun σ' o => item_map (i := 0) (o.2 _ _ (o3.2 _ _ H2)) (by exact Nat.zero_lt_succ _) (by decide)
      obtain ⟨σ₄, e4, o4, z4⟩ := comp_grow (T := Tk (k + 1)) (nl := 2) (frees := [0]) (fs := [σ.length]) (g := .lvl (.one (.loc 1)) (.cons (.cmp (.bin .BitAnd (.var (.loc 1)) (.idx (.var (.cel 0)) (.cst (.int 0)))) (.cons .NotIn (.tup (.cons (.var (.loc 1)) (.cons (.idx (.var (.cel 0)) (.cst (.int 0))) .nil))) .nil)) .nil) (.elt (.var (.loc 1))))
        (fW a) (fun fm' => ∃ x y, fm' = ⟨[x, y], [σ.length]⟩) (evI_lst e3 q3) (fun σ' i o => nth_lst (o.2 _ _ q3)) rfl ⟨_, _, rfl⟩ (by rw [List.length_map]; omega) (fun x _ => by unfold fW; split <;> (try split) <;> simp) (fun x hx fm' zs σ' hF o hz hzl => by
          obtain ⟨x0, y0, rfl⟩ := hF
          obtain ⟨b, hb, rfl⟩ := List.mem_map.mp hx
          have ei : ev (Tk (k + 1)) (.idx (.var (.cel 0)) (.cst (.int 0))) ⟨[x0, some (iv b)], [σ.length]⟩ σ' = some (iv a, σ') := ev_ix (ev_cell rfl (o.2 _ _ (o3.2 _ _ (o2.2 _ _ c1)))) rfl (it σ' o)
          have et : ev (Tk (k + 1)) (.tup (.cons (.var (.loc 1)) (.cons (.idx (.var (.cel 0)) (.cst (.int 0))) .nil))) ⟨[x0, some (iv b)], [σ.length]⟩ σ' = some (.tup [iv b, iv a], σ') := by
            rw [q_tup, bnd_eq (a := [iv b, iv a]) (σ₁ := σ') (by rw [q_cons, bnd_eq (ev_loc rfl), bnd_eq (a := [iv a]) (σ₁ := σ') (by rw [q_cons, bnd_eq ei]; rfl)]; rfl)]; rfl
          have ec : cmpop σ' .NotIn (.int (Builtin.bitAnd (b.val : Int) (a.val : Int))) (.tup [iv b, iv a]) = some (!cmpB a b) := by
            have := isIn_int (σ := σ') (Builtin.bitAnd (b.val : Int) (a.val : Int)) [(b.val : Int), (a.val : Int)]
            rw [g_cmp] at this
            exact (congrArg (Option.map (!·)) this).trans rfl
          have eb : ev (Tk (k + 1)) (.cmp (.bin .BitAnd (.var (.loc 1)) (.idx (.var (.cel 0)) (.cst (.int 0)))) (.cons .NotIn (.tup (.cons (.var (.loc 1)) (.cons (.idx (.var (.cel 0)) (.cst (.int 0))) .nil))) .nil)) ⟨[x0, some (iv b)], [σ.length]⟩ σ' = some (.bool (!cmpB a b), σ') := ev_cmp1 (ev_bin (ev_loc rfl) ei rfl) et ec
          have hf : fW a (iv b) = if cmpB a b then [] else [iv b] := by
            show (if decide (Builtin.bitAnd (b.val : Int) (a.val : Int) ∈ ([(b.val : Int), (a.val : Int)] : List Int)) = true then [] else [iv b]) = _
            rw [g_cmp]
          refine Eq.symm (hf) ▸ ?_
          obtain ⟨p1, p2, p3⟩ := push_old (xs := []) (v := iv b) o (Nat.le_refl _) hz (by exact Nat.le_trans (by assumption) (by decide))
          rw [q_lvl, bnd_eq (a := ⟨[x0, some (iv b)], [σ.length]⟩) (σ₁ := σ') rfl]
          cases hc : cmpB a b with
          | true =>
            rw [hc] at eb
            refine ⟨⟨[x0, some (iv b)], [σ.length]⟩, σ', ?_, ⟨_, _, rfl⟩, o, by simpa using hz⟩
            rw [bnd_eq (a := false) (σ₁ := σ') (by rw [q_icons, bnd_eq eb]; rfl)]; rfl
          | false =>
            rw [hc] at eb
            refine ⟨⟨[x0, some (iv b)], [σ.length]⟩, _, ?_, ⟨_, _, rfl⟩, p2, p3⟩
            rw [bnd_eq (a := true) (σ₁ := σ') (by rw [q_icons, bnd_eq eb]; rfl), if_pos rfl, q_elt, bnd_eq (ev_loc rfl), bnd_eq p1]; rfl)
      rw [fW_flat] at z4
      have hfl : (L.filter fun b => !cmpB a b).length ≤ k := Nat.le_trans (List.length_filter_le _ _) hl'
      have e5 := ea σ₄ ⟨[some (.obj σ₃.length)], [σ.length]⟩ (o3.trans o4) rfl
      obtain ⟨σ₅, h5⟩ : ∃ σ₅ : St, σ₅ = σ₄ ++ [Cell.lst (L.map iv)] := ⟨_, rfl⟩
      have o5 : Old σ₄ σ₅ := by rw [h5]; exact Old.app _ _
      have q5 : σ₅[σ₄.length]? = some (.lst (L.map iv)) := by rw [h5]; exact q_last _ rfl
      rw [← h5] at e5
      obtain ⟨σ₆, e6, o6⟩ := ih L σ₅ σ₄.length hl' (by exact Nat.le_of_lt (by assumption)) q5
      obtain ⟨σ₇, e7, o7⟩ := ih _ σ₆ σ₃.length hfl (by exact Nat.le_of_lt (by assumption)) ((o5.trans o6).2 _ _ z4)
      refine ⟨σ₇, fin0 _ ?_, (((((o1.trans o2).trans o3).trans o4).trans o5).trans (o6.trans o7))⟩
      unfold b_245 s_245_0 s_245_1 s_245_2
      rw [s_condF t0, st_set1 e4]
      have r1 : ev (Tk (k + 1)) (.call (.cst (.top (.ref 245))) (.cons (.slc (.var (.cel 0)) (.cst (.int 1)) (.cst .none) (.cst .none)) .nil) .nil) ⟨[some (.obj σ₃.length)], [σ.length]⟩ σ₄ = some (.int ((widthL cmpB k L : Nat) : Int), σ₆) := ev_call1 e5 (by rw [(S (k + 1)).width]; exact e6)
      have r2 : ev (Tk (k + 1)) (.bin .Add (.cst (.int 1)) (.call (.cst (.top (.ref 245))) (.cons (.var (.loc 0)) .nil) .nil)) ⟨[some (.obj σ₃.length)], [σ.length]⟩ σ₆ = some (.int (1 + ((widthL cmpB k (L.filter fun b => !cmpB a b) : Nat) : Int)), σ₇) :=
        ev_bin rfl (ev_call1 (ev_loc rfl) (by rw [(S (k + 1)).width]; exact e7)) rfl
      show fin (exs (Tk (k + 1)) _ ⟨[some (.obj σ₃.length)], [σ.length]⟩ σ₄) = _
      rw [s_ret (ev_call2 r1 r2 (by rw [(S (k + 1)).max]; rfl))]
      rw [widthL]
      show some (PV.int _, σ₇) = _
      congr 3
      split <;> omega
end
end Mine
end
section
namespace Mine
open PySem PyProof.Rows
noncomputable abbrev sign (c : Nat) : Str := ⟨#[c]⟩
noncomputable def fitP (p : Nat × Nat) : Bool := (sign p.1 == sign p.2) || (Txt.contains "aby" (sign p.1) && Txt.contains "ABp" (sign p.2))
noncomputable def zipW (a b : F16) : List (Nat × Nat) := (word a).cps.toList.zip (word b).cps.toList
theorem g_adds : ∀ a b : F16, subB a b = true → ((zipW a b).all fitP && decide ((word b).length ≤ (word a).length) && decide ((zipW a b).length ≤ 4)) = true := by decide +kernel
noncomputable def zp (p : Nat × Nat) : PV := .tup [.str (sign p.1), .str (sign p.2)]
section
variable {T : Tab} {σ σ' : St} {n : Nat}
theorem nth_zip {x y : Str} {k i : Nat} (h : σ[k]? = some (.own 2)) : nth σ (.zip [.str x, .str y] k) i = some ((x.cps.toList.zip y.cps.toList).map zp)[i]? := by
  have ho : isOwn σ k 2 = true := by unfold isOwn; rw [h]; rfl
  rw [List.getElem?_map, List.zip, List.getElem?_zipWith]
  refine (if_pos ho).trans ?_
  simp only [nths, nth1]
  refine Eq.symm (show x.cps[i]? = x.cps.toList[i]? from (Array.getElem?_toList ..).symm) ▸ ?_
  refine Eq.symm (show y.cps[i]? = y.cps.toList[i]? from (Array.getElem?_toList ..).symm) ▸ ?_
  cases x.cps.toList[i]? <;> cases y.cps.toList[i]? <;> rfl
theorem nth_range1 (n i : Nat) : nth σ (.one (.range 1 (n : Int) 1)) i = some ((List.range (n - 1)).map fun k => nv (k + 1))[i]? := by
  simp only [nth, nth1]
  by_cases h : i < n - 1
  · have h1 : (1 : Int) + 1 * (i : Int) < (n : Int) := by omega
    rw [if_pos h1, List.getElem?_map, List.getElem?_range h]
    congr 3
    omega
  · have h1 : ¬ ((1 : Int) + 1 * (i : Int) < (n : Int)) := by omega
    rw [if_neg h1, List.getElem?_eq_none (by simp; omega)]
theorem ty_range2 (a b : Int) (h : (small a && small b) = true) : ty "range" [.int a, .int b] [] σ = some (.range a b 1, σ) := by
  show (if (small a && small b) = true then rt (PV.range a b 1) else fail) σ = _
  rw [if_pos h]; rfl
theorem r_240 (S : SpU T) {ws : List F16} (hl : ws.length ≤ 6) (h : σ[n]? = some (.lst (ws.map wv))) (hp : ∀ i (h : i + 1 < ws.length), subB ws[i] ws[i + 1] = true) :
    ∃ σ', k_240.run T [.obj n] σ = some (.bool true, σ') ∧ Old σ σ' := by
  have key := loop_rule (γ := PV) (src := .one (.range 1 (ws.length : Int) 1)) (body := forBody T (.one (.loc 1)) b_240_0) (xs := (List.range (ws.length - 1)).map fun k => nv (k + 1))
    (fun i m σ' => (∃ v1 v2 v3, m = ⟨[some (.obj n), v1, v2, v3], []⟩) ∧ Old σ σ')
    (fun i m σ' _ => nth_range1 ws.length i)
    (fun i hi m σ' hI => by
      obtain ⟨⟨v1, v2, v3, rfl⟩, o⟩ := hI
      rw [List.length_map, List.length_range] at hi
      have hi' : i + 1 < ws.length := by omega
      have ex : ((List.range (ws.length - 1)).map fun k => nv (k + 1))[i]'(by simpa using hi) = nv (i + 1) := by rw [List.getElem_map, List.getElem_range]
      refine Eq.symm (ex) ▸ ?_
      have g := g_adds ws[i] ws[i + 1] (hp i hi')
      simp only [Bool.and_eq_true, decide_eq_true_eq] at g
      refine byc fun nh => ?_
      obtain ⟨⟨ga, gl⟩, gz⟩ := g
      refine nh ?_
      show ∃ b' σ'', exs T b_240_0 ⟨[some (.obj n), some (nv (i + 1)), v2, v3], []⟩ σ' = _ ∧ _
      have es : binop .Sub (nv (i + 1)) (.int 1) σ' = some (nv i, σ') := by
        show some (PV.int _, σ') = some (PV.int _, σ')
        congr 3
        omega
      have i1 : ∀ τ fm, Old σ τ → fm.ρ[0]?.join = some (.obj n) → fm.ρ[1]?.join = some (nv (i + 1)) → ev T (.idx (.var (.loc 0)) (.var (.loc 1))) fm τ = some (wv ws[i + 1], τ) := fun τ fm o h0 h1 => ev_ix (ev_loc h0) (ev_loc h1) (item_map (o.2 _ _ h) hi' (by exact Nat.lt_of_lt_of_le (by assumption) (Nat.le_trans (by assumption) (by decide))))
      have i0 : ∀ fm, fm.ρ[0]?.join = some (.obj n) → fm.ρ[1]?.join = some (nv (i + 1)) → ev T (.idx (.var (.loc 0)) (.bin .Sub (.var (.loc 1)) (.cst (.int 1)))) fm σ' = some (wv ws[i], σ') := fun fm h0 h1 => ev_ix (ev_loc h0) (ev_bin (ev_loc h1) rfl es) (item_map (o.2 _ _ h) (by exact Nat.le_of_lt (by assumption)) (by exact Nat.le_trans (Nat.le_of_lt (by assumption)) (Nat.le_trans (by assumption) (by decide))))
      have c1 : cmpop σ' .Gt (.int ((word ws[i + 1]).length : Int)) (.int ((word ws[i]).length : Int)) = some false := by
        show some (decide _) = _
        congr 1
        simp; exact (by assumption)
      have e0 : ev T (.cmp (.call (.cst (.top (.builtin "len"))) (.cons (.idx (.var (.loc 0)) (.var (.loc 1))) .nil) .nil) (.cons .Gt (.call (.cst (.top (.builtin "len"))) (.cons (.idx (.var (.loc 0)) (.bin .Sub (.var (.loc 1)) (.cst (.int 1)))) .nil) .nil) .nil)) ⟨[some (.obj n), some (nv (i + 1)), v2, v3], []⟩ σ' = some (.bool false, σ') :=
        ev_cmp1 (ev_call1 (i1 σ' _ o rfl rfl) (by rw [S.len]; exact bi_lens _)) (ev_call1 (i0 _ rfl rfl) (by rw [S.len]; exact bi_lens _)) c1
      have qo : (σ' ++ [Cell.own 2])[σ'.length]? = some (.own 2) := q_last _ rfl
      have ez : evI T (.zip (.cons (.idx (.var (.loc 0)) (.bin .Sub (.var (.loc 1)) (.cst (.int 1)))) (.cons (.idx (.var (.loc 0)) (.var (.loc 1))) .nil))) ⟨[some (.obj n), some (nv (i + 1)), v2, v3], []⟩ σ' = some (.zip [wv ws[i], wv ws[i + 1]] σ'.length, σ' ++ [Cell.own 2]) := by
        rw [q_izip, bnd_eq (a := [wv ws[i], wv ws[i + 1]]) (σ₁ := σ') (by rw [q_cons, bnd_eq (i0 _ rfl rfl), bnd_eq (a := [wv ws[i + 1]]) (σ₁ := σ') (by rw [q_cons, bnd_eq (i1 σ' _ o rfl rfl)]; rfl)]; rfl)]
        rfl
      have key2 := loop_rule (γ := PV) (src := .zip [wv ws[i], wv ws[i + 1]] σ'.length) (body := forBody T (.tup [.loc 2, .loc 3]) b_240_0_1) (xs := (zipW ws[i] ws[i + 1]).map zp)
        (fun j m σ'' => (∃ v2 v3, m = ⟨[some (.obj n), some (nv (i + 1)), v2, v3], []⟩) ∧ σ'' = σ' ++ [Cell.own 2])
        (fun j m σ'' hI => by rw [hI.2]; exact nth_zip qo)
        (fun j hj m σ'' hI => by
          obtain ⟨⟨v2, v3, rfl⟩, rfl⟩ := hI
          rw [List.length_map] at hj
          have hf := List.all_eq_true.mp ga _ (List.getElem_mem hj)
          rw [List.getElem_map]
          generalize (zipW ws[i] ws[i + 1])[j] = p at hf
          refine ⟨⟨[some (.obj n), some (nv (i + 1)), some (.str (sign p.1)), some (.str (sign p.2))], []⟩, _, ?_, ⟨_, _, rfl⟩, rfl⟩
          show exs T b_240_0_1 ⟨[some (.obj n), some (nv (i + 1)), some (.str (sign p.1)), some (.str (sign p.2))], []⟩ (σ' ++ [Cell.own 2]) = _
          unfold b_240_0_1 s_240_0_1_0
          have cn : ∀ (x y : Str) (τ : St), cmpop τ .NotEq (.str x) (.str y) = some (!(x == y)) := fun x y τ => by simp only [cmpop, e_eqs, Option.map_some]
          unfold fitP at hf
          have ea : ev T (.and (.cmp (.var (.loc 2)) (.cons .NotEq (.var (.loc 3)) .nil)) (.or (.cmp (.var (.loc 2)) (.cons .NotIn (.cst (.str "aby")) .nil)) (.cmp (.var (.loc 3)) (.cons .NotIn (.cst (.str "ABp")) .nil)))) ⟨[some (.obj n), some (nv (i + 1)), some (.str (sign p.1)), some (.str (sign p.2))], []⟩ (σ' ++ [Cell.own 2]) = some (.bool ((!(sign p.1 == sign p.2)) && false), σ' ++ [Cell.own 2]) := by
            refine ev_and (ev_cmp1 (ev_loc rfl) (ev_loc rfl) (cn _ _ _)) fun hne => ?_
            rw [Bool.not_eq_true'] at hne
            rw [hne, Bool.false_or, Bool.and_eq_true] at hf
            have n1 : cmpop (σ' ++ [Cell.own 2]) .NotIn (.str (sign p.1)) (.str "aby") = some false := by show some (!Txt.contains "aby" (sign p.1)) = _; rw [hf.1]; rfl
            have n2 : cmpop (σ' ++ [Cell.own 2]) .NotIn (.str (sign p.2)) (.str "ABp") = some false := by show some (!Txt.contains "ABp" (sign p.2)) = _; rw [hf.2]; rfl
            exact ev_orF (ev_cmp1 (ev_loc rfl) rfl n1) (ev_cmp1 (ev_loc rfl) rfl n2)
          rw [Bool.and_false] at ea
          rw [s_condF ea]; rfl)
        fuel 0 ⟨[some (.obj n), some (nv (i + 1)), v2, v3], []⟩ (σ' ++ [Cell.own 2]) ⟨⟨_, _, rfl⟩, rfl⟩ (by exact Nat.zero_le _) (by rw [List.length_map]; simp [fuel]; exact Nat.lt_of_le_of_lt (by assumption) (by decide))
      refine byc fun nh => ?_
      obtain ⟨m2, σ₂, ke2, ⟨w2, w3, rfl⟩, rfl⟩ := key2
      refine nh ?_
      refine ⟨⟨[some (.obj n), some (nv (i + 1)), w2, w3], []⟩, σ' ++ [Cell.own 2], ?_, ⟨_, _, _, rfl⟩, o.trans (Old.app _ _)⟩
      unfold b_240_0 s_240_0_0 s_240_0_1
      rw [s_condF e0, s_loop ez ke2]; rfl)
    fuel 0 ⟨[some (.obj n), none, none, none], []⟩ σ ⟨⟨_, _, _, rfl⟩, Old.refl _⟩ (by exact Nat.zero_le _) (by rw [List.length_map, List.length_range]; simp [fuel]; omega)
  refine byc fun nh => ?_
  obtain ⟨m, σ', ke, ⟨v1, v2, v3, rfl⟩, o⟩ := key
  refine nh ?_
  refine ⟨σ', q_run (nl := 4) (pms := [.loc 0]) (mb := b_240) (fm := ⟨[some (.obj n), none, none, none], []⟩) rfl rfl ?_, o⟩
  have l0 := bi_lenl h
  rw [List.length_map] at l0
  have er : evI T (.val (.call (.cst (.top (.type "range"))) (.cons (.cst (.int 1)) (.cons (.call (.cst (.top (.builtin "len"))) (.cons (.var (.loc 0)) .nil) .nil) .nil)) .nil)) ⟨[some (.obj n), none, none, none], []⟩ σ = some (.one (.range 1 (ws.length : Int) 1), σ) :=
    evI_range (ev_call2 rfl (ev_call1 (ev_loc rfl) (by rw [S.len]; exact l0)) (by rw [S.range]; exact ty_range2 1 _ (by rw [small_1, small_16 ⟨ws.length, by exact Nat.lt_of_le_of_lt (by assumption) (by decide)⟩]; rfl)))
  unfold b_240 s_240_0 s_240_1
  rw [s_loop er ke]; rfl
end
end Mine
end
section
namespace Mine
open PySem PyProof.Rows
section
variable {T : Tab} {σ σ' σ₁ σ₀ : St} {n t hs : Nat} {fm : Fm}
theorem getD_snoc {α : Type} {l : List α} {x d : α} {j : Nat} : (l ++ [x]).getD j d = if j < l.length then l.getD j d else if j = l.length then x else d := by
  rw [List.getD_eq_getElem?_getD, List.getD_eq_getElem?_getD]
  by_cases h : j < l.length
  · rw [if_pos h, List.getElem?_append_left h]
  · rw [if_neg h]
    by_cases e : j = l.length
    · rw [if_pos e, e, List.getElem?_concat_length]; rfl
    · rw [if_neg e, List.getElem?_eq_none (by simp; omega)]; rfl
theorem comp_rows {frees : List Nat} {it : MI} {te elt : ME} {src : PI} {xs : List PV} {fs : List Nat} (p : Nat → Bool) (f : Nat → List PV)
    (h1 : evI T it fm σ = some (src, σ₁)) (hn : ∀ σ' i, Old σ₁ σ' → nth σ' src i = some xs[i]?) (h3 : (frees.mapM fun i => fm.cs[i]?).map List.reverse = some fs) (h5 : xs.length < 90)
    (ht : ∀ i x, xs[i]? = some x → ∀ v0 σ', Old σ₁ σ' → ev T te ⟨[v0, some x], fs⟩ σ' = some (.bool (p i), σ'))
    (hs : ∀ i x, xs[i]? = some x → p i = true → ∀ v0 σ', Old σ₁ σ' → ∃ k σ'', ev T elt ⟨[v0, some x], fs⟩ σ' = some (.obj k, σ'') ∧ Old σ' σ'' ∧ σ'.length ≤ k ∧ σ''[k]? = some (.lst (f i))) :
    ∃ σ', ev T (.comp 2 0 frees it (.lvl (.one (.loc 1)) (.cons te .nil) (.elt elt))) fm σ = some (.obj σ₁.length, σ') ∧ Old σ₁ σ' ∧ RowsAt σ' σ₁.length (((List.range xs.length).filter p).map f).length (fun j => (((List.range xs.length).filter p).map f).getD j []) := by
  have key := loop_rule (γ := Unit) (src := src) (body := fun v fm' => bnd (evG T (.lvl (.one (.loc 1)) (.cons te .nil) (.elt elt)) (.obj σ₁.length) (some v) fm') fun fm'' => rt (fm'', none)) (xs := xs)
    (fun i b σ' => (∃ v0 v1, b = ⟨[v0, v1], fs⟩) ∧ Old σ₁ σ' ∧ ∃ ks : List Nat, ks.length = (((List.range i).filter p).map f).length ∧ ks.length ≤ i ∧ σ'[σ₁.length]? = some (.lst (ks.map .obj)) ∧ ∀ (j k : Nat), ks[j]? = some k → σ₁.length < k ∧ σ'[k]? = some (.lst ((((List.range i).filter p).map f).getD j [])))
    (fun i b σ' hI => hn σ' i hI.2.1)
    (fun i hi b σ' hI => by
      refine byc fun nh => ?_
      obtain ⟨⟨v0, v1, rfl⟩, o, ks, hk, hki, ha, hr⟩ := hI
      have hx := List.getElem?_eq_getElem hi
      have e1 := ht i _ hx v0 σ' o
      have hlt := lt_of_get ha
      refine nh ?_
      refine ⟨⟨[v0, some xs[i]], fs⟩, ?_⟩
      have e0 : ∀ x, (bnd (evIfs T (.cons te .nil) ⟨[v0, some xs[i]], fs⟩) (fun ok => if ok then evG T (.elt elt) (.obj σ₁.length) none ⟨[v0, some xs[i]], fs⟩ else rt ⟨[v0, some xs[i]], fs⟩)) σ' = some (⟨[v0, some xs[i]], fs⟩, x) → bnd (evG T (.lvl (.one (.loc 1)) (.cons te .nil) (.elt elt)) (.obj σ₁.length) (some xs[i]) ⟨[v0, v1], fs⟩) (fun fm'' => rt (fm'', (none : Option Unit))) σ' = some ((⟨[v0, some xs[i]], fs⟩, none), x) := fun x hx => by
        rw [bnd_eq (a := ⟨[v0, some xs[i]], fs⟩) (σ₁ := x) (by rw [q_lvl, bnd_eq (a := ⟨[v0, some xs[i]], fs⟩) (σ₁ := σ') rfl]; exact hx)]; rfl
      cases hp : p i with
      | false =>
        rw [hp] at e1
        have er : (List.range (i + 1)).filter p = (List.range i).filter p := by rw [List.range_succ, List.filter_append, List.filter_cons, hp]; simp
        refine ⟨σ', e0 _ ?_, ⟨_, _, rfl⟩, o, ks, by rw [er]; exact hk, by exact Nat.le_succ_of_le (by assumption), ha, by rw [er]; exact hr⟩
        rw [bnd_eq (a := false) (σ₁ := σ') (by rw [q_icons, bnd_eq e1]; rfl)]; rfl
      | true =>
        rw [hp] at e1
        refine byc fun nh => ?_
        obtain ⟨k, σ₂, e2, o2, hkl, r2⟩ := hs i _ hx hp v0 σ' o
        have er : (List.range (i + 1)).filter p = (List.range i).filter p ++ [i] := by rw [List.range_succ, List.filter_append, List.filter_cons, hp]; simp
        have a2 := o2.2 _ _ ha
        have p2 := push_at (v := .obj k) a2 (by rw [List.length_map]; omega)
        refine nh ?_
        refine ⟨σ₂.set σ₁.length (.lst (ks.map .obj ++ [.obj k])), e0 _ ?_, ⟨_, _, rfl⟩, (o.trans o2).set (Nat.le_refl _), ks ++ [k], by rw [er]; simp [hk], by simp; exact (by assumption), ?_, fun j k' hj => ?_⟩
        · rw [bnd_eq (a := true) (σ₁ := σ') (by rw [q_icons, bnd_eq e1]; rfl), if_pos rfl, q_elt, bnd_eq e2, bnd_eq p2]; rfl
        · rw [get_set_same a2, List.map_append]; rfl
        · rw [er, List.map_append, List.map_cons, List.map_nil, getD_snoc, ← hk]
          by_cases hj' : j < ks.length
          · replace hj := (List.getElem?_append_left hj') ▸ hj
            obtain ⟨g1, g2⟩ := hr j k' hj
            rw [if_pos hj']
            exact ⟨g1, by rw [get_set (by exact Nat.ne_of_gt (by assumption))]; exact o2.2 _ _ g2⟩
          · have hl := (List.getElem?_eq_some_iff.mp hj).1
            simp at hl
            have e : j = ks.length := by omega
            rw [e, List.getElem?_concat_length] at hj
            obtain rfl := Option.some.inj hj
            rw [if_neg hj', if_pos e]
            exact ⟨by solve_by_elim (maxDepth := 4) [Nat.le_trans, Nat.le_of_lt, Nat.lt_of_lt_of_le, Nat.lt_of_le_of_lt, Nat.le_succ, Nat.lt_succ_self,Nat.le_of_eq, Eq.symm, Nat.le_refl], by rw [get_set (by exact Nat.ne_of_gt (Nat.lt_of_lt_of_le (by assumption) (by assumption)))]; exact r2⟩)
    fuel 0 ⟨List.replicate 2 none, fs⟩ (σ₁ ++ [.lst []]) ⟨⟨_, _, rfl⟩, Old.app _ _, [], rfl, Nat.le_refl _, q_last (σ := σ₁) (.lst []) rfl, nofun⟩ (by exact Nat.zero_le _) (by simp [fuel]; exact Nat.lt_of_lt_of_le (by assumption) (by decide))
  refine byc fun nh => ?_
  obtain ⟨b', σ', ke, _, ho, ks, hk, _, ha, hr⟩ := key
  refine nh ?_
  refine ⟨σ', ?_, ho, ⟨ks, hk, ha, fun i k h => (hr i k h).2⟩⟩
  rw [q_comp]
  simp only [↓q_bnd, h1, ↓q_alloc, ↓q_lift, h3, ke, ↓q_rt]
end
noncomputable def KL (i : Nat) : Str := if i % 2 = 0 then UP i else LO i
noncomputable def nameAt (r : Nat → Nat) (x : Nat) : Str := if x % 2 = 1 then UP (r x) else LO (r x)
theorem g_up : ∀ l : _root_.Fin 6, (asc (LO l.val) && fits (upp (LO l.val)) && (upp (LO l.val) == UP l.val) && okN (KL l.val) && (low (KL l.val) == LO l.val) && (Txt.find "KLMNOP" (UP l.val) == (l.val : Int))) = true := by decide +kernel
theorem up_all (l : Nat) (h : l < 6) : (asc (LO l) && fits (upp (LO l))) = true ∧ upp (LO l) = UP l ∧ okN (KL l) = true ∧ low (KL l) = LO l ∧ Txt.find "KLMNOP" (UP l) = (l : Int) := by
  have := g_up ⟨l, h⟩
  simp only [Bool.and_eq_true, beq_iff_eq] at this
  exact ⟨by simp only [Bool.and_eq_true]; exact this.1.1.1.1, this.1.1.1.2, this.1.1.2, this.1.2, this.2⟩
theorem name_at {r : Nat → Nat} {x : Nat} (h : r x < 6) : okN (nameAt r x) = true ∧ low (nameAt r x) = LO (r x) := by
  have h1 := name_all (r x) h
  unfold nameAt
  split
  · exact ⟨h1.2.1, h1.2.2.1⟩
  · exact ⟨h1.1, h1.2.2.2⟩
theorem num_eq {a b : Nat} (ha : a < 40) (hb : b < 40) : (num a == num b) = decide (a = b) := by
  by_cases h : a = b
  · subst h; simp
  · have : num a ≠ num b := fun e => h (by
      have h1 := (n_all a ha).2.1
      rw [e, (n_all b hb).2.1] at h1
      exact (Option.some.inj h1).symm)
    rw [beq_eq_false_iff_ne.mpr this, decide_eq_false h]
theorem g_wjoin : ∀ a : F16, (JoinOk ("; " : Str) [word a] && fits (Txt.join ("; " : Str) [word a]) && (Txt.join ("; " : Str) [word a] == word a)) = true := by decide +kernel
end Mine
end
section
namespace Mine
open PySem PyProof.Rows
structure SpC (T : Tab) : Prop where
  u : SpU T
  index : ∀ (vs : List PV), T.ap (.top (.builtin "str.index")) vs [] = idxM vs []
  mindex : ∀ (σ : St) (x : Str), T.mt σ (.str x) "index" = some (.builtin "str.index")
  upper : ∀ (vs : List PV), T.ap (.top (.builtin "str.upper")) vs [] = bi "str.upper" vs []
  mupper : ∀ (σ : St) (x : Str), T.mt σ (.str x) "upper" = some (.builtin "str.upper")
  lower : ∀ (vs : List PV), T.ap (.top (.builtin "str.lower")) vs [] = bi "str.lower" vs []
  mlower : ∀ (σ : St) (x : Str), T.mt σ (.str x) "lower" = some (.builtin "str.lower")
  new : ∀ (σ : St), T.ap (.top (.ref 203)) [] [] σ = some (.obj σ.length, (σ ++ [.inst 203 [("_headers", .obj (σ.length + 1))]]) ++ [.lst []])
  mitems : ∀ {σ : St} {n : Nat} {v : PV}, σ[n]? = some (.inst 203 [("_headers", v)]) → T.mt σ (.obj n) "items" = some (.ref 167)
  madd : ∀ {σ : St} {n : Nat} {v : PV}, σ[n]? = some (.inst 203 [("_headers", v)]) → T.mt σ (.obj n) "add_header" = some (.ref 200)
  mall : ∀ {σ : St} {n : Nat} {v : PV}, σ[n]? = some (.inst 203 [("_headers", v)]) → T.mt σ (.obj n) "get_all" = some (.ref 142)
  items : ∀ {σ : St} {t hs : Nat} {ps : List (Str × Str)}, HdAt σ t hs ps → T.ap (.top (.ref 167)) [.obj t] [] σ = some (.obj σ.length, σ ++ [.lst (ps.map tp)])
  add : ∀ vs kvs, T.ap (.top (.ref 200)) vs kvs = addHd vs kvs
  all : ∀ {σ : St} {t hs : Nat} {ps : List (Str × Str)}, HdAt σ t hs ps → ∀ {x : Str}, okN x = true → T.ap (.top (.ref 142)) [.obj t, .str x] [] σ = some (.obj (σ.length + 1), (σ ++ [.cel (some (.str (low x)))]) ++ [.lst ((getAll (low x) ps).map .str)])
  si : ∀ {σ : St} {n : Nat} {xs : List PV} {i v : PV}, σ[n]? = some (.lst xs) → T.si (.obj n) i v σ = seti (.obj n) i v σ
noncomputable abbrev lv (j : Nat) : PV := .str (LO j)
theorem nameRow_len : ∀ (tb : Prs) (high : Nat) (nm : List Nat), (nameRow tb high nm).length = nm.length
  | [], _, _ => rfl
  | p :: tb, high, nm => by
    show (nameRow tb high (if p.2 = high then nm.set high (nm.getD p.1 0) else nm)).length = _
    rw [nameRow_len tb]
    split <;> simp
theorem nameRow_snoc (tb : Prs) (p : Nat × Nat) (high : Nat) (nm : List Nat) : nameRow (tb ++ [p]) high nm = if p.2 = high then (nameRow tb high nm).set high ((nameRow tb high nm).getD p.1 0) else nameRow tb high nm := by
  unfold nameRow
  rw [List.foldl_append]; rfl
section
variable {T : Tab} {σ σ' τ : St} {n t hs nw cc cn cu tc hc nm high : Nat} {L : List F16} {tb : Prs} {r : Nat → Nat} {dn nmv : List Nat}
structure LayB (τ : St) (t hs nw cc cn tc hc nm : Nat) (L : List F16) (tb : Prs) : Prop where
  tbl : HdAt τ t hs (psOf tb)
  words : τ[nw]? = some (.lst (L.map wv))
  pc : τ[cc]? = some (.cel (some (.obj tc)))
  pn : τ[cn]? = some (.cel (some (.obj nm)))
  ne : ∀ x ∈ [t, hs, nw, cc, cn], x ≠ nm ∧ x ≠ hc
  n1 : nm ≠ hc
  n2 : tc ≠ nm
structure LayAt (τ σ : St) (tc hc nm : Nat) (L : List F16) (r : Nat → Nat) (dn nmv : List Nat) : Prop where
  keep : Keep [nm, hc] τ σ
  names : σ[nm]? = some (.lst (nmv.map lv))
  hd : HdAt σ tc hc (dn.map fun x => (nameAt r x, word (at16 L x)))
theorem LayB.at (B : LayB τ t hs nw cc cn tc hc nm L tb) (A : LayAt τ σ tc hc nm L r dn nmv) {x : Nat} (h : x ∈ [t, hs, nw, cc, cn]) {c : Cell} (hx : τ[x]? = some c) : σ[x]? = some c :=
  A.keep.2 _ _ (by have := B.ne x h; simpa using this) hx
theorem LayB.tb' (B : LayB τ t hs nw cc cn tc hc nm L tb) (A : LayAt τ σ tc hc nm L r dn nmv) : HdAt σ t hs (psOf tb) := ⟨B.at A (by exact List.mem_cons_self) B.tbl.obj, B.at A (by exact .tail _ (.head _)) B.tbl.lst, B.tbl.ok, B.tbl.few⟩
theorem LayAt.old (A : LayAt τ σ tc hc nm L r dn nmv) (o : Old σ σ') : LayAt τ σ' tc hc nm L r dn nmv := ⟨A.keep.trans (o.keep _), o.2 _ _ A.names, A.hd.old o⟩
noncomputable abbrev F5 (t nw cc cn cu : Nat) (v2 v3 v4 : Option PV) : Fm := ⟨[some (.obj t), some (.obj nw), v2, v3, v4], [cc, cn, cu]⟩
theorem item_lv {nmv : List Nat} {l : Nat} (h : σ[nm]? = some (.lst (nmv.map lv))) (hl : l < nmv.length) (h4 : l < 40) : item σ (.obj nm) (nv l) = some (lv (nmv.getD l 0)) := by
  rw [nv, item_map h hl h4, List.getD_eq_getElem?_getD, List.getElem?_eq_getElem hl]; rfl
theorem name_loop (S : SpC T) (B : LayB τ t hs nw cc cn tc hc nm L tb) (A : LayAt τ σ tc hc nm L r dn nmv) (K : TbOk n tb) (hk : ∀ p ∈ tb, p.1 < n) (h6 : n ≤ 6) (hn : nmv.length = n) (hh : high < n) {v3 v4 : Option PV} :
    ∃ v3' v4' σ', (∀ q, exs T (.cons s_233b_0 q) (F5 t nw cc cn cu (some (nv high)) v3 v4) σ = exs T q (F5 t nw cc cn cu (some (nv high)) v3' v4') σ') ∧ LayAt τ σ' tc hc nm L r dn (nameRow tb high nmv) := by
  have Ht := B.tb' A
  refine byc fun nh => ?_
  obtain ⟨σ₁, h1⟩ : ∃ σ₁ : St, σ₁ = σ ++ [Cell.lst ((psOf tb).map tp)] := ⟨_, rfl⟩
  have o1 : Old σ σ₁ := by rw [h1]; exact Old.app _ _
  have q1 : σ₁[σ.length]? = some (.lst ((psOf tb).map tp)) := by rw [h1]; exact q_last _ rfl
  have ei : ev T (.meth (.var (.loc 0)) "items" .nil .nil) (F5 t nw cc cn cu (some (nv high)) v3 v4) σ = some (.obj σ.length, σ₁) := ev_meth0 (ev_loc rfl) (S.mitems Ht.obj) (by rw [h1]; exact S.items Ht)
  have lnm := lt_of_get A.names
  have lhc := lt_of_get A.hd.lst
  have key := loop_rule (γ := PV) (src := .one (.obj σ.length)) (body := forBody T (.tup [.loc 3, .loc 4]) b_233b_0) (xs := (psOf tb).map tp)
    (fun j m σ' => (∃ v3 v4, m = F5 t nw cc cn cu (some (nv high)) v3 v4) ∧ σ'[σ.length]? = some (.lst ((psOf tb).map tp)) ∧ LayAt τ σ' tc hc nm L r dn (nameRow (tb.take j) high nmv))
    (fun j m σ' hI => nth_lst hI.2.1)
    (fun j hj m σ' hI => by
      obtain ⟨⟨w3, w4, rfl⟩, hq, A'⟩ := hI
      have hj' : j < tb.length := by simpa [psOf] using hj
      have ex : ((psOf tb).map tp)[j] = .tup [.str (UP tb[j].1), .str (num tb[j].2)] := by simp [psOf, tp]
      refine Eq.symm (ex) ▸ ?_
      have hm := List.getElem_mem hj'
      have k6 := K.key _ hm
      have kv := K.val _ hm
      have ts : tb.take (j + 1) = tb.take j ++ [tb[j]] := List.take_succ_eq_append_getElem hj'
      have hlen : (nameRow (tb.take j) high nmv).length = n := by rw [nameRow_len, hn]
      show ∃ b' σ'', exs T b_233b_0 (F5 t nw cc cn cu (some (nv high)) (some (.str (UP tb[j].1))) (some (.str (num tb[j].2)))) σ' = _ ∧ _
      have ec : ev T (.cmp (.var (.loc 4)) (.cons .Eq (.bin .Mod (.cst (.str "%d")) (.var (.loc 2))) .nil)) (F5 t nw cc cn cu (some (nv high)) (some (.str (UP tb[j].1))) (some (.str (num tb[j].2)))) σ' = some (.bool (decide (tb[j].2 = high)), σ') :=
        ev_cmp1 (ev_loc rfl) (ev_bin rfl (ev_loc rfl) (e_num high (by exact Nat.lt_of_lt_of_le (by assumption) (Nat.le_trans (by assumption) (by decide))))) (by rw [← num_eq (by exact Nat.lt_of_lt_of_le (by assumption) (Nat.le_trans (by assumption) (by decide))) (by exact Nat.lt_of_lt_of_le (by assumption) (Nat.le_trans (by assumption) (by decide)))]; exact e_eqs (σ := σ') _ _)
      rw [ts, nameRow_snoc]
      unfold b_233b_0 s_233b_0_0
      by_cases hc' : tb[j].2 = high
      · rw [decide_eq_true hc'] at ec
        rw [if_pos hc']
        have cnc := B.at A' (x := cn) (by exact .tail _ (.tail _ (.tail _ (.tail _ (.head _))))) B.pn
        have ix : ev T (.meth (.cst (.str "KLMNOP")) "index" (.cons (.var (.loc 3)) .nil) .nil) (F5 t nw cc cn cu (some (nv high)) (some (.str (UP tb[j].1))) (some (.str (num tb[j].2)))) σ' = some (nv tb[j].1, σ') := by
          refine ev_meth1 rfl (S.mindex _ _) (ev_loc rfl) ?_
          rw [S.index]
          show (if decide (0 ≤ Txt.find "KLMNOP" (UP tb[j].1)) = true then rt (PV.int (Txt.find "KLMNOP" (UP tb[j].1))) else fail) σ' = _
          rw [((up_all _ k6).2.2.2.2), if_pos (by exact rfl)]; rfl
        have iv' := item_lv A'.names (l := tb[j].1) (by rw [hlen]; exact (hk _ hm)) (by exact Nat.lt_of_lt_of_le (by assumption) (by decide))
        have st := seti_at (v := lv ((nameRow (tb.take j) high nmv).getD tb[j].1 0)) A'.names (idx_16 high _ (by rw [List.length_map, hlen]; exact hh) (by exact Nat.lt_of_lt_of_le (by assumption) (Nat.le_trans (by assumption) (by decide))))
        have hs' : T.si (.obj nm) (nv high) (lv ((nameRow (tb.take j) high nmv).getD tb[j].1 0)) σ' = some ((), σ'.set nm (.lst (((nameRow (tb.take j) high nmv).set high ((nameRow (tb.take j) high nmv).getD tb[j].1 0)).map lv))) := by
          rw [S.si A'.names, List.map_set]; exact st
        refine ⟨F5 t nw cc cn cu (some (nv high)) (some (.str (UP tb[j].1))) (some (.str (num tb[j].2))), _, ?_, ⟨_, _, rfl⟩, ?_, ⟨A'.keep.set (.inl (by exact List.mem_cons_self)), get_set_same A'.names, ?_⟩⟩
        · rw [s_condT ec, s_seti (ev_ix (ev_cell rfl cnc) ix iv') (ev_cell rfl cnc) (ev_loc rfl) hs']; rfl
        · rw [get_set (by exact Nat.ne_of_gt (by assumption))]; exact hq
        · exact A'.hd.keep (X := [nm]) ((Keep.refl _ _).set (.inl (by exact List.mem_cons_self))) (by simpa using B.n2) (by simpa using Ne.symm B.n1)
      · rw [decide_eq_false hc'] at ec
        refine Eq.symm (if_neg hc') ▸ ?_
        refine ⟨F5 t nw cc cn cu (some (nv high)) (some (.str (UP tb[j].1))) (some (.str (num tb[j].2))), σ', ?_, ⟨_, _, rfl⟩, hq, A'⟩
        rw [s_condF ec]; rfl)
    fuel 0 (F5 t nw cc cn cu (some (nv high)) v3 v4) σ₁ ⟨⟨_, _, rfl⟩, q1, (A.old o1)⟩ (by exact Nat.zero_le _) (by have := K.few; simp [psOf, fuel]; exact Nat.lt_of_le_of_lt (by assumption) (by decide))
  obtain ⟨m, σ', ke, ⟨w3, w4, rfl⟩, _, A'⟩ := key
  have e2 : tb.take ((psOf tb).map tp).length = tb := by rw [List.length_map]; unfold psOf; rw [List.length_map, List.take_length]
  replace A' := (e2) ▸ A'
  refine nh ?_
  refine ⟨w3, w4, σ', fun q => ?_, A'⟩
  unfold s_233b_0
  rw [s_loop (evI_lst ei q1) ke]; rfl
theorem add_word (H : HdAt σ tc hc (dn.map fun x => (nameAt r x, word (at16 L x)))) {x : Nat} (hr : r x < 6) (hl : dn.length < 80) :
    ∃ σ', addHd [.obj tc, .str (nameAt r x), wv (at16 L x)] [] σ = some (.none, σ') ∧ Keep [hc] σ σ' ∧ HdAt σ' tc hc ((dn ++ [x]).map fun x => (nameAt r x, word (at16 L x))) := by
  have g := g_wjoin (at16 L x)
  simp only [Bool.and_eq_true, beq_iff_eq] at g
  obtain ⟨⟨h2, h3⟩, h4⟩ := g
  have e : hdrAt σ tc = some (hc, (dn.map fun x => (nameAt r x, word (at16 L x))).map tp) := hdrAt_of H.obj H.lst
  have hc' : (okV (nameAt r x) && okV (word (at16 L x)) && decide (((dn.map fun x => (nameAt r x, word (at16 L x))).map tp).length ≤ 1000) && JoinOk ("; " : Str) [word (at16 L x)] && fits (Txt.join ("; " : Str) [word (at16 L x)])) = true := by
    simp only [(okN_v (name_at (r := r) (x := x) hr).1), g_word, h2, h3, Bool.and_true, Bool.true_and, decide_eq_true_eq, List.length_map]; exact Nat.le_trans (Nat.le_of_lt (by assumption)) (by decide)
  have p1 : σ <+: σ ++ [.lst [.str (word (at16 L x))]] := List.prefix_append _ _
  refine ⟨(σ ++ [Cell.lst [PV.str (word (at16 L x))]]).set hc (Cell.lst ((dn.map fun x => (nameAt r x, word (at16 L x))).map tp ++ [PV.tup [.str (nameAt r x), .str (word (at16 L x))]])), ?_, (Keep.app _ _ _).set (.inl (by exact List.mem_cons_self)), ?_⟩
  · rw [h4] at hc'
    show ((hdrAt σ tc).bind _ : Option (PV × St)) = _
    rw [e]
    refine (if_pos ?_).trans ?_
    · rw [h4]; exact hc'
    · rw [h4]
  · refine ⟨?_, ?_, ?_, ?_⟩
    · rw [get_set H.ne]; exact get_pre p1 H.obj
    · rw [get_set_same (get_pre p1 H.lst), List.map_append, List.map_append]; rfl
    · intro p hp
      obtain ⟨y, hy, rfl⟩ := List.mem_map.mp hp
      rcases List.mem_append.mp hy with hy | hy
      · exact H.ok _ (List.mem_map_of_mem (f := fun x => (nameAt r x, word (at16 L x))) hy)
      · simp at hy; subst hy; exact (name_at hr).1
    · simp; exact Nat.lt_of_le_of_lt (by assumption) (by decide)
end
end Mine
end
section
namespace Mine
open PySem PyProof.Rows
theorem any_strs (x : Str) : ∀ r : List Str, ((r.map PyData.str).any fun y => PyData.eqv y (.str x)) = decide (x ∈ r)
  | [] => rfl
  | y :: r => by
    rw [List.map_cons, List.any_cons, any_strs x r]
    simp only [PyData.eqv, List.mem_cons, Bool.decide_or]
    congr 1
    by_cases h : y = x
    · subst h; simp
    · simp [h, Ne.symm h]
section
variable {T : Tab} {σ σ' τ : St} {n t hs nw cc cn cu tc hc nm high : Nat} {L : List F16} {tb : Prs} {dn nmv : List Nat} {under : Nat → List Nat} {rs : List Bool} {R : List Nat}
theorem isIn_lv (i : Nat) (r : List Nat) : isIn σ (.str (LO i)) (r.map lv) = some (decide (i ∈ r)) := by
  have e : r.map lv = (r.map LO).map PV.str := by rw [List.map_map]; rfl
  rw [e]
  rw [in_at (d_str _ _) (mapO_str 4 _), any_strs]
  congr 1
  rw [decide_eq_decide, List.mem_map]
  exact ⟨fun ⟨a, h, e⟩ => by
    have := LO_eq a i
    rw [e, beq_self_eq_true] at this
    exact (beq_iff_eq.mp this.symm) ▸ h, fun h => ⟨i, h, rfl⟩⟩
theorem e_mod2 (k : Nat) : binop .Mod (nv k) (.int 2) σ = some (nv (k % 2), σ) := by
  show some (PV.int (Int.fmod (k : Int) 2), σ) = _
  rw [Int.fmod_eq_emod_of_nonneg _ (by decide)]
  rfl
theorem lay_step (S : SpC T) (St' : Stage n under n tb rs R) (O : Ord n under) {o : List Nat} (P : Order n under o) (h6 : n ≤ 6) (hL : L.length = n) {rest : List Nat} (eo : o = dn ++ high :: rest) (B : LayB τ t hs nw cc cn tc hc nm L tb) (A : LayAt τ σ tc hc nm L (root under tb) dn nmv) (N : NamesAt n under tb dn nmv) (K : TbOk n tb) {v3 v4 : Option PV} :
    ∃ v3' v4' σ' nmv', exs T b_233b (F5 t nw cc cn cu (some (nv high)) v3 v4) σ = some ((F5 t nw cc cn cu (some (nv high)) v3' v4', none), σ') ∧ LayAt τ σ' tc hc nm L (root under tb) (dn ++ [high]) nmv' ∧ NamesAt n under tb (dn ++ [high]) nmv' := by
  have hn : high < n := List.mem_range.mp (P.perm.mem_iff.mp (by rw [eo]; simp))
  have hr : root under tb high < n := root_lt O St'.edge hn
  refine byc fun nh => ?_
  obtain ⟨N', hroot⟩ := names_step St' O P eo N
  obtain ⟨w3, w4, σ₁, e1, A1⟩ := name_loop (cu := cu) (v3 := v3) (v4 := v4) S B A K (fun p hp => O.lt _ _ (St'.edge p hp)) h6 N.len hn
  have hdl : dn.length < 80 := by
    have := P.perm.length_eq
    rw [List.length_range, eo, List.length_append] at this
    omega
  obtain ⟨σ₂, e2, k2, H2⟩ := add_word (x := high) A1.hd (by solve_by_elim (maxDepth := 4) [Nat.le_trans, Nat.le_of_lt, Nat.lt_of_lt_of_le, Nat.lt_of_le_of_lt, Nat.le_succ, Nat.lt_succ_self,Nat.le_of_eq, Eq.symm, Nat.le_refl]) hdl
  refine nh ?_
  refine ⟨w3, w4, σ₂, nameRow tb high nmv, ?_, ⟨A1.keep.trans (k2.more (by exact one2)), k2.2 _ _ (by simpa using B.n1) A1.names, H2⟩, N'⟩
  have hlen : (nameRow tb high nmv).length = n := by rw [nameRow_len, N.len]
  have iw : item σ₁ (.obj nm) (nv high) = some (lv (root under tb high)) := by
    rw [item_lv A1.names (by rw [hlen]; exact hn) (by exact Nat.lt_of_lt_of_le (by assumption) (Nat.le_trans (by assumption) (by decide))), List.getD_eq_getElem?_getD, hroot]; rfl
  have pn := B.at A1 (x := cn) (by exact .tail _ (.tail _ (.tail _ (.tail _ (.head _))))) B.pn
  have pc := B.at A1 (x := cc) (by exact .tail _ (.tail _ (.tail _ (.head _)))) B.pc
  have ei : ∀ fm : Fm, fm.cs[1]? = some cn → fm.ρ[2]?.join = some (nv high) → ev T (.idx (.var (.cel 1)) (.var (.loc 2))) fm σ₁ = some (lv (root under tb high), σ₁) := fun fm h1 h2 => ev_ix (ev_cell h1 pn) (ev_loc h2) iw
  have en : ev T (.ite (.bin .Mod (.var (.loc 2)) (.cst (.int 2))) (.meth (.idx (.var (.cel 1)) (.var (.loc 2))) "upper" .nil .nil) (.idx (.var (.cel 1)) (.var (.loc 2)))) (F5 t nw cc cn cu (some (nv high)) w3 w4) σ₁ = some (.str (nameAt (root under tb) high), σ₁) := by
    rw [q_iteE, bnd_eq (ev_bin (ev_loc rfl) rfl (e_mod2 high)), bnd_eq (a := decide (high % 2 = 1)) (σ₁ := σ₁) ?_]
    · unfold nameAt
      by_cases hm : high % 2 = 1
      · rw [decide_eq_true hm, if_pos rfl, if_pos hm]
        have u := up_all (root under tb high) (by solve_by_elim (maxDepth := 4) [Nat.le_trans, Nat.le_of_lt, Nat.lt_of_lt_of_le, Nat.lt_of_le_of_lt, Nat.le_succ, Nat.lt_succ_self,Nat.le_of_eq, Eq.symm, Nat.le_refl])
        refine ev_meth0 (ei _ rfl rfl) (S.mupper _ _) ?_
        rw [S.upper, bi_upper u.1, u.2.1]
      · rw [decide_eq_false hm, if_neg Bool.false_ne_true, if_neg hm]
        exact ei _ rfl rfl
    · show (match truth σ₁ (nv (high % 2)) with | some a => some (a, σ₁) | none => none) = _
      have : truth σ₁ (nv (high % 2)) = some (decide (high % 2 = 1)) := by
        rcases Nat.mod_two_eq_zero_or_one high with h | h <;> rw [h] <;> rfl
      rw [this]
  have ew : ev T (.idx (.var (.loc 1)) (.var (.loc 2))) (F5 t nw cc cn cu (some (nv high)) w3 w4) σ₁ = some (wv (at16 L high), σ₁) := by
    refine ev_ix (ev_loc rfl) (ev_loc rfl) ?_
    rw [nv, item_map (B.at A1 (x := nw) (by exact .tail _ (.tail _ (.head _))) B.words) (by exact Nat.lt_of_lt_of_eq (by assumption) (Eq.symm (by assumption))) (by exact Nat.lt_of_lt_of_le (by assumption) (Nat.le_trans (by assumption) (by decide)))]
    show _ = some (wv (L.getD high 0))
    rw [List.getD_eq_getElem?_getD, List.getElem?_eq_getElem (by exact Nat.lt_of_lt_of_eq (by assumption) (Eq.symm (by assumption)))]; rfl
  unfold b_233b
  rw [e1]
  unfold s_233b_1
  rw [s_expr (ev_meth2 (ev_cell rfl pc) (S.madd A1.hd.obj) en ew (by rw [S.add]; exact e2))]
  rfl
noncomputable def rowF (L : List F16) (n : Nat) (under : Nat → List Nat) (tb : Prs) (o : List Nat) : List (List F16) := (headsOf n under tb).map fun j => (o.filter fun x => decide (root under tb x = j)).map (at16 L)
theorem getD_map {α β : Type} (g : α → β) (l : List α) (j : Nat) (d : α) (d' : β) (h : g d = d') : (l.map g).getD j d' = g (l.getD j d) := by
  rw [List.getD_eq_getElem?_getD, List.getD_eq_getElem?_getD, List.getElem?_map]
  cases l[j]? <;> simp [h]
theorem lay_all (S : SpC T) (St' : Stage n under n tb rs R) (O : Ord n under) {o : List Nat} (P : Order n under o) (h6 : n ≤ 6) (hL : L.length = n) (B : LayB τ t hs nw cc cn tc hc nm L tb) (K : TbOk n tb) {ao : Nat} (ho : τ[ao]? = some (.lst (o.map nv))) (hao : ao ∉ [nm, hc]) (hz : τ[nm]? = some (.lst ((List.range n).map lv))) (hh : HdAt τ tc hc []) :
    ∃ fm' σ', loopM (.one (.obj ao)) (forBody T (.one (.loc 2)) b_233b) fuel 0 (F5 t nw cc cn cu none none none) τ = some ((fm', none), σ') ∧ ∃ fm3 u σ₅, exs T b_233x fm' σ' = some ((fm3, some (.obj u)), σ₅) ∧ Keep [nm, hc] τ σ₅ ∧ RowsAt σ₅ u (rowF L n under tb o).length (fun j => ((rowF L n under tb o).getD j []).map wv) := by
  have hol : o.length = n := by rw [P.perm.length_eq, List.length_range]
  have key := loop_rule (γ := PV) (src := .one (.obj ao)) (body := forBody T (.one (.loc 2)) b_233b) (xs := o.map nv)
    (fun i m σ' => ∃ v2 v3 v4 nmv, m = F5 t nw cc cn cu v2 v3 v4 ∧ LayAt τ σ' tc hc nm L (root under tb) (o.take i) nmv ∧ NamesAt n under tb (o.take i) nmv)
    (fun i m σ' hI => by
      refine byc fun nh => ?_
      obtain ⟨_, _, _, _, _, A, _⟩ := hI
      refine nh ?_
      exact nth_lst (A.keep.2 _ _ hao ho))
    (fun i hi m σ' hI => by
      refine byc fun nh => ?_
      obtain ⟨v2, v3, v4, nmv, rfl, A, N⟩ := hI
      have hi' : i < o.length := by simpa using hi
      have ts : o.take (i + 1) = o.take i ++ [o[i]] := List.take_succ_eq_append_getElem hi'
      have eo : o = o.take i ++ o[i] :: o.drop (i + 1) := by rw [← List.drop_eq_getElem_cons hi', List.take_append_drop]
      obtain ⟨w3, w4, σ₂, nmv', e2, A2, N2⟩ := lay_step (cu := cu) (v3 := v3) (v4 := v4) S St' O P h6 hL eo B A N K
      refine nh ?_
      rw [List.getElem_map, ts]
      exact ⟨_, σ₂, e2, _, _, _, nmv', rfl, A2, N2⟩)
    fuel 0 (F5 t nw cc cn cu none none none) τ ⟨_, _, _, List.range n, rfl, ⟨Keep.refl _ _, hz, hh⟩, ⟨by simp, nofun, fun x hx _ => by rw [List.getElem?_range hx]⟩⟩ (by exact Nat.zero_le _) (by rw [List.length_map]; simp [fuel]; exact Nat.lt_of_le_of_lt (Nat.le_of_eq (by assumption)) (Nat.lt_of_le_of_lt (by assumption) (by decide)))
  refine byc fun nh => ?_
  obtain ⟨m, σ', ke, v2, v3, v4, nmv, rfl, A, N⟩ := key
  have et : o.take (o.map nv).length = o := by rw [List.length_map, List.take_length]
  rw [et] at A N
  refine nh ?_
  refine ⟨_, σ', ke, ?_⟩
  have pn := B.at A (x := cn) (by exact .tail _ (.tail _ (.tail _ (.tail _ (.head _))))) B.pn
  have pc := B.at A (x := cc) (by exact .tail _ (.tail _ (.tail _ (.head _)))) B.pc
  have hnm : ∀ i, decide (i ∈ nmv) = decide (i ∈ (List.range n).map (root under tb)) := fun i => by
    rw [decide_eq_decide]
    constructor
    · intro h
      obtain ⟨x, hx, e⟩ := List.mem_iff_getElem.mp h
      have hx' : x < n := by rw [← N.len]; exact hx
      have := N.done x (P.perm.mem_iff.mpr (List.mem_range.mpr hx'))
      rw [List.getElem?_eq_getElem hx, e] at this
      refine Eq.symm (Option.some.inj this) ▸ ?_
      exact List.mem_map_of_mem (List.mem_range.mpr hx')
    · intro h
      refine byc fun nh => ?_
      obtain ⟨x, hx, rfl⟩ := List.mem_map.mp h
      refine nh ?_
      exact List.mem_of_getElem? (N.done x (P.perm.mem_iff.mpr hx))
  have hxs : ∀ (σ' : St) (i : Nat), nth σ' (.one (.str "KlMnOp")) i = some ((List.range 6).map fun i => PV.str (KL i))[i]? := fun σ' i => by
    have : ∀ i, i < 6 → nth σ' (.one (.str "KlMnOp")) i = some (some (.str (KL i))) := fun i hi => by
      match i, hi with
      | 0, _ => rfl
      | 1, _ => rfl
      | 2, _ => rfl
      | 3, _ => rfl
      | 4, _ => rfl
      | 5, _ => rfl
    by_cases hi : i < 6
    · rw [this i hi, List.getElem?_map, List.getElem?_range hi]; rfl
    · rw [List.getElem?_eq_none (by simpa using hi)]
      simp only [nth, nth1]
      have : (Str.ofString "KlMnOp").cps[i]? = none := by
        rw [Array.getElem?_eq_none_iff]
        have : (Str.ofString "KlMnOp").cps.size = 6 := by decide +kernel
        exact Nat.le_of_not_lt (by assumption)
      rw [this]; rfl
  have hget : ∀ i x, ((List.range 6).map fun i => PV.str (KL i))[i]? = some x → i < 6 ∧ x = .str (KL i) := fun i x h => by
    have hi := (List.getElem?_eq_some_iff.mp h).1
    simp at hi
    rw [List.getElem?_map, List.getElem?_range hi] at h
    exact ⟨hi, (Option.some.inj h).symm⟩
  refine byc fun nh => ?_
  obtain ⟨σ₅, e5, o5, R5⟩ := comp_rows (T := T) (σ := σ') (σ₁ := σ') (fm := F5 t nw cc cn cu v2 v3 v4) (frees := [0, 1]) (fs := [cn, cc]) (src := .one (.str "KlMnOp")) (xs := (List.range 6).map fun i => PV.str (KL i)) (it := .val (.cst (.str "KlMnOp"))) (te := .cmp (.meth (.var (.loc 1)) "lower" .nil .nil) (.cons .In (.var (.cel 0)) .nil)) (elt := .meth (.var (.cel 1)) "get_all" (.cons (.var (.loc 1)) .nil) .nil)
    (fun i => decide (i ∈ (List.range n).map (root under tb))) (fun i => ((o.filter fun x => decide (root under tb x = i)).map (at16 L)).map wv)
    (by rw [q_ival, bnd_eq (a := .str "KlMnOp") (σ₁ := σ') rfl]; rfl) (fun σ' i _ => hxs σ' i) rfl (by decide)
    (fun i x hx v0 τ' o' => by
      obtain ⟨hi, rfl⟩ := hget i x hx
      have u := up_all i hi
      have el : ev T (.meth (.var (.loc 1)) "lower" .nil .nil) ⟨[v0, some (.str (KL i))], [cn, cc]⟩ τ' = some (.str (LO i), τ') := ev_meth0 (ev_loc rfl) (S.mlower _ _) (by rw [S.lower, bi_lower (okN_l u.2.2.1), u.2.2.2.1])
      refine ev_cmp1 el (ev_cell rfl (o'.2 _ _ pn)) ?_
      show (inO τ' (.str (LO i)) (.obj nm)) = _
      rw [inO_obj (o'.2 _ _ A.names), isIn_lv, hnm])
    (fun i x hx _ v0 τ' o' => by
      obtain ⟨hi, rfl⟩ := hget i x hx
      have u := up_all i hi
      have H' := A.hd.old o'
      refine ⟨_, _, ev_meth1 (ev_cell rfl (o'.2 _ _ pc)) (S.mall H'.obj) (ev_loc rfl) (S.all H' u.2.2.1), (Old.app _ _).trans (Old.app _ _), by exact Nat.le_add_right _ _, ?_⟩
      rw [q_last (σ := τ' ++ [Cell.cel (some (.str (low (KL i))))]) _ (by simp)]
      congr 2
      rw [u.2.2.2.1]
      unfold getAll
      rw [List.filter_map, List.map_map, List.map_map, List.map_map]
      have : o.filter ((fun p : Str × Str => low p.1 == LO i) ∘ fun x => (nameAt (root under tb) x, word (at16 L x))) = o.filter fun x => decide (root under tb x = i) := by
        refine List.filter_congr fun x hx => ?_
        have hxn : x < n := List.mem_range.mp (P.perm.mem_iff.mp hx)
        have := root_lt O St'.edge hxn
        simp only [Function.comp, (name_at (r := root under tb) (x := x) (by solve_by_elim (maxDepth := 4) [Nat.le_trans, Nat.le_of_lt, Nat.lt_of_lt_of_le, Nat.lt_of_le_of_lt, Nat.le_succ, Nat.lt_succ_self,Nat.le_of_eq, Eq.symm, Nat.le_refl])).2, LO_eq]
        by_cases h : root under tb x = i
        · simp [h]
        · rw [decide_eq_false h]; simp [h]
      rw [this]; rfl)
  refine nh ?_
  refine ⟨F5 t nw cc cn cu v2 v3 v4, σ'.length, σ₅, ?_, A.keep.trans (o5.keep _), ?_⟩
  · unfold b_233x s_233x_0
    exact s_ret e5
  · have e6 : (((List.range ((List.range 6).map fun i => PV.str (KL i)).length).filter fun i => decide (i ∈ (List.range n).map (root under tb))).map fun i => ((o.filter fun x => decide (root under tb x = i)).map (at16 L)).map wv) = (rowF L n under tb o).map fun r => r.map wv := by
      unfold rowF headsOf
      rw [List.map_map, List.length_map, List.length_range]; rfl
    rw [e6, List.length_map] at R5
    refine byc fun nh => ?_
    obtain ⟨ks, a1, a2, a3⟩ := R5
    refine nh ?_
    exact ⟨ks, a1, a2, fun i k h => by rw [a3 i k h, getD_map (fun r : List F16 => r.map wv) _ _ [] [] rfl]⟩
end
end Mine
end
section
namespace Mine
open PySem PyProof.Rows
inductive Chained (L : List F16) (tb : Prs) (σ : St) (v : PV) (σ' : St) : Prop where
  | mk (u : Nat) (o : List Nat) (e : v = .obj u) (P : Order L.length (underOf L) o) (R : RowsAt σ' u (rowF L L.length (underOf L) tb o).length (fun j => ((rowF L L.length (underOf L) tb o).getD j []).map wv)) (K : Keep [1] σ σ') (tab : σ'[1]? = some (.tab false)) : Chained L tb σ v σ'
theorem ke_c233 : c233 = k_233 := by unfold c233; rw [ke_233]
theorem ke_m233 : m233 = b_233x := by unfold m233; rw [ke_233]
section
variable {T : Tab} {σ : St} {t hs nw ru : Nat} {L : List F16} {tb : Prs} {rs : List Bool} {R : List Nat}
theorem lv_six : ([.str "k", .str "l", .str "m", .str "n", .str "o", .str "p"] : List PV) = (List.range 6).map lv := by kernel_rfl
theorem chains_run (S : SpC T) (St' : Stage L.length (underOf L) L.length tb rs R) (h6 : L.length ≤ 6) (K : TbOk L.length tb) (h1 : σ[1]? = some (.tab true)) (H : HdAt σ t hs (psOf tb)) (hw : σ[nw]? = some (.lst (L.map wv))) (hu : RowsAt σ ru L.length (fun i => (underOf L i).map nv)) :
    ∃ ks σ₁ fm σ₂ fm1 σ₃ kU, ChRun T 1 [.obj t, .obj nw, .obj ru] σ (Chained L tb σ) ks σ₁ fm σ₂ fm1 σ₃ σ₃ L.length (fun i => ((underOf L i).length : Int)) kU ru := by
  obtain ⟨σ₁, d1⟩ : ∃ σ₁ : St, σ₁ = ((σ ++ [Cell.cel none]) ++ [Cell.cel none]) ++ [Cell.cel none] := ⟨_, rfl⟩
  have o1 : Old σ σ₁ := by rw [d1]; exact ((Old.app _ _).trans (Old.app _ _)).trans (Old.app _ _)
  have l1 : σ₁.length = σ.length + 3 := by rw [d1]; simp
  have a0 : σ₁[σ.length]? = some (.cel none) := by rw [d1, q_app _ (by simp), q_app _ (by simp)]; exact q_last _ rfl
  have a1 : σ₁[σ.length + 1]? = some (.cel none) := by rw [d1, q_app _ (by simp)]; exact q_last _ (by simp)
  have a2 : σ₁[σ.length + 2]? = some (.cel none) := by rw [d1]; exact q_last _ (by simp)
  obtain ⟨σ₂, d2⟩ : ∃ σ₂ : St, σ₂ = σ₁.set σ.length (.cel (some (.obj ru))) := ⟨_, rfl⟩
  have o2 : Old σ σ₂ := by rw [d2]; exact o1.set (Nat.le_refl _)
  have l2 : σ₂.length = σ.length + 3 := by rw [d2, List.length_set, l1]
  have b0 : σ₂[σ.length]? = some (.cel (some (.obj ru))) := by rw [d2]; exact get_set_same a0
  have b1 : σ₂[σ.length + 1]? = some (.cel none) := by rw [d2, get_set (by exact Nat.ne_of_gt (Nat.lt_add_of_pos_right (by decide)))]; exact a1
  have b2 : σ₂[σ.length + 2]? = some (.cel none) := by rw [d2, get_set (by exact Nat.ne_of_gt (Nat.lt_add_of_pos_right (by decide)))]; exact a2
  obtain ⟨σ₃, d3⟩ : ∃ σ₃ : St, σ₃ = (σ₂ ++ [Cell.lst ((List.range 6).map lv)]) ++ [Cell.lst ((List.range L.length).map lv)] := ⟨_, rfl⟩
  have o3 : Old σ₂ σ₃ := by rw [d3]; exact (Old.app _ _).trans (Old.app _ _)
  have l3 : σ₃.length = σ.length + 5 := by rw [d3]; simp [l2]
  have c4 : σ₃[σ.length + 4]? = some (.lst ((List.range L.length).map lv)) := by rw [d3]; exact q_last _ (by simp [l2])
  obtain ⟨σ₄, d4⟩ : ∃ σ₄ : St, σ₄ = σ₃.set (σ.length + 1) (.cel (some (.obj (σ.length + 4)))) := ⟨_, rfl⟩
  have o4 : Old σ σ₄ := by rw [d4]; exact (o2.trans o3).set (by exact Nat.le_add_right _ _)
  have l4 : σ₄.length = σ.length + 5 := by rw [d4, List.length_set, l3]
  have e40 : σ₄[σ.length]? = some (.cel (some (.obj ru))) := by rw [d4, get_set (by exact Nat.ne_of_lt (Nat.lt_add_of_pos_right (by decide)))]; exact o3.2 _ _ b0
  have e41 : σ₄[σ.length + 1]? = some (.cel (some (.obj (σ.length + 4)))) := by rw [d4]; exact get_set_same (o3.2 _ _ b1)
  have e42 : σ₄[σ.length + 2]? = some (.cel none) := by rw [d4, get_set (by exact fun e => absurd (Nat.add_left_cancel e) (by decide))]; exact o3.2 _ _ b2
  have e44 : σ₄[σ.length + 4]? = some (.lst ((List.range L.length).map lv)) := by rw [d4, get_set (by exact fun e => absurd (Nat.add_left_cancel e) (by decide))]; exact c4
  obtain ⟨σ₅, d5⟩ : ∃ σ₅ : St, σ₅ = (σ₄ ++ [Cell.inst 203 [("_headers", .obj (σ.length + 6))]]) ++ [Cell.lst []] := ⟨_, rfl⟩
  have o5 : Old σ₄ σ₅ := by rw [d5]; exact (Old.app _ _).trans (Old.app _ _)
  have f5 : σ₅[σ.length + 5]? = some (.inst 203 [("_headers", .obj (σ.length + 6))]) := by rw [d5, q_app _ (by simp [l4])]; exact q_last _ l4.symm
  have f6 : σ₅[σ.length + 6]? = some (.lst []) := by rw [d5]; exact q_last _ (by simp [l4])
  obtain ⟨σ₆, d6⟩ : ∃ σ₆ : St, σ₆ = σ₅.set (σ.length + 2) (.cel (some (.obj (σ.length + 5)))) := ⟨_, rfl⟩
  have o6 : Old σ σ₆ := by rw [d6]; exact (o4.trans o5).set (by exact Nat.le_add_right _ _)
  have g : ∀ k c, k ≠ σ.length + 2 → σ₅[k]? = some c → σ₆[k]? = some c := fun k c hk h => by rw [d6, get_set hk]; exact h
  have g0 := g _ _ (by exact Nat.ne_of_lt (Nat.lt_add_of_pos_right (by decide))) (o5.2 _ _ e40)
  have g1 := g _ _ (by exact fun e => absurd (Nat.add_left_cancel e) (by decide)) (o5.2 _ _ e41)
  have g2 : σ₆[σ.length + 2]? = some (.cel (some (.obj (σ.length + 5)))) := by rw [d6]; exact get_set_same (o5.2 _ _ e42)
  have g4 := g _ _ (by exact fun e => absurd (Nat.add_left_cancel e) (by decide)) (o5.2 _ _ e44)
  have g5 := g _ _ (by exact fun e => absurd (Nat.add_left_cancel e) (by decide)) f5
  have g6 := g _ _ (by exact fun e => absurd (Nat.add_left_cancel e) (by decide)) f6
  have hlt1 := lt_of_get h1
  refine ⟨[σ.length + 2, σ.length + 1, σ.length], σ₁, F5 t nw (σ.length + 2) (σ.length + 1) σ.length none none none, σ₂, F5 t nw (σ.length + 2) (σ.length + 1) σ.length none none none, σ₆, σ.length, ?_⟩
  have hset : setVs ⟨List.replicate 5 none, [σ.length + 2, σ.length + 1, σ.length]⟩ [.loc 0, .loc 1, .cel 2] [.obj t, .obj nw, .obj ru] σ₁ = some (F5 t nw (σ.length + 2) (σ.length + 1) σ.length none none none, σ₂) := by
    have s1 := setV_cel (σ := σ₁) (fm := F5 t nw (σ.length + 2) (σ.length + 1) σ.length none none none) (v := .obj ru) (i := 2) (k := σ.length) rfl a0
    show bnd (setV (F5 t nw (σ.length + 2) (σ.length + 1) σ.length none none none) (.obj ru) (.cel 2)) (fun fm' => setVs fm' [] []) σ₁ = _
    rw [bnd_eq s1, ← d2]; rfl
  have hlw := bi_lenl (o2.2 _ _ hw)
  rw [List.length_map] at hlw
  have hex : exs T b_233 (F5 t nw (σ.length + 2) (σ.length + 1) σ.length none none none) σ₂ = some ((F5 t nw (σ.length + 2) (σ.length + 1) σ.length none none none, none), σ₆) := by
    have x1 : ev T (.list (.cons (.cst (.str "k")) (.cons (.cst (.str "l")) (.cons (.cst (.str "m")) (.cons (.cst (.str "n")) (.cons (.cst (.str "o")) (.cons (.cst (.str "p")) .nil))))))) (F5 t nw (σ.length + 2) (σ.length + 1) σ.length none none none) σ₂ = some (.obj (σ.length + 3), σ₂ ++ [Cell.lst ((List.range 6).map lv)]) := by
      rw [← lv_six, ← l2]; rfl
    have y1 := bi_lenl ((Old.app σ₂ [Cell.lst ((List.range 6).map lv)]).2 _ _ (o2.2 _ _ hw))
    rw [List.length_map] at y1
    have x2 : ev T (.call (.cst (.top (.builtin "len"))) (.cons (.var (.loc 1)) .nil) .nil) (F5 t nw (σ.length + 2) (σ.length + 1) σ.length none none none) (σ₂ ++ [Cell.lst ((List.range 6).map lv)]) = some (.int (L.length : Int), σ₂ ++ [Cell.lst ((List.range 6).map lv)]) := ev_call1 (ev_loc rfl) (by rw [S.u.len]; exact y1)
    have sl := slice_take (σ := σ₂ ++ [Cell.lst ((List.range 6).map lv)]) (n := σ.length + 3) (L.length : Int) L.length rfl (small_16 ⟨L.length, by exact Nat.lt_of_le_of_lt (by assumption) (by decide)⟩) (q_last _ l2.symm)
    have hl' : (σ₂ ++ [Cell.lst ((List.range 6).map lv)]).length = σ.length + 4 := by simp [l2]
    rw [← List.map_take, List.take_range, Nat.min_eq_left h6, ← d3, hl'] at sl
    have x3 : ev T (.slc (.list (.cons (.cst (.str "k")) (.cons (.cst (.str "l")) (.cons (.cst (.str "m")) (.cons (.cst (.str "n")) (.cons (.cst (.str "o")) (.cons (.cst (.str "p")) .nil))))))) (.cst .none) (.call (.cst (.top (.builtin "len"))) (.cons (.var (.loc 1)) .nil) .nil) (.cst .none)) (F5 t nw (σ.length + 2) (σ.length + 1) σ.length none none none) σ₂ = some (.obj (σ.length + 4), σ₃) := by
      rw [q_slc, bnd_eq x1, bnd_eq (a := .none) (σ₁ := σ₂ ++ [Cell.lst ((List.range 6).map lv)]) rfl, bnd_eq x2, bnd_eq (a := .none) (σ₁ := σ₂ ++ [Cell.lst ((List.range 6).map lv)]) rfl]
      exact sl
    have s1 := setV_cel (σ := σ₃) (fm := F5 t nw (σ.length + 2) (σ.length + 1) σ.length none none none) (v := .obj (σ.length + 4)) (i := 1) (k := σ.length + 1) rfl (o3.2 _ _ b1)
    rw [← d4] at s1
    have nw' := S.new σ₄
    rw [l4, ← d5] at nw'
    have x4 : ev T (.call (.cst (.top (.ref 203))) .nil .nil) (F5 t nw (σ.length + 2) (σ.length + 1) σ.length none none none) σ₄ = some (.obj (σ.length + 5), σ₅) := by
      rw [q_call, bnd_eq (a := .top (.ref 203)) (σ₁ := σ₄) rfl, bnd_eq (a := []) (σ₁ := σ₄) rfl, bnd_eq (a := []) (σ₁ := σ₄) rfl]
      exact nw'
    have s2 := setV_cel (σ := σ₅) (fm := F5 t nw (σ.length + 2) (σ.length + 1) σ.length none none none) (v := .obj (σ.length + 5)) (i := 0) (k := σ.length + 2) rfl (o5.2 _ _ e42)
    rw [← d6] at s2
    unfold b_233 s_233_0 s_233_1
    rw [s_setC x3 s1, s_setC x4 s2]; rfl
  have G : ∀ k c, k ≠ 1 → σ₆[k]? = some c → (σ₆.set 1 (.tab false))[k]? = some c := fun k c hk h => by rw [get_set hk]; exact h
  have ht1 : t ≠ 1 := fun e => by have := H.obj; rw [e, h1] at this; cases this
  have hs1 : hs ≠ 1 := fun e => by have := H.lst; rw [e, h1] at this; cases this
  have hw1 : nw ≠ 1 := fun e => by rw [e, h1] at hw; cases hw
  have ltt := lt_of_get H.obj
  have lts := lt_of_get H.lst
  have ltw := lt_of_get hw
  refine ⟨?_, ?_, ?_, ?_, by exact Nat.lt_of_le_of_lt (by assumption) (by decide), o6.2 _ _ h1, ?_, ?_, by exact Nat.ne_of_lt (by assumption), ?_, ?_⟩
  · rw [ke_c233, d1]
    show some (_, _) = some (_, _)
    simp
  · rw [ke_c233]; exact hset
  · rw [ke_c233]; exact hex
  · refine Eq.symm (ke_aF) ▸ ?_
    have := ev_rng (T := T) (fm := F5 t nw (σ.length + 2) (σ.length + 1) σ.length none none none) S.u.len S.u.range (x := .loc 1) rfl (o6.2 _ _ hw) (by rw [List.length_map]; exact Nat.lt_of_le_of_lt (by assumption) (by decide))
    rw [List.length_map] at this
    rw [q_cons, bnd_eq this]; rfl
  · rw [ke_jF]; rfl
  · exact g0
  · intro i hi
    obtain ⟨ks, r1, r2, r3⟩ := hu
    have hik : i < ks.length := by exact Nat.lt_of_lt_of_eq (by assumption) (Eq.symm (by assumption))
    have nk : ∀ k ∈ ks, k ≠ 1 := fun k hk e => by
      obtain ⟨j, hj, rfl⟩ := List.mem_iff_getElem.mp hk
      have := r3 j _ (List.getElem?_eq_getElem hj)
      rw [e, h1] at this; cases this
    have nu : ru ≠ 1 := fun e => by rw [e, h1] at r2; cases r2
    refine ⟨ks[i], (underOf L i).map nv, ?_, by simp only [lst_of ((G _ _ (nk _ (List.getElem_mem hik)) (o6.2 _ _ (r3 i _ (List.getElem?_eq_getElem hik))))), Option.bind_some, Option.map_some], by rw [List.length_map]⟩
    rw [item_at (G _ _ nu (o6.2 _ _ r2)) (idx_16 i _ (by rw [List.length_map]; exact hik) (by omega)), List.getElem?_map, List.getElem?_eq_getElem hik]; rfl
  · intro o ho
    have P : Order L.length (underOf L) o := ⟨ho.perm, ho.up.imp fun {a b} h => by
      have : ((underOf L a).length : Int) ≤ ((underOf L b).length : Int) := h
      exact Int.ofNat_le.1 (by assumption)⟩
    refine byc fun nh => ?_
    obtain ⟨τ, dτ⟩ : ∃ τ : St, τ = σ₆.set 1 (.tab false) ++ [Cell.lst (o.map nv)] := ⟨_, rfl⟩
    have oτ : ∀ k c, k ≠ 1 → σ₆[k]? = some c → τ[k]? = some c := fun k c hk h => by
      have := G k c hk h
      rw [dτ, q_app _ (lt_of_get this)]; exact this
    have B : LayB τ t hs nw (σ.length + 2) (σ.length + 1) (σ.length + 5) (σ.length + 6) (σ.length + 4) L tb := by
      refine ⟨⟨oτ _ _ ht1 (o6.2 _ _ H.obj), oτ _ _ hs1 (o6.2 _ _ H.lst), H.ok, H.few⟩, oτ _ _ hw1 (o6.2 _ _ hw), oτ _ _ (by exact Nat.ne_of_gt (Nat.lt_of_lt_of_le (by assumption) (Nat.le_add_right _ _))) g2, oτ _ _ (by exact Nat.ne_of_gt (Nat.lt_of_lt_of_le (by assumption) (Nat.le_add_right _ _))) g1, fun x hx => ?_, by exact fun e => absurd (Nat.add_left_cancel e) (by decide), by exact fun e => absurd (Nat.add_left_cancel e) (by decide)⟩
      simp only [List.mem_cons, List.not_mem_nil, or_false] at hx
      rcases hx with rfl | rfl | rfl | rfl | rfl <;> omega
    have hq : τ[σ₆.length]? = some (.lst (o.map nv)) := by rw [dτ]; exact q_last _ (by rw [List.length_set])
    have l6 : σ₆.length = σ.length + 7 := by rw [d6, List.length_set, d5]; simp [l4]
    obtain ⟨fm', σ', e1, fm3, u, σ₇, e2, k2, R2⟩ := lay_all (cu := σ.length) (ao := σ₆.length) S St' (ord_of L) P h6 rfl B K hq (by simp; omega) (oτ _ _ (by exact Nat.ne_of_gt (Nat.lt_of_lt_of_le (by assumption) (Nat.le_add_right _ _))) g4) ⟨oτ _ _ (by exact Nat.ne_of_gt (Nat.lt_of_lt_of_le (by assumption) (Nat.le_add_right _ _))) g5, oτ _ _ (by exact Nat.ne_of_gt (Nat.lt_of_lt_of_le (by assumption) (Nat.le_add_right _ _))) g6, nofun, by decide⟩
    refine nh ?_
    refine ⟨fm', σ', ?_, fm3, some (.obj u), σ₇, by rw [ke_m233]; exact e2, ⟨u, o, rfl, P, R2, ⟨?_, fun k c hk h => ?_⟩, k2.2 _ _ (by simp <;> omega) (by rw [dτ, q_app _ (by rw [List.length_set]; exact lt_of_get (o6.2 _ _ h1))]; exact get_set_same (o6.2 _ _ h1))⟩⟩
    · rw [ke_tF, ke_bF]
      rw [dτ] at e1
      exact e1
    · have := k2.1
      rw [dτ] at this
      simp at this
      omega
    · have hk1 : k ≠ 1 := by simpa using hk
      have := lt_of_get h
      exact k2.2 _ _ (by simp; omega) (oτ _ _ hk1 (o6.2 _ _ h))
end
end Mine
end
section
namespace Mine
open PySem PyProof.Rows
section
variable {T : Tab} {σ σ' σ₁ : St} {n : Nat} {fm : Fm}
noncomputable abbrev FL (v1 v2 v3 v4 v5 : Option PV) : Fm := ⟨[some (.obj 0), v1, v2, v3, v4, v5], [6, 5, 4, 3, 2]⟩
theorem set_cel {i a : Nat} {e : ME} {v : PV} {o : Option PV} (h0 : fm.cs[i]? = some a) (he : ev T e fm σ = some (v, σ')) (oo : Old σ σ') (ha : σ[a]? = some (.cel o)) : ∃ σ₂, Keep [a] σ σ₂ ∧ σ₂[a]? = some (.cel (some v)) ∧ (∀ (k : Nat) (c : Cell), k ≠ a → σ'[k]? = some c → σ₂[k]? = some c) ∧ ∀ r, exs T (.cons (.set [.one (.cel i)] e) r) fm σ = exs T r fm σ₂ :=
  ⟨σ'.set a (.cel (some v)), (oo.keep _).set (.inl (by exact List.mem_cons_self)), get_set_same (oo.2 _ _ ha), fun k c hk h => by rw [get_set hk]; exact h, fun r => s_setC he (setV_cel h0 (oo.2 _ _ ha))⟩
theorem comp_inv {frees : List Nat} {it : MI} {elt : ME} {src : PI} {xs : List PV} {fs : List Nat} (vals : Nat → List PV) (I : Nat → St → Prop)
    (h1 : evI T it fm σ = some (src, σ₁)) (hn : ∀ i σ', I i σ' → nth σ' src i = some xs[i]?) (h3 : (frees.mapM fun i => fm.cs[i]?).map List.reverse = some fs) (h5 : xs.length < 90) (h0 : I 0 (σ₁ ++ [.lst []])) (hv : vals 0 = [])
    (hs : ∀ i x, xs[i]? = some x → ∀ v0 σ', I i σ' → σ'[σ₁.length]? = some (.lst (vals i)) → ∃ v σ'', ev T elt ⟨[v0, some x], fs⟩ σ' = some (v, σ'') ∧ σ''[σ₁.length]? = some (.lst (vals i)) ∧ I (i + 1) (σ''.set σ₁.length (.lst (vals (i + 1)))) ∧ vals (i + 1) = vals i ++ [v]) :
    ∃ σ', ev T (.comp 2 0 frees it (.lvl (.one (.loc 1)) .nil (.elt elt))) fm σ = some (.obj σ₁.length, σ') ∧ I xs.length σ' ∧ σ'[σ₁.length]? = some (.lst (vals xs.length)) := by
  have key := loop_rule (γ := Unit) (src := src) (body := fun v fm' => bnd (evG T (.lvl (.one (.loc 1)) .nil (.elt elt)) (.obj σ₁.length) (some v) fm') fun fm'' => rt (fm'', none)) (xs := xs)
    (fun i b σ' => (∃ v0 v1, b = ⟨[v0, v1], fs⟩) ∧ I i σ' ∧ σ'[σ₁.length]? = some (.lst (vals i)) ∧ (vals i).length = i)
    (fun i b σ' hI => hn i σ' hI.2.1)
    (fun i hi b σ' hI => by
      refine byc fun nh => ?_
      obtain ⟨⟨v0, v1, rfl⟩, h, ha, hl⟩ := hI
      obtain ⟨v, σ₂, e2, a2, I2, e3⟩ := hs i _ (List.getElem?_eq_getElem hi) v0 σ' h ha
      have p2 := push_at (v := v) a2 (by omega)
      rw [← e3] at p2
      refine nh ?_
      refine ⟨⟨[v0, some xs[i]], fs⟩, σ₂.set σ₁.length (.lst (vals (i + 1))), ?_, ⟨_, _, rfl⟩, I2, get_set_same a2, by rw [e3]; simp [hl]⟩
      rw [bnd_eq (a := ⟨[v0, some xs[i]], fs⟩) (σ₁ := σ₂.set σ₁.length (.lst (vals (i + 1)))) ?_]
      · rfl
      · rw [q_lvl, bnd_eq (a := ⟨[v0, some xs[i]], fs⟩) (σ₁ := σ') rfl, bnd_eq (a := true) (σ₁ := σ') rfl, if_pos rfl, q_elt, bnd_eq e2, bnd_eq p2]; rfl)
    fuel 0 ⟨List.replicate 2 none, fs⟩ (σ₁ ++ [.lst []]) ⟨⟨_, _, rfl⟩, h0, by rw [hv]; exact q_last (σ := σ₁) (.lst []) rfl, by rw [hv]; rfl⟩ (by exact Nat.zero_le _) (by simp [fuel]; exact Nat.lt_of_lt_of_le (by assumption) (by decide))
  refine byc fun nh => ?_
  obtain ⟨b', σ', ke, _, hI, ha, _⟩ := key
  refine nh ?_
  refine ⟨σ', ?_, hI, ha⟩
  rw [q_comp]
  simp only [↓q_bnd, h1, ↓q_alloc, ↓q_lift, h3, ke, ↓q_rt]
theorem q_nest (it : MI) (g : MG) (acc : PV) (v : Option PV) : evG T (.nest it g) acc v fm σ = bnd (evI T it fm) (fun src => bnd (loopM (γ := Unit) src (fun v fm' => bnd (evG T g acc (some v) fm') fun fm'' => rt (fm'', none)) fuel 0 fm) fun r => rt r.1) σ := rfl
theorem comp_flat {e : ME} {u : Nat} {rows : List (List PV)} (h1 : ev T e fm σ = some (.obj u, σ)) (R : RowsAt σ u rows.length (fun j => rows.getD j [])) (h5 : rows.length < 90) (h6 : rows.flatten.length ≤ 80) :
    ∃ σ', ev T (.comp 3 0 [] (.val e) (.lvl (.one (.loc 1)) .nil (.nest (.val (.var (.loc 1))) (.lvl (.one (.loc 2)) .nil (.elt (.var (.loc 2))))))) fm σ = some (.obj σ.length, σ') ∧ Old σ σ' ∧ σ'[σ.length]? = some (.lst rows.flatten) := by
  refine byc fun nh => ?_
  obtain ⟨ks, hk, hl, hr⟩ := R
  have flat_take : ∀ i, ((rows.take i).flatten).length ≤ 80 := fun i => by
    have : rows.flatten = (rows.take i).flatten ++ (rows.drop i).flatten := by rw [← List.flatten_append, List.take_append_drop]
    rw [this, List.length_append] at h6
    omega
  have key := loop_rule (γ := Unit) (src := .one (.obj u)) (body := fun v fm' => bnd (evG T (.lvl (.one (.loc 1)) .nil (.nest (.val (.var (.loc 1))) (.lvl (.one (.loc 2)) .nil (.elt (.var (.loc 2)))))) (.obj σ.length) (some v) fm') fun fm'' => rt (fm'', none)) (xs := ks.map PV.obj)
    (fun i b σ' => (∃ v0 v1 v2, b = ⟨[v0, v1, v2], []⟩) ∧ σ' = σ ++ [Cell.lst (rows.take i).flatten])
    (fun i b σ' hI => by rw [hI.2]; exact nth_lst (by rw [q_app _ (lt_of_get hl)]; exact hl))
    (fun i hi b σ' hI => by
      obtain ⟨⟨v0, v1, v2, rfl⟩, rfl⟩ := hI
      have hi' : i < ks.length := by simpa using hi
      have hir : i < rows.length := by exact Nat.lt_of_lt_of_eq (by assumption) (by assumption)
      have hrow := hr i _ (List.getElem?_eq_getElem hi')
      have hg : rows.getD i [] = rows[i] := by rw [List.getD_eq_getElem?_getD, List.getElem?_eq_getElem hir]; rfl
      rw [hg] at hrow
      have ex : (ks.map PV.obj)[i] = .obj ks[i] := by simp
      refine Eq.symm (ex) ▸ ?_
      have ts : (rows.take (i + 1)).flatten = (rows.take i).flatten ++ rows[i] := by rw [List.take_succ_eq_append_getElem hir, List.flatten_append]; simp
      have hlen : (rows.take i).flatten.length + rows[i].length ≤ 80 := by
        have := flat_take (i + 1)
        rw [ts, List.length_append] at this; exact this
      have key2 := loop_rule (γ := Unit) (src := .one (.obj ks[i])) (body := fun v fm' => bnd (evG T (.lvl (.one (.loc 2)) .nil (.elt (.var (.loc 2)))) (.obj σ.length) (some v) fm') fun fm'' => rt (fm'', none)) (xs := rows[i])
        (fun j b σ' => (∃ v2, b = ⟨[v0, some (.obj ks[i]), v2], []⟩) ∧ σ' = σ ++ [Cell.lst ((rows.take i).flatten ++ rows[i].take j)])
        (fun j b σ' hI => by rw [hI.2]; exact nth_lst (by rw [q_app _ (lt_of_get hrow)]; exact hrow))
        (fun j hj b σ' hI => by
          obtain ⟨⟨v2, rfl⟩, rfl⟩ := hI
          refine ⟨⟨[v0, some (.obj ks[i]), some rows[i][j]], []⟩, σ ++ [Cell.lst ((rows.take i).flatten ++ rows[i].take (j + 1))], ?_, ⟨_, rfl⟩, rfl⟩
          have p := push_last (σ := σ) (zs := (rows.take i).flatten ++ rows[i].take j) (v := rows[i][j]) (by rw [List.length_append, List.length_take]; omega)
          rw [List.append_assoc, ← List.take_succ_eq_append_getElem hj] at p
          rw [bnd_eq (a := ⟨[v0, some (.obj ks[i]), some rows[i][j]], []⟩) (σ₁ := σ ++ [Cell.lst ((rows.take i).flatten ++ rows[i].take (j + 1))]) ?_]
          · rfl
          · rw [q_lvl, bnd_eq (a := ⟨[v0, some (.obj ks[i]), some rows[i][j]], []⟩) rfl, bnd_eq (a := true) rfl, if_pos rfl, q_elt, bnd_eq (ev_loc rfl), bnd_eq p]; rfl)
        fuel 0 ⟨[v0, some (.obj ks[i]), v2], []⟩ (σ ++ [Cell.lst (rows.take i).flatten]) ⟨⟨_, rfl⟩, by simp⟩ (by exact Nat.zero_le _) (by simp [fuel]; omega)
      obtain ⟨b2, σ₂, ke2, ⟨w2, rfl⟩, rfl⟩ := key2
      rw [List.take_length, ← ts] at ke2
      refine ⟨⟨[v0, some (.obj ks[i]), w2], []⟩, σ ++ [Cell.lst (rows.take (i + 1)).flatten], ?_, ⟨_, _, _, rfl⟩, rfl⟩
      have ei : evI T (.val (.var (.loc 1))) ⟨[v0, some (.obj ks[i]), v2], []⟩ (σ ++ [Cell.lst (rows.take i).flatten]) = some (.one (.obj ks[i]), σ ++ [Cell.lst (rows.take i).flatten]) := evI_lst (ev_loc rfl) (by rw [q_app _ (lt_of_get hrow)]; exact hrow)
      rw [bnd_eq (a := ⟨[v0, some (.obj ks[i]), w2], []⟩) (σ₁ := σ ++ [Cell.lst (rows.take (i + 1)).flatten]) ?_]
      · rfl
      · rw [q_lvl, bnd_eq (a := ⟨[v0, some (.obj ks[i]), v2], []⟩) rfl, bnd_eq (a := true) rfl, if_pos rfl, q_nest, bnd_eq ei, bnd_eq ke2]; rfl)
    fuel 0 ⟨List.replicate 3 none, []⟩ (σ ++ [Cell.lst []]) ⟨⟨_, _, _, rfl⟩, rfl⟩ (by exact Nat.zero_le _) (by rw [List.length_map]; simp [fuel]; omega)
  obtain ⟨b', σ', ke, _, rfl⟩ := key
  have e2 : rows.take (ks.map PV.obj).length = rows := by rw [List.length_map, hk, List.take_length]
  rw [e2] at ke
  refine nh ?_
  refine ⟨σ ++ [Cell.lst rows.flatten], ?_, Old.app _ _, q_last _ rfl⟩
  rw [q_comp]
  simp only [↓q_bnd, evI_lst h1 hl, ↓q_alloc, ↓q_lift, List.mapM_nil, Option.pure_def, Option.map_some, List.reverse_nil, ke, ↓q_rt]
end
end Mine
end
section
namespace Mine
open PySem PyProof.Rows
structure SpF (T : Tab) : Prop where
  u : SpU T
  max : ∀ (vs : List PV), T.ap (.top (.builtin "max")) vs [] = maxM vs []
  sorted : ∀ (vs : List PV), T.ap (.top (.builtin "sorted")) vs [] = sortM vs []
  count : ∀ (vs : List PV), T.ap (.top (.builtin "list.count")) vs [] = cntM vs []
  mcount : ∀ {σ : St} {n : Nat} {xs : List PV}, σ[n]? = some (.lst xs) → T.mt σ (.obj n) "count" = some (.builtin "list.count")
  p214 : ∀ (a : F16) (σ : St), T.ap (.top (.ref 214)) [iv a] [] σ = some (wv a, σ)
  p52 : ∀ (a : F16) (σ : St), T.ap (.top (.ref 52)) [.str "abyz", wv a, .int 6] [] σ = some (nv (rank a), σ)
  under : ∀ {σ : St} {L : List F16} {nw nr : Nat}, L.length ≤ 6 → σ[nw]? = some (.lst (L.map wv)) → σ[nr]? = some (.lst (L.map fun a => nv (rank a))) → ∃ u σ', T.ap (.top (.ref 221)) [.obj nw, .obj nr] [] σ = some (.obj u, σ') ∧ Old σ σ' ∧ RowsAt σ' u L.length (fun i => (underOf L i).map nv)
  new : ∀ (σ : St), T.ap (.top (.ref 203)) [] [] σ = some (.obj σ.length, (σ ++ [.inst 203 [("_headers", .obj (σ.length + 1))]]) ++ [.lst []])
  mkeys : ∀ {σ : St} {n : Nat} {v : PV}, σ[n]? = some (.inst 203 [("_headers", v)]) → T.mt σ (.obj n) "keys" = some (.ref 155)
  keys : ∀ {σ : St} {t hs : Nat} {ps : List (Str × Str)}, HdAt σ t hs ps → T.ap (.top (.ref 155)) [.obj t] [] σ = some (.obj σ.length, σ ++ [.lst (ps.map fun p => .str p.1)])
  seat : ∀ {n : Nat} {under : Nat → List Nat} (O : Ord n under) (h6 : n ≤ 6) {σb : St} {ru t hs nt : Nat} (R : RowsAt σb ru n (fun i => (under i).map nv)) (high : Nat) (tb : Prs) (σ : St), TbOk n tb → high < n → Hunt σb σ t hs nt tb [] → ∀ b tb' tr', seat under 7 high tb [] = (b, tb', tr') →
      ∃ σ', T.ap (.top (.ref 228)) [.obj t, .obj ru, nv high, .obj nt] [] σ = some (.bool b, σ') ∧ Keep [hs, nt] σ σ' ∧ Hunt σb σ' t hs nt tb' tr'
  adds : ∀ {σ : St} {n : Nat} {ws : List F16}, ws.length ≤ 6 → σ[n]? = some (.lst (ws.map wv)) → (∀ i (h : i + 1 < ws.length), subB ws[i] ws[i + 1] = true) → ∃ σ', T.ap (.top (.ref 240)) [.obj n] [] σ = some (.bool true, σ') ∧ Old σ σ'
  width : ∀ {σ : St} {n : Nat} {L : List F16}, L.length ≤ 6 → σ[n]? = some (.lst (L.map iv)) → ∃ σ', T.ap (.top (.ref 245)) [.obj n] [] σ = some (.int ((widthL cmpB 6 L : Nat) : Int), σ') ∧ Old σ σ'
noncomputable def r16 (x : Int) : F16 := ⟨(Int.fmod x 16).toNat, by
  have h1 : 0 ≤ Int.fmod x 16 := Int.fmod_nonneg_of_pos _ (by decide)
  have h2 : Int.fmod x 16 < 16 := Int.fmod_lt_of_pos _ (by decide)
  omega⟩
theorem r16_val (x : Int) : ((r16 x).val : Int) = Int.fmod x 16 := by
  have h1 : 0 ≤ Int.fmod x 16 := Int.fmod_nonneg_of_pos _ (by decide)
  show (((Int.fmod x 16).toNat : Nat) : Int) = _
  omega
noncomputable def modV : PV → PV
  | .int i => iv (r16 i)
  | v => v
noncomputable def toW : PV → PV
  | .int i => (match (List.finRange 16).find? fun a => decide ((a.val : Int) = i) with | some a => wv a | none => .none)
  | v => v
noncomputable def ofW (g : F16 → PV) : PV → PV
  | .str s => (match (List.finRange 16).find? fun a => word a == s with | some a => g a | none => .none)
  | v => v
theorem ofW_wv (g : F16 → PV) (a : F16) : ofW g (wv a) = g a := by
  have h : ∀ a : F16, (List.finRange 16).find? (fun b => word b == word a) = some a := by decide +kernel
  simp only [ofW, wv, h a]
noncomputable def ofI (g : F16 → PV) : PV → PV
  | .int i => (match (List.finRange 16).find? fun a => decide ((a.val : Int) = i) with | some a => g a | none => .none)
  | v => v
theorem ofI_iv (g : F16 → PV) (a : F16) : ofI g (iv a) = g a := by
  have h : ∀ a : F16, (List.finRange 16).find? (fun b => decide ((b.val : Int) = (a.val : Int))) = some a := by decide +kernel
  simp only [ofI, iv, h a]
theorem map_of {α : Type} {g : PV → PV} {f : α → PV} {h : α → PV} (e : ∀ a, g (f a) = h a) (l : List α) : (l.map f).map g = l.map h := by
  rw [List.map_map]
  exact List.map_congr_left fun a _ => e a
section
variable {T : Tab} {σ σ' σ₁ : St} {n nS nW : Nat} {L : List F16} {v1 v2 v3 v4 v5 : Option PV}
structure Fct (σ : St) (nS nW : Nat) (L : List F16) : Prop where
  tab : σ[1]? = some (.tab true)
  c2 : σ[2]? = some (.cel (some (.obj nS)))
  l2 : σ[nS]? = some (.lst (L.map iv))
  c3 : σ[3]? = some (.cel (some (.obj nW)))
  l3 : σ[nW]? = some (.lst (L.map wv))
  g2 : 6 < nS
  g3 : 6 < nW
theorem Fct.keep {X : List Nat} (F : Fct σ nS nW L) (k : Keep X σ σ') (h : ∀ x ∈ X, 3 < x ∧ x ≤ 6) : Fct σ' nS nW L := by
  have g : ∀ (j : Nat) (c : Cell), j ≤ 3 ∨ 6 < j → σ[j]? = some c → σ'[j]? = some c := fun j c hj => k.2 j c fun m => by have := h j m; omega
  exact ⟨g _ _ (by omega) F.tab, g _ _ (by omega) F.c2, g _ _ (.inr F.g2) F.l2, g _ _ (by omega) F.c3, g _ _ (.inr F.g3) F.l3, F.g2, F.g3⟩
theorem Fct.old (F : Fct σ nS nW L) (o : Old σ σ') : Fct σ' nS nW L := F.keep (o.keep []) nofun
theorem small_6 : small 6 = true := by decide +kernel
theorem st_0 (S : SpF T) {zz : List Int} (h0 : σ[0]? = some (.const (zz.map .int))) : ∃ (σ' : St) (d : Nat) (zs : List Int), Old σ σ' ∧ zs.length ≤ 6 ∧ σ'[d]? = some (.lst (zs.map .int)) ∧ ∀ r, exs T (.cons s_250_0 r) (FL v1 v2 v3 v4 v5) σ = exs T r (FL (some (.obj d)) v2 v3 v4 v5) σ' := by
  refine byc fun nh => ?_
  obtain ⟨A, hA⟩ : ∃ A : List PV, A = (zz.map PV.int).take 6 := ⟨_, rfl⟩
  have hAl : A.length ≤ 6 := by rw [hA, List.length_take]; omega
  have sl : ∀ σ' : St, Old σ σ' → ev T (.slc (.var (.loc 0)) (.cst .none) (.cst (.int 6)) (.cst .none)) (FL v1 v2 v3 v4 v5) σ' = some (.obj σ'.length, σ' ++ [Cell.lst A]) := fun σ' o =>
    ev_slc (ev_loc rfl) rfl rfl rfl (by rw [hA]; exact slice_const 6 6 rfl small_6 (o.2 _ _ h0))
  obtain ⟨σ₁, d1⟩ : ∃ σ₁ : St, σ₁ = σ ++ [Cell.lst A] := ⟨_, rfl⟩
  have o1 : Old σ σ₁ := by rw [d1]; exact Old.app _ _
  have q1 : σ₁[σ.length]? = some (.lst A) := by rw [d1]; exact q_last _ rfl
  obtain ⟨σ₂, d2⟩ : ∃ σ₂ : St, σ₂ = σ₁ ++ [Cell.lst [.int 1, .int 2, .int 3, .int 5]] := ⟨_, rfl⟩
  have o2 : Old σ₁ σ₂ := by rw [d2]; exact Old.app _ _
  have q2 : σ₂[σ₁.length]? = some (.lst [.int 1, .int 2, .int 3, .int 5]) := by rw [d2]; exact q_last _ rfl
  obtain ⟨σ₃, d3⟩ : ∃ σ₃ : St, σ₃ = σ₂ ++ [Cell.lst (A ++ [.int 1, .int 2, .int 3, .int 5])] := ⟨_, rfl⟩
  have o3 : Old σ₂ σ₃ := by rw [d3]; exact Old.app _ _
  have q3 : σ₃[σ₂.length]? = some (.lst (A ++ [.int 1, .int 2, .int 3, .int 5])) := by rw [d3]; exact q_last _ rfl
  obtain ⟨σ₄, d4⟩ : ∃ σ₄ : St, σ₄ = σ₃ ++ [Cell.lst A] := ⟨_, rfl⟩
  have o4 : Old σ₃ σ₄ := by rw [d4]; exact Old.app _ _
  have q4 : σ₄[σ₃.length]? = some (.lst A) := by rw [d4]; exact q_last _ rfl
  have e1 := sl σ (Old.refl _)
  rw [← d1] at e1
  have e4 := sl σ₃ ((o1.trans o2).trans o3)
  rw [← d4] at e4
  have e2 : ev T (.list (.cons (.cst (.int 1)) (.cons (.cst (.int 2)) (.cons (.cst (.int 3)) (.cons (.cst (.int 5)) .nil))))) (FL v1 v2 v3 v4 v5) σ₁ = some (.obj σ₁.length, σ₂) := by rw [d2]; rfl
  have e3 := add_lst (o2.2 _ _ q1) q2 (by simp; omega)
  rw [← d3] at e3
  have e5 : ev T (.call (.cst (.top (.builtin "len"))) (.cons (.slc (.var (.loc 0)) (.cst .none) (.cst (.int 6)) (.cst .none)) .nil) .nil) (FL v1 v2 v3 v4 v5) σ₃ = some (.int (A.length : Int), σ₄) := ev_call1 e4 (by rw [S.u.len]; exact bi_lenl q4)
  have e6 : ev T (.call (.cst (.top (.builtin "max"))) (.cons (.cst (.int 4)) (.cons (.call (.cst (.top (.builtin "len"))) (.cons (.slc (.var (.loc 0)) (.cst .none) (.cst (.int 6)) (.cst .none)) .nil) .nil) .nil)) .nil) (FL v1 v2 v3 v4 v5) σ₃ = some (.int ((max 4 A.length : Nat) : Int), σ₄) := by
    refine ev_call2 rfl e5 ?_
    rw [S.max]
    show some (PV.int (if (A.length : Int) > 4 then (A.length : Int) else 4), σ₄) = _
    congr 3
    split <;> omega
  have e7 := slice_take (σ := σ₄) (max 4 A.length : Nat) ((max 4 A.length)) rfl (small_16 ⟨(max 4 A.length), by omega⟩) (o4.2 _ _ q3)
  have hB : ∃ zs : List Int, (A ++ [PV.int 1, PV.int 2, PV.int 3, PV.int 5]).take ((max 4 A.length)) = zs.map PV.int ∧ zs.length ≤ 6 := ⟨((zz.take 6) ++ [1, 2, 3, 5]).take ((max 4 A.length)), by rw [hA]; simp, by rw [List.length_take]; omega⟩
  obtain ⟨zs, hz, hzl⟩ := hB
  rw [hz] at e7
  refine nh ?_
  refine ⟨σ₄ ++ [Cell.lst (zs.map .int)], σ₄.length, zs, (((o1.trans o2).trans o3).trans o4).trans (Old.app _ _), hzl, q_last _ rfl, fun r => ?_⟩
  unfold s_250_0
  refine st_set1 (?_ : ev T _ _ _ = some (.obj σ₄.length, σ₄ ++ [Cell.lst (zs.map .int)])) r
  rw [q_slc, bnd_eq (ev_bin e1 e2 e3), bnd_eq (a := .none) (σ₁ := σ₃) rfl, bnd_eq e6, bnd_eq (a := .none) (σ₁ := σ₄) rfl]
  exact e7
theorem st_1 {d : Nat} {zs : List Int} (hz : zs.length ≤ 6) (hd : σ[d]? = some (.lst (zs.map .int))) (hc : σ[2]? = some (.cel none)) : ∃ σ' nS, Keep [2] σ σ' ∧ σ.length ≤ nS ∧ σ'[2]? = some (.cel (some (.obj nS))) ∧ σ'[nS]? = some (.lst ((zs.map r16).map iv)) ∧ ∀ r, exs T (.cons s_250_1 r) (FL (some (.obj d)) v2 v3 v4 v5) σ = exs T r (FL (some (.obj d)) v2 v3 v4 v5) σ' := by
  have h2 := lt_of_get hc
  refine byc fun nh => ?_
  obtain ⟨σ₁, e1, o1, q1⟩ := comp_map (T := T) (fm := FL (some (.obj d)) v2 v3 v4 v5) (frees := []) (e := .bin .Mod (.var (.loc 1)) (.cst (.int 16))) modV (evI_lst (ev_loc (i := 1) rfl) hd) (fun σ' i o => nth_lst (o.2 _ _ hd)) rfl (by rw [List.length_map]; omega) (fun x hx v0 σ' => by
    obtain ⟨z, hz, rfl⟩ := List.mem_map.mp hx
    refine ev_bin (ev_loc rfl) rfl ?_
    show some (PV.int (Int.fmod z 16), σ') = some (iv (r16 z), σ')
    rw [← r16_val]; rfl)
  have hm : (zs.map PV.int).map modV = (zs.map r16).map iv := by rw [List.map_map, List.map_map]; rfl
  replace q1 := (hm) ▸ q1
  obtain ⟨σ₂, k2, c2, g2, e2⟩ := set_cel (T := T) (fm := FL (some (.obj d)) v2 v3 v4 v5) (i := 4) (a := 2) rfl e1 o1 hc
  refine nh ?_
  exact ⟨σ₂, σ.length, k2, Nat.le_refl _, c2, g2 _ _ (by omega) q1, e2⟩
theorem st_2 (S : SpF T) (hl : L.length ≤ 6) (h2 : σ[2]? = some (.cel (some (.obj nS)))) (l2 : σ[nS]? = some (.lst (L.map iv))) (hc : σ[3]? = some (.cel none)) : ∃ σ' nW, Keep [3] σ σ' ∧ σ.length ≤ nW ∧ σ'[3]? = some (.cel (some (.obj nW))) ∧ σ'[nW]? = some (.lst (L.map wv)) ∧ ∀ r, exs T (.cons s_250_2 r) (FL v1 v2 v3 v4 v5) σ = exs T r (FL v1 v2 v3 v4 v5) σ' := by
  have h3 := lt_of_get hc
  refine byc fun nh => ?_
  obtain ⟨σ₁, e1, o1, q1⟩ := comp_map (T := T) (fm := FL v1 v2 v3 v4 v5) (frees := []) (e := .call (.cst (.top (.ref 214))) (.cons (.var (.loc 1)) .nil) .nil) (ofI wv) (evI_lst (ev_cell (i := 4) rfl h2) l2) (fun σ' i o => nth_lst (o.2 _ _ l2)) rfl (by rw [List.length_map]; omega) (fun x hx v0 σ' => by
    obtain ⟨a, ha, rfl⟩ := List.mem_map.mp hx
    rw [ofI_iv]
    exact ev_call1 (ev_loc rfl) (S.p214 a σ'))
  rw [map_of (ofI_iv wv)] at q1
  obtain ⟨σ₂, k2, c2, g2, e2⟩ := set_cel (T := T) (fm := FL v1 v2 v3 v4 v5) (i := 3) (a := 3) rfl e1 o1 hc
  refine nh ?_
  exact ⟨σ₂, σ.length, k2, Nat.le_refl _, c2, g2 _ _ (by omega) q1, e2⟩
theorem st_3 (S : SpF T) (hl : L.length ≤ 6) (F : Fct σ nS nW L) : ∃ σ' nr, Old σ σ' ∧ σ.length ≤ nr ∧ σ'[nr]? = some (.lst (L.map fun a => nv (rank a))) ∧ ∀ r, exs T (.cons s_250_3 r) (FL v1 v2 v3 v4 v5) σ = exs T r (FL v1 (some (.obj nr)) v3 v4 v5) σ' := by
  refine byc fun nh => ?_
  obtain ⟨σ₁, e1, o1, q1⟩ := comp_map (T := T) (fm := FL v1 v2 v3 v4 v5) (frees := []) (e := .call (.cst (.top (.ref 52))) (.cons (.cst (.str "abyz")) (.cons (.var (.loc 1)) (.cons (.cst (.int 6)) .nil))) .nil) (ofW fun a => nv (rank a)) (evI_lst (ev_cell (i := 3) rfl F.c3) F.l3) (fun σ' i o => nth_lst (o.2 _ _ F.l3)) rfl (by rw [List.length_map]; omega) (fun x hx v0 σ' => by
    obtain ⟨a, ha, rfl⟩ := List.mem_map.mp hx
    rw [ofW_wv]
    exact S.p52 a σ')
  rw [map_of (ofW_wv _)] at q1
  refine nh ?_
  exact ⟨σ₁, σ.length, o1, Nat.le_refl _, q1, fun r => by unfold s_250_3; exact st_set1 e1 r⟩
theorem e_rank {v0 : Option PV} : ∀ a : F16, ev T (.bin .Add (.bin .Add (.bin .Add (.bin .FloorDiv (.var (.loc 1)) (.cst (.int 8))) (.bin .Mod (.bin .FloorDiv (.var (.loc 1)) (.cst (.int 4))) (.cst (.int 2)))) (.bin .Mult (.cst (.int 2)) (.bin .Mod (.bin .FloorDiv (.var (.loc 1)) (.cst (.int 2))) (.cst (.int 2))))) (.bin .Mult (.cst (.int 2)) (.bin .Mod (.var (.loc 1)) (.cst (.int 2))))) ⟨[v0, some (iv a)], []⟩ σ = some (nv (rank a), σ)
  | ⟨0, _⟩ => by kernel_rfl
  | ⟨1, _⟩ => by kernel_rfl
  | ⟨2, _⟩ => by kernel_rfl
  | ⟨3, _⟩ => by kernel_rfl
  | ⟨4, _⟩ => by kernel_rfl
  | ⟨5, _⟩ => by kernel_rfl
  | ⟨6, _⟩ => by kernel_rfl
  | ⟨7, _⟩ => by kernel_rfl
  | ⟨8, _⟩ => by kernel_rfl
  | ⟨9, _⟩ => by kernel_rfl
  | ⟨10, _⟩ => by kernel_rfl
  | ⟨11, _⟩ => by kernel_rfl
  | ⟨12, _⟩ => by kernel_rfl
  | ⟨13, _⟩ => by kernel_rfl
  | ⟨14, _⟩ => by kernel_rfl
  | ⟨15, _⟩ => by kernel_rfl
  | ⟨n + 16, h⟩ => absurd h (by omega)
theorem st_4 (S : SpF T) (hl : L.length ≤ 6) (F : Fct σ nS nW L) {nr : Nat} (hr : σ[nr]? = some (.lst (L.map fun a => nv (rank a)))) : ∃ σ', Old σ σ' ∧ ∀ r, exs T (.cons s_250_4 r) (FL v1 (some (.obj nr)) v3 v4 v5) σ = exs T r (FL v1 (some (.obj nr)) v3 v4 v5) σ' := by
  refine byc fun nh => ?_
  obtain ⟨σ₁, e1, o1, q1⟩ := comp_map (T := T) (fm := FL v1 (some (.obj nr)) v3 v4 v5) (frees := []) (e := (.bin .Add (.bin .Add (.bin .Add (.bin .FloorDiv (.var (.loc 1)) (.cst (.int 8))) (.bin .Mod (.bin .FloorDiv (.var (.loc 1)) (.cst (.int 4))) (.cst (.int 2)))) (.bin .Mult (.cst (.int 2)) (.bin .Mod (.bin .FloorDiv (.var (.loc 1)) (.cst (.int 2))) (.cst (.int 2))))) (.bin .Mult (.cst (.int 2)) (.bin .Mod (.var (.loc 1)) (.cst (.int 2)))))) (ofI fun a => nv (rank a)) (evI_lst (ev_cell (i := 4) rfl F.c2) F.l2) (fun σ' i o => nth_lst (o.2 _ _ F.l2)) rfl (by rw [List.length_map]; omega) (fun x hx v0 σ' => by
    obtain ⟨a, ha, rfl⟩ := List.mem_map.mp hx
    rw [ofI_iv]
    exact e_rank a)
  rw [map_of (ofI_iv _)] at q1
  have hm : (L.map fun a => nv (rank a)) = (L.map fun a => ((rank a : Nat) : Int)).map PV.int := by rw [List.map_map]; rfl
  rw [hm] at q1 hr
  refine nh ?_
  exact ⟨σ₁, o1, fun r => cond_ne (ev_loc rfl) e1 (e_lst (o1.2 _ _ hr) q1 (mapO_int 4 _) (eqv_ints _)) r⟩
end
end Mine
end
section
namespace Mine
open PySem PyProof.Rows
theorem sgn_int : ∀ a b : F16, (if decide ((b.val : Int) > (a.val : Int)) then (1 : Int) else 0) - (if decide ((b.val : Int) < (a.val : Int)) then 1 else 0) = sgn a b := by decide +kernel
theorem g_and : ∀ a b : F16, (Builtin.bitAnd (a.val : Int) (b.val : Int) == (a.val : Int)) = subB a b := by decide +kernel
theorem g_eq : ∀ a b : F16, ((a.val : Int) == (b.val : Int)) = (a == b) := by decide +kernel
section
variable {T : Tab} {σ σ' σ₁ : St} {n nS nW : Nat} {L : List F16} {v1 v2 v3 v4 v5 : Option PV} {fm : Fm}
theorem ev_orB {A B : ME} {x y : Bool} (h1 : ev T A fm σ = some (.bool x, σ)) (h2 : x = false → ev T B fm σ = some (.bool y, σ)) : ev T (.or A B) fm σ = some (.bool (x || y), σ) := by
  induction x with
  | true => exact ev_orT h1
  | false => exact ev_orF h1 (h2 rfl)
theorem comp_mapO {frees : List Nat} {it : MI} {e : ME} {src : PI} {xs : List PV} {fs : List Nat} (h : PV → PV) (h1 : evI T it fm σ = some (src, σ₁)) (hn : ∀ σ' i, Old σ₁ σ' → nth σ' src i = some xs[i]?) (h3 : (frees.mapM fun i => fm.cs[i]?).map List.reverse = some fs) (h5 : xs.length < 90)
    (he : ∀ x ∈ xs, ∀ v0 σ', Old σ₁ σ' → ev T e ⟨[v0, some x], fs⟩ σ' = some (h x, σ')) : ∃ σ', ev T (.comp 2 0 frees it (.lvl (.one (.loc 1)) .nil (.elt e))) fm σ = some (.obj σ₁.length, σ') ∧ Old σ₁ σ' ∧ σ'[σ₁.length]? = some (.lst (xs.map h)) := by
  refine byc fun nh => ?_
  obtain ⟨σ', e1, o, hl⟩ := comp_grow (nl := 2) (frees := frees) (g := .lvl (.one (.loc 1)) .nil (.elt e)) (fun x => [h x]) (fun fm' => ∃ a b, fm' = ⟨[a, b], fs⟩) h1 hn h3 ⟨_, _, rfl⟩ h5 (fun _ _ => by exact Nat.le_refl _) (fun x hx fm' zs σ' hF o hz hzl => by
    obtain ⟨a, b, rfl⟩ := hF
    obtain ⟨p1, p2, p3⟩ := push_old (xs := []) (v := h x) o (Nat.le_refl _) hz (by exact Nat.le_trans (by assumption) (by decide))
    refine ⟨⟨[a, some x], fs⟩, _, ?_, ⟨_, _, rfl⟩, p2, p3⟩
    rw [q_lvl, bnd_eq (a := ⟨[a, some x], fs⟩) (σ₁ := σ') rfl, bnd_eq (a := true) (σ₁ := σ') rfl, if_pos rfl, q_elt, bnd_eq (he x hx a σ' o), bnd_eq p1]; rfl)
  rw [flat_map] at hl
  refine nh ?_
  exact ⟨σ', e1, o, hl⟩
theorem get_map {α : Type} {g : α → PV} {l : List α} {i : Nat} {x : PV} {d : α} (h : (l.map g)[i]? = some x) : i < l.length ∧ x = g (l.getD i d) := by
  have hi := (List.getElem?_eq_some_iff.mp h).1
  rw [List.length_map] at hi
  rw [List.getElem?_map, List.getElem?_eq_getElem hi] at h
  exact ⟨hi, by rw [List.getD_eq_getElem?_getD, List.getElem?_eq_getElem hi]; exact (Option.some.inj h).symm⟩
theorem pairs_ev {g : F16 → PV} (G : (F16 → PV) → PV → PV) (hG : ∀ f a, G f (g a) = f a) {e : ME} {k5 nX : Nat} {i5 : Nat} (h5 : fm.cs[i5]? = some k5) (hc : σ[k5]? = some (.cel (some (.obj nX)))) (hx : σ[nX]? = some (.lst (L.map g))) (hl : L.length ≤ 6)
    (he : ∀ (a b : F16) v0 ck σ', σ'[ck]? = some (.cel (some (g a))) → ev T e ⟨[v0, some (g b)], [ck]⟩ σ' = some (.int (sgn a b), σ')) :
    ∃ u σ', ev T (.comp 1 1 [i5] (.val (.var (.cel i5))) (.lvl (.one (.cel 0)) .nil (.elt (.comp 2 0 [0] (.val (.var (.cel 1))) (.lvl (.one (.loc 1)) .nil (.elt e)))))) fm σ = some (.obj u, σ') ∧ Old σ σ' ∧ RowsAt σ' u L.length (fun i => (L.map fun b => sgn (L.getD i 0) b).map .int) := by
  refine byc fun nh => ?_
  obtain ⟨σ', e1, o, R⟩ := comp_cell (T := T) (fm := fm) (frees := [i5]) (fs := [k5]) (inner := .comp 2 0 [0] (.val (.var (.cel 1))) (.lvl (.one (.loc 1)) .nil (.elt e))) (fun i => (L.map fun b => sgn (L.getD i 0) b).map .int) (evI_lst (ev_cell h5 hc) hx) (fun σ' i o => nth_lst (o.2 _ _ hx)) (by simp [h5]) (by rw [List.length_map]; exact Nat.lt_of_le_of_lt (by assumption) (by decide)) (fun i x hi σ' o hck => by
    obtain ⟨hil, rfl⟩ := get_map (d := 0) hi
    obtain ⟨σ₂, e2, o2, q2⟩ := comp_mapO (T := T) (fm := ⟨[none], [σ.length + 1, k5]⟩) (frees := [0]) (fs := [σ.length + 1]) (e := e) (G fun b => .int (sgn (L.getD i 0) b)) (evI_lst (ev_cell (i := 1) rfl (o.2 _ _ hc)) (o.2 _ _ hx)) (fun σ' i o' => nth_lst ((o.trans o').2 _ _ hx)) rfl (by rw [List.length_map]; exact Nat.lt_of_le_of_lt (by assumption) (by decide)) (fun x hx v0 σ₃ o3 => by
      obtain ⟨b, hb, rfl⟩ := List.mem_map.mp hx
      rw [hG]
      exact he _ _ _ _ _ (o3.2 _ _ hck))
    rw [map_of (hG _)] at q2
    exact ⟨σ'.length, σ₂, e2, o2, Nat.le_refl _, by rw [q2, List.map_map]; rfl⟩)
  rw [List.length_map] at R
  refine nh ?_
  exact ⟨_, σ', e1, o, R⟩
theorem st_5 (S : SpF T) (hl : L.length ≤ 6) (F : Fct σ nS nW L) : ∃ u σ', Old σ σ' ∧ RowsAt σ' u L.length (fun i => (L.map fun b => sgn (L.getD i 0) b).map .int) ∧ ∀ r, exs T (.cons s_250_5 r) (FL v1 v2 v3 v4 v5) σ = exs T r (FL v1 v2 (some (.obj u)) v4 v5) σ' := by
  refine byc fun nh => ?_
  obtain ⟨u, σ', e1, o, R⟩ := pairs_ev (T := T) (fm := FL v1 v2 v3 v4 v5) (g := wv) ofW ofW_wv (e := .call (.cst (.top (.ref 59))) (.cons (.var (.cel 0)) (.cons (.var (.loc 1)) .nil)) .nil) (i5 := 3) rfl F.c3 F.l3 hl (fun a b v0 ck σ' h => ev_call2 (ev_cell rfl h) (ev_loc rfl) (S.u.coll a b σ'))
  refine nh ?_
  exact ⟨u, σ', o, R, fun r => by unfold s_250_5; exact st_set1 e1 r⟩
theorem st_6 (S : SpF T) (hl : L.length ≤ 6) (F : Fct σ nS nW L) {u : Nat} (R : RowsAt σ u L.length (fun i => (L.map fun b => sgn (L.getD i 0) b).map .int)) : ∃ σ', Old σ σ' ∧ ∀ r, exs T (.cons s_250_6 r) (FL v1 v2 (some (.obj u)) v4 v5) σ = exs T r (FL v1 v2 (some (.obj u)) v4 v5) σ' := by
  refine byc fun nh => ?_
  obtain ⟨u', σ', e1, o, R'⟩ := pairs_ev (T := T) (fm := FL v1 v2 (some (.obj u)) v4 v5) (g := iv) ofI ofI_iv (e := .bin .Sub (.cmp (.var (.loc 1)) (.cons .Gt (.var (.cel 0)) .nil)) (.cmp (.var (.loc 1)) (.cons .Lt (.var (.cel 0)) .nil))) (i5 := 4) rfl F.c2 F.l2 hl (fun a b v0 ck σ' h => by
    refine ev_bin (ev_cmp1 (ev_loc rfl) (ev_cell rfl h) rfl) (ev_cmp1 (ev_loc rfl) (ev_cell rfl h) rfl) ?_
    rw [← sgn_int]; rfl)
  refine nh ?_
  exact ⟨σ', o, fun r => cond_ne (ev_loc rfl) e1 (e_rows (R.old o) R' (fun _ _ => rfl) fun _ _ => rfl) r⟩
theorem st_7 (S : SpF T) (hl : L.length ≤ 6) (F : Fct σ nS nW L) {nr : Nat} (hr : σ[nr]? = some (.lst (L.map fun a => nv (rank a)))) (hc : σ[4]? = some (.cel none)) : ∃ u σ', Keep [4] σ σ' ∧ σ'[4]? = some (.cel (some (.obj u))) ∧ RowsAt σ' u L.length (fun i => (underOf L i).map nv) ∧ ∀ r, exs T (.cons s_250_7 r) (FL v1 (some (.obj nr)) v3 v4 v5) σ = exs T r (FL v1 (some (.obj nr)) v3 v4 v5) σ' := by
  refine byc fun nh => ?_
  obtain ⟨u, σ₁, e1, o1, R⟩ := S.under hl F.l3 hr
  have e0 : ev T (.call (.cst (.top (.ref 221))) (.cons (.var (.cel 3)) (.cons (.var (.loc 2)) .nil)) .nil) (FL v1 (some (.obj nr)) v3 v4 v5) σ = some (.obj u, σ₁) := ev_call2 (ev_cell rfl F.c3) (ev_loc rfl) e1
  obtain ⟨σ₂, k2, c2, g2, e2⟩ := set_cel (T := T) (fm := FL v1 (some (.obj nr)) v3 v4 v5) (i := 2) (a := 4) rfl e0 o1 hc
  obtain ⟨ks, r1, r2, r3⟩ := R
  have h4 := o1.2 _ _ hc
  refine nh ?_
  refine ⟨u, σ₂, k2, c2, ⟨ks, r1, g2 _ _ (fun e => by rw [e, h4] at r2; cases r2) r2, fun i k h => g2 _ _ (fun e => by have := r3 i k h; rw [e, h4] at this; cases this) (r3 i k h)⟩, e2⟩
theorem st_8 (S : SpF T) (hl : L.length ≤ 6) (F : Fct σ nS nW L) (hc : σ[5]? = some (.cel none)) : ∃ σ', Keep [5] σ σ' ∧ σ'[5]? = some (.cel (some (.range 0 (L.length : Int) 1))) ∧ ∀ r, exs T (.cons s_250_8 r) (FL v1 v2 v3 v4 v5) σ = exs T r (FL v1 v2 v3 v4 v5) σ' := by
  have e0 := ev_rng (T := T) (fm := FL v1 v2 v3 v4 v5) (x := .cel 4) S.u.len S.u.range (by rw [← q_var (T := T)]; exact ev_cell rfl F.c2) F.l2 (by rw [List.length_map]; exact Nat.lt_of_le_of_lt (by assumption) (by decide))
  rw [List.length_map] at e0
  refine byc fun nh => ?_
  obtain ⟨σ₂, k2, c2, g2, e2⟩ := set_cel (T := T) (fm := FL v1 v2 v3 v4 v5) (i := 1) (a := 5) rfl e0 (Old.refl _) hc
  refine nh ?_
  exact ⟨σ₂, k2, c2, e2⟩
noncomputable def fU (L : List F16) (h : Nat) : PV → List PV
  | .int i => if below L i.toNat h then [nv i.toNat] else []
  | _ => []
theorem fU_flat (L : List F16) (h : Nat) : ∀ l : List Nat, (l.map nv).flatMap (fU L h) = (l.filter fun x => below L x h).map nv
  | [] => rfl
  | x :: l => by
    rw [List.map_cons, List.flatMap_cons, fU_flat L h l, List.filter_cons]
    show (if below L (x : Int).toNat h = true then [nv (x : Int).toNat] else []) ++ _ = _
    rw [Int.toNat_natCast]
    cases below L x h <;> simp
theorem st_9 (S : SpF T) (hl : L.length ≤ 6) (F : Fct σ nS nW L) {u : Nat} (h4 : σ[4]? = some (.cel (some (.obj u)))) (R : RowsAt σ u L.length (fun i => (underOf L i).map nv)) (h5 : σ[5]? = some (.cel (some (.range 0 (L.length : Int) 1)))) : ∃ σ', Old σ σ' ∧ ∀ r, exs T (.cons s_250_9 r) (FL v1 v2 v3 v4 v5) σ = exs T r (FL v1 v2 v3 v4 v5) σ' := by
  refine byc fun nh => ?_
  obtain ⟨σ', e1, o, R'⟩ := comp_cell (T := T) (fm := FL v1 v2 v3 v4 v5) (frees := [1, 4]) (fs := [2, 5]) (xs := (List.range L.length).map nv) (inner := .comp 2 0 [0, 1] (.val (.var (.cel 2))) (.lvl (.one (.loc 1)) (.cons (.and (.cmp (.bin .BitAnd (.idx (.var (.cel 0)) (.var (.loc 1))) (.idx (.var (.cel 0)) (.var (.cel 1)))) (.cons .Eq (.idx (.var (.cel 0)) (.var (.loc 1))) .nil)) (.or (.cmp (.idx (.var (.cel 0)) (.var (.loc 1))) (.cons .NotEq (.idx (.var (.cel 0)) (.var (.cel 1))) .nil)) (.cmp (.var (.loc 1)) (.cons .Lt (.var (.cel 1)) .nil)))) .nil) (.elt (.var (.loc 1)))))
    (fun i => (underOf L i).map nv) (evI_range (ev_cell (i := 1) rfl h5)) (fun σ' i o => nth_range L.length i) rfl (by simp; exact Nat.lt_of_le_of_lt (by assumption) (by decide)) (fun i x hi σ' o hck => by
    obtain ⟨hil, rfl⟩ := get_map (d := 0) hi
    replace hil := (List.length_range) ▸ hil
    have hgi : (List.range L.length).getD i 0 = i := by rw [List.getD_eq_getElem?_getD, List.getElem?_range hil]; rfl
    rw [hgi] at hck
    obtain ⟨σ₂, e2, o2, q2⟩ := comp_grow (T := T) (fm := ⟨[none], [σ.length + 1, 2, 5]⟩) (nl := 2) (frees := [0, 1]) (fs := [2, σ.length + 1]) (xs := (List.range L.length).map nv) (g := .lvl (.one (.loc 1)) (.cons (.and (.cmp (.bin .BitAnd (.idx (.var (.cel 0)) (.var (.loc 1))) (.idx (.var (.cel 0)) (.var (.cel 1)))) (.cons .Eq (.idx (.var (.cel 0)) (.var (.loc 1))) .nil)) (.or (.cmp (.idx (.var (.cel 0)) (.var (.loc 1))) (.cons .NotEq (.idx (.var (.cel 0)) (.var (.cel 1))) .nil)) (.cmp (.var (.loc 1)) (.cons .Lt (.var (.cel 1)) .nil)))) .nil) (.elt (.var (.loc 1))))
      (fU L i) (fun fm' => ∃ a b, fm' = ⟨[a, b], [2, σ.length + 1]⟩) (evI_range (ev_cell (i := 2) rfl (o.2 _ _ h5))) (fun σ' i _ => nth_range L.length i) rfl ⟨_, _, rfl⟩ (by simp; exact Nat.lt_of_le_of_lt (by assumption) (by decide)) (fun x _ => by unfold fU; split <;> (try split) <;> simp) (fun x hx fm' zs σ₃ hF o3 hz hzl => by
        obtain ⟨a, b, rfl⟩ := hF
        obtain ⟨j, hj, rfl⟩ := List.mem_map.mp hx
        rw [List.mem_range] at hj
        have c2 := (o.trans o3).2 _ _ F.c2
        have l2 := (o.trans o3).2 _ _ F.l2
        have ck := o3.2 _ _ hck
        have hat : ∀ k (hk : k < L.length), at16 L k = L[k] := fun k hk => by show L.getD k 0 = _; rw [List.getD_eq_getElem?_getD, List.getElem?_eq_getElem hk]; rfl
        have il : ev T (.idx (.var (.cel 0)) (.var (.loc 1))) ⟨[a, some (nv j)], [2, σ.length + 1]⟩ σ₃ = some (iv (at16 L j), σ₃) := ev_ix (ev_cell rfl c2) (ev_loc rfl) (by rw [hat j hj]; exact item_map l2 hj (by exact Nat.lt_of_lt_of_le (by assumption) (Nat.le_trans (by assumption) (by decide))))
        have ih : ev T (.idx (.var (.cel 0)) (.var (.cel 1))) ⟨[a, some (nv j)], [2, σ.length + 1]⟩ σ₃ = some (iv (at16 L i), σ₃) := ev_ix (ev_cell rfl c2) (ev_cell rfl ck) (by rw [hat i hil]; exact item_map l2 hil (by exact Nat.lt_of_lt_of_le (by assumption) (Nat.le_trans (by assumption) (by decide))))
        have t1 : ev T (.cmp (.bin .BitAnd (.idx (.var (.cel 0)) (.var (.loc 1))) (.idx (.var (.cel 0)) (.var (.cel 1)))) (.cons .Eq (.idx (.var (.cel 0)) (.var (.loc 1))) .nil)) ⟨[a, some (nv j)], [2, σ.length + 1]⟩ σ₃ = some (.bool (subB (at16 L j) (at16 L i)), σ₃) :=
          ev_cmp1 (v1 := .int (Builtin.bitAnd ((at16 L j).val : Int) ((at16 L i).val : Int))) (ev_bin il ih rfl) il (by rw [← g_and]; exact c_eqi _ _)
        have t2 : ev T (.cmp (.idx (.var (.cel 0)) (.var (.loc 1))) (.cons .NotEq (.idx (.var (.cel 0)) (.var (.cel 1))) .nil)) ⟨[a, some (nv j)], [2, σ.length + 1]⟩ σ₃ = some (.bool (at16 L j != at16 L i), σ₃) :=
          ev_cmp1 il ih (by show (eqTop σ₃ (.int ((at16 L j).val : Int)) (.int ((at16 L i).val : Int))).map (!·) = _; rw [e_eqi, g_eq]; rfl)
        have t3 : ev T (.cmp (.var (.loc 1)) (.cons .Lt (.var (.cel 1)) .nil)) ⟨[a, some (nv j)], [2, σ.length + 1]⟩ σ₃ = some (.bool (decide (j < i)), σ₃) :=
          ev_cmp1 (ev_loc rfl) (ev_cell rfl ck) (by unfold nv; rw [c_lti]; simp)
        have t4 := ev_and t1 fun _ => ev_orB t2 fun _ => t3
        have hb : (subB (at16 L j) (at16 L i) && (at16 L j != at16 L i || decide (j < i))) = below L j i := rfl
        rw [hb] at t4
        have hf : fU L i (nv j) = if below L j i then [nv j] else [] := by
          show (if below L (j : Int).toNat i = true then [nv (j : Int).toNat] else []) = _
          rw [Int.toNat_natCast]
        refine Eq.symm (hf) ▸ ?_
        obtain ⟨p1, p2, p3⟩ := push_old (xs := []) (v := nv j) o3 (Nat.le_refl _) hz (by exact Nat.le_trans (by assumption) (by decide))
        cases hc : below L j i with
        | true =>
          replace t4 := (hc) ▸ t4
          refine ⟨⟨[a, some (nv j)], [2, σ.length + 1]⟩, _, ?_, ⟨_, _, rfl⟩, p2, p3⟩
          rw [q_lvl, bnd_eq (a := ⟨[a, some (nv j)], [2, σ.length + 1]⟩) (σ₁ := σ₃) rfl, bnd_eq (a := true) (σ₁ := σ₃) (by rw [q_icons, bnd_eq t4]; rfl), if_pos rfl, q_elt, bnd_eq (ev_loc rfl), bnd_eq p1]; rfl
        | false =>
          replace t4 := (hc) ▸ t4
          refine ⟨⟨[a, some (nv j)], [2, σ.length + 1]⟩, σ₃, ?_, ⟨_, _, rfl⟩, o3, by simpa using hz⟩
          rw [q_lvl, bnd_eq (a := ⟨[a, some (nv j)], [2, σ.length + 1]⟩) (σ₁ := σ₃) rfl, bnd_eq (a := false) (σ₁ := σ₃) (by rw [q_icons, bnd_eq t4]; rfl)]; rfl)
    rw [fU_flat] at q2
    refine ⟨σ'.length, σ₂, e2, o2, Nat.le_refl _, ?_⟩
    refine Eq.symm (q2) ▸ ?_
    unfold underOf
    rw [if_pos hil])
  rw [List.length_map, List.length_range] at R'
  refine nh ?_
  refine ⟨σ', o, fun r => ?_⟩
  exact cond_ne (ev_cell rfl h4) e1 (e_rows (g := fun i => (underOf L i).map fun k => ((k : Nat) : Int)) (R.old o) R' (fun _ _ => by rw [List.map_map]; rfl) fun _ _ => by rw [List.map_map]; rfl) r
end
end Mine
end
section
namespace Mine
open PySem PyProof.Rows
section
variable {T : Tab} {σ σ' σb : St} {n nS nW : Nat} {L : List F16} {v1 v2 v3 v4 v5 : Option PV} {fm : Fm}
theorem st_10 (S : SpF T) (hc : σ[6]? = some (.cel none)) : ∃ σb σ', Keep [6] σ σb ∧ σb.length = σ.length ∧ σb[6]? = some (.cel (some (.obj σ.length))) ∧ Old σb σ' ∧ HdAt σ' σ.length (σ.length + 1) [] ∧ ∀ r, exs T (.cons s_250_10 r) (FL v1 v2 v3 v4 v5) σ = exs T r (FL v1 v2 v3 v4 v5) σ' := by
  have e0 : ev T (.call (.cst (.top (.ref 203))) .nil .nil) (FL v1 v2 v3 v4 v5) σ = some (.obj σ.length, (σ ++ [.inst 203 [("_headers", .obj (σ.length + 1))]]) ++ [.lst []]) := by
    rw [q_call, bnd_eq (a := .top (.ref 203)) (σ₁ := σ) rfl, bnd_eq (a := []) (σ₁ := σ) rfl, bnd_eq (a := []) (σ₁ := σ) rfl]
    exact S.new σ
  have h6 := lt_of_get hc
  have oo : Old σ ((σ ++ [.inst 203 [("_headers", .obj (σ.length + 1))]]) ++ [.lst []]) := (Old.app _ _).trans (Old.app _ _)
  have sv := setV_cel (σ := (σ ++ [.inst 203 [("_headers", .obj (σ.length + 1))]]) ++ [.lst []]) (fm := FL v1 v2 v3 v4 v5) (v := .obj σ.length) (i := 0) (k := 6) rfl (oo.2 _ _ hc)
  rw [List.set_append_left _ _ (by simp; exact Nat.lt_succ_of_lt (by assumption)), List.set_append_left _ _ h6] at sv
  refine ⟨σ.set 6 (.cel (some (.obj σ.length))), _, (Keep.refl _ _).set (.inl (by exact List.mem_cons_self)), by simp, get_set_same hc, (Old.app _ _).trans (Old.app _ _), ⟨?_, ?_, nofun, by decide⟩, fun r => s_setC e0 sv⟩
  · rw [q_app _ (by simp)]; exact q_last _ (by simp)
  · exact q_last _ (by simp)
theorem tbOk_of {L : List F16} (h6 : L.length ≤ 6) {j : Nat} (hj : j ≤ L.length) : TbOk L.length (seats (underOf L) 7 j).1 := by
  have O := ord_of L
  obtain ⟨R, S⟩ := stage O (k := 7) (by exact Nat.lt_succ_of_le (by assumption)) j
  refine ⟨fun p hp => Nat.lt_of_lt_of_le (O.lt _ _ (S.edge p hp)) h6, fun p hp => ?_, S.keys⟩
  have := (S.mem p.2).mp (List.mem_map_of_mem (f := Prod.snd) hp)
  have := (List.getElem?_eq_some_iff.mp this).1
  rw [S.len] at this
  solve_by_elim (maxDepth := 4) [Nat.le_trans, Nat.le_of_lt, Nat.lt_of_lt_of_le, Nat.lt_of_le_of_lt, Nat.le_succ, Nat.lt_succ_self,Nat.le_of_eq, Eq.symm, Nat.le_refl]
theorem st_11 (S : SpF T) (hl : L.length ≤ 6) {p u : Nat} (hp : σb.length = p) (g6 : 6 < σb.length) (h4 : σb[4]? = some (.cel (some (.obj u)))) (R : RowsAt σb u L.length (fun i => (underOf L i).map nv)) (h5 : σb[5]? = some (.cel (some (.range 0 (L.length : Int) 1)))) (h6 : σb[6]? = some (.cel (some (.obj p)))) (o : Old σb σ) (H : HdAt σ p (p + 1) []) :
    ∃ σ' a, Old σb σ' ∧ HdAt σ' p (p + 1) (psOf (seats (underOf L) 7 L.length).1) ∧ σ'[a]? = some (.lst ((seats (underOf L) 7 L.length).2.map .bool)) ∧ ∀ r, exs T (.cons s_250_11 r) (FL v1 v2 v3 v4 v5) σ = exs T r (FL v1 v2 v3 (some (.obj a)) v5) σ' := by
  have lp := lt_of_get H.lst
  refine byc fun nh => ?_
  obtain ⟨σ', e1, ⟨oI, HI, _⟩, ha⟩ := comp_inv (T := T) (σ := σ) (σ₁ := σ) (fm := FL v1 v2 v3 v4 v5) (frees := [0, 2]) (fs := [4, 6]) (src := .one (.range 0 (L.length : Int) 1)) (xs := (List.range L.length).map nv) (it := .val (.var (.cel 1))) (elt := .call (.cst (.top (.ref 228))) (.cons (.var (.cel 1)) (.cons (.var (.cel 0)) (.cons (.var (.loc 1)) (.cons (.list .nil) .nil)))) .nil)
    (fun i => (seats (underOf L) 7 i).2.map .bool) (fun i σ' => Old σb σ' ∧ HdAt σ' p (p + 1) (psOf (seats (underOf L) 7 i).1) ∧ σ.length < σ'.length) (evI_range (ev_cell (i := 1) rfl (o.2 _ _ h5))) (fun i σ' _ => nth_range L.length i) rfl (by simp; exact Nat.lt_of_le_of_lt (by assumption) (by decide)) ⟨o.trans (Old.app _ _), H.old (Old.app _ _), by simp⟩ rfl
    (fun i x hi v0 σ' hI ha => by
      obtain ⟨oI, HI, lI⟩ := hI
      obtain ⟨hil, rfl⟩ := get_map (d := 0) hi
      rw [List.length_range] at hil
      have hgi : (List.range L.length).getD i 0 = i := by rw [List.getD_eq_getElem?_getD, List.getElem?_range hil]; rfl
      rw [hgi]
      obtain ⟨σ₂, d2⟩ : ∃ σ₂ : St, σ₂ = σ' ++ [Cell.lst []] := ⟨_, rfl⟩
      have o2 : Old σ' σ₂ := by rw [d2]; exact Old.app _ _
      have q2 : σ₂[σ'.length]? = some (.lst []) := by rw [d2]; exact q_last _ rfl
      have Hu : Hunt σb σ₂ p (p + 1) σ'.length (seats (underOf L) 7 i).1 [] := ⟨oI.trans o2, HI.old o2, q2, by exact Nat.le_of_eq (by assumption), by solve_by_elim (maxDepth := 4) [Nat.le_trans, Nat.le_of_lt, Nat.lt_of_lt_of_le, Nat.lt_of_le_of_lt, Nat.le_succ, Nat.lt_succ_self,Nat.le_of_eq, Eq.symm, Nat.le_refl], oI.1, by omega, by omega⟩
      obtain ⟨b, tb', tr', es⟩ : ∃ b tb' tr', seat (underOf L) 7 i (seats (underOf L) 7 i).1 [] = (b, tb', tr') := ⟨_, _, _, rfl⟩
      obtain ⟨σ₃, e3, k3, H3⟩ := S.seat (ord_of L) hl R i (seats (underOf L) 7 i).1 σ₂ (tbOk_of hl (by exact Nat.le_of_lt (by assumption))) hil Hu b tb' tr' es
      have s1 : (seats (underOf L) 7 (i + 1)).1 = tb' := by rw [seats, es]
      have s2 : (seats (underOf L) 7 (i + 1)).2 = (seats (underOf L) 7 i).2 ++ [b] := by rw [seats, es]
      have hne : σ.length ∉ [p + 1, σ'.length] := by simp; omega
      refine ⟨.bool b, σ₃, ?_, (k3.2 _ _ hne (o2.2 _ _ ha)), ⟨H3.old.set (by have := o.1; exact (by assumption)), ?_, ?_⟩, by rw [s2, List.map_append]; rfl⟩
      · rw [q_call, bnd_eq (a := .top (.ref 228)) (σ₁ := σ') rfl, bnd_eq (a := [.obj p, .obj u, nv i, .obj σ'.length]) (σ₁ := σ₂) ?_, bnd_eq (a := []) (σ₁ := σ₂) rfl]
        · exact e3
        · rw [q_cons, bnd_eq (ev_cell rfl (oI.2 _ _ h6)), bnd_eq (a := [.obj u, nv i, .obj σ'.length]) (σ₁ := σ₂) ?_]
          · rfl
          · rw [q_cons, bnd_eq (ev_cell rfl (oI.2 _ _ h4)), bnd_eq (a := [nv i, .obj σ'.length]) (σ₁ := σ₂) ?_]
            · rfl
            · rw [q_cons, bnd_eq (ev_loc rfl), d2]; rfl
      · refine Eq.symm (s1) ▸ ?_
        exact H3.hd.keep (X := [σ.length]) ((Keep.refl _ _).set (.inl (by exact List.mem_cons_self))) (by simp; omega) (by simp; exact Nat.ne_of_lt (by assumption))
      · refine Eq.symm (List.length_set) ▸ ?_
        have := k3.1
        have := o2.1
        omega)
  rw [List.length_map, List.length_range] at HI ha
  refine nh ?_
  exact ⟨σ', σ.length, oI, HI, ha, fun r => by unfold s_250_11; exact st_set1 e1 r⟩
theorem ev_len (S : SpF T) {e : ME} {k : Nat} {xs : List PV} (h : ev T e fm σ = some (.obj k, σ')) (hk : σ'[k]? = some (.lst xs)) : ev T (.call (.cst (.top (.builtin "len"))) (.cons e .nil) .nil) fm σ = some (.int (xs.length : Int), σ') := ev_call1 h (by rw [S.u.len]; exact bi_lenl hk)
theorem bools_of : ∀ l : List Bool, boolsO (l.map PV.bool) = some l
  | [] => rfl
  | b :: l => by
    show (boolsO (l.map PV.bool)).map (b :: ·) = _
    rw [bools_of l]; rfl
theorem strs_of : ∀ l : List Str, strsO (l.map PV.str) = some l
  | [] => rfl
  | b :: l => by
    show (strsO (l.map PV.str)).map (b :: ·) = _
    rw [strs_of l]; rfl
theorem st_13 (S : SpF T) {p a u : Nat} {tb : Prs} {rs : List Bool} {nr : Nat} {f : Nat → List PV} (h3 : σ[3]? = some (.cel (some (.obj nW)))) (l3 : σ[nW]? = some (.lst (L.map wv))) (h6 : σ[6]? = some (.cel (some (.obj p)))) (H : HdAt σ p (p + 1) (psOf tb)) (ha : σ[a]? = some (.lst (rs.map .bool))) (R : RowsAt σ u nr f) (e1 : nr + tb.length = L.length) (e2 : rs.count true = tb.length) :
    ∃ σ', Old σ σ' ∧ ∀ r, exs T (.cons s_250x_0 r) (FL v1 v2 v3 (some (.obj a)) (some (.obj u))) σ = exs T r (FL v1 v2 v3 (some (.obj a)) (some (.obj u))) σ' := by
  refine byc fun nh => ?_
  obtain ⟨ks, r1, r2, r3⟩ := R
  have ek : ∀ σ', Old σ σ' → ev T (.meth (.var (.cel 0)) "keys" .nil .nil) (FL v1 v2 v3 (some (.obj a)) (some (.obj u))) σ' = some (.obj σ'.length, σ' ++ [Cell.lst ((psOf tb).map fun p => .str p.1)]) := fun σ' o =>
    ev_meth0 (ev_cell rfl (o.2 _ _ h6)) (S.mkeys (H.old o).obj) (S.keys (H.old o))
  have el : ∀ σ', Old σ σ' → ev T (.call (.cst (.top (.builtin "len"))) (.cons (.meth (.var (.cel 0)) "keys" .nil .nil) .nil) .nil) (FL v1 v2 v3 (some (.obj a)) (some (.obj u))) σ' = some (.int (tb.length : Int), σ' ++ [Cell.lst ((psOf tb).map fun p => .str p.1)]) := fun σ' o => by
    have := ev_len S (ek σ' o) (q_last _ rfl)
    rw [List.length_map] at this
    unfold psOf at this ⊢
    rw [List.length_map] at this
    exact this
  have c1 : cmpop (σ ++ [Cell.lst ((psOf tb).map fun p => .str p.1)]) .NotEq (.int (nr : Int)) (.int ((L.length : Int) - (tb.length : Int))) = some false := by
    have : (nr : Int) = (L.length : Int) - (tb.length : Int) := by omega
    rw [this]; exact e_nei _
  have t1 : ev T (.cmp (.call (.cst (.top (.builtin "len"))) (.cons (.var (.loc 5)) .nil) .nil) (.cons .NotEq (.bin .Sub (.call (.cst (.top (.builtin "len"))) (.cons (.var (.cel 3)) .nil) .nil) (.call (.cst (.top (.builtin "len"))) (.cons (.meth (.var (.cel 0)) "keys" .nil .nil) .nil) .nil)) .nil)) (FL v1 v2 v3 (some (.obj a)) (some (.obj u))) σ = some (.bool false, σ ++ [Cell.lst ((psOf tb).map fun p => .str p.1)]) := by
    have w1 := ev_len (fm := FL v1 v2 v3 (some (.obj a)) (some (.obj u))) S (e := .var (.loc 5)) (ev_loc rfl) r2
    have w2 := ev_len (fm := FL v1 v2 v3 (some (.obj a)) (some (.obj u))) S (e := .var (.cel 3)) (ev_cell rfl h3) l3
    rw [List.length_map] at w1 w2
    rw [r1] at w1
    exact ev_cmp1 w1 (ev_bin w2 (el σ (Old.refl _)) rfl) c1
  obtain ⟨σ₁, d1⟩ : ∃ σ₁ : St, σ₁ = σ ++ [Cell.lst ((psOf tb).map fun p => .str p.1)] := ⟨_, rfl⟩
  have o1 : Old σ σ₁ := by rw [d1]; exact Old.app _ _
  rw [← d1] at t1
  have ec : ev T (.meth (.var (.loc 4)) "count" (.cons (.cst (.bool true)) .nil) .nil) (FL v1 v2 v3 (some (.obj a)) (some (.obj u))) σ₁ = some (.int (tb.length : Int), σ₁) := by
    have hb := o1.2 _ _ ha
    refine ev_meth1 (ev_loc rfl) (S.mcount hb) rfl ?_
    rw [S.count]
    show look (fun σ => ((lstAt σ a).bind boolsO).map fun bs => PV.int (bs.count true : Int)) σ₁ = _
    refine look_at ?_
    rw [lst_of hb, Option.bind_some, bools_of, Option.map_some, e2]
  have t2 : ev T (.cmp (.meth (.var (.loc 4)) "count" (.cons (.cst (.bool true)) .nil) .nil) (.cons .NotEq (.call (.cst (.top (.builtin "len"))) (.cons (.meth (.var (.cel 0)) "keys" .nil .nil) .nil) .nil) .nil)) (FL v1 v2 v3 (some (.obj a)) (some (.obj u))) σ₁ = some (.bool false, σ₁ ++ [Cell.lst ((psOf tb).map fun p => .str p.1)]) := ev_cmp1 ec (el σ₁ o1) (e_nei _)
  refine nh ?_
  exact ⟨_, o1.trans (Old.app _ _), fun r => s_condF (ev_orF t1 t2)⟩
theorem any_true : ∀ n : Nat, ((List.replicate n (PyData.bool true)).any fun y => PyData.eqv y (.bool false)) = false
  | 0 => rfl
  | n + 1 => by rw [List.replicate_succ, List.any_cons, any_true n]; rfl
theorem d_bool (k : Nat) (b : Bool) : deep σ k (.bool b) = some (.bool b) := by cases k <;> rfl
theorem mapO_true : ∀ n : Nat, mapO (deep σ 5) (List.replicate n (PV.bool true)) = some (List.replicate n (PyData.bool true))
  | 0 => rfl
  | n + 1 => by
    rw [List.replicate_succ, List.replicate_succ]
    exact m_cons (d_bool _ _) (mapO_true n)
theorem st_14 (S : SpF T) {u : Nat} {rows : List (List F16)} (hr6 : rows.length ≤ 6) (R : RowsAt σ u rows.length (fun j => (rows.getD j []).map wv)) (hrow : ∀ r ∈ rows, r.length ≤ 6 ∧ ∀ i (h : i + 1 < r.length), subB r[i] r[i + 1] = true) :
    ∃ σ', Old σ σ' ∧ ∀ r, exs T (.cons s_250x_1 r) (FL v1 v2 v3 v4 (some (.obj u))) σ = exs T r (FL v1 v2 v3 v4 (some (.obj u))) σ' := by
  refine byc fun nh => ?_
  obtain ⟨ks, r1, r2, r3⟩ := R
  obtain ⟨σ', e1, oI, ha⟩ := comp_inv (T := T) (σ := σ) (σ₁ := σ) (fm := FL v1 v2 v3 v4 (some (.obj u))) (frees := []) (fs := []) (src := .one (.obj u)) (xs := ks.map .obj) (it := .val (.var (.loc 5))) (elt := .call (.cst (.top (.ref 240))) (.cons (.var (.loc 1)) .nil) .nil)
    (fun i => List.replicate i (.bool true)) (fun i σ' => Old σ σ') (evI_lst (ev_loc (i := 5) rfl) r2) (fun i σ' o => nth_lst (o.2 _ _ r2)) rfl (by rw [List.length_map]; exact Nat.lt_of_le_of_lt (Nat.le_of_eq (by assumption)) (Nat.lt_of_le_of_lt (by assumption) (by decide))) (Old.app _ _) rfl
    (fun i x hi v0 σ' o ha => by
      obtain ⟨hil, rfl⟩ := get_map (d := 0) hi
      have hk : ks[i]? = some (ks.getD i 0) := by rw [List.getD_eq_getElem?_getD, List.getElem?_eq_getElem hil]; rfl
      have hir : i < rows.length := by exact Nat.lt_of_lt_of_eq (by assumption) (by assumption)
      have hg : rows.getD i [] = rows[i] := by rw [List.getD_eq_getElem?_getD, List.getElem?_eq_getElem hir]; rfl
      have h3 := r3 i _ hk
      rw [hg] at h3
      obtain ⟨w1, w2⟩ := hrow _ (List.getElem_mem hir)
      obtain ⟨σ₂, e2, o2⟩ := S.adds w1 (o.2 _ _ h3) w2
      exact ⟨.bool true, σ₂, ev_call1 (ev_loc rfl) e2, o2.2 _ _ ha, (o.trans o2).set (Nat.le_refl _), List.replicate_succ'⟩)
  have c1 : cmpop σ' .In (.bool false) (.obj σ.length) = some false := by
    show inO σ' (.bool false) (.obj σ.length) = _
    rw [inO_obj ha, in_at (d_bool _ _) (mapO_true _), any_true]
  refine nh ?_
  exact ⟨σ', oI, fun r => s_condF (ev_cmp1 rfl e1 c1)⟩
theorem e_strs {i j : Nat} {r : List Str} (h1 : σ[i]? = some (.lst (r.map .str))) (h2 : σ[j]? = some (.lst (r.map .str))) : cmpop σ .Eq (.obj i) (.obj j) = some true := by
  have e1 : deep σ 6 (.obj i) = some (.list (r.map PyData.str)) := by rw [d_obj h1, mapO_str 4]; rfl
  have e2 : deep σ 6 (.obj j) = some (.list (r.map PyData.str)) := by rw [d_obj h2, mapO_str 4]; rfl
  show eqTop σ _ _ = _
  rw [eq_at e1 e2, PyData.eqv, eqv_strs]
theorem sort_at {i : Nat} {r : List Str} (h : σ[i]? = some (.lst (r.map .str))) (hl : r.length < 64) : sortM [.obj i] [] σ = some (.obj σ.length, σ ++ [Cell.lst ((sortStr r).map .str)]) := by
  show bnd (look fun σ => (lstAt σ i).bind strsO) (fun ss => if decide (ss.length < 64) then alloc (.lst ((sortStr ss).map .str)) else fail) σ = _
  rw [bnd_eq (a := r) (σ₁ := σ) (look_at (by show (lstAt σ i).bind strsO = _; rw [lst_of h, Option.bind_some, strs_of])), if_pos (by simpa using hl)]; rfl
end
end Mine
end
section
namespace Mine
open PySem PyProof.Rows
section
variable {T : Tab} {σ σ' σb : St} {n nS nW : Nat} {L : List F16} {v1 v2 v3 v4 v5 : Option PV} {fm : Fm}
theorem st_15 (S : SpF T) (hl : L.length ≤ 6) {u : Nat} {rows : List (List F16)} (hr6 : rows.length ≤ 6) (R : RowsAt σ u rows.length (fun j => (rows.getD j []).map wv)) (hp : rows.flatten.Perm L) (hw : widthL cmpB 6 L = rows.length) (h2 : σ[2]? = some (.cel (some (.obj nS)))) (l2 : σ[nS]? = some (.lst (L.map iv))) (h3 : σ[3]? = some (.cel (some (.obj nW)))) (l3 : σ[nW]? = some (.lst (L.map wv))) :
    ∃ σ', Old σ σ' ∧ ∀ r, exs T (.cons s_250x_2 r) (FL v1 v2 v3 v4 (some (.obj u))) σ = some ((FL v1 v2 v3 v4 (some (.obj u)), some (.bool true)), σ') := by
  have ew : ∀ l : List F16, l.map wv = (l.map word).map PV.str := fun l => by rw [List.map_map]; rfl
  have ef : (rows.map fun r => r.map wv).flatten = (rows.flatten.map word).map PV.str := by rw [← ew, List.map_flatten]
  have hfl : rows.flatten.length ≤ 6 := by rw [hp.length_eq]; exact hl
  refine byc fun nh => ?_
  obtain ⟨ks, r1, r2, r3⟩ := (R)
  obtain ⟨σ₁, e1, o1, q1⟩ := comp_flat (T := T) (fm := FL v1 v2 v3 v4 (some (.obj u))) (e := .var (.loc 5)) (rows := rows.map fun r => r.map wv) (ev_loc rfl) (by
    refine ⟨ks, by rw [List.length_map]; exact r1, r2, fun i k h => ?_⟩
    rw [r3 i k h, getD_map (fun r : List F16 => r.map wv) _ _ [] [] rfl]) (by rw [List.length_map]; exact Nat.lt_of_le_of_lt (by assumption) (by decide)) (by rw [ef, List.length_map, List.length_map]; exact Nat.le_trans (by assumption) (by decide))
  rw [ef] at q1
  have s1 := sort_at q1 (by rw [List.length_map]; exact Nat.lt_of_le_of_lt (by assumption) (by decide))
  obtain ⟨σ₂, d2⟩ : ∃ σ₂ : St, σ₂ = σ₁ ++ [Cell.lst ((sortStr (rows.flatten.map word)).map .str)] := ⟨_, rfl⟩
  have o2 : Old σ₁ σ₂ := by rw [d2]; exact Old.app _ _
  have q2 : σ₂[σ₁.length]? = some (.lst ((sortStr (rows.flatten.map word)).map .str)) := by rw [d2]; exact q_last _ rfl
  rw [← d2] at s1
  have o12 := o1.trans o2
  have l3' := o12.2 _ _ l3
  rw [ew] at l3'
  have s2 := sort_at l3' (by rw [List.length_map]; exact Nat.lt_of_le_of_lt (by assumption) (by decide))
  have hs : sortStr (L.map word) = sortStr (rows.flatten.map word) := sortStr_perm (hp.map word).symm
  rw [hs] at s2
  obtain ⟨σ₃, d3⟩ : ∃ σ₃ : St, σ₃ = σ₂ ++ [Cell.lst ((sortStr (rows.flatten.map word)).map .str)] := ⟨_, rfl⟩
  have o3 : Old σ₂ σ₃ := by rw [d3]; exact Old.app _ _
  have q3 : σ₃[σ₂.length]? = some (.lst ((sortStr (rows.flatten.map word)).map .str)) := by rw [d3]; exact q_last _ rfl
  rw [← d3] at s2
  have o13 := o12.trans o3
  obtain ⟨σ₄, e4, o4⟩ := S.width hl (o13.2 _ _ l2)
  have t1 : ev T (.cmp (.call (.cst (.top (.builtin "sorted"))) (.cons (.comp 3 0 [] (.val (.var (.loc 5))) (.lvl (.one (.loc 1)) .nil (.nest (.val (.var (.loc 1))) (.lvl (.one (.loc 2)) .nil (.elt (.var (.loc 2))))))) .nil) .nil) (.cons .Eq (.call (.cst (.top (.builtin "sorted"))) (.cons (.var (.cel 3)) .nil) .nil) .nil)) (FL v1 v2 v3 v4 (some (.obj u))) σ = some (.bool true, σ₃) :=
    ev_cmp1 (ev_call1 e1 (by rw [S.sorted]; exact s1)) (ev_call1 (ev_cell rfl (o12.2 _ _ h3)) (by rw [S.sorted]; exact s2)) (e_strs (o3.2 _ _ q2) q3)
  have w1 := ev_len (fm := FL v1 v2 v3 v4 (some (.obj u))) S (e := .var (.loc 5)) (ev_loc rfl) (o13.2 _ _ r2)
  rw [List.length_map, r1] at w1
  have t2 : ev T (.cmp (.call (.cst (.top (.builtin "len"))) (.cons (.var (.loc 5)) .nil) .nil) (.cons .Eq (.call (.cst (.top (.ref 245))) (.cons (.var (.cel 4)) .nil) .nil) .nil)) (FL v1 v2 v3 v4 (some (.obj u))) σ₃ = some (.bool true, σ₄) :=
    ev_cmp1 w1 (ev_call1 (ev_cell rfl (o13.2 _ _ h2)) e4) (by rw [c_eqi, hw, beq_self_eq_true])
  refine nh ?_
  refine ⟨σ₄, o13.trans o4, fun r => s_ret (v := .bool true) ?_⟩
  rw [q_and, bnd_eq t1, bnd_eq (a := true) (σ₁ := σ₃) rfl, if_pos rfl]
  exact t2
structure LawMid (σ : St) (L : List F16) (nS nW u p a : Nat) : Prop where
  hl : L.length ≤ 6
  tab : σ[1]? = some (.tab true)
  c2 : σ[2]? = some (.cel (some (.obj nS)))
  l2 : σ[nS]? = some (.lst (L.map iv))
  c3 : σ[3]? = some (.cel (some (.obj nW)))
  l3 : σ[nW]? = some (.lst (L.map wv))
  c4 : σ[4]? = some (.cel (some (.obj u)))
  R : RowsAt σ u L.length (fun i => (underOf L i).map nv)
  c6 : σ[6]? = some (.cel (some (.obj p)))
  H : HdAt σ p (p + 1) (psOf (seats (underOf L) 7 L.length).1)
  ha : σ[a]? = some (.lst ((seats (underOf L) 7 L.length).2.map .bool))
theorem law_head (S : SpF T) {zz : List Int} (h0 : σ[0]? = some (.const (zz.map .int))) (h1 : σ[1]? = some (.tab true)) (hn : ∀ k, 2 ≤ k → k ≤ 6 → σ[k]? = some (.cel none)) :
    ∃ L nS nW u p a v1 v2 v3 σ', exs T b_250 (FL none none none none none) σ = some ((FL v1 v2 v3 (some (.obj a)) none, none), σ') ∧ LawMid σ' L nS nW u p a := by
  have g6 := lt_of_get (hn 6 (by decide) (by decide))
  refine byc fun nh => ?_
  obtain ⟨σ₁, d, zs, o1, hz, hd, t0⟩ := st_0 (v1 := none) (v2 := none) (v3 := none) (v4 := none) (v5 := none) S h0
  obtain ⟨σ₂, nS, k2, lS, c2, l2, t1⟩ := st_1 (T := T) (v2 := none) (v3 := none) (v4 := none) (v5 := none) hz hd (o1.2 _ _ (hn 2 (by decide) (by decide)))
  refine nh ?_
  generalize hLd : zs.map r16 = L at l2
  have hl : L.length ≤ 6 := by rw [← hLd, List.length_map]; exact hz
  have n2 : ∀ k, 3 ≤ k → k ≤ 6 → σ₂[k]? = some (.cel none) := fun k a b => k2.2 _ _ (by simp; exact Nat.ne_of_gt (by assumption)) (o1.2 _ _ (hn k (by exact Nat.le_of_lt (by assumption)) b))
  refine byc fun nh => ?_
  obtain ⟨σ₃, nW, k3, lW, c3, l3, t2⟩ := st_2 (v1 := some (.obj d)) (v2 := none) (v3 := none) (v4 := none) (v5 := none) S hl c2 l2 (n2 3 (by decide) (by decide))
  have n3 : ∀ k, 4 ≤ k → k ≤ 6 → σ₃[k]? = some (.cel none) := fun k a b => k3.2 _ _ (by simp; exact Nat.ne_of_gt (by assumption)) (n2 k (by exact Nat.le_of_lt (by assumption)) b)
  have gS : 6 < nS := by have := o1.1; omega
  have F3 : Fct σ₃ nS nW L := ⟨k3.2 _ _ (by decide) (k2.2 _ _ (by decide) (o1.2 _ _ h1)), k3.2 _ _ (by decide) c2, k3.2 _ _ (by simp; omega) l2, c3, l3, gS, by have := o1.1; have := k2.1; omega⟩
  obtain ⟨σ₄, nr, o4, _, hr, t3⟩ := st_3 (v1 := some (.obj d)) (v2 := none) (v3 := none) (v4 := none) (v5 := none) S hl F3
  have F4 := F3.old o4
  obtain ⟨σ₅, o5, t4⟩ := st_4 (v1 := some (.obj d)) (v3 := none) (v4 := none) (v5 := none) S hl F4 hr
  have F5 := F4.old o5
  obtain ⟨us, σ₆, o6, Rs, t5⟩ := st_5 (v1 := some (.obj d)) (v2 := some (.obj nr)) (v3 := none) (v4 := none) (v5 := none) S hl F5
  have F6 := F5.old o6
  obtain ⟨σ₇, o7, t6⟩ := st_6 (v1 := some (.obj d)) (v2 := some (.obj nr)) (v4 := none) (v5 := none) S hl F6 Rs
  have F7 := F6.old o7
  have o47 := ((o4.trans o5).trans o6).trans o7
  obtain ⟨u, σ₈, k8, c8, R8, t7⟩ := st_7 (v1 := some (.obj d)) (v3 := some (.obj us)) (v4 := none) (v5 := none) S hl F7 ((o5.trans (o6.trans o7)).2 _ _ hr) (o47.2 _ _ (n3 4 (by decide) (by decide)))
  have F8 := F7.keep k8 (by decide)
  have m8 : ∀ k, 5 ≤ k → k ≤ 6 → σ₈[k]? = some (.cel none) := fun k a b => k8.2 _ _ (by simp; exact Nat.ne_of_gt (by assumption)) (o47.2 _ _ (n3 k (by exact Nat.le_of_lt (by assumption)) b))
  obtain ⟨σ₉, k9, c9, t8⟩ := st_8 (v1 := some (.obj d)) (v2 := some (.obj nr)) (v3 := some (.obj us)) (v4 := none) (v5 := none) S hl F8 (m8 5 (by decide) (by decide))
  have F9 := F8.keep k9 (by decide)
  have rk : ∀ {τ τ' : St} {a : Nat} {f : Nat → List PV}, Keep [a] τ τ' → (∃ o, τ[a]? = some (.cel o)) → RowsAt τ u L.length f → RowsAt τ' u L.length f := fun {τ τ' a f} k ⟨o, ho⟩ R => by
    obtain ⟨ks, r1, r2, r3⟩ := R
    exact ⟨ks, r1, k.2 _ _ (by simp; rintro rfl; rw [ho] at r2; cases r2) r2, fun i j h => k.2 _ _ (by simp; rintro rfl; have := r3 i _ h; rw [ho] at this; cases this) (r3 i j h)⟩
  have R9 := rk k9 ⟨_, m8 5 (by decide) (by decide)⟩ R8
  have c49 := k9.2 4 _ (by decide) c8
  have m9 := k9.2 6 _ (by decide) (m8 6 (by decide) (by decide))
  obtain ⟨σa, oa, t9⟩ := st_9 (v1 := some (.obj d)) (v2 := some (.obj nr)) (v3 := some (.obj us)) (v4 := none) (v5 := none) S hl F9 c49 R9 c9
  obtain ⟨σb, σc, kb, lb, cb, ob, Hc, t10⟩ := st_10 (v1 := some (.obj d)) (v2 := some (.obj nr)) (v3 := some (.obj us)) (v4 := none) (v5 := none) S (oa.2 _ _ m9)
  have Fb := (F9.old oa).keep kb (by decide)
  have Rb := rk kb ⟨_, oa.2 _ _ m9⟩ (R9.old oa)
  have c4b := kb.2 4 _ (by decide) (oa.2 _ _ c49)
  have c5b := kb.2 5 _ (by decide) (oa.2 _ _ c9)
  obtain ⟨σd, a, od, Hd, had, t11⟩ := st_11 (v1 := some (.obj d)) (v2 := some (.obj nr)) (v3 := some (.obj us)) (v4 := none) (v5 := none) S hl lb (by have := lt_of_get cb; exact this) c4b Rb c5b cb ob Hc
  refine nh ?_
  refine ⟨L, nS, nW, u, σa.length, a, some (.obj d), some (.obj nr), some (.obj us), σd, ?_, ⟨hl, od.2 _ _ Fb.tab, od.2 _ _ Fb.c2, od.2 _ _ Fb.l2, od.2 _ _ Fb.c3, od.2 _ _ Fb.l3, od.2 _ _ c4b, Rb.old od, od.2 _ _ cb, Hd, had⟩⟩
  unfold b_250
  rw [t0, t1, t2, t3, t4, t5, t6, t7, t8, t9, t10, t11]; rfl
theorem law_tail (S : SpF T) {u p a : Nat} (M : LawMid σ L nS nW u p a) {v : PV} (C : Chained L (seats (underOf L) 7 L.length).1 σ v σ') : ∃ r σ'', exs T b_250x (FL v1 v2 v3 (some (.obj a)) (some v)) σ' = some ((r, some (.bool true)), σ'') ∧ σ''[1]? = some (.tab false) := by
  refine byc fun nh => ?_
  obtain ⟨w, o, rfl, P, R, K, htab⟩ := C
  have O := ord_of L
  obtain ⟨Rr, Sg⟩ := stage O (k := 7) (by have := M.hl; exact Nat.lt_succ_of_le (by assumption)) L.length
  have hlen := heads_len Sg O M.hl
  have hdil := dilworth L M.hl Sg
  have ne : ∀ {k : Nat} {c : Cell}, σ[k]? = some c → (∀ b, c ≠ .tab b) → σ'[k]? = some c := fun {k c} h hc => K.2 _ _ (by simp; rintro rfl; rw [M.tab] at h; exact hc true (Option.some.inj h).symm) h
  have H' : HdAt σ' p (p + 1) (psOf (seats (underOf L) 7 L.length).1) := ⟨ne M.H.obj nofun, ne M.H.lst nofun, M.H.ok, M.H.few⟩
  have hrl : (rowF L L.length (underOf L) (seats (underOf L) 7 L.length).1 o).length = (headsOf L.length (underOf L) (seats (underOf L) 7 L.length).1).length := by unfold rowF; rw [List.length_map]
  have hr6 : (rowF L L.length (underOf L) (seats (underOf L) 7 L.length).1 o).length ≤ 6 := by have := M.hl; omega
  obtain ⟨σ₁, o1, t13⟩ := st_13 (v1 := v1) (v2 := v2) (v3 := v3) S (ne M.c3 nofun) (ne M.l3 nofun) (ne M.c6 nofun) H' (ne M.ha nofun) R (by omega) Sg.cnt.symm
  have hrow : ∀ r ∈ rowF L L.length (underOf L) (seats (underOf L) 7 L.length).1 o, r.length ≤ 6 ∧ ∀ i (h : i + 1 < r.length), subB r[i] r[i + 1] = true := fun r hr => by
    obtain ⟨j, _, rfl⟩ := List.mem_map.mp hr
    have l1 : (o.filter fun x => decide (root (underOf L) (seats (underOf L) 7 L.length).1 x = j)).length ≤ o.length := List.length_filter_le _ _
    rw [P.perm.length_eq, List.length_range] at l1
    refine ⟨by rw [List.length_map]; have := M.hl; solve_by_elim (maxDepth := 4) [Nat.le_trans, Nat.le_of_lt, Nat.lt_of_lt_of_le, Nat.lt_of_le_of_lt, Nat.le_succ, Nat.lt_succ_self,Nat.le_of_eq, Eq.symm, Nat.le_refl], fun i h => ?_⟩
    rw [List.length_map] at h
    rw [List.getElem_map, List.getElem_map]
    have := List.pairwise_iff_getElem.mp (row_up Sg O P j) i (i + 1) (by exact Nat.le_of_lt (by assumption)) h (Nat.lt_succ_self i)
    exact (below_iff.mp (under_mem.mp this).2.2).1
  obtain ⟨σ₂, o2, t14⟩ := st_14 (v1 := v1) (v2 := v2) (v3 := v3) (v4 := some (.obj a)) S hr6 (R.old o1) hrow
  have o12 := o1.trans o2
  have hat : (List.range L.length).map (at16 L) = L := by
    refine List.ext_getElem (by simp) fun i h1 h2 => ?_
    rw [List.getElem_map, List.getElem_range]
    show L.getD i 0 = _
    rw [List.getD_eq_getElem?_getD, List.getElem?_eq_getElem h2]; rfl
  have hperm : (rowF L L.length (underOf L) (seats (underOf L) 7 L.length).1 o).flatten.Perm L := by
    have := (rows_all Sg O M.hl P).map (at16 L)
    rw [hat, List.map_flatMap] at this
    unfold rowF
    refine (List.flatMap_def) ▸ ?_
    exact this
  obtain ⟨σ₃, o3, t15⟩ := st_15 (v1 := v1) (v2 := v2) (v3 := v3) (v4 := some (.obj a)) S M.hl hr6 ((R.old o12)) hperm (by omega) (o12.2 _ _ (ne M.c2 nofun)) (o12.2 _ _ (ne M.l2 nofun)) (o12.2 _ _ (ne M.c3 nofun)) (o12.2 _ _ (ne M.l3 nofun))
  refine nh ?_
  exact ⟨_, σ₃, by unfold b_250x; rw [t13, t14]; exact t15 _, (o12.trans o3).2 _ _ htab⟩
end
end Mine
end
section
namespace Mine
open PySem PyProof.Rows
theorem spU_of {T : Tab} (len : ∀ (vs : List PV), T.ap (.top (.builtin "len")) vs [] = bi "len" vs []) (range : ∀ (vs : List PV), T.ap (.top (.type "range")) vs [] = ty "range" vs []) (append : ∀ (vs : List PV), T.ap (.top (.builtin "list.append")) vs [] = bi "list.append" vs [])
    (mappend : ∀ {σ : St} {n : Nat} {xs : List PV}, σ[n]? = some (.lst xs) → T.mt σ (.obj n) "append" = some (.builtin "list.append")) (h59 : ∀ vs, T.ap (.top (.ref 59)) vs [] = pureFn T0 (cf 59 ["a", "b"]) 2 vs []) (h52 : ∀ vs, T.ap (.top (.ref 52)) vs [] = pureFn Ta (cf 52 ["a", "b", "max_cost"]) 3 vs []) : SpU T where
  len := len
  range := range
  append := append
  mappend := mappend
  coll := fun a b σ => by
    rw [h59, ke_59]
    obtain ⟨j, e⟩ := isInt_some (g_59 a b)
    exact pure_at e rfl
  lev := fun a b σ h => by
    rw [h52, ke_52, Ta_L]
    refine byc fun nh => ?_
    obtain ⟨i, j, e, h⟩ := levOk_some (g_52 a b h)
    refine nh ?_
    exact ⟨i, pure_at e rfl, h⟩
section
variable {σ : St} {n : Nat} {xs : List PV} {v : PV}
theorem Te_m_append (h : σ[n]? = some (.lst xs)) : Te.mt σ (.obj n) "append" = some (.builtin "list.append") := by
  simp only [Te, Te0, Td, Td0, Tc, Tr, Tb, Ta, T0, addSi, addFn, addV, addMt, addAt, addRe, mt0, mtAt, lstAt, h]; kernel_rfl
theorem Te_m_count (h : σ[n]? = some (.lst xs)) : Te.mt σ (.obj n) "count" = some (.builtin "list.count") := by
  simp only [Te, Te0, Td, Td0, Tc, Tr, Tb, Ta, T0, addSi, addFn, addV, addMt, addAt, addRe, mt0, mtAt, lstAt, h]; kernel_rfl
theorem Tb_m_append (h : σ[n]? = some (.lst xs)) : Tb.mt σ (.obj n) "append" = some (.builtin "list.append") := by
  simp only [Tb, Ta, T0, addFn, mt0, mtAt, lstAt, h]; kernel_rfl
theorem Te_m_get (h : σ[n]? = some (.inst 203 [("_headers", v)])) : Te.mt σ (.obj n) "get" = some (.ref 150) := by
  simp only [Te, Te0, Td, addSi, addFn, addV, addMt, mtAt, h]; kernel_rfl
theorem Te_m_keys (h : σ[n]? = some (.inst 203 [("_headers", v)])) : Te.mt σ (.obj n) "keys" = some (.ref 155) := by
  simp only [Te, Te0, Td, addSi, addFn, addV, addMt, mtAt, h]; kernel_rfl
theorem Te_m_items (h : σ[n]? = some (.inst 203 [("_headers", v)])) : Te.mt σ (.obj n) "items" = some (.ref 167) := by
  simp only [Te, Te0, Td, addSi, addFn, addV, addMt, mtAt, h]; kernel_rfl
theorem Te_m_add (h : σ[n]? = some (.inst 203 [("_headers", v)])) : Te.mt σ (.obj n) "add_header" = some (.ref 200) := by
  simp only [Te, Te0, Td, addSi, addFn, addV, addMt, mtAt, h]; kernel_rfl
theorem Te_m_all (h : σ[n]? = some (.inst 203 [("_headers", v)])) : Te.mt σ (.obj n) "get_all" = some (.ref 142) := by
  simp only [Te, Te0, Td, addSi, addFn, addV, addMt, mtAt, h]; kernel_rfl
theorem si_lst {i : PV} (h : σ[n]? = some (.lst xs)) : Te.si (.obj n) i v σ = seti (.obj n) i v σ := by
  show (match σ[n]? with
      | some (.inst C' _) => if C' == 203 then bnd (set118 Tc (del123 Tc) [.obj n, i, v] []) (fun _ => rt ()) σ else seti (.obj n) i v σ
      | _ => seti (.obj n) i v σ) = _
  refine Eq.symm (h) ▸ ?_
  rfl
theorem si_inst {t hs : Nat} {ps : List (Str × Str)} (H : HdAt σ t hs ps) {x v : Str} (hx : okN x = true) (hv : okV v = true) (hl : ps.length < 80) : ∃ σ', Te.si (.obj t) (.str x) (.str v) σ = some ((), σ') ∧ Keep [hs] σ σ' ∧ HdAt σ' t hs (hput x v ps) := by
  refine byc fun nh => ?_
  obtain ⟨σ', e, k, h⟩ := r_118 H hx hv hl
  refine nh ?_
  refine ⟨σ', ?_, k, h⟩
  show (match σ[t]? with
      | some (.inst C' _) => if C' == 203 then bnd (set118 Tc (del123 Tc) [.obj t, .str x, .str v] []) (fun _ => rt ()) σ else seti (.obj t) (.str x) (.str v) σ
      | _ => seti (.obj t) (.str x) (.str v) σ) = _
  rw [H.obj]
  show bnd (set118 Tc (del123 Tc) [.obj t, .str x, .str v] []) (fun _ => rt ()) σ = _
  rw [bnd_eq e]; rfl
end
theorem cl_run {T : Tab} {a : Addr} {ps : List Str} {n m : Nat} {vs : List PV} {σ : St} (h : vs.length = n) : cl T a ps (bdN n) m vs [] σ = (cf a ps).run T vs σ := by
  unfold cl callFn bdN
  rw [if_pos (by simp [h])]; rfl
theorem spU_b : SpU Tb := spU_of (fun _ => by kernel_rfl) (fun _ => by kernel_rfl) (fun _ => by kernel_rfl) Tb_m_append (fun _ => by kernel_rfl) (fun _ => by kernel_rfl)
theorem spU_e : SpU Te := spU_of (fun _ => by kernel_rfl) (fun _ => by kernel_rfl) (fun _ => by kernel_rfl) Te_m_append (fun _ => by kernel_rfl) (fun _ => by kernel_rfl)
theorem spU_f : SpU Tf := spU_of (fun _ => by kernel_rfl) (fun _ => by kernel_rfl) (fun _ => by kernel_rfl) Te_m_append (fun _ => by kernel_rfl) (fun _ => by kernel_rfl)
theorem spS_k (k : Nat) : SpS (addFn Te 228 (seatF k)) (seatF k) where
  append := fun _ => by kernel_rfl
  mappend := Te_m_append
  int := fun _ => by kernel_rfl
  mget := Te_m_get
  get := fun {σ t hs ps} H {x} hx => by
    have e : (addFn Te 228 (seatF k)).ap (.top (.ref 150)) [.obj t, .str x] [] = cl Tc 150 ["self", "name", "default"] (bdD 2) 0 [.obj t, .str x] [] := by kernel_rfl
    refine Eq.symm (e) ▸ ?_
    refine Eq.symm (r_150 H hx) ▸ ?_
    cases getF (low x) ps <;> rfl
  set := si_inst
  seat := fun _ _ => rfl
theorem spW_k (k : Nat) : SpW (addFn Te 245 (widthF k)) (widthF k) where
  max := fun _ => by kernel_rfl
  width := fun _ _ => rfl
theorem spC_e : SpC Te where
  u := spU_e
  index := fun _ => by kernel_rfl
  mindex := fun _ _ => by kernel_rfl
  upper := fun _ => by kernel_rfl
  mupper := fun _ _ => by kernel_rfl
  lower := fun _ => by kernel_rfl
  mlower := fun _ _ => by kernel_rfl
  new := fun σ => by
    have e : Te.ap (.top (.ref 203)) [] [] = newFn 203 (cl Tc 97 ["self", "headers"] (bdD 1) 1) [] [] := by kernel_rfl
    rw [e]; exact r_203
  mitems := Te_m_items
  madd := Te_m_add
  mall := Te_m_all
  items := fun {σ t hs ps} H => by
    have e : Te.ap (.top (.ref 167)) [.obj t] [] = cl Tc 167 ["self"] (bdN 1) 1 [.obj t] [] := by kernel_rfl
    rw [e]; exact r_167 H
  add := fun _ _ => by kernel_rfl
  all := fun {σ t hs ps} H {x} hx => by
    have e : Te.ap (.top (.ref 142)) [.obj t, .str x] [] = cl Tc 142 ["self", "name"] (bdN 2) 0 [.obj t, .str x] [] := by kernel_rfl
    rw [e]; exact r_142 H hx
  si := si_lst
theorem spF_f : SpF Tf where
  u := spU_f
  max := fun _ => by kernel_rfl
  sorted := fun _ => by kernel_rfl
  count := fun _ => by kernel_rfl
  mcount := Te_m_count
  p214 := fun a σ => by
    have e : ∀ vs, Tf.ap (.top (.ref 214)) vs [] = pureFn T0 (cf 214 ["number"]) 1 vs [] := fun _ => by kernel_rfl
    rw [e, ke_214]
    obtain ⟨j, e⟩ := isStr_some (g_214 a)
    exact pure_at e rfl
  p52 := fun a σ => by
    have e : ∀ vs, Tf.ap (.top (.ref 52)) vs [] = pureFn Ta (cf 52 ["a", "b", "max_cost"]) 3 vs [] := fun _ => by kernel_rfl
    rw [e, ke_52, Ta_L]
    obtain ⟨j, e⟩ := isInt_some (g_rank a)
    exact pure_at e rfl
  under := fun {σ L nw nr} hl hw hr => by
    have e : ∀ vs, Tf.ap (.top (.ref 221)) vs [] = cl Tb 221 ["words", "ranks"] (bdN 2) 0 vs [] := fun _ => by kernel_rfl
    rw [e, cl_run (n := 2) rfl, ke_221]
    exact r_221 spU_b hl hw hr
  new := spC_e.new
  mkeys := Te_m_keys
  keys := fun {σ t hs ps} H => by
    have e : ∀ vs, Tf.ap (.top (.ref 155)) vs [] = cl Tc 155 ["self"] (bdN 1) 1 vs [] := fun _ => by kernel_rfl
    rw [e]; exact r_155 H
  seat := fun {n under} O h6 {σb ru t hs nt} R high tb σ K hh H b tb' tr' es => by
    have e : ∀ vs, Tf.ap (.top (.ref 228)) vs [] = seatF 7 vs [] := fun _ => by kernel_rfl
    rw [e]
    exact seat_ev O h6 (fun k => addFn Te 228 (seatF k)) seatF spS_k (fun k vs σ hv => by rw [seatF, cl_run hv, ke_228]) R 7 high tb [] σ (by simp; exact Nat.lt_succ_of_le (by assumption)) List.nodup_nil nofun K hh H b tb' tr' es
  adds := fun {σ n ws} hl h hp => by
    have e : ∀ vs, Tf.ap (.top (.ref 240)) vs [] = cl Te 240 ["row"] (bdN 1) 0 vs [] := fun _ => by kernel_rfl
    rw [e, cl_run (n := 1) rfl, ke_240]
    exact r_240 spU_e hl h hp
  width := fun {σ n L} hl h => by
    have e : ∀ vs, Tf.ap (.top (.ref 245)) vs [] = widthF 7 vs [] := fun _ => by kernel_rfl
    rw [e]
    exact width_ev (fun k => addFn Te 245 (widthF k)) widthF spW_k (fun k vs σ hv => by rw [widthF, cl_run hv, ke_245]) 6 L σ n hl (by decide) h
end Mine
end
section
namespace Mine
open PySem PyProof.Rows
theorem room_13 : Room 13 callerA := ⟨by decide +kernel, by decide +kernel, rfl⟩
noncomputable def vStr : Value → Str | .str s _ => s | _ => ""
noncomputable def vTok : Value → Tok | .str _ t => t | .int _ t => t | _ => 0
noncomputable def vInt : Value → Int | .int i _ => i | _ => 0
noncomputable def vBool : Value → Bool | .bool b => b | _ => false
noncomputable def oFs : Obj → Array Value | ⟨_, _, .fields vs, _⟩ => vs | _ => #[]
noncomputable def objD (P : Params) : Obj := ((K1 P).lookup 232).getD default
noncomputable def fs232 (P : Params) : Array Value := oFs (objD P)
theorem hd_232 {P : Params} {h : Heap} (X : (K1 P).In h) : PySem.W.CodeHd h 232 230 :=
  ⟨objD P, fs232 P, vStr ((fs232 P).getD 18 .none), vTok ((fs232 P).getD 18 .none), vInt ((fs232 P).getD 7 .none), vTok ((fs232 P).getD 7 .none), vBool ((fs232 P).getD 9 .none), vInt ((fs232 P).getD 10 .none), vTok ((fs232 P).getD 10 .none),
    X 232 _ (by kernel_rfl), by kernel_rfl, by kernel_rfl, by kernel_rfl, by kernel_rfl, by kernel_rfl, by kernel_rfl, by kernel_rfl, by kernel_rfl, by decide⟩
theorem no_tabs (P : Params) : PySem.W.noTabs (K1 P) = true := by kernel_rfl
section
variable {prog : Program} {w : World} {h₀ : Heap} {P : Params}
theorem law_run (X : (K1 P).In h₀) (hl : h₀.NoLimit) (Gl : Globs h₀ G1) {l Pt : Addr} (L : LamOk h₀ 232 Pt) {s : Shared} {zz : List Int} (I : Inv h₀ [(l, l), (Pt, Pt)] [.const (zz.map .int), .tab true] s.heap) :
    W prog w callerA (call (.ref 250) [.ref l] []) s fun u h' => u = .bool true ∧ ∃ φ' σ', Inv h₀ φ' σ' h' ∧ φ'[1]? = some (Pt, Pt) ∧ σ'[1]? = some (.tab false) := by
  have D := wd_f (prog := prog) (w := w) X hl Gl
  have De : Wd prog w h₀ G1 Te 11 := (wd_e X hl Gl).up (by decide)
  have Cf := cf_250
  replace Cf := (ke_250) ▸ Cf
  have hn : ∀ k, 2 ≤ k → k ≤ 6 → ([.const (zz.map .int), .tab true, .cel none, .cel none, .cel none, .cel none, .cel none] : St)[k]? = some (.cel none) := fun k a b => by
    match k, a, b with
    | 2, _, _ => rfl
    | 3, _, _ => rfl
    | 4, _, _ => rfl
    | 5, _, _ => rfl
    | 6, _, _ => rfl
  refine byc fun nh => ?_
  obtain ⟨L', nS, nW, u, p, a, v1, v2, v3, σ₃, e1, M⟩ := law_head (σ := [.const (zz.map .int), .tab true, .cel none, .cel none, .cel none, .cel none, .cel none]) spF_f rfl rfl hn
  obtain ⟨Rr, Sg⟩ := stage (ord_of L') (k := 7) (by have := M.hl; exact Nat.lt_succ_of_le (by assumption)) L'.length
  obtain ⟨ks, σ₁, fm, σ₂, fm1, σ₄, kU, C⟩ := chains_run spC_e Sg M.hl (tbOk_of M.hl (Nat.le_refl _)) M.tab M.H M.l3 M.R
  have R0 : RVs [(l, l), (Pt, Pt)] s.heap [.obj 0] [.ref l] := .cons (.obj (p := (l, l)) rfl) .nil
  refine nh ?_
  refine (run_rel (Out := fun v σ' => v = .bool true ∧ σ'[1]? = some (.tab false)) (b := (stmtsOf (fdIn K1 250).body).take 12 ++ nthS (stmtsOf (fdIn K1 250).body) 12 :: (stmtsOf (fdIn K1 250).body).drop 13) room_13 (Cf.eq ▸ fnOk_of X hl (look_250 P) (ok_250 P)) Cf.blk Cf.pms I ((bind_plain (fd := fdIn K1 250) (ps := ["script"]) (bind_250 _) rfl I R0).mono fun binds h₁ x => ?_)).mono fun u h' x => ?_
  · obtain ⟨φ₁, S₁, I₁, hn, r₁⟩ := x
    refine ⟨φ₁, [.obj 0], [6, 5, 4, 3, 2], [.const (zz.map .int), .tab true, .cel none, .cel none, .cel none, .cel none, .cel none], FL none none none none none, _, S₁, I₁, hn, r₁, by rw [Cf.nc]; rfl, by rw [Cf.nl]; rfl, fun A env s φ' R E I F _ _ _ hφ' => ?_⟩
    refine sp_body D R E (Out := fun v σ' => v = .bool true ∧ σ'[1]? = some (.tab false)) (code := env.code) (φ₀ := φ₁) (X := fun fm' σ' => ∃ v, Chained L' (seats (underOf L') 7 L'.length).1 σ₃ v σ' ∧ fm' = ⟨(FL v1 v2 v3 (some (.obj a)) none).ρ.set 5 (some v), [6, 5, 4, 3, 2]⟩) rfl hφ' Cf.mb Cf.mb2 e1 ?_ (fun fm2 σ₅ hx => ?_) I F
    · intro A env s φ₂ R E _ hφ₂ I F
      show W prog w A (exec sR env) s _
      refine Eq.symm (sR_eq) ▸ ?_
      refine st_rel (φ₀ := φ₁) (σ₁ := σ₃) (vs := [.obj p, .obj nW, .obj u]) (uf := .ref 233) (i := 5) D R E (by decide +kernel) (by kernel_rfl) (by decide) aR_ok (by kernel_rfl) ?_ (kept_fn X (keep_233 P)) hφ₂ (fun s φ us hφ I r => ?_) I F
      · rw [ke_aR, q_cons, bnd_eq (ev_cell rfl M.c6), bnd_eq (a := [.obj nW, .obj u]) (σ₁ := σ₃) (by rw [q_cons, bnd_eq (ev_cell rfl M.c3), bnd_eq (a := [.obj u]) (σ₁ := σ₃) (by rw [q_cons, bnd_eq (ev_cell rfl M.c4)]; rfl)]; rfl)]; rfl
      · have hT : φ[1]? = some (Pt, Pt) := by
          obtain ⟨ψ, rfl⟩ := S₁.ext.trans hφ
          rfl
        exact chains_snd De X hl L C rfl R hT I r
    · obtain ⟨v, hC, rfl⟩ := hx
      obtain ⟨r, σ₆, e, ht⟩ := law_tail (v1 := v1) (v2 := v2) (v3 := v3) spF_f M hC
      exact ⟨r, some (.bool true), σ₆, e, rfl, ht⟩
  · obtain ⟨v, σ', ⟨rfl, ht⟩, φ', S, I', q⟩ := x
    refine ⟨q.i_bool, φ', σ', I', ?_, ht⟩
    obtain ⟨ψ, rfl⟩ := S.ext
    rfl
end
theorem rvs_ints {φ : Phi} {h : Heap} {vals : List Value} {zz : List Int} (H : IntsAre vals zz) : RVs φ h (zz.map PV.int) vals := by
  induction H with
  | nil => exact .nil
  | cons _ _ _ ih => exact .cons (.int _ _) ih
theorem inv_start {h : Heap} {l Pt : Addr} {vals : List Value} {zz : List Int} (hT : PySem.W.TabsAt [(232, Pt)] h) (hL : h.IsList l vals.toArray) (hI : IntsAre vals zz) (hz : zz.length ≤ 20000) : Inv (PySem.W.ghostOf h [(232, Pt)]) [(l, l), (Pt, Pt)] [.const (zz.map .int), .tab true] h where
  base := fun b o e => PySem.W.of_hideAll _ e
  sz := Nat.le_of_eq (PySem.W.hideAll_size _ _)
  low := fun i p c hp hc hn => by
    match i with
    | 0 => cases hc; cases hn
    | 1 => cases hc; cases hn
    | i + 2 => exact nsm hc
  len := rfl
  nd := by
    have hne : l ≠ Pt := fun e => by
      obtain ⟨o, g, hc, _⟩ := hL
      have := (hT _ (.head _)).2
      replace g := (e) ▸ g
      replace this := (g) ▸ this
      obtain rfl := smi this
      exact absurd hc (by decide)
    simpa using hne
  at_ := fun i c p hc hp => by
    match i with
    | 0 =>
      cases hc; cases hp
      exact ⟨rfl, by rw [List.length_map]; exact hz, vals, hL, rvs_ints hI⟩
    | 1 =>
      cases hc; cases hp
      exact ⟨rfl, _, (hT _ (.head _)).2, fun _ => rfl⟩
    | i + 2 => exact nsm hc
theorem lawJoin {prog : Program} {w : World} {s₁ : Shared} {mg mb : Str → Option Value} {p : Program} {loose : List Str} {mean : ExcName → Option Value} {Pt : Addr} (T : Top p loose mean mg mb s₁.heap) (KX : (K1 w.params).In s₁.heap) (hT : PySem.W.TabsAt [(232, Pt)] s₁.heap) {l : Addr} {vals : List Value} {zz : List Int}
    (hL : s₁.heap.IsList l vals.toArray) (hI : IntsAre vals zz) (hz : zz.length ≤ 20000) :
    W prog w callerA (call (.ref 250) [.ref l] []) s₁ fun u h' => u = .bool true ∧ (∀ b o, b ≠ Pt → s₁.heap.get? b = some o → h'.get? b = some o) ∧ ∃ ps, h'.get? Pt = some (PySem.W.tabObj ps) := by
  have X := PySem.W.ghost_K hT KX (no_tabs _)
  have T' := PySem.W.ghost_top hT T
  have hP := (hT _ (.head _)).2
  have L : LamOk (PySem.W.ghostOf s₁.heap [(232, Pt)]) 232 Pt := by
    refine ⟨(PySem.W.ghost_code hT).1, PySem.W.hideAll_none _ (by exact List.mem_cons_self), mg, T'.g, fun q => ?_, ?_⟩
    · obtain ⟨o, es, ep, e, hd, _⟩ := T.g
      rw [q, hP] at e; cases e; cases hd
    · obtain ⟨bm, ob, b1, b2, b3, b4, b5, b6⟩ := T'.bmain
      refine ⟨bm, ob, b1, b2, fun q => ?_, fun q => ?_, b3, b4, b5, b6⟩
      · obtain ⟨o, es, ep, e, hd, _⟩ := T'.g
        rw [q, e] at b3; cases b3; rw [hd] at b6; cases b6
      · have := PySem.W.of_hideAll _ b3
        rw [q, hP] at this; cases this; cases b4
  refine (law_run X T'.nolimit (globs_of X T'.g T'.b T'.builtins (g1_ok w.params)) L (inv_start hT hL hI hz)).mono fun u h' x => ?_
  refine byc fun nh => ?_
  obtain ⟨hu, φ', σ', I', hp, ht⟩ := x
  refine nh ?_
  refine ⟨hu, fun b o hb e => I'.base b o (PySem.W.ghost_ne e (by simpa using hb)), ?_⟩
  refine byc fun nh => ?_
  obtain ⟨_, ps, g, _⟩ := I'.at_ 1 _ _ ht hp
  refine nh ?_
  exact ⟨ps, g⟩
end Mine
end
set_option tactic.hygienic true
open PySem PySem.W PyProof.Rows
noncomputable def Mine.law2.tw428184282938912 : Program := Challenge.pw_st0030_02
theorem Mine.law2.te428184282938912 : Challenge.pw_st0030_02 = Mine.law2.tw428184282938912 := by kernel_rfl
set_option Elab.async true in
theorem Mine.law2 : PySem.Challenge.rw_st0030_02.Holds := by
  w_on
  o_law
  k_head
  (case hw => w_witness2)
  k_fill
  intro w s₀ s₁ mg mb G Y fa o pm cd doc dV kV ho hdd hcd hD hmg hg args vals as hpre hlay hrd hwl hlo
  have KX : (Mine.K1 w.params).In s₁.heap := km_in_of Y
  refine Ground.open G ?_
  intro T B D TE TW
  wrow_args hpre hlay hrd hwl hlo
  rename_i zz hs hlay0 hL1 hr1 hl2 as1 as2 l vs as3 hL ra w1 r0 hI hr hcond hcond2
  x_fa T KX hmg
  have hT : TabsAt [(232, 230)] s₁.heap := by
    intro q hq
    obtain rfl := List.mem_singleton.mp hq
    exact ⟨Mine.hd_232 KX, km_tabs_of Y 230 (List.mem_singleton.mpr rfl)⟩
  refine wpAny_mono (Mine.lawJoin T KX hT hL hI (by omega)) (fun u s' hu => ?_) (fun _ _ e => ?_)
  · obtain ⟨h', tk, rfl, rfl, hk, ps, hps⟩ := hu
    have hP := (hT _ (.head _)).2
    have hc := ((hT _ (.head _)).1.tab hP).isCodeTable
    refine ⟨.inl ⟨_, .bool true, [], rfl, fun _ => rfl, ReadsW.bool true, ?_, fun _ => ⟨List.nodup_nil, fun _ hm => (nomatch hm)⟩⟩, ⟨fun b o e => ?_, fun b o e => ?_⟩, rfl, .of_eq hg⟩
    · kernel_rfl
    · by_cases hb : b = 230
      · subst hb
        rw [hP] at e
        obtain rfl := Option.some.inj e
        exact .inr (.inl ⟨hc, rfl, #[], ps, rfl, by rw [Array.empty_append]; exact hps⟩)
      · exact .inl (hk b o hb e)
    · by_cases hb : b = 230
      · subst hb
        exact ⟨_, hps⟩
      · exact ⟨o, hk b o hb e⟩
  · cases e
theorem PySem.Challenge.cw_st0030_02_holds : PySem.Challenge.rw_st0030_02.Holds :=
  Mine.law2
