import PyProof.Rows.All
import Wide.All
import OpenK.AllK
import Wide.FinOn
import PySem.Challenge.RW_te0060_02
set_option Elab.async false
section
open PySem PySem.W PyProof.Rows
set_option Elab.async false
set_option autoImplicit false
namespace Mine
inductive PV where
 | none | bool (b : Bool) | int (i : Int) | str (x : List Nat)
 | tup (xs : List PV) | list (xs : List PV) | inst (c : Nat) (fs : List PV)
 | rng (lo hi : Int) | ptr (a : Nat)
 deriving Inhabited
inductive Fl where
 | next | brk | cont | ret (v : PV)
inductive Cell where
 | lst (xs : List PV) | ins (c : Nat) (fs : List (Option PV))
noncomputable abbrev dD := Str -> Option PV
noncomputable abbrev Kn := Str -> Option NameKind
structure St where
 ρ : dD
 σ : Nat -> Option Cell
noncomputable section
noncomputable def upd (ρ : dD) (x : Str) (v : PV) : dD := fun y => if y = x then some v else ρ y
noncomputable def a7 (σ : Nat -> Option Cell) (a : Nat) (c : Cell) : Nat -> Option Cell := fun b => if b = a then some c else σ b
noncomputable abbrev Fn := List PV -> (PV -> Prop) -> Prop
structure Ctx where
 val : Str -> Option PV
 fn : Str -> Option Fn
 bi : Str -> Bool
 slot : Nat -> Str -> Option Nat
 cval : Nat -> Str -> Option PV
 mutL : Nat -> Bool
 cls : Str -> Option Fn
 ini : Bool
/-! what a value is, as a step -/
noncomputable def mP {α : Type} (o : Option α) (d : Prop) (K : α -> Prop) : Prop := Option.casesOn (motive := fun _ => Prop) o d K
noncomputable def opt {α : Type} (o : Option α) (K : α -> Prop) : Prop := mP o False K
noncomputable def pvc {α : Sort _} (d : α) (n : α) (b : Bool -> α) (i : Int -> α) (s : List Nat -> α) (t l : List PV -> α) (p : Nat -> α) (v : PV) : α := PV.casesOn (motive_1 := fun _ => α) v n b i s t l (fun _ _ => d) (fun _ _ => d) p
noncomputable def asI (v : PV) (K : Int -> Prop) : Prop := pvc False False (fun _ => False) K (fun _ => False) (fun _ => False) (fun _ => False) (fun _ => False) v
noncomputable def asS (v : PV) (K : List Nat -> Prop) : Prop := pvc False False (fun _ => False) (fun _ => False) K (fun _ => False) (fun _ => False) (fun _ => False) v
noncomputable def asT (v : PV) (K : List PV -> Prop) : Prop := pvc False False (fun _ => False) (fun _ => False) (fun _ => False) K (fun _ => False) (fun _ => False) v
noncomputable def asL (v : PV) (K : List PV -> Prop) : Prop := pvc False False (fun _ => False) (fun _ => False) (fun _ => False) (fun _ => False) K (fun _ => False) v
noncomputable def asP (v : PV) (K : Nat -> Prop) : Prop := pvc False False (fun _ => False) (fun _ => False) (fun _ => False) (fun _ => False) (fun _ => False) K v
noncomputable def one {α : Type} (xs : List α) (K : α -> Prop) : Prop := List.casesOn (motive := fun _ => Prop) xs False fun a r => List.casesOn (motive := fun _ => Prop) r (K a) fun _ _ => False
noncomputable def two {α : Type} (xs : List α) (K : α -> α -> Prop) : Prop := List.casesOn (motive := fun _ => Prop) xs False fun a r => one r (K a)
noncomputable def lM {α : Type} (xs : List α) (K : α -> α -> α -> Prop) : Prop := List.casesOn (motive := fun _ => Prop) xs False fun a r => two r (K a)
theorem dS {α : Type} {o : Option α} {A A' : Prop} {K K' : α -> Prop} (h : A -> A') (k : ∀ a, K a -> K' a) (x : mP o A K) : mP o A' K' := by cases o; exact h x; exact k _ x
theorem gI {α : Type} {A : Prop} {K : α -> Prop} : mP none A K = A := rfl
theorem gJ {α : Type} {a : α} {K : α -> Prop} : opt (some a) K = K a := rfl
theorem bJ {α : Type} {o : Option α} {K : α -> Prop} (h : opt o K) : ∃ a, o = some a /\ K a := by cases o; exact h.elim; exact ⟨_, rfl, h⟩
theorem a6 {α : Type} {o : Option α} {K K' : α -> Prop} (k : ∀ a, K a -> K' a) (h : opt o K) : opt o K' := by cases o; exact h; exact k _ h
theorem cA {v : PV} {K : Int -> Prop} (h : asI v K) : ∃ i, v = .int i /\ K i := by cases v <;> first | exact ⟨_, rfl, h⟩ | exact False.elim h
theorem c8 {v : PV} {K : List Nat -> Prop} (h : asS v K) : ∃ i, v = .str i /\ K i := by cases v <;> first | exact ⟨_, rfl, h⟩ | exact False.elim h
theorem n7 {v : PV} {K : List PV -> Prop} (h : asL v K) : ∃ i, v = .list i /\ K i := by cases v <;> first | exact ⟨_, rfl, h⟩ | exact False.elim h
theorem sB {v : PV} {K : Nat -> Prop} (h : asP v K) : ∃ i, v = .ptr i /\ K i := by cases v <;> first | exact ⟨_, rfl, h⟩ | exact False.elim h
theorem dT {α : Type} {xs : List α} {K : α -> Prop} (h : one xs K) : ∃ a, xs = [a] /\ K a := by
 cases xs with
 | nil => exact False.elim h
 | cons a r => cases r; exact ⟨_, rfl, h⟩; exact False.elim h
theorem qC {α : Type} {xs : List α} {K : α -> α -> Prop} (h : two xs K) : ∃ a b, xs = [a, b] /\ K a b := by
 cases xs with
 | nil => exact False.elim h
 | cons a r => obtain ⟨b, e, k⟩ := dT h; exact ⟨a, b, by rw [e], k⟩
theorem lL {α : Type} {xs : List α} {K : α -> α -> α -> Prop} (h : lM xs K) : ∃ a b c, xs = [a, b, c] /\ K a b c := by
 cases xs with
 | nil => exact False.elim h
 | cons a r => obtain ⟨b, c, e, k⟩ := qC h; exact ⟨a, b, c, by rw [e], k⟩
theorem a9 {v : PV} {K K' : Int -> Prop} (k : ∀ i, K i -> K' i) (h : asI v K) : asI v K' := by obtain ⟨i, rfl, h⟩ := cA h; exact k i h
theorem bR {v : PV} {K K' : List Nat -> Prop} (k : ∀ i, K i -> K' i) (h : asS v K) : asS v K' := by obtain ⟨i, rfl, h⟩ := c8 h; exact k i h
theorem iV {v : PV} {K K' : List PV -> Prop} (k : ∀ i, K i -> K' i) (h : asL v K) : asL v K' := by obtain ⟨i, rfl, h⟩ := n7 h; exact k i h
theorem mL {v : PV} {K K' : Nat -> Prop} (k : ∀ i, K i -> K' i) (h : asP v K) : asP v K' := by obtain ⟨i, rfl, h⟩ := sB h; exact k i h
theorem cG {α : Type} {xs : List α} {K K' : α -> Prop} (k : ∀ a, K a -> K' a) (h : one xs K) : one xs K' := by obtain ⟨a, rfl, h⟩ := dT h; exact k a h
theorem qB {α : Type} {xs : List α} {K K' : α -> α -> Prop} (k : ∀ a b, K a b -> K' a b) (h : two xs K) : two xs K' := by obtain ⟨a, b, rfl, h⟩ := qC h; exact k a b h
theorem kK {α : Type} {xs : List α} {K K' : α -> α -> α -> Prop} (k : ∀ a b c, K a b c -> K' a b c) (h : lM xs K) : lM xs K' := by obtain ⟨a, b, c, rfl, h⟩ := lL h; exact k a b c h
noncomputable def eI (c : Option Cell) : Option (List PV) := Option.casesOn (motive := fun _ => Option (List PV)) c none fun c => Cell.casesOn (motive := fun _ => Option (List PV)) c some fun _ _ => none
noncomputable def der (σ : Nat -> Option Cell) (v : PV) : PV := pvc v v (fun _ => v) (fun _ => v) (fun _ => v) (fun _ => v) (fun _ => v) (fun a => Option.casesOn (motive := fun _ => PV) (eI (σ a)) v .list) v
noncomputable def qF (v : PV) : Option Bool := pvc none (some false) some (fun i => some (decide (i ≠ 0))) (fun x => some (!x.isEmpty)) (fun xs => some (!xs.isEmpty)) (fun xs => some (!xs.isEmpty)) (fun _ => none) v
noncomputable def eV (n : Nat) (i : Int) : Nat := if i < 0 then (i + n).toNat else min i.toNat n
noncomputable def slc {α : Type} (xs : List α) (lo hi : Option Int) : List α :=
 (xs.drop ((lo.map (eV xs.length)).getD 0)).take ((hi.map (eV xs.length)).getD xs.length - (lo.map (eV xs.length)).getD 0)
noncomputable def mD {α : Type} (xs : List α) (i : Int) : Option α :=
 if i < 0 then (if 0 <= i + xs.length then xs[(i + xs.length).toNat]? else none) else xs[i.toNat]?
noncomputable def kZ (x : List Nat) : List Nat -> Bool
 | [] => x.isEmpty
 | c :: y => x.isPrefixOf (c :: y) || kZ x y
noncomputable def zcG (v : PV) : Option (List Nat) := pvc none none (fun _ => none) (fun _ => none) some (fun _ => none) (fun _ => none) (fun _ => none) v
noncomputable def zas (v : PV) : Option Int := pvc none none (fun _ => none) some (fun _ => none) (fun _ => none) (fun _ => none) (fun _ => none) v
noncomputable def eM : List PV -> Option (List (List Nat))
 | [] => some []
 | v :: r => (zcG v).bind fun x => (eM r).map (x :: ·)
noncomputable def jK : List PV -> Option (List Int)
 | [] => some []
 | v :: r => (zas v).bind fun x => (jK r).map (x :: ·)
noncomputable def a0 : Nat := 16777216
noncomputable def zdp (a b : PV) (K : PV -> Prop) : Prop :=
 pvc False False (fun _ => False) (fun x => asI b fun y => K (.int (x + y))) (fun x => asS b fun y => x.length + y.length <= a0 /\ K (.str (x ++ y))) (fun _ => False) (fun _ => False) (fun _ => False) a
noncomputable def addL (a b : PV) (K : PV -> Prop) : Prop := asL a fun x => asL b fun y => x.length + y.length <= a0 /\ K (.list (x ++ y))
noncomputable def zdu (a b : PV) (K : PV -> Prop) : Prop := asI a fun x => asI b fun y => K (.int (x - y))
noncomputable def modP (a b : PV) (K : PV -> Prop) : Prop := asI a fun x => asI b fun y => 0 < y /\ K (.int (x % y))
noncomputable def opK {α : Sort _} (add sub mod d : α) (op : Operator) : α := Operator.casesOn (motive := fun _ => α) op add sub d d d mod d d d d d d d
noncomputable def isL (v : PV) : Bool := pvc false false (fun _ => false) (fun _ => false) (fun _ => false) (fun _ => false) (fun _ => true) (fun _ => false) v
noncomputable def zdC (op : Operator) (a b : PV) (K : PV -> Prop) : Prop := opK (if isL a = true then addL a b K else zdp a b K) (zdu a b K) (modP a b K) False op
noncomputable def inP (op : Operator) (a b : PV) (K : PV -> Prop) : Prop := opK (zdp a b K) (zdu a b K) False False op
mutual
noncomputable def Res (σ : Nat -> Option Cell) (v : PV) : PV -> Prop
 | .tup ts => ∃ xs, v = .tup xs /\ n9 σ xs ts
 | .list ts => (∃ xs, v = .list xs /\ n9 σ xs ts) \/ (∃ a xs, v = .ptr a /\ σ a = some (.lst xs) /\ n9 σ xs ts)
 | .inst c ts => ∃ xs, v = .inst c xs /\ n9 σ xs ts
 | .none => v = .none
 | .bool b => v = .bool b
 | .int i => v = .int i
 | .str x => v = .str x
 | .rng a b => v = .rng a b
 | .ptr _ => False
noncomputable def n9 (σ : Nat -> Option Cell) (xs : List PV) : List PV -> Prop
 | [] => xs = []
 | t :: ts => ∃ y ys, xs = y :: ys /\ Res σ y t /\ n9 σ ys ts
end
mutual
noncomputable def plain : PV -> Bool
 | .none => true
 | .int _ => true
 | .str _ => true
 | .tup xs => eN xs
 | .list xs => eN xs
 | .bool _ => false
 | .inst _ _ => false
 | .rng _ _ => false
 | .ptr _ => false
noncomputable def eN : List PV -> Bool
 | [] => true
 | x :: xs => plain x && eN xs
end
mutual
noncomputable def dep : PV -> Nat
 | .tup xs => zcv xs + 1
 | .list xs => zcv xs + 1
 | .none => 0
 | .int _ => 0
 | .str _ => 0
 | .bool _ => 0
 | .inst _ _ => 0
 | .rng _ _ => 0
 | .ptr _ => 0
noncomputable def zcv : List PV -> Nat
 | [] => 0
 | x :: xs => max (dep x) (zcv xs)
end
noncomputable def eqS (a b : PV) : Option Bool :=
 pvc none none (fun x => PV.casesOn (motive_1 := fun _ => Option Bool) b none (fun y => some (decide (x = y))) (fun _ => none) (fun _ => none) (fun _ => none) (fun _ => none) (fun _ _ => none) (fun _ _ => none) (fun _ => none))
  (fun x => (zas b).map fun y => decide (x = y)) (fun x => pvc none (some false) (fun _ => none) (fun _ => none) (fun y => some (decide (x = y))) (fun _ => none) (fun _ => none) (fun _ => none) b) (fun _ => none) (fun _ => none) (fun _ => none) a
open Classical in
noncomputable def eqW (σ : Nat -> Option Cell) (a b : PV) (K : Bool -> Prop) : Prop :=
 mP (eqS a b) (∃ ta tb, Res σ a ta /\ Res σ b tb /\ plain ta = true /\ plain tb = true /\ dep ta <= 4000 /\ K (decide (ta = tb))) K
noncomputable def leS : List Nat -> List Nat -> Bool
 | [], _ => true
 | a :: x, y => List.casesOn (motive := fun _ => Bool) y false fun b y => if a = b then leS x y else decide (a < b)
noncomputable def isW (a b : PV) (K : Bool -> Prop) : Prop :=
 pvc False (pvc False (K true) (fun _ => False) (fun _ => K false) (fun _ => False) (fun _ => False) (fun _ => False) (fun _ => False) a)
  (fun y => pvc False False (fun x => K (decide (x = y))) (fun _ => False) (fun _ => False) (fun _ => False) (fun _ => False) (fun _ => False) a) (fun _ => False) (fun _ => False) (fun _ => False) (fun _ => False) (fun _ => False) b
noncomputable def inW (a b : PV) (K : Bool -> Prop) : Prop := asS a fun x =>
 pvc False False (fun _ => False) (fun _ => False) (fun y => K (kZ x y)) (fun ys => ∃ zs, eM ys = some zs /\ K (decide (x ∈ zs))) (fun _ => False) (fun _ => False) b
noncomputable def ltP (a b : PV) (K : Bool -> Prop) : Prop := asI a fun x => asI b fun y => K (decide (x < y))
noncomputable def gtP (a b : PV) (K : Bool -> Prop) : Prop := asI a fun x => asI b fun y => K (decide (y < x))
noncomputable def leP (a b : PV) (K : Bool -> Prop) : Prop :=
 pvc False False (fun _ => False) (fun x => asI b fun y => K (decide (x <= y))) (fun x => asS b fun y => K (leS x y)) (fun _ => False) (fun _ => False) (fun _ => False) a
noncomputable def zbk (σ : Nat -> Option Cell) (op : CmpOp) (a b : PV) (K : Bool -> Prop) : Prop :=
 CmpOp.casesOn (motive := fun _ => Prop) op (eqW σ a b K) (eqW σ a b fun r => K (!r)) (ltP a b K) (leP a b K) (gtP a b K) False (isW a b K) (isW a b fun r => K (!r)) (inW a b K) (inW a b fun r => K (!r))
noncomputable def eX (v : PV) : Option (List PV) := PV.casesOn (motive_1 := fun _ => Option (List PV)) v none (fun _ => none) (fun _ => none) (fun x => some (x.map fun c => .str [c])) (fun _ => none) some (fun _ _ => none)
 (fun lo hi => some ((List.range (hi - lo).toNat).map fun (k : Nat) => .int (lo + k))) (fun _ => none)
/-! what an expression is -/
noncomputable def exc {α : Sort _} (d : α) (c : Const -> α) (nm : Str -> α) (tup : List Expr -> α) (att : Expr -> Str -> Pos -> α) (sl : Option Expr -> Option Expr -> α) (lc : Expr -> List Comprehension -> α) (e : Expr) : α :=
 Expr.casesOn (motive_1 := fun _ => α) e (fun _ _ _ => d) (fun _ _ _ => d) (fun _ _ _ _ => d) (fun _ _ _ => d) (fun _ _ _ _ => d) (fun _ _ _ _ => d) (fun _ _ _ => d) (fun _ _ _ => d) (fun e g _ _ => lc e g) (fun _ _ _ _ => d)
  (fun _ _ _ _ _ => d) (fun _ _ _ _ => d) (fun _ _ => d) (fun _ _ => d) (fun _ _ => d) (fun _ _ _ _ => d) (fun _ _ _ _ => d) (fun _ _ _ _ => d) (fun _ _ => d) (fun x _ _ => c x) (fun o n p => att o n p) (fun _ _ _ => d) (fun _ _ => d) (fun x _ => nm x) (fun _ _ => d) (fun es _ _ => tup es) (fun l u _ _ => sl l u)
noncomputable def b9 (e : Expr) : Bool :=
 Expr.casesOn (motive_1 := fun _ => Bool) e (fun _ _ _ => true) (fun _ _ _ => true) (fun _ _ _ _ => true) (fun _ _ _ => true) (fun _ _ _ _ => true) (fun _ _ _ _ => true) (fun _ _ _ => true) (fun _ _ _ => true) (fun _ _ _ _ => true) (fun _ _ _ _ => true)
  (fun _ _ _ _ _ => true) (fun _ _ _ _ => true) (fun _ _ => true) (fun _ _ => true) (fun _ _ => true) (fun _ _ _ _ => true) (fun _ _ _ _ => true) (fun _ _ _ _ => true) (fun _ _ => true) (fun _ _ _ => true) (fun _ _ _ => true) (fun _ _ _ => true) (fun _ _ => false) (fun _ _ => true) (fun _ _ => true) (fun _ _ _ => true) (fun _ _ _ _ => true)
noncomputable def nmE (e : Expr) : Option Str := exc none (fun _ => none) some (fun _ => none) (fun _ _ _ => none) (fun _ _ => none) (fun _ _ => none) e
noncomputable def zdt (e : Expr) : Option (List Expr) := exc none (fun _ => none) (fun _ => none) some (fun _ _ _ => none) (fun _ _ => none) (fun _ _ => none) e
noncomputable def atN (e : Expr) : Option Str := exc none (fun _ => none) (fun _ => none) (fun _ => none) (fun _ n _ => some n) (fun _ _ => none) (fun _ _ => none) e
noncomputable def zba (e : Expr) : Bool := exc false (fun _ => false) (fun _ => false) (fun _ => false) (fun _ _ _ => false) (fun _ _ => true) (fun _ _ => false) e
noncomputable def strC (c : Const) : Option Str := match c with
 | .str p => some p
 | _ => none
noncomputable def csE (e : Expr) : Option Str := exc none strC (fun _ => none) (fun _ => none) (fun _ _ _ => none) (fun _ _ => none) (fun _ _ => none) e
noncomputable def cZ : List Expr -> List PV -> dD -> Option dD
 | [], vs, ρ => if vs.isEmpty = true then some ρ else none
 | e :: es, vs, ρ => (nmE e).bind fun x => vs.head?.bind fun v => cZ es vs.tail (upd ρ x v)
noncomputable def gS (e : Expr) (v : PV) (ρ : dD) : Option dD := match nmE e with
 | some x => some (upd ρ x v)
 | none => (zdt e).bind fun es => pvc none none (fun _ => none) (fun _ => none) (fun _ => none) (fun vs => cZ es vs ρ) (fun _ => none) (fun _ => none) v
noncomputable def mK : List Expr -> PV -> dD -> Option dD
 | [], _, ρ => some ρ
 | t :: ts, v, ρ => (gS t v ρ).bind (mK ts v)
noncomputable def pA (c : Nat) : Option Nat := if 48 <= c /\ c <= 57 then some (c - 48) else none
noncomputable def fW : Nat -> List Nat -> Option Nat
 | acc, [] => some acc
 | acc, c :: r => (pA c).bind fun d => fW (acc * 10 + d) r
noncomputable def lenP (v : PV) (K : PV -> Prop) : Prop := pvc False False (fun _ => False) (fun _ => False) (fun x => K (.int x.length)) (fun _ => False) (fun x => K (.int x.length)) (fun _ => False) v
noncomputable def zdx (x : List Nat) (K : PV -> Prop) : Prop := List.casesOn (motive := fun _ => Prop) x False fun c x =>
 x.length < 640 /\ ((c = 45 /\ x ≠ [] /\ ∃ n, fW 0 x = some n /\ K (.int (-(n : Int)))) \/
   (c = 43 /\ x ≠ [] /\ ∃ n, fW 0 x = some n /\ K (.int n)) \/
   (∃ n, fW 0 (c :: x) = some n /\ K (.int n)))
noncomputable def zcr (lo hi : Int) (K : PV -> Prop) : Prop := 0 <= lo /\ lo <= 16777216 /\ 0 <= hi /\ hi <= 16777216 /\ K (.rng lo hi)
noncomputable def biP (name : Str) (args : List PV) (K : PV -> Prop) : Prop :=
 if name = "len" then one args fun v => lenP v K
 else if name = "ord" then one args fun v => asS v fun x => one x fun c => K (.int c)
 else if name = "chr" then one args fun v => asI v fun i => 0 <= i /\ i < 0x110000 /\ K (.str [i.toNat])
 else if name = "int" then one args fun v => asS v fun x => zdx x K
 else if name = "sum" then one args fun v => asL v fun xs => ∃ is, jK xs = some is /\ K (.int is.sum)
 else if name = "range" then List.casesOn (motive := fun _ => Prop) args False fun a r => asI a fun lo => List.casesOn (motive := fun _ => Prop) r (zcr 0 lo K) fun b r => one (b :: r) fun b => asI b fun hi => zcr lo hi K
 else False
noncomputable def jP (x p : List Nat) : Nat -> Nat -> Int
 | _, 0 => -1
 | i, n + 1 => if p.isPrefixOf (x.drop i) then i else jP x p (i + 1) n
noncomputable def xR (x p : List Nat) (i : Nat) : Int := jP x p i (x.length + 1 - i)
noncomputable def dR (c : Nat) (x : List Nat) (i j : Nat) : Int :=
 match ((x.take j).drop i).reverse.findIdx? (· == c) with
 | some k => ((((x.take j).drop i).length - 1 - k + i : Nat) : Int)
 | none => -1
noncomputable def okI (i : Int) (K : Prop) : Prop := 0 <= i /\ i < 4611686018427387904 /\ K
noncomputable def swP (x : List Nat) (p : PV) (i : Int) (K : Bool -> Prop) : Prop :=
 pvc False False (fun _ => False) (fun _ => False) (fun p => K (decide (i <= x.length) && p.isPrefixOf (x.drop i.toNat)))
  (fun ps => ∃ zs, eM ps = some zs /\ K (decide (i <= x.length) && zs.any fun p => p.isPrefixOf (x.drop i.toNat))) (fun _ => False) (fun _ => False) p
noncomputable def zcF (args : List PV) (K : Nat -> Int -> Int -> Prop) : Prop := lM args fun p i j => asS p fun p => one p fun c => asI i fun i => asI j fun j => okI i (okI j (K c i j))
noncomputable def fY (σ : Nat -> Option Cell) (name : Str) (o : PV) (args : List PV) (K : PV -> (Nat -> Option Cell) -> Prop) : Prop :=
 if name = "append" then asP o fun a => one args fun v => ∃ xs, σ a = some (.lst xs) /\ xs.length < a0 /\ K .none (a7 σ a (.lst (xs ++ [v])))
 else if name = "startswith" then asS o fun x => two args fun p i => asI i fun i => okI i (swP x p i fun b => K (.bool b) σ)
 else if name = "find" then asS o fun x => two args fun p i => asS p fun p => asI i fun i => okI i (K (.int (xR x p i.toNat)) σ)
 else if name = "rfind" then asS o fun x => zcF args fun c i j => K (.int (dR c x i.toNat j.toNat)) σ
 else if name = "count" then asS o fun x => zcF args fun c i j => K (.int ((((x.take j.toNat).drop i.toNat).count c : Nat) : Int)) σ
 else if name = "join" then asS o fun x => x = [] /\ one args fun l => asL (der σ l) fun xs => ∃ zs, eM xs = some zs /\ zs.flatten.length <= a0 /\ K (.str zs.flatten) σ
 else False
noncomputable def lB : Const -> Option PV
 | .none => some .none
 | .bool b => some (.bool b)
 | .int i => some (.int i)
 | .str s => some (.str s.cps.toList)
 | _ => none
noncomputable def tst (K : Bool -> St -> Prop) (v : PV) (st : St) : Prop := opt (qF (der st.σ v)) fun b => K b st
noncomputable def bY (I : (Bool -> St -> Prop) -> St -> Prop) (El : (PV -> St -> Prop) -> St -> Prop) (tgt : Expr) (ρ0 : dD) (Q : List PV -> (Nat -> Option Cell) -> Prop) : List PV -> List PV -> (Nat -> Option Cell) -> Prop
 | [], acc, σ => Q acc σ
 | v :: vs, acc, σ => opt (gS tgt v ρ0) fun ρ1 => I (fun ok st1 => if ok = true then El (fun r st2 => bY I El tgt ρ0 Q vs (acc ++ [r]) st2.σ) st1 else bY I El tgt ρ0 Q vs acc st1.σ) ⟨ρ1, σ⟩
noncomputable def bV (ns : List (Str × NameKind)) : Kn := fun y => List.lookup y ns
noncomputable def tY (v : PV) : Bool := pvc false false (fun _ => false) (fun _ => false) (fun _ => false) (fun _ => false) (fun _ => false) (fun _ => true) v
noncomputable def lS (v : PV) : Bool := pvc false true (fun _ => true) (fun _ => true) (fun _ => true) (fun _ => false) (fun _ => false) (fun _ => false) v
noncomputable def eZ (ns : List (Str × NameKind)) (ρ : dD) : dD := fun y => if List.lookup y ns = some .free then ρ y else none
noncomputable def bD (C : Ctx) (pos : Pos) (vs : List PV) (Q : PV -> St -> Prop) (st : St) : Prop :=
 if C.mutL pos.line then ∀ a, st.σ a = none -> Q (.ptr a) ⟨st.ρ, a7 st.σ a (.lst vs)⟩ else Q (.list vs) st
noncomputable def unP (op : UnaryOp) (v : PV) (K : PV -> Prop) : Prop :=
 UnaryOp.casesOn (motive := fun _ => Prop) op False (opt (qF v) fun b => K (.bool (!b))) False (asI v fun i => K (.int (-i)))
noncomputable def cU (as : List Expr) : Option (Str × Str) := match as with
 | [a, b] => (csE a).bind fun p => (csE b).map fun q => (p, q)
 | _ => none
noncomputable def z6 (name p q : Str) (o : PV) (K : PV -> Prop) : Prop :=
 asS o fun x => name = "replace" /\ x.length <= 1000000 /\ (∃ k r, p.cps.toList = k :: r /\ k ∉ x) /\ q.cps.toList.length = 1 /\ p ≠ q /\ K (.str x)
noncomputable def zaQ (C : Ctx) (name : Str) (o : PV) (K : PV -> Prop) : Prop :=
 PV.casesOn (motive_1 := fun _ => Prop) o False (fun _ => False) (fun _ => False) (fun _ => False) (fun _ => False) (fun _ => False)
  (fun c fs => mP (C.slot c name) (opt (C.cval c name) K) fun i => opt fs[i]? K) (fun _ _ => False) (fun _ => False)
noncomputable def zbF (o : PV) (lo hi : Option Int) (K : PV -> Prop) : Prop :=
 pvc False False (fun _ => False) (fun _ => False) (fun x => K (.str (slc x lo hi))) (fun _ => False) (fun xs => K (.list (slc xs lo hi))) (fun _ => False) o
noncomputable def zbc (o i : PV) (K : PV -> Prop) : Prop := asI i fun k =>
 pvc False False (fun _ => False) (fun _ => False) (fun x => opt (mD x k) fun c => K (.str [c])) (fun xs => opt (mD xs k) K) (fun xs => opt (mD xs k) K) (fun _ => False) o
noncomputable def tW (C : Ctx) (f : Str) : Bool := (C.fn f).isSome || (C.cls f).isSome || C.bi f
noncomputable def iK (C : Ctx) (f : Str) (vs : List PV) (st : St) (K : PV -> Prop) : Prop :=
 mP (C.fn f) (mP (C.cls f) (C.bi f = true /\ biP f (vs.map (der st.σ)) K) fun F => F vs K)
  fun F => F (vs.map (der st.σ)) fun r => (vs.any tY = false \/ lS r = true) /\ K r
noncomputable def cO (κ : Kn) (sc : Scope) : Bool :=
 sc.kind == .function && sc.names.all fun n => match n.2 with
  | .free => κ n.1 == some .cell || κ n.1 == some .free
  | .local => sc.names.lookup n.1 == some .local
  | .cell => false
  | _ => true
noncomputable def bU (e : Expr) : List Str := match nmE e with
 | some x => [x]
 | none => ((zdt e).getD []).filterMap nmE
noncomputable def setCell (C : Ctx) (a : Nat) (name : Str) (v : PV) (st : St) (K : St -> Prop) : Prop :=
 ∃ c fs i, st.σ a = some (.ins c fs) /\ C.slot c name = some i /\ i < fs.length /\ K ⟨st.ρ, a7 st.σ a (.ins c (fs.set i (some v)))⟩
noncomputable def mOk (σ : Nat -> Option Cell) (name : Str) (v : PV) : Bool :=
 pvc false false (fun _ => false) (fun _ => false) (fun _ => name == "startswith" || name == "find" || name == "rfind" || name == "count" || name == "join") (fun _ => false) (fun _ => false)
  (fun a => name == "append" && (eI (σ a)).isSome) v
mutual
noncomputable def wE (C : Ctx) : Expr -> Kn -> (PV -> St -> Prop) -> St -> Prop
 | .Constant c _ _, _, Q, st => opt (lB c) fun v => Q v st
 | .Name id _, κ, Q, st => if κ id = some .globalImplicit then opt (C.val id) (fun v => Q v st) else opt (st.ρ id) fun v => Q v st
 | .BoolOp op vs _, κ, Q, st => wBo C op vs κ Q st
 | .BinOp l op r _, κ, Q, st => wE C l κ (fun a st1 => wE C r κ (fun b st2 => zdC op (der st2.σ a) (der st2.σ b) fun v => Q v st2) st1) st
 | .UnaryOp op x _, κ, Q, st => wE C x κ (fun v st1 => unP op (der st1.σ v) fun r => Q r st1) st
 | .IfExp t b o _, κ, Q, st => wE C t κ (tst fun c st1 => if c = true then wE C b κ Q st1 else wE C o κ Q st1) st
 | .Compare l ops cs _, κ, Q, st => wE C l κ (fun a st1 => wCh C cs ops κ a Q st1) st
 | .Call f args kws _, κ, Q, st => kws.isEmpty = true /\ mP (atN f)
   (opt (nmE f) fun id => κ id = some .globalImplicit /\ tW C id = true /\ wEs C args κ (fun vs st2 => iK C id vs st2 fun r => Q r st2) st)
   fun name => mP (cU args) (wA C f κ (fun ov st1 => mOk st1.σ name ov = true /\ wEs C args κ (fun vs st2 => fY st2.σ name ov vs fun r σ' => Q r ⟨st2.ρ, σ'⟩) st1) st)
    fun pq => wA C f κ (fun ov st1 => z6 name pq.1 pq.2 ov fun r => Q r st1) st
 | .Attribute o name _, κ, Q, st => wE C o κ (fun ov st1 => zaQ C name ov fun r => Q r st1) st
 | .Subscript o i _, κ, Q, st => wE C o κ (fun ov st1 => if zba i = true then wSl C i κ (fun lo hi st3 => zbF (der st3.σ ov) lo hi fun r => Q r st3) st1 else wE C i κ (fun iv st2 => zbc (der st2.σ ov) iv fun r => Q r st2) st1) st
 | .List es pos, κ, Q, st => wEs C es κ (fun vs st1 => bD C pos vs Q st1) st
 | .Tuple es _ _, κ, Q, st => wEs C es κ (fun vs st1 => Q (.tup vs) st1) st
 | .ListComp elt gens sc pos, κ, Q, st => (match gens with
  | [⟨tgt, iter, ifs, asy⟩] => asy = 0 /\ cO κ sc = true /\ (bU tgt).all (fun x => sc.names.lookup x == some .local) = true /\ wE C iter κ (fun v st1 => opt (eX v) fun items =>
    items.length <= a0 /\ bY (fun K s' => wIf C ifs (bV sc.names) K s') (fun K s' => wE C elt (bV sc.names) K s') tgt (eZ sc.names st1.ρ) (fun vs σ' => bD C pos vs Q ⟨st1.ρ, σ'⟩) items [] st1.σ) st
  | _ => False)
 | _, _, _, _ => False
noncomputable def wEs (C : Ctx) : List Expr -> Kn -> (List PV -> St -> Prop) -> St -> Prop
 | [], _, Q, st => Q [] st
 | e :: es, κ, Q, st => wE C e κ (fun v st1 => wEs C es κ (fun vs st2 => Q (v :: vs) st2) st1) st
noncomputable def wOp (C : Ctx) : Option Expr -> Kn -> (Option Int -> St -> Prop) -> St -> Prop
 | none, _, Q, st => Q none st
 | some e, κ, Q, st => wE C e κ (fun v st1 => asI v fun i => -4611686018427387904 < i /\ i < 4611686018427387904 /\ Q (some i) st1) st
noncomputable def wA (C : Ctx) : Expr -> Kn -> (PV -> St -> Prop) -> St -> Prop
 | .Attribute o _ _, κ, Q, st => wE C o κ Q st
 | _, _, _, _ => False
noncomputable def wSl (C : Ctx) : Expr -> Kn -> (Option Int -> Option Int -> St -> Prop) -> St -> Prop
 | .Slice l u sp _, κ, Q, st => sp.isNone = true /\ wOp C l κ (fun lo st1 => wOp C u κ (fun hi st2 => Q lo hi st2) st1) st
 | _, _, _, _ => False
noncomputable def wBo (C : Ctx) (op : BoolOp) : List Expr -> Kn -> (PV -> St -> Prop) -> St -> Prop
 | [], _, _, _ => False
 | e :: es, κ, Q, st => if es.isEmpty = true then wE C e κ Q st else wE C e κ (fun v st1 => opt (qF (der st1.σ v)) fun b => if b = (op == .Or) then Q v st1 else wBo C op es κ Q st1) st
noncomputable def wCh (C : Ctx) : List Expr -> List CmpOp -> Kn -> PV -> (PV -> St -> Prop) -> St -> Prop
 | [], _, _, _, _, _ => False
 | r :: rs, ops, κ, a, Q, st => opt ops.head? fun op => wE C r κ (fun b st1 => zbk st1.σ op a b fun c => if rs.isEmpty = true then ops.tail.isEmpty = true /\ Q (.bool c) st1 else if c = true then wCh C rs ops.tail κ b Q st1 else Q (.bool false) st1) st
noncomputable def wIf (C : Ctx) : List Expr -> Kn -> (Bool -> St -> Prop) -> St -> Prop
 | [], _, Q, st => Q true st
 | e :: es, κ, Q, st => wE C e κ (tst fun b st1 => if b = true then wIf C es κ Q st1 else Q false st1) st
end
end
section
variable {C : Ctx} {κ : Kn} {Q : PV -> St -> Prop} {st : St} {p q : Pos} {e l r t b o i elt iter : Expr} {es : List Expr}
theorem y0 {c : Const} {k : Nat} : wE C (.Constant c k p) κ Q st = opt (lB c) fun v => Q v st := rfl
theorem gT {x : Str} : wE C (.Name x p) κ Q st = if κ x = some .globalImplicit then opt (C.val x) (fun v => Q v st) else opt (st.ρ x) fun v => Q v st := rfl
theorem iY {name : Str} {kws : List Keyword} : wE C (.Call (.Attribute o name q) es kws p) κ Q st = (kws.isEmpty = true /\ mP (cU es) (wE C o κ (fun ov st1 => mOk st1.σ name ov = true /\ wEs C es κ (fun vs st2 => fY st2.σ name ov vs fun r σ' => Q r ⟨st2.ρ, σ'⟩) st1) st)
    fun pq => wE C o κ (fun ov st1 => z6 name pq.1 pq.2 ov fun r => Q r st1) st) := rfl
theorem zbr {x : Str} {kws : List Keyword} : wE C (.Call (.Name x q) es kws p) κ Q st = (kws.isEmpty = true /\ κ x = some .globalImplicit /\ tW C x = true /\ wEs C es κ (fun vs st2 => iK C x vs st2 fun r => Q r st2) st) := rfl
theorem zcA {l u sp : Option Expr} : wE C (.Subscript o (.Slice l u sp q) p) κ Q st = wE C o κ (fun ov st1 => sp.isNone = true /\ wOp C l κ (fun lo st2 => wOp C u κ (fun hi st3 => zbF (der st3.σ ov) lo hi fun r => Q r st3) st2) st1) st := rfl
theorem zcz : wE C (.Subscript o i p) κ Q st = wE C o κ (fun ov st1 => if zba i = true then wSl C i κ (fun lo hi st3 => zbF (der st3.σ ov) lo hi fun r => Q r st3) st1 else wE C i κ (fun iv st2 => zbc (der st2.σ ov) iv fun r => Q r st2) st1) st := rfl
theorem uR {tgt : Expr} {asy : Int} {sc : Scope} : wE C (.ListComp elt [⟨tgt, iter, es, asy⟩] sc p) κ Q st = (asy = 0 /\ cO κ sc = true /\ (bU tgt).all (fun x => sc.names.lookup x == some .local) = true /\ wE C iter κ (fun v st1 => opt (eX v) fun items =>
    items.length <= a0 /\ bY (fun K s' => wIf C es (bV sc.names) K s') (fun K s' => wE C elt (bV sc.names) K s') tgt (eZ sc.names st1.ρ) (fun vs σ' => bD C p vs Q ⟨st1.ρ, σ'⟩) items [] st1.σ) st) := rfl
theorem lJ {Q : List PV -> St -> Prop} : wEs C [] κ Q st = Q [] st := rfl
theorem pW {Q : List PV -> St -> Prop} : wEs C (e :: es) κ Q st = wE C e κ (fun v st1 => wEs C es κ (fun vs st2 => Q (v :: vs) st2) st1) st := rfl
variable {K : PV -> Prop} {J : Bool -> Prop} {R : PV -> (Nat -> Option Cell) -> Prop} {σ : Nat -> Option Cell} {x y : Int} {u v : List Nat} {s t : List PV} {a : Nat} {bo : Bool} {α : Type} {z z' z'' : α}
theorem wB {A : Prop} {F : α -> Prop} : mP (some z) A F = F z := rfl
theorem cM : inP .Add (.int x) (.int y) K = K (.int (x + y)) := rfl
theorem zbb : inP .Add (.str u) (.str v) K = (u.length + v.length <= a0 /\ K (.str (u ++ v))) := rfl
end
noncomputable abbrev GM := Nat -> Option Obj
noncomputable def okStr (x : List Nat) : Prop := (∀ c ∈ x, c < 1114112) /\ x.length <= a0
noncomputable def InstRel (G : GM) (v : Value) (c : Nat) (vs : List Value) : Prop :=
 ∃ x dx, v = .ref x /\ G x = some { cls := .ref c, dict := some dx, data := .plain, slots := (vs.map some).toArray } /\ G dx = some { cls := .type "dict", data := .dict #[] }
mutual
noncomputable def VRel (P : Params) (G : GM) (v : Value) : PV -> Prop
 | .none => v = .none
 | .bool b => v = .bool b
 | .int i => ∃ t, v = .int i t
 | .str x => ∃ t, v = .str ⟨x.toArray⟩ t /\ okStr x
 | .tup xs => ∃ a o vs n, v = .ref a /\ G a = some o /\ o.cls = .type "tuple" /\ o.data = .seq vs n /\ vs.size <= a0 /\ VRels P G vs.toList xs
 | .list xs => ∃ a o vs n, v = .ref a /\ G a = some o /\ o.cls = .type "list" /\ o.dict = none /\ o.data = .seq vs n /\ vs.size <= a0 /\ VRels P G vs.toList xs
 | .inst c fs => ∃ vs, InstRel G v c vs /\ VRels P G vs fs
 | .rng lo hi => ∃ a t u w, v = .ref a /\ G a = some { cls := .type "range", data := .fields #[.int lo t, .int hi u, .int 1 w] } /\ 0 <= lo /\ lo <= 16777216 /\ 0 <= hi /\ hi <= 16777216
 | .ptr a => v = .ref a
noncomputable def VRels (P : Params) (G : GM) (vs : List Value) : List PV -> Prop
 | [] => vs = []
 | x :: xs => ∃ v r, vs = v :: r /\ VRel P G v x /\ VRels P G r xs
end
noncomputable def Sub (G G' : GM) : Prop := ∀ a o, G a = some o -> G' a = some o
noncomputable def InH (G : GM) (h : Heap) : Prop := ∀ a o, G a = some o -> h.get? a = some o
theorem Sub.refl (G : GM) : Sub G G := fun _ _ e => e
theorem Sub.trans {G G' G'' : GM} (h : Sub G G') (h' : Sub G' G'') : Sub G G'' := fun a o e => h' a o (h a o e)
theorem InstRel.mono {G G' : GM} (h : Sub G G') {v c vs} (r : InstRel G v c vs) : InstRel G' v c vs := by
 obtain ⟨x, dx, h1, h2, h3⟩ := r; exact ⟨x, dx, h1, h _ _ h2, h _ _ h3⟩
mutual
theorem VRel.mono {P : Params} {G G' : GM} (h : Sub G G') {v : Value} : ∀ {p : PV}, VRel P G v p -> VRel P G' v p
 | .none, r => r
 | .bool _, r => r
 | .int _, r => r
 | .str _, r => r
 | .tup xs, r => by
  simp only [VRel] at r ⊢
  obtain ⟨a, o, vs, n, h1, h2, h3, h4, h5, h6⟩ := r
  exact ⟨a, o, vs, n, h1, h _ _ h2, h3, h4, h5, VRels.mono h h6⟩
 | .list xs, r => by
  simp only [VRel] at r ⊢
  obtain ⟨a, o, vs, n, h1, h2, h3, h3', h4, h5, h6⟩ := r
  exact ⟨a, o, vs, n, h1, h _ _ h2, h3, h3', h4, h5, VRels.mono h h6⟩
 | .inst c fs, r => by
  simp only [VRel] at r ⊢
  obtain ⟨vs, h1, h2⟩ := r
  exact ⟨vs, h1.mono h, VRels.mono h h2⟩
 | .rng lo hi, r => by
  simp only [VRel] at r ⊢
  obtain ⟨a, t, u, w, h1, h2, h3⟩ := r
  exact ⟨a, t, u, w, h1, h _ _ h2, h3⟩
 | .ptr _, r => r
theorem VRels.mono {P : Params} {G G' : GM} (h : Sub G G') : ∀ {ps : List PV} {vs : List Value}, VRels P G vs ps -> VRels P G' vs ps
 | [], _, r => r
 | p :: ps, _, r => by
  simp only [VRels] at r ⊢
  obtain ⟨v, s, h1, h2, h3⟩ := r
  exact ⟨v, s, h1, VRel.mono h h2, VRels.mono h h3⟩
end
theorem VRels.length {P : Params} {G : GM} : ∀ {ps : List PV} {vs : List Value}, VRels P G vs ps -> vs.length = ps.length
 | [], _, r => by simp only [VRels] at r; simp [r]
 | p :: ps, _, r => by
  simp only [VRels] at r
  obtain ⟨v, s, rfl, _, h3⟩ := r
  simp [h3.length]
theorem VRels.get {P : Params} {G : GM} : ∀ {ps : List PV} {vs : List Value} {i : Nat} {p : PV}, VRels P G vs ps -> ps[i]? = some p -> ∃ v, vs[i]? = some v /\ VRel P G v p
 | [], _, _, _, _, e => by simp at e
 | p :: ps, _, 0, _, r, e => by
  simp only [VRels] at r
  obtain ⟨v, s, rfl, h2, _⟩ := r
  simp at e; subst e
  exact ⟨v, by simp, h2⟩
 | p :: ps, _, i + 1, q, r, e => by
  simp only [VRels] at r
  obtain ⟨v, s, rfl, _, h3⟩ := r
  obtain ⟨u, hu, hr⟩ := h3.get (i := i) (p := q) (by simpa using e)
  exact ⟨u, by simpa using hu, hr⟩
theorem VRels.get' {P : Params} {G : GM} : ∀ {ps : List PV} {vs : List Value} {i : Nat} {v : Value}, VRels P G vs ps -> vs[i]? = some v -> ∃ p, ps[i]? = some p /\ VRel P G v p := by
 intro ps vs i v r e
 have hlen := r.length
 have hi : i < ps.length := by
  have := (List.getElem?_eq_some_iff.mp e).1
  omega
 obtain ⟨u, hu, hr⟩ := r.get (i := i) (p := ps[i]) (by simp [hi])
 rw [e] at hu; cases hu
 exact ⟨_, by simp [hi], hr⟩
theorem VRels.append {P : Params} {G : GM} : ∀ {ps qs : List PV} {vs us : List Value}, VRels P G vs ps -> VRels P G us qs -> VRels P G (vs ++ us) (ps ++ qs)
 | [], _, _, _, r, s => by simp only [VRels] at r; subst r; simpa using s
 | p :: ps, qs, _, us, r, s => by
  simp only [VRels] at r
  obtain ⟨v, w, rfl, h2, h3⟩ := r
  simp only [List.cons_append, VRels]
  exact ⟨v, w ++ us, rfl, h2, h3.append s⟩
theorem VRels.nil {P : Params} {G : GM} : VRels P G [] [] := by simp [VRels]
theorem VRels.cons {P : Params} {G : GM} {v : Value} {vs : List Value} {p : PV} {ps : List PV} (h : VRel P G v p) (hs : VRels P G vs ps) : VRels P G (v :: vs) (p :: ps) := by
 simp only [VRels]; exact ⟨v, vs, rfl, h, hs⟩
theorem VRels.one {P : Params} {G : GM} {v : Value} {p : PV} (h : VRel P G v p) : VRels P G [v] [p] := .cons h .nil
theorem VRels.drop {P : Params} {G : GM} : ∀ (n : Nat) {ps : List PV} {vs : List Value}, VRels P G vs ps -> VRels P G (vs.drop n) (ps.drop n)
 | 0, _, _, r => by simpa using r
 | n + 1, [], _, r => by simp only [VRels] at r; subst r; simp [VRels]
 | n + 1, p :: ps, _, r => by
  simp only [VRels] at r
  obtain ⟨v, w, rfl, h2, h3⟩ := r
  simpa using h3.drop n
theorem VRels.take {P : Params} {G : GM} : ∀ (n : Nat) {ps : List PV} {vs : List Value}, VRels P G vs ps -> VRels P G (vs.take n) (ps.take n)
 | 0, _, _, r => by simp [VRels]
 | n + 1, [], _, r => by simp only [VRels] at r; subst r; simp [VRels]
 | n + 1, p :: ps, _, r => by
  simp only [VRels] at r
  obtain ⟨v, w, rfl, h2, h3⟩ := r
  simpa using VRels.cons h2 (h3.take n)
theorem VRels.set {P : Params} {G : GM} : ∀ {ps : List PV} {vs : List Value} (i : Nat) {v : Value} {p : PV}, VRels P G vs ps -> VRel P G v p -> VRels P G (vs.set i v) (ps.set i p)
 | [], _, _, _, _, r, _ => by simp only [VRels] at r; subst r; simp [VRels]
 | q :: ps, _, 0, v, p, r, h => by
  simp only [VRels] at r
  obtain ⟨u, w, rfl, h2, h3⟩ := r
  simpa using VRels.cons h h3
 | q :: ps, _, i + 1, v, p, r, h => by
  simp only [VRels] at r
  obtain ⟨u, w, rfl, h2, h3⟩ := r
  simpa using VRels.cons h2 (h3.set i h)
structure GS (G : GM) (s : Shared) (G' : GM) (s' : Shared) : Prop where
 ext : Sub G G'
 inh : InH G' s'.heap
 new : ∀ a o, G' a = some o -> G a = some o \/ s.heap.get? a = none
 keep : ∀ a o, s.heap.get? a = some o -> s'.heap.get? a = some o
 os : s'.os = s.os
 gens : AllBare s.gens -> AllBare s'.gens
theorem GS.refl {G : GM} {s : Shared} (h : InH G s.heap) : GS G s G s := ⟨.refl _, h, fun _ _ e => .inl e, fun _ _ e => e, rfl, fun e => e⟩
theorem GS.trans {G G' G'' : GM} {s s' s'' : Shared} (h : GS G s G' s') (h' : GS G' s' G'' s'') : GS G s G'' s'' where
 ext := h.ext.trans h'.ext
 inh := h'.inh
 new := fun a o e => by
  rcases h'.new a o e with q | q
  ·exact h.new a o q
  ·right
   cases e' : s.heap.get? a with
   | none => rfl
   | some o' => rw [h.keep a o' e'] at q; cases q
 keep := fun a o e => h'.keep a o (h.keep a o e)
 os := h'.os.trans h.os
 gens := fun e => h'.gens (h.gens e)
theorem GS.toks {G : GM} {s : Shared} (h : InH G s.heap) (k : Nat) : GS G s G { s with toks := k } := ⟨.refl _, h, fun _ _ e => .inl e, fun _ _ e => e, rfl, fun e => e⟩
noncomputable def iE (G : GM) (a : Nat) (o : Obj) : GM := fun b => if b = a then some o else G b
theorem GS.push {G : GM} {s : Shared} (h : InH G s.heap) (o : Obj) (hf : o.isFreed = false) (k : Nat) :
  GS G s (iE G s.heap.objs.size o) { s with heap := s.heap.push o, toks := k } where
 ext := fun a o' e => by
  unfold iE
  split
  ·rename_i q; subst q; exact absurd (Heap.lt_size (h _ _ e)) (Nat.lt_irrefl _)
  ·exact e
 inh := fun a o' e => by
  unfold iE at e
  split at e
  ·rename_i q; subst q; cases e; exact Heap.get?_push_size _ hf
  ·exact Heap.get?_push_of_some _ (h _ _ e)
 new := fun a o' e => by
  unfold iE at e
  split at e
  ·rename_i q; subst q; right
   cases e' : s.heap.get? s.heap.objs.size with
   | none => rfl
   | some o' => exact absurd (Heap.lt_size e') (Nat.lt_irrefl _)
  ·exact .inl e
 keep := fun a o' e => Heap.get?_push_of_some _ e
 os := rfl
 gens := fun e => e
theorem cH {G : GM} {a : Nat} {o : Obj} : iE G a o a = some o := by simp [iE]
noncomputable def GW (M : Model) (A : Around) (P : Params) (E : Value -> Shared -> Prop) (G : GM) (s : Shared) (t : Sem Value) (K : PV -> Prop) : Prop :=
 wpAny M A t (fun v s' => ∃ r G', K r /\ GS G s G' s' /\ VRel P G' v r) E s
theorem GW.mono {M : Model} {A : Around} {P : Params} {E : Value -> Shared -> Prop} {G : GM} {s : Shared} {t : Sem Value} {K K' : PV -> Prop} (h : GW M A P E G s t K) (hk : ∀ r, K r -> K' r) : GW M A P E G s t K' :=
 wpAny_mono h (fun _ _ ⟨r, G', h1, h2, h3⟩ => ⟨r, G', hk r h1, h2, h3⟩) fun _ _ e => e
noncomputable def LView (P : Params) (G : GM) (h : Heap) (v : Value) (xs : List PV) : Prop :=
 ∃ a o vs n, v = .ref a /\ h.get? a = some o /\ o.cls = .type "list" /\ o.dict = none /\ o.data = .seq vs n /\ vs.size <= a0 /\ VRels P G vs.toList xs
noncomputable def j6 (P : Params) (G : GM) (h : Heap) (v : Value) : PV -> Prop
 | .list xs => LView P G h v xs
 | p => VRel P G v p
theorem VRel.view {P : Params} {G : GM} {h : Heap} (hi : InH G h) {v : Value} {p : PV} (r : VRel P G v p) : j6 P G h v p := by
 cases p <;> try exact r
 simp only [VRel] at r
 obtain ⟨a, o, vs, n, h1, h2, h3, h3', h4, h5, h6⟩ := r
 exact ⟨a, o, vs, n, h1, hi _ _ h2, h3, h3', h4, h5, h6⟩
section
variable {prog : Program} {w : World} {A : Around} {E : Value -> Shared -> Prop} {s : Shared} {G : GM} {P : Params} {a b : Value} {K : PV -> Prop}
theorem k7 {t : Sem Value} {i : Int} (hi : InH G s.heap) (hk : K (.int i)) (h : ∀ Q : Value -> Shared -> Prop, Q (.int i s.toks) { s with toks := s.toks + 1 } -> wpAny (model prog w) A t Q E s) : GW (model prog w) A P E G s t K :=
 h _ ⟨.int i, G, hk, GS.toks hi _, by simp [VRel]⟩
theorem hZ {x y : List Nat} (hx : okStr x) (hy : okStr y) (h : x.length + y.length <= a0) : okStr (x ++ y) :=
 ⟨fun c hc => (List.mem_append.mp hc).elim (hx.1 c) (hy.1 c), by simpa using h⟩
theorem kN (x y : List Nat) : (⟨x.toArray⟩ : Str) ++ ⟨y.toArray⟩ = ⟨(x ++ y).toArray⟩ := by
 show Str.append _ _ = _
 simp [Str.append]
theorem b7 (x : List Nat) : (⟨x.toArray⟩ : Str).length = x.length := by simp [Str.length]
theorem wK {vs : List Value} {xs : List PV} (hi : InH G s.heap) (hr : VRels P G vs xs) (hz : vs.length <= a0) (hk : K (.list xs)) : GW (model prog w) A P E G s (newList vs) K := by
 refine wpAny_newObj_type ?_ (by show vs.toArray.size <= sizeLine; rw [List.size_toArray]; exact hz)
 have g := GS.push hi { cls := .type "list", data := .seq vs.toArray } rfl s.toks
 refine ⟨.list xs, _, hk, g, ?_⟩
 simp only [VRel]
 exact ⟨_, _, _, _, rfl, cH, rfl, rfl, rfl, by simpa using hz, by simpa using hr.mono g.ext⟩
theorem tE {vs : List Value} {xs : List PV} (hi : InH G s.heap) (hr : VRels P G vs xs) (hz : vs.length <= a0) (hk : K (.tup xs)) : GW (model prog w) A P E G s (newTuple vs) K := by
 refine wpAny_newObj_type ?_ (by show vs.toArray.size <= sizeLine; rw [List.size_toArray]; exact hz)
 have g := GS.push hi { cls := .type "tuple", data := .seq vs.toArray } rfl s.toks
 refine ⟨.tup xs, _, hk, g, ?_⟩
 simp only [VRel]
 exact ⟨_, _, _, _, rfl, cH, rfl, rfl, by simpa using hz, by simpa using hr.mono g.ext⟩
theorem LView.isList {h : Heap} {v : Value} {xs : List PV} (r : LView P G h v xs) : ∃ a vs, v = .ref a /\ h.IsList a vs /\ vs.size <= a0 /\ VRels P G vs.toList xs := by
 obtain ⟨a, o, vs, n, h1, h2, h3, h3', h4, h5, h6⟩ := r
 exact ⟨a, vs, h1, ⟨o, h2, h3, n, h4⟩, h5, h6⟩
theorem pJ {a b : Value} {i j : Int} (op : Operator) (r : Int) (ha : VRel P G a (.int i)) (hb : VRel P G b (.int j)) (hi : InH G s.heap) (hk : K (.int r))
  (h : ∀ (t u : Tok) (Q : Value -> Shared -> Prop), Q (.int r s.toks) { s with toks := s.toks + 1 } -> wpAny (model prog w) A (binaryOp op (.int i t) (.int j u)) Q E s) :
  GW (model prog w) A P E G s (binaryOp op a b) K := by
 simp only [VRel] at ha hb
 obtain ⟨t, rfl⟩ := ha
 obtain ⟨u, rfl⟩ := hb
 exact k7 hi hk fun Q q => h t u Q q
theorem zdm {op : Operator} {a b : Value} {p q : PV} (hi : InH G s.heap) (ha : j6 P G s.heap a p) (hb : j6 P G s.heap b q) (h : zdC op p q K) :
  GW (model prog w) A P E G s (binaryOp op a b) K := by
 cases op <;> first | exact False.elim h | skip
 ·have h : (if isL p = true then addL p q K else zdp p q K) := h
  by_cases hl : isL p = true
  ·rw [if_pos hl] at h
   obtain ⟨x, rfl, h⟩ := n7 h
   obtain ⟨y, rfl, hz, hk⟩ := n7 (v := q) h
   obtain ⟨l, ⟨c1, d1, dt1, sl1⟩, vs, n1, rfl, ho1, hc1, hd1, hdt1, hs1, hr1⟩ := ha
   obtain ⟨m, ⟨c2, d2, dt2, sl2⟩, ws, n2, rfl, ho2, hc2, hd2, hdt2, hs2, hr2⟩ := hb
   simp only at hc1 hd1 hdt1 hc2 hd2 hdt2
   subst hc1 hd1 hdt1 hc2 hd2 hdt2
   have hz' : vs.size + ws.size <= a0 := by rw [<- Array.length_toList, <- Array.length_toList, hr1.length, hr2.length]; exact hz
   refine concat_meets ⟨_, ho1, rfl⟩ ⟨_, ho2, rfl⟩ noFill_list_add seq_list_add PySem.F.slot_list_add PySem.F.entry_list_add (PySem.F.args_list_add_2 _ _) (list_addW l m vs ws n1 n2 none none sl1 sl2 hz') ⟨ho1, ho2, ?_⟩
   have g := GS.push hi { cls := .type "list", data := .seq (vs ++ ws) } rfl s.toks
   refine ⟨_, _, hk, g, ?_⟩
   simp only [VRel]
   exact ⟨_, _, _, _, rfl, cH, rfl, rfl, rfl, by rw [Array.size_append]; exact hz', by rw [Array.toList_append]; exact (hr1.append hr2).mono g.ext⟩
  ·rw [if_neg hl] at h
   cases p <;> first | exact False.elim h | skip
   ·obtain ⟨y, rfl, h⟩ := cA (v := q) h
    exact pJ _ _ ha hb hi h fun _ _ _ q => add_int q
   ·obtain ⟨y, rfl, hz, hk⟩ := c8 (v := q) h
    simp only [j6, VRel] at ha hb
    obtain ⟨t, rfl, hx⟩ := ha
    obtain ⟨u, rfl, hy⟩ := hb
    refine KOpn.add (by rw [b7, b7]; exact hz) fun t' k _ => ?_
    refine ⟨_, G, hk, GS.toks hi _, ?_⟩
    simp only [VRel]
    exact ⟨t', by rw [kN], hZ hx hy hz⟩
 ·obtain ⟨x, rfl, h⟩ := cA h
  obtain ⟨y, rfl, h⟩ := cA (v := q) h
  exact pJ _ _ ha hb hi h fun _ _ _ q => sub_int q
 ·obtain ⟨x, rfl, h⟩ := cA h
  obtain ⟨y, rfl, h0, h⟩ := cA (v := q) h
  refine pJ _ _ ha hb hi h fun _ _ _ q => mod_int' (Int.ne_of_gt h0) ?_
  rw [Int.fmod_eq_emod_of_nonneg _ (Int.le_of_lt h0)]; exact q
end
mutual
noncomputable def i5 : PV -> PyData
 | .none => .none
 | .int i => .int i
 | .str x => .str ⟨x.toArray⟩
 | .tup xs => .tuple (gA xs)
 | .list xs => .list (gA xs)
 | .bool b => .bool b
 | .inst _ _ => .none
 | .rng _ _ => .none
 | .ptr _ => .none
noncomputable def gA : List PV -> List PyData
 | [] => []
 | x :: xs => i5 x :: gA xs
end
noncomputable def kC (P : Params) (G : GM) (h : Heap) (σ : Nat -> Option Cell) : Prop := ∀ a xs, σ a = some (.lst xs) -> LView P G h (.ref a) xs
theorem okStr.strOk {x : List Nat} (h : okStr x) : PyData.strOk ⟨x.toArray⟩ = true := by
 simp only [PyData.strOk]
 rw [Array.all_eq_true]
 intro i hi
 simp only [decide_eq_true_eq]
 exact h.1 _ (by simp)
section
variable {P : Params} {G : GM} {h : Heap} {σ : Nat -> Option Cell}
mutual
theorem lZ (hi : InH G h) (hc : kC P G h σ) : ∀ {t : PV} {p : PV} {v : Value}, VRel P G v p -> Res σ p t -> plain t = true -> ∃ as, Reads h v (i5 t) as /\ (i5 t).canLay0 = true
 | .none, p, v, r, q, _ => by
  simp only [Res] at q; subst q; simp only [VRel] at r; subst r
  exact ⟨_, .none, rfl⟩
 | .int i, p, v, r, q, _ => by
  simp only [Res] at q; subst q; simp only [VRel] at r; obtain ⟨t, rfl⟩ := r
  exact ⟨_, .int i t, rfl⟩
 | .str x, p, v, r, q, _ => by
  simp only [Res] at q; subst q; simp only [VRel] at r; obtain ⟨t, rfl, ok⟩ := r
  exact ⟨_, .str _ t, by simp only [i5, PyData.canLay0]; exact ok.strOk⟩
 | .tup ts, p, v, r, q, hp => by
  simp only [Res] at q; obtain ⟨xs, rfl, q⟩ := q
  simp only [VRel] at r; obtain ⟨a, o, vs, n, rfl, h2, h3, h4, _, h5⟩ := r
  obtain ⟨as, ra, cl⟩ := gH hi hc h5 q (by simpa [plain] using hp)
  exact ⟨_, reads_tuple_at (hi _ _ h2) h3 h4 (by simpa [i5] using ra), by simpa [i5, PyData.canLay0] using cl⟩
 | .list ts, p, v, r, q, hp => by
  simp only [Res] at q
  rcases q with ⟨xs, rfl, q⟩ | ⟨a, xs, rfl, hσ, q⟩
  ·simp only [VRel] at r; obtain ⟨a, o, vs, n, rfl, h2, h3, _, h4, _, h5⟩ := r
   obtain ⟨as, ra, cl⟩ := gH hi hc h5 q (by simpa [plain] using hp)
   exact ⟨_, reads_list_at (hi _ _ h2) h3 h4 (by simpa [i5] using ra), by simpa [i5, PyData.canLay0] using cl⟩
  ·simp only [VRel] at r; subst r
   obtain ⟨a', o, vs, n, e, h2, h3, _, h4, _, h5⟩ := hc a xs hσ
   cases e
   obtain ⟨as, ra, cl⟩ := gH hi hc h5 q (by simpa [plain] using hp)
   exact ⟨_, reads_list_at h2 h3 h4 (by simpa [i5] using ra), by simpa [i5, PyData.canLay0] using cl⟩
 | .bool b, p, v, r, q, hp => by simp [plain] at hp
 | .inst _ _, p, v, r, q, hp => by simp [plain] at hp
 | .rng _ _, p, v, r, q, hp => by simp [plain] at hp
 | .ptr _, p, v, r, q, hp => by simp [plain] at hp
theorem gH (hi : InH G h) (hc : kC P G h σ) : ∀ {ts : List PV} {ps : List PV} {vs : List Value}, VRels P G vs ps -> n9 σ ps ts -> eN ts = true -> ∃ as, ReadsAll h vs (gA ts) as /\ PyData.canLayAll0 (gA ts) = true
 | [], ps, vs, r, q, _ => by
  simp only [n9] at q; subst q; simp only [VRels] at r; subst r
  exact ⟨_, .nil, rfl⟩
 | t :: ts, ps, vs, r, q, hp => by
  simp only [n9] at q; obtain ⟨y, ys, rfl, q1, q2⟩ := q
  simp only [VRels] at r; obtain ⟨v, w, rfl, r1, r2⟩ := r
  simp only [eN, Bool.and_eq_true] at hp
  obtain ⟨as, ra, c1⟩ := lZ hi hc r1 q1 hp.1
  obtain ⟨bs, rb, c2⟩ := gH hi hc r2 q2 hp.2
  exact ⟨_, .cons ra rb, by simp [gA, PyData.canLayAll0, c1, c2]⟩
end
end
mutual
theorem zbj : ∀ t : PV, plain t = true -> (i5 t).depth <= dep t + 1
 | .none, _ => by simp [i5, PyData.depth]
 | .int _, _ => by simp [i5, PyData.depth]
 | .str _, _ => by simp [i5, PyData.depth]
 | .tup ts, h => by have := pH ts (by simpa [plain] using h); simp only [i5, PyData.depth, dep]; omega
 | .list ts, h => by have := pH ts (by simpa [plain] using h); simp only [i5, PyData.depth, dep]; omega
 | .bool _, h => by simp [plain] at h
 | .inst _ _, h => by simp [plain] at h
 | .rng _ _, h => by simp [plain] at h
 | .ptr _, h => by simp [plain] at h
theorem pH : ∀ ts : List PV, eN ts = true -> PyData.depthAll (gA ts) <= zcv ts + 1
 | [], _ => by simp [gA, PyData.depthAll]
 | t :: ts, h => by
  simp only [eN, Bool.and_eq_true] at h
  have h1 := zbj t h.1
  have h2 := pH ts h.2
  simp only [gA, PyData.depthAll, zcv]; omega
end
mutual
theorem zbh : ∀ t u : PV, plain t = true -> plain u = true -> (PyData.eqv (i5 t) (i5 u) = true ↔ t = u)
 | .none, u, _, hu => by cases u <;> simp_all [i5, PyData.eqv, plain]
 | .int _, u, _, hu => by cases u <;> simp_all [i5, PyData.eqv, plain]
 | .str x, u, _, hu => by
  cases u <;> simp_all [i5, PyData.eqv, plain]
 | .tup ts, u, ht, hu => by
  cases u <;> simp_all [i5, PyData.eqv, plain]
  exact pF ts _ ht hu
 | .list ts, u, ht, hu => by
  cases u <;> simp_all [i5, PyData.eqv, plain]
  exact pF ts _ ht hu
 | .bool _, _, h, _ => by simp [plain] at h
 | .inst _ _, _, h, _ => by simp [plain] at h
 | .rng _ _, _, h, _ => by simp [plain] at h
 | .ptr _, _, h, _ => by simp [plain] at h
theorem pF : ∀ ts us : List PV, eN ts = true -> eN us = true -> (PyData.eqvAll (gA ts) (gA us) = true ↔ ts = us)
 | [], us, _, _ => by cases us <;> simp [gA, PyData.eqvAll]
 | t :: ts, us, ht, hu => by
  cases us with
  | nil => simp [gA, PyData.eqvAll]
  | cons u us =>
   simp only [eN, Bool.and_eq_true] at ht hu
   simp only [gA, PyData.eqvAll, Bool.and_eq_true, List.cons.injEq, zbh t u ht.1 hu.1, pF ts us ht.2 hu.2]
end
section
variable {prog : Program} {w : World} {A : Around} {E : Value -> Shared -> Prop} {s : Shared} {G : GM} {P : Params} {a b : Value} {K : PV -> Prop} {σ : Nat -> Option Cell}
theorem c5 {t : Sem Value} {i : Bool} (hi : InH G s.heap) (hk : K (.bool i)) (h : ∀ Q : Value -> Shared -> Prop, Q (.bool i) s -> wpAny (model prog w) A t Q E s) : GW (model prog w) A P E G s t K :=
 h _ ⟨.bool i, G, hk, GS.refl hi, by simp [VRel]⟩
structure Room (n : Nat) (A : Around) : Prop where
 handled : A.handled = none
 depth : A.depth + n <= 900
 units : A.units + 20 * n <= 5000
theorem Room.le {n m : Nat} {A : Around} (h : Room n A) (hm : m <= n) : Room m A := ⟨h.handled, by have := h.depth; omega, by have := h.units; omega⟩
theorem Room.deeper {n : Nat} {A : Around} {env : Env} (h : Room (n + 1) A) : Room n (A.deeper env) := ⟨h.handled, by have := h.depth; simp only [Around.deeper]; omega, by have := h.units; simp only [Around.deeper]; omega⟩
theorem eq_G {n : Nat} (hA : Room n A) (ne : Bool) (hi : InH G s.heap) (hc : kC P G s.heap σ) {p q : PV} (ha : VRel P G a p) (hb : VRel P G b q) (h : eqW σ p q fun r => K (.bool (if ne then !r else r))) :
  GW (model prog w) A P E G s (compareOp (if ne then .NotEq else .Eq) a b) K := by
 have main : ∀ {da db : PyData} {as bs : List Addr} {r : Bool}, Reads s.heap a da as -> Reads s.heap b db bs -> da.canLay0 = true -> db.canLay0 = true -> da.depth <= 4001 -> PyData.eqv da db = r -> K (.bool (if ne then !r else r)) ->
   GW (model prog w) A P E G s (compareOp (if ne then .NotEq else .Eq) a b) K := by
  intro da db as bs r ra rb ca cb hd e hk
  have hu : A.units + min da.depth db.depth < cLine := by
   have := hA.units
   have : min da.depth db.depth <= da.depth := Nat.min_le_left _ _
   show _ < 9900
   omega
  subst e
  cases ne
  ·exact c5 hi hk fun Q q => SeqAt.compareEq_reads ra rb ca cb hu q
  ·exact c5 hi hk fun Q q => SeqAt.compareNe_reads ra rb ca cb hu q
 cases hr : eqS p q with
 | some r =>
  have hk : K (.bool (if ne then !r else r)) := by unfold eqW at h; rw [hr] at h; exact h
  clear h
  have st : ∀ {x : List Nat} {v : Value}, VRel P G v (.str x) -> ∃ t, v = .str ⟨x.toArray⟩ t /\ PyData.canLay0 (.str ⟨x.toArray⟩) = true := fun r => by
   simp only [VRel] at r; obtain ⟨t, e, ok⟩ := r; exact ⟨t, e, ok.strOk⟩
  cases p <;> first | (cases hr; done) | skip
  ·cases q <;> first | (cases hr; done) | skip
   cases hr
   simp only [VRel] at ha hb
   subst ha hb; exact main (.bool _) (.bool _) rfl rfl (Nat.le_add_left _ _) rfl hk
  ·cases q <;> first | (cases hr; done) | skip
   cases hr
   simp only [VRel] at ha hb
   obtain ⟨t, rfl⟩ := ha; obtain ⟨u, rfl⟩ := hb; exact main (.int _ t) (.int _ u) rfl rfl (Nat.le_add_left _ _) rfl hk
  ·cases q <;> first | (cases hr; done) | skip
   ·cases hr
    obtain ⟨t, rfl, ok⟩ := st ha
    simp only [VRel] at hb
    subst hb; exact main (.str _ t) .none ok rfl (Nat.le_add_left _ _) rfl hk
   ·rename_i x y
    cases hr
    obtain ⟨t, rfl, ok⟩ := st ha
    obtain ⟨u, rfl, ok'⟩ := st hb
    refine main (.str _ t) (.str _ u) ok ok' (Nat.le_add_left _ _) ?_ hk
    show decide ((⟨x.toArray⟩ : Str) = ⟨y.toArray⟩) = decide (x = y)
    refine decide_eq_decide.mpr ⟨fun e => ?_, fun e => by rw [e]⟩
    exact congrArg (fun s : Str => s.cps.toList) e
 | none =>
  unfold eqW at h
  rw [hr] at h
  obtain ⟨ta, tb, ra, rb, pa, pb, hd, hk⟩ := h
  obtain ⟨as, ra', ca⟩ := lZ hi hc ha ra pa
  obtain ⟨bs, rb', cb⟩ := lZ hi hc hb rb pb
  refine main ra' rb' ca cb (Nat.le_trans (zbj ta pa) (by omega)) ?_ hk
  have := zbh ta tb pa pb
  by_cases e : ta = tb
  ·rw [this.mpr e]; simp [e]
  ·simp only [e, decide_false]; exact Bool.eq_false_iff.mpr fun x => e (this.mp x)
end
end Mine
end
section
open PySem PySem.W PyProof.Rows
open Builtin Builtin.Str
set_option Elab.async false
set_option autoImplicit false
namespace Mine
noncomputable def iN (x p : List Nat) (hi : Nat) : Nat -> Nat -> Nat -> Nat -> List Nat
 | 0, _, _, _ => []
 | n + 1, i, lim, free => if 0 < lim /\ free <= i /\ i + p.length <= hi /\ (x.drop i).take p.length = p then i :: iN x p hi n (i + 1) (lim - 1) (i + p.length) else iN x p hi n (i + 1) lim free
theorem tC (s sub : Str) (hi limit i : Nat) (acc : Array Nat) (free : Nat) :
  StrLaws.occBody s sub hi limit i (acc, free) = pure (.yield (if acc.size < limit /\ free <= i /\ i + sub.cps.toList.length <= hi /\ (s.cps.toList.drop i).take sub.cps.toList.length = sub.cps.toList then (acc.push i, i + sub.cps.toList.length) else (acc, free))) := by
 have e : sub.length = sub.cps.toList.length := by simp [Str.length]
 have e2 : (subAt s sub i = true) ↔ (s.cps.toList.drop i).take sub.cps.toList.length = sub.cps.toList := by
  rw [StrLaws.subAt_eq, beq_iff_eq, e]
 unfold StrLaws.occBody
 simp only [Bool.and_eq_true]
 by_cases c : acc.size < limit /\ free <= i /\ i + sub.cps.toList.length <= hi /\ (s.cps.toList.drop i).take sub.cps.toList.length = sub.cps.toList
 ·rw [if_pos c, if_pos ⟨⟨⟨c.1, c.2.1⟩, by rw [e]; exact c.2.2.1⟩, e2.mpr c.2.2.2⟩, e]
 ·rw [if_neg c, if_neg (fun h => c ⟨h.1.1.1, h.1.1.2, by rw [<- e]; exact h.1.2, e2.mp h.2⟩)]
theorem zbJ (s sub : Str) (hi limit : Nat) : ∀ (n i : Nat) (acc : Array Nat) (free : Nat), acc.size <= limit ->
  (forIn (List.range' i n) (acc, free) (StrLaws.occBody s sub hi limit)).run.fst.toList = acc.toList ++ iN s.cps.toList sub.cps.toList hi n i (limit - acc.size) free := by
 intro n
 induction n with
 | zero => intro i acc free _; simp [iN]
 | succ n ih =>
  intro i acc free hz
  rw [List.range'_succ, List.forIn_cons, tC]
  unfold iN
  by_cases c : acc.size < limit /\ free <= i /\ i + sub.cps.toList.length <= hi /\ (s.cps.toList.drop i).take sub.cps.toList.length = sub.cps.toList
  ·rw [if_pos c, if_pos ⟨by omega, c.2⟩]
   show (forIn _ (acc.push i, i + sub.cps.toList.length) _ : Id _).run.fst.toList = _
   rw [ih _ _ _ (by simp; omega)]
   simp only [Array.toList_push, List.append_assoc, List.singleton_append, Array.size_push]
   congr 3
  ·rw [if_neg c, if_neg (fun h => c ⟨by omega, h.2⟩)]
   show (forIn _ (acc, free) _ : Id _).run.fst.toList = _
   exact ih _ _ _ hz
theorem qV (s sub : Str) (lo hi limit : Nat) : occurrences s sub lo hi limit = iN s.cps.toList sub.cps.toList hi (hi + 1 - lo) lo limit lo := by
 rw [StrLaws.occ_eq, zbJ _ _ _ _ _ _ _ _ (by simp)]
 simp
theorem gY (p x : List Nat) : p.isPrefixOf x = true ↔ x.take p.length = p := by
 rw [List.isPrefixOf_iff_prefix]
 constructor
 ·rintro ⟨r, rfl⟩; simp
 ·intro h; exact ⟨x.drop p.length, by conv => rhs; rw [<- List.take_append_drop p.length x, h]⟩
theorem oR {p x : List Nat} (h : p.isPrefixOf x = true) : p.length <= x.length := by
 rw [List.isPrefixOf_iff_prefix] at h; exact h.length_le
theorem zb6 (x p : List Nat) : ∀ (n i : Nat), i + n = x.length + 1 -> (match iN x p x.length n i 1 i with | k :: _ => (k : Int) | [] => -1) = jP x p i n := by
 intro n
 induction n with
 | zero => intro i _; simp [iN, jP]
 | succ n ih =>
  intro i hn
  unfold iN jP
  by_cases c : p.isPrefixOf (x.drop i) = true
  ·have hl := oR c
   rw [List.length_drop] at hl
   rw [if_pos c, if_pos ⟨by decide, Nat.le_refl _, by omega, (gY _ _).mp c⟩]
  ·rw [if_neg c, if_neg (fun h => c ((gY _ _).mpr h.2.2.2))]
   rw [<- ih (i + 1) (by omega)]
   have : ∀ (n i lim f g : Nat), f <= i -> g <= i -> (match iN x p x.length n i lim f with | k :: _ => (k : Int) | [] => -1) = (match iN x p x.length n i lim g with | k :: _ => (k : Int) | [] => -1) := by
    intro n
    induction n with
    | zero => intros; rfl
    | succ n ih =>
     intro i lim f g hf hg
     unfold iN
     by_cases c : 0 < lim /\ i + p.length <= x.length /\ (x.drop i).take p.length = p
     ·rw [if_pos ⟨c.1, hf, c.2⟩, if_pos ⟨c.1, hg, c.2⟩]
     ·rw [if_neg (fun h => c ⟨h.1, h.2.2⟩), if_neg (fun h => c ⟨h.1, h.2.2⟩)]
      exact ih _ _ _ _ (by omega) (by omega)
   exact this _ _ _ _ _ (by omega) (by omega)
theorem zax (x p : List Nat) (i : Int) (h0 : 0 <= i) : Txt.find3 ⟨x.toArray⟩ ⟨p.toArray⟩ i = xR x p i.toNat := by
 unfold Txt.find3 xR
 have e : fromIndex (⟨x.toArray⟩ : Str).length i = i.toNat := by unfold fromIndex; rw [if_neg (by omega)]; omega
 rw [e, qV, b7]
 by_cases hi : i.toNat <= x.length
 ·exact zb6 x p _ _ (by omega)
 ·have : x.length + 1 - i.toNat = 0 := by omega
  simp only [this]; rfl
theorem zbK (x p : List Nat) (f : Nat) : ∀ (n i : Nat), f <= i -> i + n = x.length + 1 -> i <= x.length -> (iN x p x.length n i 1 f ≠ [] ↔ kZ p (x.drop i) = true) := by
 intro n
 induction n generalizing f with
 | zero =>
  intro i hf hn hx
  omega
 | succ n ih =>
  intro i hf hn hx
  unfold iN
  by_cases hl : i = x.length
  ·subst hl
   have : n = 0 := by omega
   subst this
   rw [List.drop_length]
   by_cases hp : p = []
   ·subst hp; simp [kZ, hf]
   ·have : p.length ≠ 0 := by simpa using hp
    rw [if_neg (by rintro ⟨_, _, h, _⟩; omega)]
    simp [iN, kZ, hp]
  ·rw [List.drop_eq_getElem_cons (by omega : i < x.length)]
   simp only [kZ, Bool.or_eq_true]
   rw [<- List.drop_eq_getElem_cons (by omega : i < x.length)]
   by_cases c : p.isPrefixOf (x.drop i) = true
   ·have hl := oR c
    rw [List.length_drop] at hl
    rw [if_pos ⟨by decide, hf, by omega, (gY _ _).mp c⟩]
    simp [c]
   ·rw [if_neg (fun h => c ((gY _ _).mpr h.2.2.2)), ih f (i + 1) (by omega) (by omega) (by omega)]
    simp [c]
theorem jW (x p : List Nat) : (!(occurrences ⟨x.toArray⟩ ⟨p.toArray⟩ 0 (Str.length ⟨x.toArray⟩) 1).isEmpty) = kZ p x := by
 rw [qV, b7]
 have := zbK x p 0 (x.length + 1 - 0) 0 (Nat.le_refl _) (by omega) (by omega)
 simp only [List.drop_zero] at this
 by_cases c : kZ p x = true
 ·rw [c]; simpa using this.mpr c
 ·have h : iN x p x.length (x.length + 1 - 0) 0 1 0 = [] := by
   by_cases h : iN x p x.length (x.length + 1 - 0) 0 1 0 = []
   ·exact h
   ·exact absurd (this.mp h) c
  simp only [Bool.not_eq_true] at c
  rw [c]
  show (!(iN x p x.length (x.length + 1 - 0) 0 1 0).isEmpty) = false
  rw [h]; rfl
theorem yG (x : List Nat) (c hi : Nat) : ∀ (n i lim f : Nat), f <= i -> n <= lim -> hi <= x.length -> i + n = hi + 1 -> (iN x [c] hi n i lim f).length = ((x.take hi).drop i).count c := by
 intro n
 induction n with
 | zero => intro i lim f _ _ _ hn; simp [iN]; rw [List.drop_eq_nil_of_le (by simp; omega)]; rfl
 | succ n ih =>
  intro i lim f hf hl hh hn
  unfold iN
  by_cases hi' : i = hi
  ·subst hi'
   have : n = 0 := by omega
   subst this
   rw [if_neg (by rintro ⟨_, _, h, _⟩; simp only [List.length_cons, List.length_nil] at h; omega)]
   simp only [iN, List.length_nil]
   rw [List.drop_eq_nil_of_le (by simp; omega)]; rfl
  ·have hlt : i < (x.take hi).length := by simp; omega
   have hlt' : i < x.length := by omega
   rw [List.drop_eq_getElem_cons hlt, List.count_cons]
   have e : (x.take hi)[i] = x[i] := by simp
   rw [e]
   have e2 : (x.drop i).take [c].length = [x[i]] := by rw [List.drop_eq_getElem_cons hlt']; rfl
   by_cases c' : x[i] = c
   ·rw [if_pos ⟨by omega, hf, by simp; omega, by rw [e2, c']⟩]
    rw [List.length_cons, ih (i + 1) _ _ (by simp) (by omega) hh (by omega)]
    simp [c']
   ·rw [if_neg (by rintro ⟨_, _, _, h⟩; rw [e2] at h; exact c' (by simpa using h))]
    rw [ih (i + 1) lim f (by omega) (by omega) hh (by omega)]
    simp [c']
theorem zaL (x : List Nat) (c i j : Nat) : (occurrences ⟨x.toArray⟩ ⟨#[c]⟩ i (min j x.length) (x.length + 1)).length = ((x.take j).drop i).count c := by
 rw [qV]
 have e : (x.take j) = x.take (min j x.length) := by
  by_cases h : j <= x.length
  ·rw [Nat.min_eq_left h]
  ·rw [Nat.min_eq_right (by omega), List.take_of_length_le (by omega), List.take_length]
 rw [e]
 by_cases hi : i <= min j x.length
 ·exact yG x c _ _ _ _ _ (Nat.le_refl _) (by omega) (Nat.min_le_right _ _) (by omega)
 ·have : min j x.length + 1 - i = 0 := by omega
  rw [this]
  simp only [iN, List.length_nil]
  rw [List.drop_eq_nil_of_le (by simp; omega)]; rfl
theorem o8 (s : Str) (c hi i : Nat) (st : Option Nat) (hh : hi <= s.cps.toList.length) :
  StrLaws.lastBody s ⟨#[c]⟩ hi i st = pure (.yield (if i < hi /\ s.cps.toList[i]? = some c then some i else st)) := by
 have e2 : i < hi -> ((subAt s ⟨#[c]⟩ i = true) ↔ s.cps.toList[i]? = some c) := by
  intro hl
  have hlt : i < s.cps.toList.length := by omega
  rw [StrLaws.subAt_eq, beq_iff_eq]
  show (s.cps.toList.drop i).take 1 = [c] ↔ _
  rw [List.drop_eq_getElem_cons hlt, List.getElem?_eq_getElem hlt]
  simp
 unfold StrLaws.lastBody
 by_cases q : i < hi /\ s.cps.toList[i]? = some c
 ·rw [if_pos q, if_pos ⟨q.1, (e2 q.1).mpr q.2⟩]
 ·rw [if_neg q, if_neg (fun h => q ⟨h.1, (e2 h.1).mp h.2⟩)]
theorem w5 (s : Str) (c hi : Nat) (hh : hi <= s.cps.toList.length) : ∀ (n i : Nat) (st : Option Nat), i + n = hi + 1 ->
  (forIn (List.range' i n) st (StrLaws.lastBody s ⟨#[c]⟩ hi)).run = (match ((s.cps.toList.take hi).drop i).reverse.findIdx? (· == c) with
   | some k => some (((s.cps.toList.take hi).drop i).length - 1 - k + i) | none => st) := by
 intro n
 induction n with
 | zero =>
  intro i st hn
  rw [List.drop_eq_nil_of_le (by simp; omega)]
  rfl
 | succ n ih =>
  intro i st hn
  rw [List.range'_succ, List.forIn_cons, o8 _ _ _ _ _ hh]
  show (forIn (List.range' (i + 1) n) _ _ : Id _).run = _
  rw [ih (i + 1) _ (by omega)]
  by_cases hi' : i = hi
  ·subst hi'
   rw [List.drop_eq_nil_of_le (by simp; omega), List.drop_eq_nil_of_le (by simp; omega), if_neg (by omega)]
   rfl
  ·have hlt : i < (s.cps.toList.take hi).length := by simp at hh ⊢; omega
   have hlt' : i < s.cps.toList.length := by omega
   rw [List.drop_eq_getElem_cons hlt]
   have e : (s.cps.toList.take hi)[i] = s.cps.toList[i] := by rw [List.getElem_take]
   rw [e, List.reverse_cons, List.findIdx?_append, List.getElem?_eq_getElem hlt']
   cases hf : ((s.cps.toList.take hi).drop (i + 1)).reverse.findIdx? (· == c) with
   | some k =>
    have hk : k < ((s.cps.toList.take hi).drop (i + 1)).length := by
     have := List.findIdx?_eq_some_iff_getElem.mp hf
     obtain ⟨h, _⟩ := this
     simpa using h
    simp only [Option.some_or, List.length_cons]
    congr 1
    omega
   | none =>
    simp only [Option.none_or, List.length_reverse]
    by_cases q : s.cps.toList[i] = c
    ·rw [if_pos ⟨by omega, by rw [q]⟩]
     have : [s.cps.toList[i]].findIdx? (· == c) = some 0 := by simp [List.findIdx?_cons, q]
     rw [this]
     simp only [Option.map_some, List.length_cons]
     congr 1
     omega
    ·rw [if_neg (fun h => q (Option.some.inj h.2))]
     have : [s.cps.toList[i]].findIdx? (· == c) = none := by
      rw [List.findIdx?_cons]
      have : (s.cps.toList[i] == c) = false := beq_eq_false_iff_ne.mpr q
      simp only [this]; rfl
     rw [this]; rfl
theorem z0 (x : List Nat) (c i j : Nat) : (match lastOccurrence ⟨x.toArray⟩ ⟨#[c]⟩ i (min j x.length) with | some k => (k : Int) | none => -1) = dR c x i j := by
 rw [StrLaws.last_eq]
 unfold dR
 have e : (x.take j) = x.take (min j x.length) := by
  by_cases h : j <= x.length
  ·rw [Nat.min_eq_left h]
  ·rw [Nat.min_eq_right (by omega), List.take_of_length_le (by omega), List.take_length]
 rw [e]
 by_cases hi : i <= min j x.length
 ·rw [w5 _ _ _ (by simp; omega) _ _ _ (by omega)]
  show (match (match ((x.take (min j x.length)).drop i).reverse.findIdx? (· == c) with | some k => some (((x.take (min j x.length)).drop i).length - 1 - k + i) | none => none) with | some k => (k : Int) | none => -1) = _
  cases ((x.take (min j x.length)).drop i).reverse.findIdx? (· == c) <;> rfl
 ·have : min j x.length + 1 - i = 0 := by omega
  rw [this, List.drop_eq_nil_of_le (by simp; omega)]
  rfl
theorem qU {x : List Nat} {k : Nat} (r : List Nat) (h : k ∉ x) (hi : Nat) : ∀ n i lim free, iN x (k :: r) hi n i lim free = []
 | 0, _, _, _ => rfl
 | n + 1, i, lim, free => (if_neg fun q => h (List.mem_of_mem_drop (List.mem_of_mem_take (by rw [q.2.2.2]; exact List.mem_cons_self)))).trans (qU r h hi n _ _ _)
theorem sX (x : List Nat) (k : Nat) (r : List Nat) (z : Str) (h : k ∉ x) : Txt.replace ⟨x.toArray⟩ ⟨(k :: r).toArray⟩ z = ⟨x.toArray⟩ := by
 unfold Txt.replace
 rw [qV, qU r h]
 rfl
theorem kH (a b : Nat) : sliceRange (a : Int) (b : Int) 1 = (List.range (b - a)).map (fun k => a + k) := by
 unfold sliceRange
 by_cases h : (a : Int) < b
 ·have e : (((b : Int) - a + 1 - 1) / 1).toNat = b - a := by omega
  simp only [show ((1 : Int) > 0) = True from by simp, if_true, h, e]
  apply List.map_congr_left; intro k _; omega
 ·have : b - a = 0 := by omega
  rw [this]
  simp [h]
theorem yK (n : Nat) (i : Int) : max 0 (min (if i < 0 then i + (n : Int) else i) (n : Int)) = (eV n i : Int) := by
 unfold eV; split <;> omega
theorem zaa (n : Nat) (i : Int) : eV n i <= n := by unfold eV; split <;> omega
theorem zaZ (lo hi : Option Int) (n : Nat) : strSliceIndices lo hi 1 n = (List.range ((hi.map (eV n)).getD n - (lo.map (eV n)).getD 0)).map (fun k => (lo.map (eV n)).getD 0 + k) := by
 rw [<- kH]
 unfold strSliceIndices
 simp only [show ((1 : Int) > 0) = True from by simp, if_true]
 cases lo <;> cases hi <;> simp only [yK, Option.map_none, Option.map_some, Option.getD_none, Option.getD_some] <;> rfl
theorem zb3 (hi : Option Int) (n : Nat) : (hi.map (eV n)).getD n <= n := by
 cases hi with
 | none => simp
 | some i => simpa using zaa _ _
theorem kQ {α : Type} (l : List α) (lo hi : Option Int) : (strSliceIndices lo hi 1 l.length).filterMap (l[·]?) = slc l lo hi := by
 rw [zaZ]
 unfold slc
 by_cases h : (lo.map (eV l.length)).getD 0 <= (hi.map (eV l.length)).getD l.length
 ·exact StrLaws.picks l _ _ (by have := zb3 hi l.length; omega)
 ·have : (hi.map (eV l.length)).getD l.length - (lo.map (eV l.length)).getD 0 = 0 := by omega
  rw [this]; simp
theorem sP (lo hi : Option Int) {α : Type} (l : List α) : (strSliceIndices lo hi 1 l.length).length = (slc l lo hi).length := by
 rw [zaZ]
 unfold slc
 have := zb3 hi l.length
 simp only [List.length_map, List.length_range, List.length_take, List.length_drop]
 omega
theorem zU (l : Array Value) (lo hi : Option Int) : (slicePick l lo hi none).toList = slc l.toList lo hi := by
 rw [<- kQ]
 unfold slicePick sliceBounds strSliceIndices
 simp only [Option.getD_none, Array.length_toList, Array.getElem?_toList]
 rfl
theorem kR {α : Type} (l : List α) (lo hi : Option Int) : (slc l lo hi).length <= l.length := by
 unfold slc; simp only [List.length_take, List.length_drop]; omega
theorem zbE {α : Type} {l : List α} {lo hi : Option Int} {c : α} (h : c ∈ slc l lo hi) : c ∈ l := List.mem_of_mem_drop (List.mem_of_mem_take h)
section
variable {prog : Program} {w : World} {A : Around} {E : Value -> Shared -> Prop} {s : Shared} {G : GM} {P : Params} {a b : Value} {K : PV -> Prop} {σ : Nat -> Option Cell}
theorem okStr.slc {x : List Nat} (h : okStr x) (lo hi : Option Int) : okStr (slc x lo hi) :=
 ⟨fun c hc => h.1 c (zbE hc), Nat.le_trans (kR _ _ _) h.2⟩
theorem VRels.slc {vs : List Value} {ps : List PV} (h : VRels P G vs ps) (lo hi : Option Int) : VRels P G (slc vs lo hi) (slc ps lo hi) := by
 have e := h.length
 unfold Mine.slc
 rw [e]
 exact (h.drop _).take _
theorem eY {v sl : Value} {p r : PV} {lo hi : Option Int} {q : Addr} {vl vu : Value} (hi' : InH G s.heap) (hv : j6 P G s.heap v p)
  (hs : s.heap.get? q = some { cls := .type "slice", data := .fields #[vl, vu, .none] }) (hl : ∃ t, vl = partValue (lo.map (·, t))) (hu : ∃ t, vu = partValue (hi.map (·, t)))
  (hr : (match p with | .str x => r = .str (Mine.slc x lo hi) | .list xs => r = .list (Mine.slc xs lo hi) | _ => False)) (hk : K r) :
  GW (model prog w) A P E G s (getItem v (.ref q)) K := by
 obtain ⟨t1, rfl⟩ := hl
 obtain ⟨t2, rfl⟩ := hu
 cases p <;> simp only at hr
 ·subst hr
  rename_i x
  simp only [j6, VRel] at hv
  obtain ⟨t, rfl, ok⟩ := hv
  refine wpAny_getItem_str_slice (l := lo.map (·, t1)) (u := hi.map (·, t2)) (st := none) ⟨_, hs, rfl, rfl⟩ rfl ?_
  have e1 : (lo.map (·, t1)).map (·.1) = lo := by cases lo <;> rfl
  have e2 : (hi.map (·, t2)).map (·.1) = hi := by cases hi <;> rfl
  have e3 : (slicePicked ⟨x.toArray⟩ (lo.map (·, t1)) (hi.map (·, t2)) none).filterMap ((⟨x.toArray⟩ : Str).cps[·]?) = slc x lo hi := by
   unfold slicePicked
   rw [e1, e2, b7]
   rw [<- kQ]
   simp
  unfold sliceMade
  have ok' := ok.slc lo hi
  split
  ·rename_i hc
   simp only [Bool.and_eq_true, beq_iff_eq] at hc
   have hlen := hc.2
   have : slc x lo hi = x := by
    have l3 : (slc x lo hi).length = x.length := by
     rw [b7] at hlen
     rw [<- sP]
     unfold slicePicked at hlen
     rw [e1, e2, b7] at hlen
     exact hlen
    unfold slc at l3 ⊢
    simp only [List.length_take, List.length_drop] at l3
    have h1 := zb3 hi x.length
    by_cases h0 : x.length = 0
    ·have : x = [] := List.length_eq_zero_iff.mp h0
     subst this; simp
    ·have h2 : (lo.map (eV x.length)).getD 0 = 0 := by omega
     rw [h2, List.drop_zero]
     exact List.take_of_length_le (by omega)
   refine ⟨.str x, G, by rw [<- this]; rw [this] at hk ⊢; exact hk, GS.refl hi', ?_⟩
   simp only [VRel]
   exact ⟨t, rfl, ok⟩
  ·rw [e3]
   refine ⟨by rw [b7]; exact ok'.2, _, G, hk, GS.toks hi' _, ?_⟩
   simp only [VRel]
   exact ⟨_, rfl, ok'⟩
 ·subst hr
  rename_i xs
  obtain ⟨a, o, vs, n, rfl, h2, h3, h3', h4, h5, h6⟩ := hv
  refine wpAny_getItem_list_slice (lo := lo) (hi := hi) (st := none) (vs := .none) ⟨o, h2, h3, n, h4⟩ ⟨_, hs, rfl, rfl⟩ ?_ ?_ IsPart.none (by simp) ?_ h5
  ·cases lo with
   | none => exact IsPart.none
   | some i => exact IsPart.int _ _
  ·cases hi with
   | none => exact IsPart.none
   | some i => exact IsPart.int _ _
  ·have g := GS.push hi' { cls := .type "list", data := .seq (slicePick vs lo hi none) } rfl s.toks
   refine ⟨_, _, hk, g, ?_⟩
   simp only [VRel]
   have el : (slicePick vs lo hi none).toList = slc vs.toList lo hi := zU _ _ _
   refine ⟨_, _, _, _, rfl, cH, rfl, rfl, rfl, ?_, by rw [el]; exact (h6.slc lo hi).mono g.ext⟩
   rw [<- Array.length_toList, el]
   exact Nat.le_trans (kR _ _ _) (by simpa using h5)
end
open PySem.NumText
theorem gM {c d : Nat} (h : pA c = some d) : digit? c = some d /\ d < 10 /\ c ≠ 95 /\ 33 <= c /\ c < 128 /\ c ≠ 45 /\ c ≠ 43 := by
 unfold pA at h
 unfold digit?
 split at h
 ·rename_i q; cases h; rw [if_pos (by simp; omega)]; exact ⟨rfl, by omega⟩
 ·cases h
theorem qW : ∀ (cs : List Nat) (acc n : Nat) (ds : Array Nat) (fl : Bool), fW acc cs = some n -> ds.foldl (fun a d => a * 10 + d) 0 = acc ->
  ∃ ds', cs.foldlM (NumText.step 10) (ds, fl) = some (ds', if cs = [] then fl else true) /\ ds'.foldl (fun a d => a * 10 + d) 0 = n /\ ds'.size = ds.size + cs.length
 | [], acc, n, ds, fl, h, e => by
  simp only [fW, Option.some.injEq] at h
  exact ⟨ds, rfl, by rw [e, h], rfl⟩
 | c :: cs, acc, n, ds, fl, h, e => by
  obtain ⟨d, hd, h⟩ := Option.bind_eq_some_iff.mp h
  ·obtain ⟨h1, h2, h3, _⟩ := gM hd
   have hs : NumText.step 10 (ds, fl) c = some (ds.push d, true) := by
    unfold NumText.step
    have : (c == 95) = false := beq_eq_false_iff_ne.mpr h3
    rw [this, h1]
    simp [h2]
   obtain ⟨ds', q1, q2, q3⟩ := qW cs (acc * 10 + d) n (ds.push d) true h (by simp [e])
   refine ⟨ds', ?_, q2, by simp at q3 ⊢; omega⟩
   rw [List.foldlM_cons, hs]
   simp only [Option.bind_eq_bind, Option.bind_some]
   rw [q1]; simp
theorem wF : ∀ (cs : List Nat) (acc n : Nat), fW acc cs = some n -> ∀ c ∈ cs, ∃ d, pA c = some d
 | [], _, _, _, _, h => by simp at h
 | c :: cs, acc, n, h, x, hx => by
  obtain ⟨d, hd, h⟩ := Option.bind_eq_some_iff.mp h
  rcases List.mem_cons.mp hx with rfl | hx
  ·exact ⟨d, hd⟩
  ·exact wF cs _ _ h x hx
theorem tD {n : Nat} {cs : List Nat} (h : fW 0 cs = some n) (hne : cs ≠ []) : ∃ ds, digits? 10 cs = some ds /\ ds.foldl (fun a d => a * 10 + d) 0 = n /\ ds.size = cs.length := by
 obtain ⟨ds, h1, h2, h3⟩ := qW cs 0 n #[] false h rfl
 refine ⟨ds, ?_, h2, by simpa using h3⟩
 unfold digits?
 rw [h1, if_neg hne]; rfl
theorem yN {c d : Nat} (h : pA c = some d) : blank c = false := by
 obtain ⟨_, _, _, h1, h2, _⟩ := gM h
 unfold blank
 simp only [Bool.or_eq_false_iff, beq_eq_false_iff_ne, Bool.and_eq_false_iff, decide_eq_false_iff_not]
 omega
theorem k9 {cs : List Nat} (h : ∀ c ∈ cs, blank c = false) : cs.dropWhile blank = cs := by
 cases cs with
 | nil => rfl
 | cons c cs => rw [List.dropWhile_cons, h c (by simp)]; rfl
theorem vB {cs : List Nat} (h : ∀ c ∈ cs, c ≠ 0) : cs.takeWhile (· != 0) = cs := by
 induction cs with
 | nil => rfl
 | cons c cs ih =>
  have : (c != 0) = true := by have := h c (by simp); simpa using this
  rw [List.takeWhile_cons, if_pos this, ih fun d hd => h d (by simp [hd])]
theorem uG {x : List Nat} (h : ∀ c ∈ x, c < 128) (h0 : ∀ c ∈ x, c ≠ 0) : numTextOf ⟨x.toArray⟩ = x /\ numSeenOf ⟨x.toArray⟩ = x := by
 have e : numTextOf ⟨x.toArray⟩ = x := by
  unfold numTextOf
  rw [if_pos]
  rw [Array.all_eq_true]
  intro i hi
  simp only [decide_eq_true_eq]
  exact h _ (by simp)
 refine ⟨e, ?_⟩
 unfold numSeenOf
 rw [e]; exact vB h0
theorem yY (neg : Bool) (ds : Array Nat) (n : Nat) (h : ds.foldl (fun a d => a * 10 + d) 0 = n) : worth neg ds = if neg then -(n : Int) else n := by
 unfold worth; rw [h]
theorem f6 {x : List Nat} {neg : Bool} {cs : List Nat} {n : Nat} (hx : (neg = true /\ x = 45 :: cs) \/ (neg = false /\ x = 43 :: cs) \/ (neg = false /\ x = cs)) (hne : cs ≠ []) (hn : fW 0 cs = some n) (hl : cs.length <= 4300) :
  PySem.intText? ⟨x.toArray⟩ = some (if neg then -(n : Int) else n) := by
 have hm := wF cs 0 n hn
 have hasc : ∀ c ∈ x, c < 128 /\ c ≠ 0 := by
  have hc : ∀ c ∈ cs, c < 128 /\ c ≠ 0 := fun c hc => by
   obtain ⟨d, hd⟩ := hm c hc
   have := (gM hd).2.2.2
   omega
  intro c hc'
  rcases hx with ⟨_, rfl⟩ | ⟨_, rfl⟩ | ⟨_, rfl⟩
  ·rcases List.mem_cons.mp hc' with rfl | h
   ·omega
   ·exact hc c h
  ·rcases List.mem_cons.mp hc' with rfl | h
   ·omega
   ·exact hc c h
  ·exact hc c hc'
 obtain ⟨e1, e2⟩ := uG (fun c hc => (hasc c hc).1) fun c hc => (hasc c hc).2
 have hb : ∀ c ∈ cs, blank c = false := fun c hc => by obtain ⟨d, hd⟩ := hm c hc; exact yN hd
 have hbr : ∀ c ∈ cs.reverse, blank c = false := fun c hc => hb c (List.mem_reverse.mp hc)
 have hsign : sign (x.dropWhile blank) = (neg, cs) := by
  rcases hx with ⟨rfl, rfl⟩ | ⟨rfl, rfl⟩ | ⟨rfl, rfl⟩
  ·have : (45 :: cs).dropWhile blank = 45 :: cs := by rw [List.dropWhile_cons]; rfl
   rw [this]; rfl
  ·have : (43 :: cs).dropWhile blank = 43 :: cs := by rw [List.dropWhile_cons]; rfl
   rw [this]; rfl
  ·rw [k9 hb]
   cases x with
   | nil => exact absurd rfl hne
   | cons c r =>
    obtain ⟨d, hd⟩ := hm c (by simp)
    obtain ⟨_, _, _, _, _, h1, h2⟩ := gM hd
    unfold sign
    split
    ·rename_i heq; cases heq; exact absurd rfl h1
    ·rename_i heq; cases heq; exact absurd rfl h2
    ·rfl
 obtain ⟨ds, d1, d2, d3⟩ := tD hn hne
 have hcore : core x = cs := by
  unfold core
  rw [hsign]
  simp only
  rw [k9 hbr, List.reverse_reverse]
 unfold PySem.intText?
 rw [e1, e2]
 simp only [beq_self_eq_true, if_true]
 rw [hcore, d1]
 simp only
 rw [if_pos (by omega), hsign, yY _ _ n d2]
theorem lN {P : Params} {G : GM} : ∀ {ps : List PV} {vs : List Value} {zs : List (List Nat)}, VRels P G vs ps -> eM ps = some zs -> StrsAre vs (zs.map fun z => ⟨z.toArray⟩) /\ ∀ z ∈ zs, okStr z
 | [], vs, zs, r, h => by
  simp only [VRels] at r; subst r
  simp only [eM, Option.some.injEq] at h; subst h
  exact ⟨.nil, by simp⟩
 | p :: ps, vs, zs, r, h => by
  simp only [VRels] at r
  obtain ⟨v, w, rfl, r1, r2⟩ := r
  obtain ⟨x, hx, h⟩ := Option.bind_eq_some_iff.mp h
  obtain ⟨ys, hy, rfl⟩ := Option.map_eq_some_iff.mp h
  cases p <;> first | (cases hx; done) | skip
  cases hx
  simp only [VRel] at r1
  obtain ⟨t, rfl, ok⟩ := r1
  obtain ⟨q1, q2⟩ := lN r2 hy
  refine ⟨.cons _ t q1, ?_⟩
  intro z hz
  rcases List.mem_cons.mp hz with rfl | hz
  ·exact ok
  ·exact q2 z hz
theorem yR (zs : List (List Nat)) (x : List Nat) : ((zs.map fun z => (⟨z.toArray⟩ : Str)).any fun y => y == ⟨x.toArray⟩) = decide (x ∈ zs) := by
 rw [List.any_map]
 by_cases h : x ∈ zs
 ·rw [decide_eq_true h, List.any_eq_true]
  exact ⟨x, h, by simp⟩
 ·rw [decide_eq_false h, List.any_eq_false]
  intro z hz
  simp only [Function.comp]
  intro e
  have e := eq_of_beq e
  have : z = x := by simpa using congrArg (fun s : Str => s.cps.toList) e
  exact h (this ▸ hz)
theorem w3 : ∀ (x y : List Nat), (!(decide (y < x))) = leS x y
 | [], y => by cases y <;> rfl
 | a :: x, [] => rfl
 | a :: x, b :: y => by
  have ih := w3 x y
  rw [StrLaws.lt_cons_cons]
  show _ = if a = b then leS x y else decide (a < b)
  by_cases h : a = b
  ·subst h; simp only [Nat.lt_irrefl, decide_false, Bool.false_or, beq_self_eq_true, Bool.true_and, if_true]; exact ih
  ·rw [if_neg h]
   have : (b == a) = false := by simp; omega
   rw [this, Bool.false_and, Bool.or_false]
   by_cases h' : a < b
   ·rw [decide_eq_true h', decide_eq_false (by omega)]; rfl
   ·rw [decide_eq_false h', decide_eq_true (by omega)]; rfl
section
variable {prog : Program} {w : World} {A : Around} {E : Value -> Shared -> Prop} {s : Shared} {G : GM} {a b : Value} {K : PV -> Prop} {σ : Nat -> Option Cell}
theorem in_G (neg : Bool) {p q : PV} (hi : InH G s.heap) (ha : VRel w.params G a p) (hb : VRel w.params G b q) (h : inW p q fun r => K (.bool (if neg then !r else r))) :
  GW (model prog w) A w.params E G s (compareOp (if neg then .NotIn else .In) a b) K := by
 obtain ⟨x, rfl, h⟩ := c8 h
 simp only [VRel] at ha
 obtain ⟨t, rfl, _⟩ := ha
 cases q <;> first | exact False.elim h | skip
 ·simp only [VRel] at hb
  obtain ⟨u, rfl, _⟩ := hb
  cases neg
  ·exact c5 hi h fun Q q => P.in_str (by rw [jW]; exact q)
  ·exact c5 hi h fun Q q => P.notIn_str (by rw [jW]; exact q)
 ·obtain ⟨zs, hz, h⟩ := h
  simp only [VRel] at hb
  obtain ⟨x, o, vs, n, rfl, h2, h3, h4, h5, h6⟩ := hb
  obtain ⟨q1, _⟩ := lN h6 hz
  have ht : IsTup s.heap x vs := ⟨o, hi _ _ h2, h3, n, h4⟩
  cases neg
  ·exact c5 hi h fun Q q => in_tuple_strs ht q1 (by rw [yR]; exact q)
  ·exact c5 hi h fun Q q => notin_tuple_strs ht q1 (by rw [yR]; exact q)
theorem is_G (neg : Bool) {p q : PV} (hi : InH G s.heap) (ha : VRel w.params G a p) (hb : VRel w.params G b q) (h : isW p q fun r => K (.bool (if neg then !r else r))) :
  GW (model prog w) A w.params E G s (compareOp (if neg then .IsNot else .Is) a b) K := by
 have main : ∀ {a b : Value} {r : Bool}, plainIs a b = true -> (a == b) = r -> K (.bool (if neg then !r else r)) -> GW (model prog w) A w.params E G s (compareOp (if neg then .IsNot else .Is) a b) K := by
  intro a b r h1 h2 hk
  subst h2
  cases neg
  ·exact c5 hi hk fun Q q => wpAny_is_plain h1 q
  ·exact c5 hi hk fun Q q => wpAny_isNot_plain h1 q
 cases q <;> first | exact False.elim h | skip
 ·simp only [VRel] at hb
  subst hb
  cases p <;> first | exact False.elim h | skip
  ·simp only [VRel] at ha
   subst ha; exact main rfl rfl h
  ·simp only [VRel] at ha
   obtain ⟨t, rfl⟩ := ha; exact main rfl rfl h
 ·rename_i y
  cases p <;> first | exact False.elim h | skip
  rename_i x
  simp only [VRel] at ha hb
  subst ha hb; exact main rfl (by cases x <;> cases y <;> rfl) h
theorem zdS {n : Nat} (hA : Room n A) {op : CmpOp} {p q : PV} (hi : InH G s.heap) (hc : kC w.params G s.heap σ) (ha : VRel w.params G a p) (hb : VRel w.params G b q)
  (h : zbk σ op p q fun r => K (.bool r)) : GW (model prog w) A w.params E G s (compareOp op a b) K := by
 have twoI : ∀ {c : Int -> Int -> Bool} {op : CmpOp}, (asI p fun x => asI q fun y => K (.bool (c x y))) -> (∀ x t y u (Q : Value -> Shared -> Prop), Q (.bool (c x y)) s -> wpAny (model prog w) A (compareOp op (.int x t) (.int y u)) Q E s) -> GW (model prog w) A w.params E G s (compareOp op a b) K := by
  intro c op h k
  obtain ⟨x, rfl, h⟩ := cA h
  obtain ⟨y, rfl, h⟩ := cA (v := q) h
  simp only [VRel] at ha hb
  obtain ⟨t, rfl⟩ := ha; obtain ⟨u, rfl⟩ := hb
  exact c5 hi h fun Q q => k x t y u Q q
 cases op
 ·exact eq_G hA false hi hc ha hb h
 ·exact eq_G hA true hi hc ha hb h
 ·exact twoI h fun _ _ _ _ Q q => lt_int q
 ·have h : leP p q fun r => K (.bool r) := h
  cases p <;> first | exact False.elim h | skip
  ·exact twoI (c := fun x y => decide (x <= y)) h fun _ _ _ _ Q q => le_int q
  ·obtain ⟨y, rfl, h⟩ := c8 (v := q) h
   simp only [VRel] at ha hb
   obtain ⟨t, rfl, _⟩ := ha; obtain ⟨u, rfl, _⟩ := hb
   exact c5 hi h fun Q q => P.le_str (by simpa [w3] using q)
 ·exact twoI h fun _ _ _ _ Q q => gt_int q
 ·exact False.elim h
 ·exact is_G false hi ha hb h
 ·exact is_G true hi ha hb h
 ·exact in_G false hi ha hb h
 ·exact in_G true hi ha hb h
theorem zbv {v : Value} {p : PV} {b : Bool} (hi : InH G s.heap) (hv : j6 w.params G s.heap v p) (h : qF p = some b) :
  wpAny (model prog w) A (truthy v) (fun c s' => c = b /\ GS G s G s') E s := by
 have len2 : ∀ n : Nat, n <= a0 -> (n : Int) < 2 ^ 63 := by intro n hn; unfold a0 at hn; omega
 cases p <;> first | (cases h; done) | skip
 all_goals cases h
 ·simp only [j6, VRel] at hv; subst hv; exact truthy_none ⟨rfl, GS.refl hi⟩
 ·simp only [j6, VRel] at hv; subst hv; exact wpAny_truthy_bool ⟨rfl, GS.refl hi⟩
 ·simp only [j6, VRel] at hv; obtain ⟨t, rfl⟩ := hv
  rename_i i
  exact truthy_int ⟨by by_cases e : i = 0 <;> simp [e], GS.refl hi⟩
 ·simp only [j6, VRel] at hv; obtain ⟨t, rfl, ok⟩ := hv
  rename_i x
  refine P.truthy_str (by rw [b7]; exact Int.not_le.mpr (len2 _ ok.2)) ⟨?_, GS.toks hi _⟩
  rw [b7]
  cases x <;> rfl
 ·simp only [j6, VRel] at hv
  obtain ⟨x, o, vs, n, rfl, h2, h3, h4, h5, h6⟩ := hv
  rename_i xs
  refine truthy_tuple (items := vs) ⟨o, hi _ _ h2, h3, n, h4⟩ (len2 _ h5) ⟨?_, GS.toks hi _⟩
  have e := h6.length
  cases xs <;> simp at e <;> simp [Array.isEmpty, e]
 ·obtain ⟨x, vs, rfl, h2, h5, h6⟩ := LView.isList hv
  rename_i xs
  refine wpAny_truthy_list h2 (len2 _ h5) ⟨?_, GS.toks hi _⟩
  have e := h6.length
  cases xs <;> simp at e <;> simp [Array.isEmpty, e]
end
noncomputable def fS : Obj := { cls := .type "dict", data := .dict #[] }
noncomputable def zaU (P : Params) (G : GM) (sl : Array (Option Value)) (fs : List (Option PV)) : Prop :=
 sl.size <= fs.length /\ ∀ (i : Nat) (p : PV), fs[i]? = some (some p) -> ∃ v, sl[i]? = some (some v) /\ VRel P G v p
noncomputable def CellRel (P : Params) (G : GM) (h : Heap) (a : Nat) : Cell -> Prop
 | .lst xs => ∃ vs n, h.get? a = some { cls := .type "list", data := .seq vs n } /\ vs.size <= a0 /\ VRels P G vs.toList xs
 | .ins c fs => ∃ dx sl, h.get? a = some { cls := .ref c, dict := some dx, data := .plain, slots := sl } /\ G dx = some fS /\ zaU P G sl fs
theorem CellRel.mono {P : Params} {G G' : GM} {h h' : Heap} {a : Nat} {c : Cell} (r : CellRel P G h a c) (hs : Sub G G') (hk : ∀ o, h.get? a = some o -> h'.get? a = some o) : CellRel P G' h' a c := by
 cases c with
 | lst xs => obtain ⟨vs, n, h1, h2, h3⟩ := r; exact ⟨vs, n, hk _ h1, h2, h3.mono hs⟩
 | ins c fs =>
  obtain ⟨dx, sl, h1, h2, h3, h4⟩ := r
  exact ⟨dx, sl, hk _ h1, hs _ _ h2, h3, fun i p e => let ⟨v, e1, e2⟩ := h4 i p e; ⟨v, e1, e2.mono hs⟩⟩
structure Rep (P : Params) (G : GM) (env : Env) (st : St) (s : Shared) : Prop where
 inh : InH G s.heap
 tk : 1 <= s.toks
 ns : ∃ m, s.heap.Ns env.locals m /\ ∀ x p, st.ρ x = some p -> env.kindOf x = some .local -> ∃ v, m x = some v /\ VRel P G v p
 kind : ∀ x p, st.ρ x = some p -> env.kindOf x = some .local \/ env.kindOf x = some .cell \/ env.kindOf x = some .free
 cel : ∀ x p, st.ρ x = some p -> env.kindOf x ≠ some .local -> ∃ c v, env.cells.lookup x = some c /\ s.heap.IsCell c (some v) /\ VRel P G v p
 cell0 : ∀ x, env.kindOf x = some .cell -> ∃ c v, env.cells.lookup x = some c /\ s.heap.IsCell c v
 gl : G env.locals = none
 gc : ∀ x c, env.cells.lookup x = some c -> G c = none /\ c ≠ env.locals
 cinj : ∀ x y c, env.cells.lookup x = some c -> env.cells.lookup y = some c -> x = y
 cells : ∀ a c, st.σ a = some c -> CellRel P G s.heap a c /\ G a = none /\ a ≠ env.locals /\ ∀ x, env.cells.lookup x ≠ some a
structure Tr (cw : Bool) (env : Env) (G : GM) (st : St) (s : Shared) (G' : GM) (st' : St) (s' : Shared) : Prop where
 ext : Sub G G'
 new : ∀ a o, G' a = some o -> G a = some o \/ s.heap.get? a = none
 keep : ∀ a o, s.heap.get? a = some o -> a ≠ env.locals -> (cw = true -> ∀ x, env.cells.lookup x ≠ some a) -> st.σ a = none -> s'.heap.get? a = some o
 alive : ∀ a, (s.heap.get? a).isSome = true -> (s'.heap.get? a).isSome = true
 dom : ∀ a, (st.σ a).isSome = true -> (st'.σ a).isSome = true
 fresh : ∀ a, (st'.σ a).isSome = true -> (st.σ a).isSome = true \/ s.heap.get? a = none
 os : s'.os = s.os
 gens : AllBare s.gens -> AllBare s'.gens
section
variable {P : Params} {G G' G'' : GM} {env : Env} {st st' st'' : St} {s s' s'' : Shared} {cw : Bool}
theorem Tr.refl : Tr cw env G st s G st s := ⟨.refl _, fun _ _ e => .inl e, fun _ _ e _ _ _ => e, fun _ e => e, fun _ e => e, fun _ e => .inl e, rfl, fun e => e⟩
theorem Tr.trans (h : Tr cw env G st s G' st' s') (h' : Tr cw env G' st' s' G'' st'' s'') : Tr cw env G st s G'' st'' s'' where
 ext := h.ext.trans h'.ext
 new := fun a o e => by
  rcases h'.new a o e with q | q
  ·exact h.new a o q
  ·right
   cases e' : s.heap.get? a with
   | none => rfl
   | some o' => have := h.alive a (by rw [e']; rfl); rw [q] at this; cases this
 keep := fun a o e h1 h2 h3 => h'.keep a o (h.keep a o e h1 h2 h3) h1 h2 (by
  cases q : st'.σ a with
  | none => rfl
  | some c =>
   rcases h.fresh a (by rw [q]; rfl) with r | r
   ·rw [h3] at r; cases r
   ·rw [e] at r; cases r)
 alive := fun a e => h'.alive a (h.alive a e)
 dom := fun a e => h'.dom a (h.dom a e)
 fresh := fun a e => by
  rcases h'.fresh a e with q | q
  ·exact h.fresh a q
  ·right
   cases e' : s.heap.get? a with
   | none => rfl
   | some o' => have := h.alive a (by rw [e']; rfl); rw [q] at this; cases this
 os := h'.os.trans h.os
 gens := fun e => h'.gens (h.gens e)
theorem GS.tr (g : GS G s G' s') : Tr cw env G st s G' st s' :=
 ⟨g.ext, g.new, fun a o e _ _ _ => g.keep a o e, fun a e => by
  obtain ⟨o, ho⟩ := Option.isSome_iff_exists.mp e
  rw [g.keep a o ho]; rfl, fun _ e => e, fun _ e => .inl e, g.os, g.gens⟩
theorem GS.none_stays (g : GS G s G' s') {a : Nat} {o : Obj} (ha : s.heap.get? a = some o) (h : G a = none) : G' a = none := by
 cases e : G' a with
 | none => rfl
 | some o' =>
  rcases g.new a o' e with q | q
  ·rw [h] at q; cases q
  ·rw [ha] at q; cases q
theorem bI {h h' : Heap} {c : Addr} {v : Option Value} (x : h.IsCell c v) (k : ∀ o, h.get? c = some o -> h'.get? c = some o) : h'.IsCell c v := let ⟨o, e, d⟩ := x; ⟨o, k o e, d⟩
theorem CellRel.alive {h : Heap} {a : Nat} {c : Cell} (r : CellRel P G h a c) : ∃ o, h.get? a = some o := by
 cases c with
 | lst xs => obtain ⟨vs, n, h1, _⟩ := r; exact ⟨_, h1⟩
 | ins c fs => obtain ⟨dx, sl, h1, _⟩ := r; exact ⟨_, h1⟩
noncomputable def CellsThere (env : Env) (h : Heap) : Prop := ∀ x c, env.cells.lookup x = some c -> ∃ o, h.get? c = some o
theorem Rep.grow (R : Rep P G env st s) (hct : CellsThere env s.heap) (g : GS G s G' s') (tk : 1 <= s'.toks) : Rep P G' env st s' where
 inh := g.inh
 tk := tk
 ns := by
  obtain ⟨m, h1, h2⟩ := R.ns
  exact ⟨m, h1.keeps g.keep, fun x p e k => let ⟨v, a, b⟩ := h2 x p e k; ⟨v, a, b.mono g.ext⟩⟩
 kind := R.kind
 cel := fun x p e k => let ⟨c, v, h1, h2, h3⟩ := R.cel x p e k; ⟨c, v, h1, bI h2 (g.keep c), h3.mono g.ext⟩
 cell0 := fun x e => let ⟨c, v, h1, h2⟩ := R.cell0 x e; ⟨c, v, h1, bI h2 (g.keep c)⟩
 gl := by
  obtain ⟨m, ⟨o, es, ep, h1, _⟩, h2⟩ := R.ns
  exact g.none_stays h1 R.gl
 gc := fun x c e => by
  obtain ⟨o, ho⟩ := hct x c e
  exact ⟨g.none_stays ho (R.gc x c e).1, (R.gc x c e).2⟩
 cinj := R.cinj
 cells := fun a c e => by
  obtain ⟨h1, h2, h3⟩ := R.cells a c e
  obtain ⟨o, ho⟩ := h1.alive
  exact ⟨h1.mono g.ext (g.keep a), g.none_stays ho h2, h3⟩
theorem CellsThere.grow (h : CellsThere env s.heap) (hk : ∀ a, (s.heap.get? a).isSome = true -> (s'.heap.get? a).isSome = true) : CellsThere env s'.heap := fun x c e => by
 obtain ⟨o, ho⟩ := h x c e
 exact Option.isSome_iff_exists.mp (hk c (by rw [ho]; rfl))
theorem Rep.cellsOk (R : Rep P G env st s) : kC P G s.heap st.σ := fun a xs e => by
 obtain ⟨⟨vs, n, h1, h2, h3⟩, _⟩ := R.cells a _ e
 exact ⟨a, _, vs, n, rfl, h1, rfl, rfl, rfl, h2, h3⟩
theorem Rep.view (R : Rep P G env st s) {v : Value} {p : PV} (h : VRel P G v p) : j6 P G s.heap v (der st.σ p) := by
 cases p with
 | ptr a =>
  show j6 P G s.heap v (Option.casesOn (motive := fun _ => PV) (eI (st.σ a)) (.ptr a) .list)
  cases e : st.σ a with
  | none => exact h
  | some c => cases c with
   | lst xs => simp only [VRel] at h; subst h; exact R.cellsOk a xs e
   | ins c fs => exact h
 | _ => exact h.view R.inh
end
section
variable {prog : Program} {w : World} {A : Around} {E : Value -> Shared -> Prop} {s : Shared} {G : GM} {env : Env} {st : St} {cw : Bool} {K : PV -> Prop}
noncomputable def zdY (P : Params) (cw : Bool) (env : Env) (G : GM) (st : St) (s : Shared) (Q : PV -> St -> Prop) (v : Value) (s' : Shared) : Prop :=
 ∃ p G' st', Q p st' /\ Rep P G' env st' s' /\ CellsThere env s'.heap /\ Tr cw env G st s G' st' s' /\ VRel P G' v p
theorem g9 {t : Sem Value} {Q : PV -> St -> Prop} (R : Rep w.params G env st s) (hct : CellsThere env s.heap) (h : GW (model prog w) A w.params E G s t fun p => Q p st) :
  wpAny (model prog w) A t (zdY w.params cw env G st s Q) E s := by
 refine wpAny_mono (wpAny_toks_of R.tk h) (fun v s' ⟨tk, p, G', hq, g, r⟩ => ?_) fun _ _ e => e.2
 exact ⟨p, G', st, hq, R.grow hct g tk, hct.grow (fun a e => by obtain ⟨o, ho⟩ := Option.isSome_iff_exists.mp e; rw [g.keep a o ho]; rfl), g.tr, r⟩
end
noncomputable def uH (P : Params) (G : GM) (h : Heap) (vs : List Value) : List PV -> Prop
 | [] => vs = []
 | x :: xs => ∃ v r, vs = v :: r /\ j6 P G h v x /\ uH P G h r xs
noncomputable def hV (name : Str) : Value :=
 if name = "int" then .type "int" else if name = "range" then .type "range" else if name = "len" then .builtin "len" else if name = "ord" then .builtin "ord"
 else if name = "chr" then .builtin "chr" else .builtin "sum"
theorem xJ {P : Params} {G : GM} : ∀ {ps : List PV} {vs : List Value} {zs : List Int}, VRels P G vs ps -> jK ps = some zs -> ∃ xs : List (Int × Tok), vs = xs.map (fun x => .int x.1 x.2) /\ xs.map (·.1) = zs
 | [], vs, zs, r, h => by
  simp only [VRels] at r; subst r
  simp only [jK, Option.some.injEq] at h; subst h
  exact ⟨[], rfl, rfl⟩
 | p :: ps, vs, zs, r, h => by
  simp only [VRels] at r
  obtain ⟨v, w, rfl, r1, r2⟩ := r
  obtain ⟨x, hx, h⟩ := Option.bind_eq_some_iff.mp h
  obtain ⟨ys, hy, rfl⟩ := Option.map_eq_some_iff.mp h
  cases p <;> first | (cases hx; done) | skip
  cases hx
  simp only [VRel] at r1
  obtain ⟨t, rfl⟩ := r1
  obtain ⟨xs, q1, q2⟩ := xJ r2 hy
  exact ⟨(x, t) :: xs, by rw [q1]; rfl, by rw [<- q2]; rfl⟩
section
variable {prog : Program} {w : World} {A : Around} {E : Value -> Shared -> Prop} {s : Shared} {G : GM} {K : PV -> Prop}
theorem GS.heap {G : GM} {s : Shared} (hi : InH G s.heap) {h' : Heap} (k : Nat) (hk : ∀ a o, s.heap.get? a = some o -> h'.get? a = some o) : GS G s G { s with heap := h', toks := k } :=
 ⟨.refl _, fun a o e => hk a o (hi a o e), fun _ _ e => .inl e, hk, rfl, fun e => e⟩
theorem oS {c : Nat} (h : c < 1114112) : okStr [c] := ⟨by simpa using h, by simp [a0]⟩
theorem fA {P : Params} {h : Heap} {vs : List Value} {p : PV} (hv : uH P G h vs [p]) : ∃ v, vs = [v] /\ j6 P G h v p := by
 obtain ⟨v, r, rfl, h1, rfl⟩ := hv; exact ⟨v, rfl, h1⟩
theorem uT {P : Params} {h : Heap} {v : Value} {i : Int} (hv : j6 P G h v (.int i)) : ∃ t, v = .int i t := by simpa only [j6, VRel] using hv
theorem zbs {P : Params} {h : Heap} {v : Value} {x : List Nat} (hv : j6 P G h v (.str x)) : ∃ t, v = .str ⟨x.toArray⟩ t /\ okStr x := by simpa only [j6, VRel] using hv
theorem bi_G {n : Nat} (hA : Room n A) {name : Str} {vs : List Value} {ps : List PV} (hi : InH G s.heap) (hv : uH w.params G s.heap vs ps) (h : biP name ps K) :
  GW (model prog w) A w.params E G s (call (hV name) vs) K := by
 have len2 : ∀ n : Nat, n <= a0 -> (n : Int) < 2 ^ 63 := by intro n hn; unfold a0 at hn; omega
 have int : ∀ {i t k}, K (.int i) -> ∃ r G', K r /\ GS G s G' { s with toks := k } /\ VRel w.params G' (.int i t) r := fun h => ⟨_, G, h, GS.toks hi _, by simp only [VRel]; exact ⟨_, rfl⟩⟩
 unfold biP at h
 by_cases q1 : name = "len"
 ·rw [if_pos q1] at h
  subst q1
  rw [show hV "len" = .builtin "len" by decide +kernel]
  obtain ⟨p, rfl, ha⟩ := dT h
  clear h
  obtain ⟨v, rfl, hw⟩ := fA hv
  clear hv
  cases p <;> first | exact False.elim ha | skip
  ·obtain ⟨t, rfl, ok⟩ := zbs hw
   exact P.len_str (by rw [b7]; exact Int.not_le.mpr (len2 _ ok.2)) (by rw [b7]; exact int ha)
  ·obtain ⟨a, its, rfl, h1, h2, h3⟩ := LView.isList hw
   exact len_list h1 (len2 _ h2) (by rw [<- Array.length_toList, h3.length]; exact int ha)
 rw [if_neg q1] at h
 by_cases q2 : name = "ord"
 ·rw [if_pos q2] at h
  subst q2
  rw [show hV "ord" = .builtin "ord" by decide +kernel]
  obtain ⟨p, rfl, ha⟩ := dT h
  clear h
  obtain ⟨x, rfl, hb⟩ := c8 ha
  obtain ⟨c, rfl, hc⟩ := dT hb
  obtain ⟨v, rfl, hw⟩ := fA hv
  clear hv
  obtain ⟨t, rfl, ok⟩ := zbs hw
  exact P.ord_of_char (int hc)
 rw [if_neg q2] at h
 by_cases q3 : name = "chr"
 ·rw [if_pos q3] at h
  subst q3
  rw [show hV "chr" = .builtin "chr" by decide +kernel]
  obtain ⟨p, rfl, ha⟩ := dT h
  clear h
  obtain ⟨i, rfl, h0, h1, hk⟩ := cA ha
  obtain ⟨v, rfl, hw⟩ := fA hv
  clear hv
  obtain ⟨t, rfl⟩ := uT hw
  refine P.chr_of_int (by simp only [Bool.or_eq_false_iff, decide_eq_false_iff_not]; omega) ⟨_, G, hk, GS.toks hi _, ?_⟩
  simp only [VRel]
  exact ⟨_, rfl, oS (by omega)⟩
 rw [if_neg q3] at h
 by_cases q4 : name = "int"
 ·rw [if_pos q4] at h
  subst q4
  rw [show hV "int" = .type "int" by decide +kernel]
  obtain ⟨p, rfl, ha⟩ := dT h
  clear h
  obtain ⟨x, rfl, hb⟩ := c8 ha
  cases x with
  | nil => exact False.elim hb
  | cons c x =>
   obtain ⟨hl, h⟩ := hb
   obtain ⟨v, rfl, hw⟩ := fA hv
   clear hv
   obtain ⟨t, rfl, ok⟩ := zbs hw
   have hlen : Str.length ⟨(c :: x).toArray⟩ <= 640 := by rw [b7]; exact hl
   rcases h with ⟨rfl, hne, m, hm, hk⟩ | ⟨rfl, hne, m, hm, hk⟩ | ⟨m, hm, hk⟩
   ·exact PySem.W.KIN.call_text (f6 (neg := true) (.inl ⟨rfl, rfl⟩) hne hm (by omega)) hlen (int hk)
   ·exact PySem.W.KIN.call_text (f6 (neg := false) (.inr (.inl ⟨rfl, rfl⟩)) hne hm (by omega)) hlen (int hk)
   ·exact PySem.W.KIN.call_text (f6 (neg := false) (.inr (.inr ⟨rfl, rfl⟩)) (by simp) hm (by simp; omega)) hlen (int hk)
 rw [if_neg q4] at h
 by_cases q5 : name = "sum"
 ·rw [if_pos q5] at h
  subst q5
  rw [show hV "sum" = .builtin "sum" by decide +kernel]
  obtain ⟨p, rfl, ha⟩ := dT h
  clear h
  obtain ⟨xs, rfl, is, hm, hk⟩ := n7 ha
  obtain ⟨v, rfl, hw⟩ := fA hv
  clear hv
  obtain ⟨a, its, rfl, h1, h2, h3⟩ := LView.isList hw
  obtain ⟨ys, q1, q2⟩ := xJ h3 hm
  have hl' : s.heap.IsList a (intItems ys.toArray) := by
   have : its = intItems ys.toArray := by
    apply Array.toList_inj.mp
    rw [q1]; simp [intItems]
   rw [<- this]; exact h1
  refine sum_intListG hA.handled hl' fun h' tk t' hk' => ⟨_, G, hk, GS.heap hi tk hk', ?_⟩
  simp only [VRel]
  refine ⟨t', ?_⟩
  congr 1
  rw [preSum_eq]
  rw [List.take_of_length_le (by simp)]
  rw [<- q2]
 rw [if_neg q5] at h
 by_cases q6 : name = "range"
 ·rw [if_pos q6] at h
  subst q6
  rw [show hV "range" = .type "range" by decide +kernel]
  cases ps with
  | nil => exact False.elim h
  | cons p ps =>
   obtain ⟨lo, rfl, hb⟩ := cA (v := p) h
   clear h
   cases ps with
   | nil =>
    obtain ⟨v, rfl, hw⟩ := fA hv
    clear hv
    obtain ⟨t, rfl⟩ := uT hw
    obtain ⟨_, _, h0, h1, hk⟩ := hb
    have g := GS.push hi { cls := .type "range", data := .fields #[.int 0 s.toks, .int lo t, .int 1 (s.toks + 1)] } rfl (s.toks + 1 + 1)
    refine call_range_1 ⟨_, _, hk, g, ?_⟩
    simp only [VRel]
    exact ⟨_, _, _, _, rfl, cH, Int.le_refl _, by decide, h0, h1⟩
   | cons q ps =>
    obtain ⟨b, e, hc⟩ := dT hb
    cases e
    obtain ⟨hi', rfl, h0, h1, h2, h3, hk⟩ := cA hc
    obtain ⟨v, r, rfl, hv1, v', r', rfl, hv2, rfl⟩ := hv
    obtain ⟨t, rfl⟩ := uT hv1
    obtain ⟨u, rfl⟩ := uT hv2
    have g := GS.push hi { cls := .type "range", data := .fields #[.int lo t, .int hi' u, .int 1 s.toks] } rfl (s.toks + 1)
    refine call_range_2 ⟨_, _, hk, g, ?_⟩
    simp only [VRel]
    exact ⟨_, _, _, _, rfl, cH, h0, h1, h2, h3⟩
 rw [if_neg q6] at h
 exact False.elim h
theorem jL {α : Type} {xs : List α} {k : Int} {c : α} (h : mD xs k = some c) : seqIndex? k xs.length = some (if k < 0 then k + xs.length else k).toNat /\ xs[(if k < 0 then k + xs.length else k).toNat]? = some c /\ -(xs.length : Int) <= k /\ k < xs.length := by
 unfold mD at h
 unfold seqIndex?
 by_cases h1 : k < 0
 ·rw [if_pos h1] at h
  simp only [if_pos h1]
  split at h
  ·rename_i h2
   have h3 := (List.getElem?_eq_some_iff.mp h).1
   exact ⟨by rw [if_pos (by simp; omega)], h, by omega, by omega⟩
  ·cases h
 ·rw [if_neg h1] at h
  simp only [if_neg h1]
  have h3 := (List.getElem?_eq_some_iff.mp h).1
  exact ⟨by rw [if_pos (by simp; omega)], h, by omega, by omega⟩
theorem zb1 {v iv : Value} {x : List Nat} {k : Int} {c : Nat} (hi : InH G s.heap) (hv : VRel w.params G v (.str x)) (hk : VRel w.params G iv (.int k)) (h : mD x k = some c) (hK : K (.str [c])) :
  GW (model prog w) A w.params E G s (getItem v iv) K := by
 simp only [VRel] at hv hk
 obtain ⟨t, rfl, ok⟩ := hv
 obtain ⟨u, rfl⟩ := hk
 obtain ⟨h1, h2, h3, h4⟩ := jL h
 have hz := ok.2
 unfold a0 at hz
 refine P.getItem_str (c := c) (by simp only [Bool.or_eq_false_iff, decide_eq_false_iff_not]; omega) ?_ ⟨_, G, hK, GS.toks hi _, ?_⟩
 ·rw [b7, h1]; simpa using h2
 ·simp only [VRel]
  exact ⟨_, rfl, oS (ok.1 c (List.mem_of_getElem? h2))⟩
theorem zau {v iv : Value} {xs : List PV} {k : Int} {p : PV} (hi : InH G s.heap) (hv : LView w.params G s.heap v xs) (hk : VRel w.params G iv (.int k)) (h : mD xs k = some p) (hK : K p) :
  GW (model prog w) A w.params E G s (getItem v iv) K := by
 simp only [VRel] at hk
 obtain ⟨u, rfl⟩ := hk
 obtain ⟨a, vs, rfl, g1, g2, g3⟩ := hv.isList
 obtain ⟨h1, h2, h3, h4⟩ := jL h
 have hl := g3.length
 simp only [Array.length_toList] at hl
 unfold a0 at g2
 obtain ⟨v, e1, e2⟩ := g3.get h2
 have e1' : vs[(if k < 0 then k + xs.length else k).toNat]? = some v := by simpa using e1
 by_cases h0 : k < 0
 ·rw [if_pos h0] at e1'
  exact wpAny_getItem_list_neg g1 h0 (by omega) (by omega) (by rw [hl]; exact e1') ⟨p, G, hK, GS.refl hi, e2⟩
 ·rw [if_neg h0] at e1'
  exact wpAny_getItem_list g1 (by omega) (by omega) e1' ⟨p, G, hK, GS.refl hi, e2⟩
theorem zb0 {v iv : Value} {xs : List PV} {k : Int} {p : PV} (hi : InH G s.heap) (hv : VRel w.params G v (.tup xs)) (hk : VRel w.params G iv (.int k)) (h : mD xs k = some p) (hK : K p) :
  GW (model prog w) A w.params E G s (getItem v iv) K := by
 simp only [VRel] at hk hv
 obtain ⟨u, rfl⟩ := hk
 obtain ⟨a, o, vs, n, rfl, g2, g3, g4, g5, g6⟩ := hv
 obtain ⟨h1, h2, h3, h4⟩ := jL h
 have hl := g6.length
 simp only [Array.length_toList] at hl
 unfold a0 at g5
 obtain ⟨v, e1, e2⟩ := g6.get h2
 exact getItem_tuple (items := vs) ⟨o, hi _ _ g2, g3, n, g4⟩ (by omega) (by omega) (by rw [hl]; exact h1) (by simpa using e1) ⟨p, G, hK, GS.refl hi, e2⟩
end
theorem nT (x y : Str) (i j : Int) (t u v z : Tok) : Gives («str.rfind» ⟨[.str x t, .str y u, .int i v, .int j z], []⟩) (.int (match lastOccurrence x y (fromIndex x.length i) (min (fromIndex x.length j) x.length) with | some k => (k : Int) | none => -1)) := by
 show Gives (match lastOccurrence x y (fromIndex x.length i) (min (fromIndex x.length j) x.length) with | some k => retInt k | none => (do rule "str.rfind.not-found"; retInt (-1))) _
 cases lastOccurrence x y (fromIndex x.length i) (min (fromIndex x.length j) x.length) with
 | none => exact .rule (.of_eq rfl)
 | some k => exact .of_eq rfl
theorem nU (x y : Str) (i j : Int) (t u v z : Tok) : Gives («str.count» ⟨[.str x t, .str y u, .int i v, .int j z], []⟩) (.int (occurrences x y (fromIndex x.length i) (min (fromIndex x.length j) x.length) (x.length + 1)).length) := by
 show Gives (retInt (occurrences x y (fromIndex x.length i) (min (fromIndex x.length j) x.length) (x.length + 1)).length) _
 exact .of_eq rfl
theorem cS (n : Nat) (i : Int) (h : 0 <= i) : fromIndex n i = i.toNat := by unfold fromIndex; rw [if_neg (by omega)]; omega
theorem zcE (x p : List Nat) (i : Nat) : (decide (i + Str.length ⟨p.toArray⟩ <= Str.length ⟨x.toArray⟩) && subAt ⟨x.toArray⟩ ⟨p.toArray⟩ i) = (decide (i <= x.length) && p.isPrefixOf (x.drop i)) := by
 rw [StrLaws.subAt_eq, b7, b7]
 show (decide (i + p.length <= x.length) && ((x.drop i).take p.length == p)) = _
 by_cases c : p.isPrefixOf (x.drop i) = true
 ·have h1 := oR c
  rw [List.length_drop] at h1
  have h2 := (gY _ _).mp c
  rw [c, h2]
  by_cases hi : i <= x.length
  ·rw [decide_eq_true hi, decide_eq_true (by omega)]; simp
  ·rw [decide_eq_false hi]
   have : p.length = 0 := by omega
   rw [decide_eq_false (by omega)]; simp
 ·have h2 : ¬ (x.drop i).take p.length = p := fun h => c ((gY _ _).mpr h)
  have h3 : ((x.drop i).take p.length == p) = false := beq_eq_false_iff_ne.mpr h2
  simp only [Bool.not_eq_true] at c
  rw [h3, c, Bool.and_false, Bool.and_false]
section
variable {prog : Program} {w : World} {A : Around} {E : Value -> Shared -> Prop} {s : Shared} {G : GM} {K : PV -> Prop}
theorem zcD {M : Model} {x : Str} {t v : Tok} {a : Addr} {i : Int} {items : Array Value} {ys : List Str} {Q : Value -> Shared -> Prop} (ht : IsTup s.heap a items) (hs : StrsAre items.toList ys)
  (h : Q (.bool (ys.any fun p => decide (fromIndex x.length i + p.length <= x.length) && subAt x p (fromIndex x.length i))) s) :
  wpAny M A (Builtin.«str.startswith» ⟨[.str x t, .ref a, .int i v], []⟩) (fun fin s' => ∃ v, fin = Fin.done (Flow.ret v) /\ Q v s') E s := by
 obtain ⟨o, ho, hc, n, hd⟩ := ht
 unfold Builtin.«str.startswith» affixEntry
 dsimp only [Nat.reduceAdd]
 have e1 : strSomeArgs "startswith" 1 3 ⟨[.str x t, .ref a, .int i v], []⟩ = pure (.str x t, x, [.ref a, .int i v]) := rfl
 have e2 : searchRange x.length [.int i v] = pure (fromIndex x.length i, min x.length x.length) := rfl
 rw [e1]
 refine wpAny_bind (wpAny_pure ?_)
 dsimp only [List.drop, List.headD]
 rw [e2]
 refine wpAny_bind (wpAny_pure ?_)
 dsimp only
 refine wpAny_bind (PySem.W.KPt.asStr_ref ho hd ?_)
 dsimp only
 refine wpAny_bind (wpAny_isInstance (T := "tuple") ⟨o, ho, hc⟩ isSubtype_tuple_tuple ?_)
 simp only [if_true]
 refine wpAny_bind (wpAny_rule (wpAny_bind (wpAny_seqItems ho hd ?_)))
 dsimp only
 rw [Nat.min_self]
 refine wpAny_bind ?_
 refine wpAny_forIn_array' _ (fun rest (b : Option Fin × Unit) s' => s' = s /\ b = (none, ()) /\ ∃ pre post, ys = pre ++ post /\ StrsAre rest post /\ (pre.any fun p => decide (fromIndex x.length i + p.length <= x.length) && subAt x p (fromIndex x.length i)) = false) _ ?_ ?_ items _ ⟨rfl, rfl, [], ys, rfl, hs, rfl⟩
 ·rintro y rest b s' ⟨rfl, rfl, pre, post, hy, hr, hp⟩
  cases hr with
  | cons z u hr =>
  rename_i post
  refine wpAny_bind (wpAny_pure ?_)
  dsimp only
  split
  ·rename_i hc'
   refine wpAny_bind (wpAny_pure (wpAny_pure ?_))
   refine wpAny_pure ⟨_, rfl, ?_⟩
   have : (ys.any fun p => decide (fromIndex x.length i + p.length <= x.length) && subAt x p (fromIndex x.length i)) = true := by
    rw [hy, List.any_append, List.any_cons, hc']; simp
   rw [this] at h; exact h
  ·rename_i hc'
   refine wpAny_pure ⟨rfl, rfl, pre ++ [z], post, by rw [hy]; simp, hr, ?_⟩
   rw [List.any_append, hp]
   simp only [Bool.not_eq_true] at hc'
   simp [hc']
 ·rintro b s' ⟨rfl, rfl, pre, post, hy, hr, hp⟩
  cases hr
  rw [List.append_nil] at hy; subst hy
  rw [hp] at h
  exact wpAny_pure ⟨_, rfl, h⟩
theorem SW {x : Str} {t v : Tok} {a : Addr} {i : Int} {items : Array Value} {ys : List Str} {Q : Value -> Shared -> Prop} (ht : IsTup s.heap a items) (hs : StrsAre items.toList ys)
  (h : Q (.bool (ys.any fun p => decide (fromIndex x.length i + p.length <= x.length) && subAt x p (fromIndex x.length i))) s) :
  wpAny (model prog w) A (call (.builtin "str.startswith") [.str x t, .ref a, .int i v]) Q E s :=
 wpAny_call_entry F.slot_str_startswith (typeIs_str _ _ _) F.entry_str_startswith (zcD ht hs h) (F.args_str_startswith_3 _ _ _)
theorem rC : ∀ zs : List (List Nat), (Str.join ⟨#[]⟩ (zs.map fun z => ⟨z.toArray⟩)) = ⟨zs.flatten.toArray⟩
 | [] => rfl
 | [x] => by simp [Str.join]
 | x :: y :: r => by
  have ih := rC (y :: r)
  simp only [List.map_cons] at ih ⊢
  simp only [Str.join, ih]
  apply Str.ext'
  simp [Str.cps_append]
theorem vD {vs : List Value} {ys : List Str} (h : StrsAre vs ys) : ∃ l : List (Str × Tok), vs = strValues l /\ l.map (·.1) = ys := by
 induction h with
 | nil => exact ⟨[], rfl, rfl⟩
 | cons y t _ ih =>
  obtain ⟨l, h1, h2⟩ := ih
  exact ⟨(y, t) :: l, by rw [h1]; rfl, by rw [<- h2]; rfl⟩
theorem zcT {v l : Value} {xs : List PV} {zs : List (List Nat)} (hi : InH G s.heap) (hv : VRel w.params G v (.str [])) (hl : LView w.params G s.heap l xs) (hz : eM xs = some zs) (hs : zs.flatten.length <= a0) (hK : K (.str zs.flatten)) :
  GW (model prog w) A w.params E G s (call (.builtin "str.join") [v, l]) K := by
 simp only [VRel] at hv
 obtain ⟨t, rfl, _⟩ := hv
 obtain ⟨a, vs, rfl, g1, g2, g3⟩ := hl.isList
 obtain ⟨q1, q2⟩ := lN g3 hz
 obtain ⟨ls, e1, e2⟩ := vD q1
 have hl' : s.heap.IsList a (strValues ls).toArray := by rw [<- e1]; simpa using g1
 refine SC.join hl' e2 ?_ fun t' k => ⟨_, G, hK, GS.toks hi _, ?_⟩
 ·unfold JoinOk tooLong
  rw [StrLaws.joinTotal]
  simp only [Bool.not_eq_true', decide_eq_false_iff_not, gt_iff_lt, Nat.not_lt]
  have : ((zs.map fun z => (⟨z.toArray⟩ : Str)).map (·.length)).sum = zs.flatten.length := by
   rw [List.length_flatten, List.map_map]
   exact congrArg List.sum (List.map_congr_left fun z _ => by simp [Str.length])
  rw [this]
  have h0 : (⟨([] : List Nat).toArray⟩ : Str).length = 0 := rfl
  rw [h0, Nat.mul_zero, Nat.add_zero]
  exact hs
 ·simp only [VRel]
  refine ⟨t', ?_, ?_, hs⟩
  ·unfold Txt.join
   rw [StrLaws.glued_eq_join]
   exact congrArg (fun x => Value.str x t') (rC zs)
  ·intro c hc
   obtain ⟨z, hz1, hz2⟩ := List.mem_flatten.mp hc
   exact (q2 z hz1).1 c hz2
noncomputable def cQ (name : Str) : String := if name = "startswith" then "str.startswith" else if name = "find" then "str.find" else if name = "rfind" then "str.rfind" else if name = "count" then "str.count" else "str.join"
noncomputable def eB (name : Str) (o : PV) : String := if tY o = true then "list.append" else cQ name
end
section
variable {P : Params} {G : GM} {env : Env} {st : St} {s : Shared} {cw : Bool}
theorem Rep.setCell (R : Rep P G env st s) {a : Nat} {c c' : Cell} (hσ : st.σ a = some c) {h' : Heap} (hs : Heap.SameBut a s.heap h') (hr : CellRel P G h' a c') {k : Nat} (hk : 1 <= k) :
  Rep P G env ⟨st.ρ, a7 st.σ a c'⟩ { s with heap := h', toks := k } /\ Tr cw env G st s G ⟨st.ρ, a7 st.σ a c'⟩ { s with heap := h', toks := k } := by
 obtain ⟨h1, h2, h3, h4⟩ := R.cells a c hσ
 have other : ∀ b o, b ≠ a -> s.heap.get? b = some o -> h'.get? b = some o := fun b o hb e => (hs.2 b hb).trans e
 refine ⟨⟨?_, hk, ?_, R.kind, ?_, ?_, R.gl, R.gc, R.cinj, ?_⟩, ⟨.refl _, fun _ _ e => .inl e, ?_, ?_, ?_, ?_, rfl, fun e => e⟩⟩
 ·intro b o e
  refine other b o ?_ (R.inh b o e)
  rintro rfl; rw [h2] at e; cases e
 ·obtain ⟨m, g1, g2⟩ := R.ns
  exact ⟨m, g1.at' fun o e => other _ o (Ne.symm h3) e, g2⟩
 ·intro x p e kk
  obtain ⟨c, v, g1, g2, g3⟩ := R.cel x p e kk
  exact ⟨c, v, g1, bI g2 fun o e => other _ o (by rintro rfl; exact h4 x g1) e, g3⟩
 ·intro x e
  obtain ⟨c, v, g1, g2⟩ := R.cell0 x e
  exact ⟨c, v, g1, bI g2 fun o e => other _ o (by rintro rfl; exact h4 x g1) e⟩
 ·intro b d e
  simp only [a7] at e
  split at e
  ·rename_i q; subst q; cases e; exact ⟨hr, h2, h3, h4⟩
  ·rename_i q
   obtain ⟨g1, g2⟩ := R.cells b d e
   exact ⟨g1.mono (.refl _) fun o e => other b o q e, g2⟩
 ·intro b o e _ _ hb
  refine other b o ?_ e
  rintro rfl; rw [hσ] at hb; cases hb
 ·intro b e
  by_cases q : b = a
  ·subst q; obtain ⟨o, ho⟩ := hr.alive; show (h'.get? b).isSome = true; rw [ho]; rfl
  ·show (h'.get? b).isSome = true; rw [hs.2 b q]; exact e
 ·intro b e; show (a7 st.σ a c' b).isSome = true; unfold a7; split; rfl; exact e
 ·intro b e
  left
  simp only [a7] at e
  split at e
  ·rename_i q; subst q; rw [hσ]; rfl
  ·exact e
theorem CellsThere.same {h h' : Heap} (hc : CellsThere env h) {a : Nat} (hs : Heap.SameBut a h h') (ha : (h'.get? a).isSome = true) : CellsThere env h' := fun x c e => by
 obtain ⟨o, ho⟩ := hc x c e
 by_cases q : c = a
 ·subst q; exact Option.isSome_iff_exists.mp ha
 ·exact ⟨o, (hs.2 c q).trans ho⟩
theorem Rep.newCell (R : Rep P G env st s) (hct : CellsThere env s.heap) {vs : List Value} {xs : List PV} (hr : VRels P G vs xs) (hz : vs.length <= a0) {k : Nat} (hk : 1 <= k) :
  st.σ s.heap.objs.size = none /\ Rep P G env ⟨st.ρ, a7 st.σ s.heap.objs.size (.lst xs)⟩ { s with heap := s.heap.push { cls := .type "list", data := .seq vs.toArray }, toks := k } /\
   CellsThere env (s.heap.push { cls := .type "list", data := .seq vs.toArray }) /\
   Tr cw env G st s G ⟨st.ρ, a7 st.σ s.heap.objs.size (.lst xs)⟩ { s with heap := s.heap.push { cls := .type "list", data := .seq vs.toArray }, toks := k } := by
 have nw : ∀ o, s.heap.get? s.heap.objs.size ≠ some o := fun o e => absurd (Heap.lt_size e) (Nat.lt_irrefl _)
 have nw' : s.heap.get? s.heap.objs.size = none := by
  cases e : s.heap.get? s.heap.objs.size with
  | none => rfl
  | some o => exact absurd e (nw o)
 have hσ : st.σ s.heap.objs.size = none := by
  cases e : st.σ s.heap.objs.size with
  | none => rfl
  | some c => obtain ⟨h1, _⟩ := R.cells _ c e; obtain ⟨o, ho⟩ := h1.alive; exact absurd ho (nw o)
 have kp : ∀ b o, s.heap.get? b = some o -> (s.heap.push { cls := .type "list", data := .seq vs.toArray }).get? b = some o := fun b o e => Heap.get?_push_of_some _ e
 refine ⟨hσ, ⟨fun b o e => kp b o (R.inh b o e), hk, ?_, R.kind, ?_, ?_, R.gl, R.gc, R.cinj, ?_⟩, ?_, ⟨.refl _, fun _ _ e => .inl e, fun b o e _ _ _ => kp b o e, ?_, ?_, ?_, rfl, fun e => e⟩⟩
 ·obtain ⟨m, g1, g2⟩ := R.ns
  exact ⟨m, g1.at' fun o e => kp _ o e, g2⟩
 ·intro x p e kk
  obtain ⟨c, v, g1, g2, g3⟩ := R.cel x p e kk
  exact ⟨c, v, g1, bI g2 fun o e => kp _ o e, g3⟩
 ·intro x e
  obtain ⟨c, v, g1, g2⟩ := R.cell0 x e
  exact ⟨c, v, g1, bI g2 fun o e => kp _ o e⟩
 ·intro b d e
  simp only [a7] at e
  split at e
  ·rename_i q; subst q; cases e
   refine ⟨⟨vs.toArray, 0, Heap.get?_push_size _ rfl, by simpa using hz, by simpa using hr⟩, ?_, ?_, ?_⟩
   ·cases e : G s.heap.objs.size with
    | none => rfl
    | some o => exact absurd (R.inh _ _ e) (nw o)
   ·obtain ⟨m, ⟨o, _, _, g1, _⟩, _⟩ := R.ns
    intro q; rw [<- q] at g1; exact nw o g1
   ·intro x e
    obtain ⟨o, ho⟩ := hct x _ e
    exact nw o ho
  ·obtain ⟨g1, g2⟩ := R.cells b d e
   exact ⟨g1.mono (.refl _) fun o e => kp b o e, g2⟩
 ·intro x c e
  obtain ⟨o, ho⟩ := hct x c e
  exact ⟨o, kp c o ho⟩
 ·intro b e
  obtain ⟨o, ho⟩ := Option.isSome_iff_exists.mp e
  show ((s.heap.push _).get? b).isSome = true
  rw [kp b o ho]; rfl
 ·intro b e; show (a7 st.σ _ _ b).isSome = true; unfold a7; split; rfl; exact e
 ·intro b e
  simp only [a7] at e
  split at e
  ·rename_i q; subst q; exact .inr nw'
  ·exact .inl e
end
section
variable {prog : Program} {w : World} {A : Around} {E : Value -> Shared -> Prop} {s : Shared} {G : GM} {env : Env} {st : St} {cw : Bool} {Q : PV -> St -> Prop}
theorem yC (R : Rep w.params G env st s) : ∀ {vs : List Value} {ps : List PV}, VRels w.params G vs ps -> uH w.params G s.heap vs (ps.map (der st.σ))
 | vs, [], h => by simp only [VRels] at h; subst h; simp [uH]
 | vs, p :: ps, h => by
  simp only [VRels] at h
  obtain ⟨v, r, rfl, h1, h2⟩ := h
  simp only [List.map_cons, uH]
  exact ⟨v, r, rfl, R.view h1, yC R h2⟩
theorem zbQ {n : Nat} (hA : Room n A) (R : Rep w.params G env st s) (hct : CellsThere env s.heap) {name : Str} {v : Value} {o : PV} {vs : List Value} {ps : List PV}
  (hv : VRel w.params G v o) (hs : VRels w.params G vs ps) (h : fY st.σ name o ps fun r σ' => Q r ⟨st.ρ, σ'⟩) :
  wpAny (model prog w) A (call (.builtin (eB name o)) (v :: vs)) (zdY w.params cw env G st s Q) E s := by
 have dec : ∀ (i : Int) (n : Nat), 0 <= i -> decide (i.toNat <= n) = decide (i <= n) := fun i n h => decide_eq_decide.mpr (by omega)
 have vS : ∀ {v : Value} {x : List Nat}, VRel w.params G v (.str x) -> ∃ t, v = .str ⟨x.toArray⟩ t := fun h => by simp only [VRel] at h; obtain ⟨t, e, _⟩ := h; exact ⟨t, e⟩
 have vI : ∀ {v : Value} {i : Int}, VRel w.params G v (.int i) -> ∃ t, v = .int i t := fun h => by simpa only [VRel] using h
 unfold fY at h
 by_cases q1 : name = "append"
 ·rw [if_pos q1] at h
  obtain ⟨a, rfl, ha⟩ := sB h
  obtain ⟨p, rfl, xs, h1, h2, hq⟩ := dT ha
  clear h ha
  simp only [VRel] at hv; subst hv
  obtain ⟨u, r, rfl, hu, rfl⟩ := hs
  obtain ⟨⟨its, m, g1, g2, g3⟩, g4, g5, g6⟩ := R.cells a _ h1
  have hl := g3.length
  rw [Array.length_toList] at hl
  refine wpAny_list_append_plain ⟨m, g1⟩ (fun h' hp hsb => ?_) g2
  obtain ⟨m', hp⟩ := hp
  have cr : CellRel w.params G h' a (.lst (xs ++ [p])) := ⟨_, m', hp, by rw [Array.size_push, hl]; exact h2, by rw [Array.toList_push]; exact g3.append (VRels.one hu)⟩
  obtain ⟨R', T'⟩ := R.setCell (cw := cw) h1 hsb cr R.tk
  exact ⟨.none, G, _, hq, R', hct.same hsb (by obtain ⟨o, ho⟩ := cr.alive; rw [ho]; rfl), T', by simp only [VRel]⟩
 rw [if_neg q1] at h
 clear q1
 by_cases q1 : name = "startswith"
 ·rw [if_pos q1] at h
  subst q1
  obtain ⟨x, rfl, ha⟩ := c8 h
  obtain ⟨p, j, rfl, hb⟩ := qC ha
  obtain ⟨i, rfl, h0, h1, hq⟩ := cA hb
  clear h ha hb
  rw [show eB "startswith" (.str x) = "str.startswith" from (by decide +kernel : cQ "startswith" = "str.startswith")]
  obtain ⟨t, rfl⟩ := vS hv
  obtain ⟨u, r, rfl, hu, u', r', rfl, hi, rfl⟩ := hs
  obtain ⟨t', rfl⟩ := vI hi
  cases p <;> first | exact False.elim hq | skip
  ·rename_i p
   obtain ⟨t'', rfl⟩ := vS hu
   refine g9 R hct (c5 R.inh hq fun Q q => SC.startswith3 ?_)
   unfold Txt.startswith3
   rw [cS _ _ h0, zcE, dec _ _ h0]; exact q
  ·obtain ⟨zs, hz, hq⟩ := hq
   simp only [VRel] at hu
   obtain ⟨a, ob, its, m, rfl, g2, g3, g4, g5, g6⟩ := hu
   obtain ⟨q1, _⟩ := lN g6 hz
   refine g9 R hct (c5 R.inh hq fun Q q => SW (items := its) ⟨ob, R.inh _ _ g2, g3, m, g4⟩ q1 ?_)
   rw [cS _ _ h0, List.any_map]
   have e : ((fun p => decide (i.toNat + Str.length p <= Str.length ⟨x.toArray⟩) && subAt ⟨x.toArray⟩ p i.toNat) ∘ fun z : List Nat => (⟨z.toArray⟩ : Str)) = fun p => decide (i <= x.length) && p.isPrefixOf (x.drop i.toNat) := by
    funext p
    show (decide (i.toNat + Str.length ⟨p.toArray⟩ <= Str.length ⟨x.toArray⟩) && subAt ⟨x.toArray⟩ ⟨p.toArray⟩ i.toNat) = _
    rw [zcE, dec _ _ h0]
   rw [e, <- List.and_any_distrib_left]; exact q
 rw [if_neg q1] at h
 clear q1
 by_cases q1 : name = "find"
 ·rw [if_pos q1] at h
  subst q1
  obtain ⟨x, rfl, ha⟩ := c8 h
  obtain ⟨p, j, rfl, hb⟩ := qC ha
  obtain ⟨p, rfl, hc⟩ := c8 hb
  obtain ⟨i, rfl, h0, h1, hq⟩ := cA hc
  clear h ha hb hc
  rw [show eB "find" (.str x) = "str.find" from (by decide +kernel : cQ "find" = "str.find")]
  obtain ⟨t, rfl⟩ := vS hv
  obtain ⟨u, r, rfl, hu, u', r', rfl, hi, rfl⟩ := hs
  obtain ⟨t', rfl⟩ := vI hi
  obtain ⟨t'', rfl⟩ := vS hu
  exact g9 R hct (k7 R.inh hq fun Q q => SC.find3 (by rw [zax _ _ _ h0]; exact q))
 rw [if_neg q1] at h
 clear q1
 have lM : ∀ {K : Nat -> Int -> Int -> Prop}, zcF ps K -> ∃ c i j t u z, vs = [.str ⟨#[c]⟩ t, .int i u, .int j z] /\ 0 <= i /\ 0 <= j /\ K c i j := fun h => by
  obtain ⟨p, a, b, rfl, ha⟩ := lL h
  obtain ⟨p, rfl, hb⟩ := c8 ha
  obtain ⟨c, rfl, hc⟩ := dT hb
  obtain ⟨i, rfl, hd⟩ := cA hc
  obtain ⟨j, rfl, h0, _, h1, _, hq⟩ := cA hd
  obtain ⟨u, r, rfl, k1, u', r', rfl, k2, u'', r'', rfl, k3, rfl⟩ := hs
  obtain ⟨t, rfl⟩ := vS k1
  obtain ⟨t', rfl⟩ := vI k2
  obtain ⟨t'', rfl⟩ := vI k3
  exact ⟨c, i, j, _, _, _, rfl, h0, h1, hq⟩
 by_cases q1 : name = "rfind"
 ·rw [if_pos q1] at h
  subst q1
  obtain ⟨x, rfl, ha⟩ := c8 h
  obtain ⟨c, i, j, _, _, _, rfl, h0, h1, hq⟩ := lM ha
  rw [show eB "rfind" (.str x) = "str.rfind" from (by decide +kernel : cQ "rfind" = "str.rfind")]
  obtain ⟨t, rfl⟩ := vS hv
  refine g9 R hct (k7 R.inh hq fun Q q => call_gives F.slot_str_rfind (typeIs_str _ _ _) F.entry_str_rfind (F.args_str_rfind_4 _ _ _ _) (nT _ _ _ _ _ _ _ _) ?_)
  rw [cS _ _ h0, cS _ _ h1, b7]
  rw [<- z0 x c i.toNat j.toNat] at q
  exact q
 rw [if_neg q1] at h
 clear q1
 by_cases q1 : name = "count"
 ·rw [if_pos q1] at h
  subst q1
  obtain ⟨x, rfl, ha⟩ := c8 h
  obtain ⟨c, i, j, _, _, _, rfl, h0, h1, hq⟩ := lM ha
  rw [show eB "count" (.str x) = "str.count" from (by decide +kernel : cQ "count" = "str.count")]
  obtain ⟨t, rfl⟩ := vS hv
  refine g9 R hct (k7 R.inh hq fun Q q => call_gives F.slot_str_count (typeIs_str _ _ _) F.entry_str_count (F.args_str_count_4 _ _ _ _) (nU _ _ _ _ _ _ _ _) ?_)
  rw [cS _ _ h0, cS _ _ h1, b7]
  rw [zaL x c i.toNat j.toNat]
  exact q
 rw [if_neg q1] at h
 clear q1 lM
 by_cases q1 : name = "join"
 ·rw [if_pos q1] at h
  subst q1
  obtain ⟨x, rfl, rfl, ha⟩ := c8 h
  obtain ⟨l, rfl, hb⟩ := dT ha
  obtain ⟨xs, e, zs, hz, hl, hq⟩ := n7 hb
  clear h ha hb
  rw [show eB "join" (.str []) = "str.join" from (by decide +kernel : cQ "join" = "str.join")]
  obtain ⟨u, r, rfl, hl', rfl⟩ := hs
  have hl' := R.view hl'
  rw [e] at hl'
  exact g9 R hct (zcT R.inh hv hl' hz hl hq)
 rw [if_neg q1] at h
 exact False.elim h
end
noncomputable def bB (F : Fn) : Prop := ∀ ps (K K' : PV -> Prop), (∀ p, K p -> K' p) -> F ps K -> F ps K'
structure CtxMono (C : Ctx) : Prop where
 fn : ∀ x F, C.fn x = some F -> bB F
 cls : ∀ x F, C.cls x = some F -> bB F
theorem cV {d n : Prop} {b : Bool -> Prop} {i : Int -> Prop} {s : List Nat -> Prop} {t l : List PV -> Prop} {p : Nat -> Prop} {d' n' : Prop} {b' : Bool -> Prop} {i' : Int -> Prop} {s' : List Nat -> Prop} {t' l' : List PV -> Prop} {p' : Nat -> Prop}
  (hd : d -> d') (hn : n -> n') (hb : ∀ x, b x -> b' x) (hi : ∀ x, i x -> i' x) (hs : ∀ x, s x -> s' x) (ht : ∀ x, t x -> t' x) (hl : ∀ x, l x -> l' x) (hp : ∀ x, p x -> p' x) {v : PV} (x : pvc d n b i s t l p v) : pvc d' n' b' i' s' t' l' p' v := by
 cases v
 ·exact hn x
 ·exact hb _ x
 ·exact hi _ x
 ·exact hs _ x
 ·exact ht _ x
 ·exact hl _ x
 ·exact hd x
 ·exact hd x
 ·exact hp _ x
theorem n8 {a b : PV} {K K' : PV -> Prop} (h : ∀ p, K p -> K' p) : zdp a b K -> zdp a b K' :=
 cV id id (fun _ => id) (fun _ => a9 fun _ => h _) (fun _ => bR fun _ x => ⟨x.1, h _ x.2⟩) (fun _ => id) (fun _ => id) fun _ => id
theorem mZ {a b : PV} {K K' : PV -> Prop} (h : ∀ p, K p -> K' p) : zdu a b K -> zdu a b K' := a9 fun _ => a9 fun _ => h _
theorem aY {c : Prop} [Decidable c] {A B A' B' : Prop} (h : A -> A') (k : B -> B') (x : if c then A else B) : if c then A' else B' := by
 by_cases q : c
 ·rw [if_pos q] at x ⊢; exact h x
 ·rw [if_neg q] at x ⊢; exact k x
theorem yO {op : Operator} {a b : PV} {K K' : PV -> Prop} (h : ∀ p, K p -> K' p) (x : zdC op a b K) : zdC op a b K' := by
 cases op <;> first | exact False.elim x | skip
 ·exact aY (iV fun _ => iV fun _ y => ⟨y.1, h _ y.2⟩) (n8 h) x
 ·exact mZ h x
 ·exact a9 (fun _ => a9 fun _ y => ⟨y.1, h _ y.2⟩) x
theorem zat {op : Operator} {a b : PV} {K K' : PV -> Prop} (h : ∀ p, K p -> K' p) (x : inP op a b K) : inP op a b K' := by
 cases op <;> first | exact False.elim x | skip
 ·exact n8 h x
 ·exact mZ h x
theorem rS {σ : Nat -> Option Cell} {a b : PV} {K K' : Bool -> Prop} (h : ∀ p, K p -> K' p) (x : eqW σ a b K) : eqW σ a b K' := by
 exact dS (fun ⟨ta, tb, h1, h2, h3, h4, h5, h6⟩ => ⟨ta, tb, h1, h2, h3, h4, h5, h _ h6⟩) h x
theorem rD {a b : PV} {K K' : Bool -> Prop} (h : ∀ p, K p -> K' p) : isW a b K -> isW a b K' :=
 cV id (cV id (h _) (fun _ => id) (fun _ => h _) (fun _ => id) (fun _ => id) (fun _ => id) fun _ => id) (fun _ => cV id id (fun _ => h _) (fun _ => id) (fun _ => id) (fun _ => id) (fun _ => id) fun _ => id)
  (fun _ => id) (fun _ => id) (fun _ => id) (fun _ => id) fun _ => id
theorem rG {a b : PV} {K K' : Bool -> Prop} (h : ∀ p, K p -> K' p) : inW a b K -> inW a b K' :=
 bR fun _ => cV id id (fun _ => id) (fun _ => id) (fun _ => h _) (fun _ ⟨z, h1, h2⟩ => ⟨z, h1, h _ h2⟩) (fun _ => id) fun _ => id
theorem jX {σ : Nat -> Option Cell} {op : CmpOp} {a b : PV} {K K' : Bool -> Prop} (h : ∀ p, K p -> K' p) (x : zbk σ op a b K) : zbk σ op a b K' := by
 cases op
 ·exact rS h x
 ·exact rS (fun _ => h _) x
 ·exact a9 (fun _ => a9 fun _ => h _) x
 ·exact cV id id (fun _ => id) (fun _ => a9 fun _ => h _) (fun _ => bR fun _ => h _) (fun _ => id) (fun _ => id) (fun _ => id) x
 ·exact a9 (fun _ => a9 fun _ => h _) x
 ·exact x
 ·exact rD h x
 ·exact rD (fun _ => h _) x
 ·exact rG h x
 ·exact rG (fun _ => h _) x
theorem r9 {name : Str} {ps : List PV} {K K' : PV -> Prop} (h : ∀ p, K p -> K' p) : biP name ps K -> biP name ps K' := by
 have rg : ∀ {a b}, zcr a b K -> zcr a b K' := fun ⟨a, b, c, d, e⟩ => ⟨a, b, c, d, h _ e⟩
 refine aY (cG fun _ => cV id id (fun _ => id) (fun _ => id) (fun _ => h _) (fun _ => id) (fun _ => h _) fun _ => id) (aY (cG fun _ => bR fun _ => cG fun _ => h _) (aY (cG fun _ => a9 fun _ x => ⟨x.1, x.2.1, h _ x.2.2⟩)
  (aY (cG fun _ => bR fun x y => ?_) (aY (cG fun _ => iV fun _ ⟨n, h3, h4⟩ => ⟨n, h3, h _ h4⟩) (aY (fun x => ?_) id)))))
 ·cases x with
  | nil => exact y
  | cons c x => exact ⟨y.1, y.2.imp (fun ⟨h1, h2, n, h3, h4⟩ => ⟨h1, h2, n, h3, h _ h4⟩) (Or.imp (fun ⟨h1, h2, n, h3, h4⟩ => ⟨h1, h2, n, h3, h _ h4⟩) fun ⟨n, h3, h4⟩ => ⟨n, h3, h _ h4⟩)⟩
 ·cases ps with
  | nil => exact x
  | cons a r =>
   refine a9 (fun i x => ?_) x
   cases r with
   | nil => exact rg x
   | cons b r => exact cG (fun _ => a9 fun _ => rg) x
theorem kW {σ : Nat -> Option Cell} {name : Str} {o : PV} {ps : List PV} {K K' : PV -> (Nat -> Option Cell) -> Prop} (h : ∀ p s, K p s -> K' p s) : fY σ name o ps K -> fY σ name o ps K' := by
 have s3 : ∀ {K K' : Nat -> Int -> Int -> Prop}, (∀ c i j, K c i j -> K' c i j) -> zcF ps K -> zcF ps K' := fun k => kK fun _ _ _ => bR fun _ => cG fun _ => a9 fun _ => a9 fun _ ⟨a, b, c, d, e⟩ => ⟨a, b, c, d, k _ _ _ e⟩
 exact aY (mL fun _ => cG fun _ ⟨xs, h1, h2, h3⟩ => ⟨xs, h1, h2, h _ _ h3⟩)
  (aY (bR fun _ => qB fun _ _ => a9 fun _ ⟨a, b, c⟩ => ⟨a, b, cV id id (fun _ => id) (fun _ => id) (fun _ => h _ _) (fun _ ⟨z, h1, h2⟩ => ⟨z, h1, h _ _ h2⟩) (fun _ => id) (fun _ => id) c⟩)
  (aY (bR fun _ => qB fun _ _ => bR fun _ => a9 fun _ ⟨a, b, c⟩ => ⟨a, b, h _ _ c⟩)
  (aY (bR fun _ => s3 fun _ _ _ => h _ _) (aY (bR fun _ => s3 fun _ _ _ => h _ _) (aY (bR fun _ ⟨e, x⟩ => ⟨e, cG (fun _ => iV fun _ ⟨z, h1, h2, h3⟩ => ⟨z, h1, h2, h _ _ h3⟩) x⟩) id)))))
theorem gK {C : Ctx} {pos : Pos} {vs : List PV} {Q Q' : PV -> St -> Prop} {st : St} (h : ∀ p s, Q p s -> Q' p s) : bD C pos vs Q st -> bD C pos vs Q' st :=
 aY (fun x a e => h _ _ (x a e)) (h _ _)
theorem eG {I : (Bool -> St -> Prop) -> St -> Prop} {El : (PV -> St -> Prop) -> St -> Prop} {tgt : Expr} {ρ0 : dD} {Q Q' : List PV -> (Nat -> Option Cell) -> Prop}
  (hI : ∀ K K' s, (∀ b s, K b s -> K' b s) -> I K s -> I K' s) (hE : ∀ K K' s, (∀ p s, K p s -> K' p s) -> El K s -> El K' s) (h : ∀ vs σ, Q vs σ -> Q' vs σ) :
  ∀ (items acc : List PV) (σ : Nat -> Option Cell), bY I El tgt ρ0 Q items acc σ -> bY I El tgt ρ0 Q' items acc σ
 | [], acc, σ, x => h _ _ x
 | _ :: vs, _, _, x => a6 (fun _ => hI _ _ _ fun _ _ => aY (hE _ _ _ fun _ _ => eG hI hE h vs _ _) (eG hI hE h vs _ _)) x
theorem e8 {K K' : Bool -> St -> Prop} (h : ∀ b s, K b s -> K' b s) (v : PV) (st : St) : tst K v st -> tst K' v st := a6 fun _ => h _ _
theorem y3 {op : UnaryOp} {v : PV} {K K' : PV -> Prop} (h : ∀ p, K p -> K' p) (x : unP op v K) : unP op v K' := by
 cases op
 ·exact x
 ·exact a6 (fun _ => h _) x
 ·exact x
 ·exact a9 (fun _ => h _) x
theorem sY {name p q : Str} {v : PV} {K K' : PV -> Prop} (h : ∀ p, K p -> K' p) : z6 name p q v K -> z6 name p q v K' :=
 bR fun _ x => ⟨x.1, x.2.1, x.2.2.1, x.2.2.2.1, x.2.2.2.2.1, h _ x.2.2.2.2.2⟩
theorem uD {C : Ctx} {n : Str} {v : PV} {K K' : PV -> Prop} (h : ∀ p, K p -> K' p) (x : zaQ C n v K) : zaQ C n v K' := by
 cases v <;> first | exact False.elim x | skip
 exact dS (a6 h) (fun _ => a6 h) x
theorem v0 {v : PV} {lo hi : Option Int} {K K' : PV -> Prop} (h : ∀ p, K p -> K' p) : zbF v lo hi K -> zbF v lo hi K' :=
 cV id id (fun _ => id) (fun _ => id) (fun _ => h _) (fun _ => id) (fun _ => h _) fun _ => id
theorem nP {v i : PV} {K K' : PV -> Prop} (h : ∀ p, K p -> K' p) : zbc v i K -> zbc v i K' :=
 a9 fun _ => cV id id (fun _ => id) (fun _ => id) (fun _ => a6 fun _ => h _) (fun _ => a6 h) (fun _ => a6 h) fun _ => id
theorem uC {C : Ctx} (M : CtxMono C) {f : Str} {vs : List PV} {st : St} {K K' : PV -> Prop} (h : ∀ p, K p -> K' p) (x : iK C f vs st K) : iK C f vs st K' := by
 unfold iK at x ⊢
 cases e : C.fn f with
 | some F => rw [e] at x; exact M.fn _ _ e _ _ _ (fun p q => ⟨q.1, h _ q.2⟩) x
 | none =>
  rw [e] at x
  cases e : C.cls f with
  | some F => rw [e] at x; exact M.cls _ _ e _ _ _ h x
  | none => rw [e] at x; exact ⟨x.1, r9 h x.2⟩
mutual
theorem aX {C : Ctx} (M : CtxMono C) : ∀ (e : Expr) {κ : Kn} {Q Q' : PV -> St -> Prop} {st : St}, (∀ p s, Q p s -> Q' p s) -> wE C e κ Q st -> wE C e κ Q' st
 | .Constant _ _ _, _, _, _, _, h, x => a6 (fun _ => h _ _) x
 | .Name _ _, _, _, _, _, h, x => aY (a6 fun _ => h _ _) (a6 fun _ => h _ _) x
 | .BoolOp _ vs _, _, _, _, _, h, x => pY M vs h x
 | .BinOp l _ r _, _, _, _, _, h, x => aX M l (fun _ _ => aX M r fun _ _ => yO fun _ => h _ _) x
 | .UnaryOp _ y _, _, _, _, _, h, x => aX M y (fun _ _ => y3 fun _ => h _ _) x
 | .IfExp t b o _, _, _, _, _, h, x => aX M t (e8 fun _ _ => aY (aX M b h) (aX M o h)) x
 | .Compare l _ cs _, _, _, _, _, h, x => aX M l (fun _ _ => pX M cs h) x
 | .Call f args _ _, κ, Q, Q', st, h, x => ⟨x.1, dS (a6 fun _ ⟨a, b, c⟩ => ⟨a, b, bN M args (fun _ _ => uC M fun _ => h _ _) c⟩)
   (fun _ => dS (uS M f fun _ _ ⟨a, b⟩ => ⟨a, bN M args (fun _ _ => kW fun _ _ => h _ _) b⟩) fun _ => uS M f fun _ _ => sY fun _ => h _ _) x.2⟩
 | .Attribute o _ _, _, _, _, _, h, x => aX M o (fun _ _ => uD fun _ => h _ _) x
 | .Subscript o i _, _, _, _, _, h, x => aX M o (fun _ _ => aY (yZ M i fun _ _ _ => v0 fun _ => h _ _) (aX M i fun _ _ => nP fun _ => h _ _)) x
 | .List es _, _, _, _, _, h, x => bN M es (fun _ _ => gK h) x
 | .Tuple es _ _, _, _, _, _, h, x => bN M es (fun _ _ => h _ _) x
 | .ListComp elt gens sc p, κ, Q, Q', st, h, x => match gens, x with
  | [⟨_, iter, ifs, _⟩], x => ⟨x.1, x.2.1, x.2.2.1, aX M iter (fun _ _ => a6 fun _ y => ⟨y.1, eG (I := fun K s' => wIf C ifs (bV sc.names) K s') (El := fun K s' => wE C elt (bV sc.names) K s') (fun _ _ _ k z => pV M ifs k z) (fun _ _ _ k z => aX M elt k z) (fun _ _ z => gK h z) _ _ _ y.2⟩) x.2.2.2⟩
  | [], x => False.elim x
  | ⟨_, _, _, _⟩ :: _ :: _, x => False.elim x
 | .NamedExpr _ _ _, _, _, _, _, _, x => x
 | .Lambda _ _ _ _, _, _, _, _, _, x => x
 | .Dict _ _ _, _, _, _, _, _, x => x
 | .Set _ _ _, _, _, _, _, _, x => x
 | .SetComp _ _ _ _, _, _, _, _, _, x => x
 | .DictComp _ _ _ _ _, _, _, _, _, _, x => x
 | .GeneratorExp _ _ _ _, _, _, _, _, _, x => x
 | .Await _ _, _, _, _, _, _, x => x
 | .Yield _ _, _, _, _, _, _, x => x
 | .YieldFrom _ _, _, _, _, _, _, x => x
 | .FormattedValue _ _ _ _, _, _, _, _, _, x => x
 | .JoinedStr _ _, _, _, _, _, _, x => x
 | .Starred _ _, _, _, _, _, _, x => x
 | .Slice _ _ _ _, _, _, _, _, _, x => x
theorem bN {C : Ctx} (M : CtxMono C) : ∀ (es : List Expr) {κ : Kn} {Q Q' : List PV -> St -> Prop} {st : St}, (∀ p s, Q p s -> Q' p s) -> wEs C es κ Q st -> wEs C es κ Q' st
 | [], _, _, _, _, h, x => h _ _ x
 | e :: es, _, _, _, _, h, x => aX M e (fun _ _ => bN M es fun _ _ => h _ _) x
theorem pU {C : Ctx} (M : CtxMono C) : ∀ (e : Option Expr) {κ : Kn} {Q Q' : Option Int -> St -> Prop} {st : St}, (∀ p s, Q p s -> Q' p s) -> wOp C e κ Q st -> wOp C e κ Q' st
 | none, _, _, _, _, h, x => h _ _ x
 | some e, _, _, _, _, h, x => aX M e (fun _ _ => a9 fun _ y => ⟨y.1, y.2.1, h _ _ y.2.2⟩) x
theorem uS {C : Ctx} (M : CtxMono C) : ∀ (e : Expr) {κ : Kn} {Q Q' : PV -> St -> Prop} {st : St}, (∀ p s, Q p s -> Q' p s) -> wA C e κ Q st -> wA C e κ Q' st
 | .Attribute o _ _, _, _, _, _, h, x => aX M o h x
 | .BoolOp _ _ _, _, _, _, _, _, x => x
 | .NamedExpr _ _ _, _, _, _, _, _, x => x
 | .BinOp _ _ _ _, _, _, _, _, _, x => x
 | .UnaryOp _ _ _, _, _, _, _, _, x => x
 | .Lambda _ _ _ _, _, _, _, _, _, x => x
 | .IfExp _ _ _ _, _, _, _, _, _, x => x
 | .Dict _ _ _, _, _, _, _, _, x => x
 | .Set _ _ _, _, _, _, _, _, x => x
 | .ListComp _ _ _ _, _, _, _, _, _, x => x
 | .SetComp _ _ _ _, _, _, _, _, _, x => x
 | .DictComp _ _ _ _ _, _, _, _, _, _, x => x
 | .GeneratorExp _ _ _ _, _, _, _, _, _, x => x
 | .Await _ _, _, _, _, _, _, x => x
 | .Yield _ _, _, _, _, _, _, x => x
 | .YieldFrom _ _, _, _, _, _, _, x => x
 | .Compare _ _ _ _, _, _, _, _, _, x => x
 | .Call _ _ _ _, _, _, _, _, _, x => x
 | .FormattedValue _ _ _ _, _, _, _, _, _, x => x
 | .JoinedStr _ _, _, _, _, _, _, x => x
 | .Constant _ _ _, _, _, _, _, _, x => x
 | .Subscript _ _ _, _, _, _, _, _, x => x
 | .Starred _ _, _, _, _, _, _, x => x
 | .Name _ _, _, _, _, _, _, x => x
 | .List _ _, _, _, _, _, _, x => x
 | .Tuple _ _ _, _, _, _, _, _, x => x
 | .Slice _ _ _ _, _, _, _, _, _, x => x
theorem yZ {C : Ctx} (M : CtxMono C) : ∀ (e : Expr) {κ : Kn} {Q Q' : Option Int -> Option Int -> St -> Prop} {st : St}, (∀ p q s, Q p q s -> Q' p q s) -> wSl C e κ Q st -> wSl C e κ Q' st
 | .Slice l u _ _, _, _, _, _, h, x => ⟨x.1, pU M l (fun _ _ => pU M u fun _ _ => h _ _ _) x.2⟩
 | .BoolOp _ _ _, _, _, _, _, _, x => x
 | .NamedExpr _ _ _, _, _, _, _, _, x => x
 | .BinOp _ _ _ _, _, _, _, _, _, x => x
 | .UnaryOp _ _ _, _, _, _, _, _, x => x
 | .Lambda _ _ _ _, _, _, _, _, _, x => x
 | .IfExp _ _ _ _, _, _, _, _, _, x => x
 | .Dict _ _ _, _, _, _, _, _, x => x
 | .Set _ _ _, _, _, _, _, _, x => x
 | .ListComp _ _ _ _, _, _, _, _, _, x => x
 | .SetComp _ _ _ _, _, _, _, _, _, x => x
 | .DictComp _ _ _ _ _, _, _, _, _, _, x => x
 | .GeneratorExp _ _ _ _, _, _, _, _, _, x => x
 | .Await _ _, _, _, _, _, _, x => x
 | .Yield _ _, _, _, _, _, _, x => x
 | .YieldFrom _ _, _, _, _, _, _, x => x
 | .Compare _ _ _ _, _, _, _, _, _, x => x
 | .Call _ _ _ _, _, _, _, _, _, x => x
 | .FormattedValue _ _ _ _, _, _, _, _, _, x => x
 | .JoinedStr _ _, _, _, _, _, _, x => x
 | .Constant _ _ _, _, _, _, _, _, x => x
 | .Attribute _ _ _, _, _, _, _, _, x => x
 | .Subscript _ _ _, _, _, _, _, _, x => x
 | .Starred _ _, _, _, _, _, _, x => x
 | .Name _ _, _, _, _, _, _, x => x
 | .List _ _, _, _, _, _, _, x => x
 | .Tuple _ _ _, _, _, _, _, _, x => x
theorem pY {C : Ctx} (M : CtxMono C) {op : BoolOp} : ∀ (es : List Expr) {κ : Kn} {Q Q' : PV -> St -> Prop} {st : St}, (∀ p s, Q p s -> Q' p s) -> wBo C op es κ Q st -> wBo C op es κ Q' st
 | [], _, _, _, _, _, x => x
 | e :: es, _, _, _, _, h, x => aY (aX M e h) (aX M e fun _ _ => a6 fun _ => aY (h _ _) (pY M es h)) x
theorem pX {C : Ctx} (M : CtxMono C) : ∀ (es : List Expr) {ops : List CmpOp} {κ : Kn} {a : PV} {Q Q' : PV -> St -> Prop} {st : St}, (∀ p s, Q p s -> Q' p s) -> wCh C es ops κ a Q st -> wCh C es ops κ a Q' st
 | [], _, _, _, _, _, _, _, x => x
 | r :: rs, _, _, _, _, _, _, h, x => a6 (fun _ => aX M r fun _ _ => jX fun _ => aY (fun y => ⟨y.1, h _ _ y.2⟩) (aY (pX M rs h) (h _ _))) x
theorem pV {C : Ctx} (M : CtxMono C) : ∀ (es : List Expr) {κ : Kn} {Q Q' : Bool -> St -> Prop} {st : St}, (∀ p s, Q p s -> Q' p s) -> wIf C es κ Q st -> wIf C es κ Q' st
 | [], _, _, _, _, h, x => h _ _ x
 | e :: es, _, _, _, _, h, x => aX M e (e8 fun _ _ => aY (pV M es h) (h _ _)) x
end
end Mine
end
section
open PySem PySem.W PyProof.Rows
open Builtin Builtin.Str
set_option Elab.async false
set_option autoImplicit false
set_option linter.unusedVariables false
namespace Mine
theorem d6 {K : Bool -> St -> Prop} {v : PV} {st : St} {b : Bool} (e : qF (der st.σ v) = some b) : tst K v st = K b st := by unfold tst; rw [e]; rfl
structure Bs where
 K : Frag
 h₀ : Heap
 mg : Str -> Option Value
 mb : Str -> Option Value
structure BsOk (B : Bs) : Prop where
 kin : B.K.In B.h₀
 g : B.h₀.Ns mainGlobals B.mg
 b : B.h₀.Ns builtinsNs B.mb
 lim : B.h₀.NoLimit
noncomputable def Over (B : Bs) (G : GM) : Prop := ∀ a o, B.h₀.get? a = some o -> G a = some o
theorem Over.ext {B : Bs} {G G' : GM} (h : Over B G) (e : Sub G G') : Over B G' := fun a o x => e _ _ (h a o x)
structure EnvOk (env : Env) : Prop where
 kind : env.scope.kind = .function
 glob : env.globals = mainGlobals
 bi : env.builtins = builtinsNs
noncomputable def KOk (κ : Kn) (env : Env) : Prop := ∀ x, env.kindOf x = if κ x = some .free then some .cell else κ x
theorem KOk.glob {κ : Kn} {env : Env} (h : KOk κ env) {x : Str} (e : κ x = some .globalImplicit) : env.kindOf x = some .globalImplicit := by rw [h x, e]; rfl
theorem KOk.loc {κ : Kn} {env : Env} (h : KOk κ env) {x : Str} (e : κ x = some .local) : env.kindOf x = some .local := by rw [h x, e]; rfl
theorem KOk.cell {κ : Kn} {env : Env} (h : KOk κ env) {x : Str} (e : κ x = some .cell \/ κ x = some .free) : env.kindOf x = some .cell := by rw [h x]; rcases e with e | e <;> rw [e] <;> rfl
structure Ok (B : Bs) (P : Params) (G : GM) (env : Env) (st : St) (s : Shared) : Prop where
 over : Over B G
 rep : Rep P G env st s
 ct : CellsThere env s.heap
noncomputable def Lands {α : Type} (B : Bs) (P : Params) (cw : Bool) (env : Env) (G : GM) (st : St) (s : Shared) (X : GM -> St -> α -> Prop) (a : α) (s' : Shared) : Prop :=
 ∃ G' st', X G' st' a /\ Ok B P G' env st' s' /\ Tr cw env G st s G' st' s'
noncomputable def VX (P : Params) (Q : PV -> St -> Prop) : GM -> St -> Value -> Prop := fun G' st' v => ∃ p, Q p st' /\ VRel P G' v p
noncomputable def VsX (P : Params) (Q : List PV -> St -> Prop) : GM -> St -> List Value -> Prop := fun G' st' vs => ∃ ps, Q ps st' /\ VRels P G' vs ps
noncomputable def BX (K : Bool -> St -> Prop) : GM -> St -> Bool -> Prop := fun _ st' b => K b st'
section
variable {prog : Program} {w : World} {A : Around} {E : Value -> Shared -> Prop} {s : Shared} {G : GM} {env : Env} {st : St} {cw : Bool} {B : Bs} {P : Params} {α β : Type}
theorem Lands.after {G₁ : GM} {st₁ : St} {s₁ : Shared} {X : GM -> St -> α -> Prop} {a : α} {s' : Shared} (T : Tr cw env G st s G₁ st₁ s₁) (h : Lands B P cw env G₁ st₁ s₁ X a s') : Lands B P cw env G st s X a s' :=
 let ⟨G', st', h1, h2, h3⟩ := h; ⟨G', st', h1, h2, T.trans h3⟩
theorem w7 {X : GM -> St -> α -> Prop} {Y : GM -> St -> β -> Prop} {m : Sem α} {f : α -> Sem β}
  (h : wpAny (model prog w) A m (Lands B P cw env G st s X) E s)
  (k : ∀ a G' st' s', X G' st' a -> Ok B P G' env st' s' -> Sub G G' -> wpAny (model prog w) A (f a) (Lands B P cw env G' st' s' Y) E s') :
  wpAny (model prog w) A m (fun a s' => wpAny (model prog w) A (f a) (Lands B P cw env G st s Y) E s') E s :=
 wpAny_mono h (fun a s' ⟨G', st', h1, h2, h3⟩ => wpAny_mono (k a G' st' s' h1 h2 h3.ext) (fun _ _ x => x.after h3) fun _ _ e => e) fun _ _ e => e
theorem aE {X : GM -> St -> α -> Prop} {R : α -> Shared -> Prop} {m : Sem α} (h : wpAny (model prog w) A m (Lands B P cw env G st s X) E s)
  (k : ∀ a G' st' s', X G' st' a -> Ok B P G' env st' s' -> Tr cw env G st s G' st' s' -> R a s') : wpAny (model prog w) A m R E s :=
 wpAny_mono h (fun a s' ⟨G', st', h1, h2, h3⟩ => k a G' st' s' h1 h2 h3) fun _ _ e => e
theorem aO {X : GM -> St -> α -> Prop} {m : Sem α} {G₁ : GM} {st₁ : St} {s₁ : Shared} (T : Tr cw env G st s G₁ st₁ s₁)
  (h : wpAny (model prog w) A m (Lands B P cw env G₁ st₁ s₁ X) E s₁) : wpAny (model prog w) A m (Lands B P cw env G st s X) E s₁ :=
 wpAny_mono h (fun _ _ x => x.after T) fun _ _ e => e
theorem w8 {X : GM -> St -> α -> Prop} {Y : GM -> St -> α -> Prop} {m : Sem α}
  (h : wpAny (model prog w) A m (Lands B P cw env G st s X) E s) (k : ∀ a G' st', X G' st' a -> Y G' st' a) : wpAny (model prog w) A m (Lands B P cw env G st s Y) E s :=
 wpAny_mono h (fun a s' ⟨G', st', h1, h2, h3⟩ => ⟨G', st', k a G' st' h1, h2, h3⟩) fun _ _ e => e
theorem aG {X : GM -> St -> α -> Prop} {a : α} (O : Ok B P G env st s) (h : X G st a) : Lands B P cw env G st s X a s := ⟨G, st, h, O, .refl⟩
theorem Ok.grow (O : Ok B P G env st s) {G' : GM} {s' : Shared} (g : GS G s G' s') (tk : 1 <= s'.toks) : Ok B P G' env st s' :=
 ⟨O.over.ext g.ext, O.rep.grow O.ct g tk, O.ct.grow fun a e => by
  obtain ⟨o, ho⟩ := Option.isSome_iff_exists.mp e
  rw [g.keep a o ho]; rfl⟩
theorem fD {X : GM -> St -> α -> Prop} {a : α} {s' : Shared} {G' : GM} (O : Ok B P G env st s) (g : GS G s G' s') (tk : 1 <= s'.toks) (h : X G' st a) : Lands B P cw env G st s X a s' :=
 ⟨G', st, h, O.grow g tk, g.tr⟩
theorem bG {t : Sem Value} {Q : PV -> St -> Prop} (O : Ok B P G env st s) (h : GW (model prog w) A P E G s t fun p => Q p st) :
  wpAny (model prog w) A t (Lands B P cw env G st s (VX P Q)) E s :=
 wpAny_mono (wpAny_toks_of O.rep.tk h) (fun v s' ⟨tk, p, G', hq, g, r⟩ => fD O g tk ⟨p, hq, r⟩) fun _ _ e => e.2
theorem tV {t : Sem Value} {Q : PV -> St -> Prop} (O : Ok B w.params G env st s) (h : wpAny (model prog w) A t (zdY w.params cw env G st s Q) E s) :
  wpAny (model prog w) A t (Lands B w.params cw env G st s (VX w.params Q)) E s :=
 wpAny_mono h (fun v s' ⟨p, G', st', hq, h1, h2, h3, h4⟩ => ⟨G', st', ⟨p, hq, h4⟩, ⟨O.over.ext h3.ext, h1, h2⟩, h3⟩) fun _ _ e => e
theorem w6 {v : Value} {p : PV} {K : Bool -> St -> Prop} (O : Ok B w.params G env st s) (hv : VRel w.params G v p) (h : tst K p st) :
  wpAny (model prog w) A (truthy v) (Lands B w.params cw env G st s (BX K)) E s := by
 obtain ⟨b, e, h⟩ := bJ h
 refine wpAny_mono (wpAny_toks_of O.rep.tk (zbv O.rep.inh (O.rep.view hv) e)) (fun c s' ⟨tk, hc, g⟩ => ?_) fun _ _ e => e.2
 subst hc
 exact fD O g tk h
end
noncomputable def KeepsAt (prog : Program) (w : World) (h : Heap) (f : Value) : Prop := ∃ k, Looks (model prog w) h (keeperOf f) k
noncomputable def Meets (prog : Program) (w : World) (B : Bs) (n : Nat) (v : Value) (F : Fn) : Prop :=
 KeepsAt prog w B.h₀ v /\ ∀ (A : Around) (E : Value -> Shared -> Prop) (G : GM) (s : Shared) (args : List Value) (ps : List PV) (K : PV -> Prop),
  Room n A -> InH G s.heap -> 1 <= s.toks -> Over B G -> VRels w.params G args ps -> F ps K -> GW (model prog w) A w.params E G s (call v args) K
theorem Meets.le {prog : Program} {w : World} {B : Bs} {n m : Nat} {v : Value} {F : Fn} (h : Meets prog w B n v F) (hm : n <= m) : Meets prog w B m v F :=
 ⟨h.1, fun A E G s args ps K hA => h.2 A E G s args ps K (hA.le hm)⟩
noncomputable def zbp (K : Frag) (c : Nat) (name : Str) (i : Nat) : Prop :=
 findIn K (.ref c) "__getattribute__" = some (some (.builtin "object.__getattribute__")) /\ findIn K (.ref c) "__getattr__" = some none /\
 ∃ p, findObj K c (some fS) name = some (.bind (.builtin "member_descriptor.__get__") (.ref p)) /\ slotIn K p c = some i /\
  findIn K (.ref c) "__setattr__" = some (some (.builtin "object.__setattr__")) /\ plainOver K c = true /\ takerIn K c name = some (some (.ref p)) /\ typeIn K (.ref p) = some (.type "member_descriptor") /\ i < 1000
noncomputable def zds (P : Params) (B : Bs) (c : Nat) (name : Str) (v : PV) : Prop :=
 findIn B.K (.ref c) "__getattribute__" = some (some (.builtin "object.__getattribute__")) /\
 ∃ u, findObj B.K c (some fS) name = some (.value u) /\ handedIn u = true /\ VRel P (fun a => B.h₀.get? a) u v
noncomputable def sE (prog : Program) (w : World) (B : Bs) (C : Ctx) (n : Nat) : Prop :=
 ∃ nodeV fV, B.mg "Node" = some nodeV /\ KeepsAt prog w B.h₀ fV /\
  (∀ (A : Around) (E : Value -> Shared -> Prop) (s : Shared) (Q : Value × List Value -> Shared -> Prop) (pl : Sem Bool) (b : Bool), (∀ a o, B.h₀.get? a = some o -> s.heap.get? a = some o) -> Looks (model prog w) B.h₀ pl b ->
   (∀ k, s.toks <= k -> Q (fV, []) { s with toks := k }) -> wpAny (model prog w) A (getMethod nodeV "__init__" pl) Q E s) /\
  (∀ (A : Around) (E : Value -> Shared -> Prop) (cw : Bool) (env : Env) (G : GM) (st : St) (s : Shared) (ad : Nat) (va vb : Value) (pa pb : PV) (K : St -> Prop), Room n A -> Ok B w.params G env st s -> VRel w.params G va pa -> VRel w.params G vb pb ->
   (setCell C ad "source_line" pa st fun st1 => setCell C ad "source_column" pb st1 K) ->
   wpAny (model prog w) A (call fV [.ref ad, va, vb]) (Lands B w.params cw env G st s (fun _ st' _ => K st')) E s)
structure CtxOk (prog : Program) (w : World) (B : Bs) (C : Ctx) (n : Nat) : Prop where
 mono : CtxMono C
 val : ∀ x v, C.val x = some v -> ∃ u, B.mg x = some u /\ VRel w.params (fun a => B.h₀.get? a) u v
 fn : ∀ x F, C.fn x = some F -> ∃ u, B.mg x = some u /\ Meets prog w B n u F
 cls : ∀ x F, C.cls x = some F -> ∃ u, B.mg x = some u /\ Meets prog w B n u F
 bi : ∀ x, C.bi x = true -> B.mg x = none /\ B.mb x = some (hV x)
 slot : ∀ c x i, C.slot c x = some i -> zbp B.K c x i
 cval : ∀ c x v, C.cval c x = some v -> zds w.params B c x v
 ini : C.ini = true -> sE prog w B C n
noncomputable def bZ (prog : Program) (w : World) (B : Bs) (C : Ctx) (n : Nat) (e : Expr) : Prop :=
 ∀ (A : Around) (E : Value -> Shared -> Prop) (cw : Bool) (env : Env) (κ : Kn) (G : GM) (st : St) (s : Shared) (Q : PV -> St -> Prop), Room n A -> EnvOk env -> KOk κ env -> Ok B w.params G env st s ->
  wE C e κ Q st -> wpAny (model prog w) A (eval e env) (Lands B w.params cw env G st s (VX w.params Q)) E s
noncomputable def kJ (prog : Program) (w : World) (B : Bs) (C : Ctx) (n : Nat) (e : Expr) : Prop :=
 ∀ (A : Around) (E : Value -> Shared -> Prop) (cw : Bool) (env : Env) (κ : Kn) (G : GM) (st : St) (s : Shared) (K : Bool -> St -> Prop), Room n A -> EnvOk env -> KOk κ env -> Ok B w.params G env st s ->
  wE C e κ (tst K) st ->
  wpAny (model prog w) A (isTrue e env (eval e env)) (Lands B w.params cw env G st s (BX K)) E s
section
variable {prog : Program} {w : World} {B : Bs} {C : Ctx} {n : Nat}
theorem kP {e : Expr} (h : bZ prog w B C n e) (he : ∀ env whole, isTrue e env whole = (do let v <- whole; standAt e.pos; holding [v] (truthy v))) : kJ prog w B C n e := by
 intro A E cw env κ G st s K hA hE hκ O hw
 refine isTrue_plain (w7 (h A E cw env κ G st s _ hA hE hκ O hw) fun v G' st' s' ⟨p, hq, hv⟩ O' _ => ?_) (he env _)
 exact w6 O' hv hq
noncomputable def okC : Const -> Bool
 | .str s => s.cps.toList.all (· < 1114112) && decide (s.cps.toList.length <= 16777216)
 | _ => true
theorem vT {c : Const} {k : Nat} {p : Pos} (ok : okC c = true) : bZ prog w B C n (.Constant c k p) := by
 intro A E cw env κ G st s Q hA hE hκ O hw
 obtain ⟨v, hv, hw⟩ := bJ hw
 refine bG O ?_
 cases c <;> first | (cases hv; done) | skip
 all_goals cases hv
 ·exact Constant_none ⟨.none, G, hw, GS.refl O.rep.inh, by simp [VRel]⟩
 ·exact Constant_bool ⟨.bool _, G, hw, GS.refl O.rep.inh, by simp [VRel]⟩
 ·rw [arm_eval_Constant]
  exact wpAny_mkInt ⟨.int _, G, hw, GS.toks O.rep.inh _, by simp [VRel]⟩
 ·rename_i x
  refine Calls.Constant_str ⟨.str _, G, hw, GS.toks O.rep.inh _, ?_⟩
  simp only [okC, Bool.and_eq_true, List.all_eq_true, decide_eq_true_eq] at ok
  simp only [VRel]
  exact ⟨_, rfl, ok.1, ok.2⟩
theorem cW {A : Around} {E : Value -> Shared -> Prop} {env : Env} {G : GM} {s : Shared} {x : Str} {u : Value} {Q : Value -> Shared -> Prop} (hB : BsOk B) (hE : EnvOk env) (hi : InH G s.heap) (ho : Over B G) (hv : B.mg x = some u) (h : Q u s) :
  wpAny (model prog w) A (loadGlobal env x) Q E s :=
 Calls.loadGlobal_global (mg := B.mg) (by rw [hE.glob]; exact hB.g.keeps fun b o e => hi _ _ (ho _ _ e)) hv h
theorem l7 {A : Around} {E : Value -> Shared -> Prop} {env : Env} {G : GM} {s : Shared} {x : Str} {u : Value} {Q : Value -> Shared -> Prop} (hB : BsOk B) (hE : EnvOk env) (hi : InH G s.heap) (ho : Over B G) (hn : B.mg x = none) (hv : B.mb x = some u) (h : Q u s) :
  wpAny (model prog w) A (loadGlobal env x) Q E s :=
 Calls.loadGlobal_builtin (mg := B.mg) (mb := B.mb) (by rw [hE.glob]; exact hB.g.keeps fun b o e => hi _ _ (ho _ _ e)) hn (by rw [hE.bi]; exact hB.b.keeps fun b o e => hi _ _ (ho _ _ e)) hv h
end
section
variable {prog : Program} {w : World} {B : Bs} {C : Ctx} {n : Nat}
theorem o7 {x : Str} {p : Pos} (hB : BsOk B) (hC : CtxOk prog w B C n) (ok2 : (x == ("__classdict__" : Str)) = false) (A : Around) (E : Value -> Shared -> Prop) (cw : Bool) (env : Env) (κ : Kn) (G : GM) (st : St) (s : Shared) (Q : PV -> St -> Prop)
  (hE : EnvOk env) (hκ : KOk κ env) (O : Ok B w.params G env st s) (hw : wE C (.Name x p) κ Q st) : wpAny (model prog w) A (loadName env x) (Lands B w.params cw env G st s (VX w.params Q)) E s := by
 have R := O.rep
 rw [gT] at hw
 by_cases hk : κ x = some .globalImplicit
 ·rw [if_pos hk] at hw
  obtain ⟨v, hv, hq⟩ := bJ hw
  obtain ⟨u, h1, h2⟩ := hC.val x v hv
  rw [loadName_read hE.kind (hκ.glob hk)]
  exact cW hB hE R.inh O.over h1 (aG O ⟨v, hq, h2.mono fun a o e => O.over a o e⟩)
 ·rw [if_neg hk] at hw
  obtain ⟨v, e, hw⟩ := bJ hw
  ·by_cases hl : env.kindOf x = some .local
   ·obtain ⟨m, hm, hx⟩ := R.ns
    obtain ⟨u, h1, h2⟩ := hx x v e hl
    exact wpAny_loadName_local hE.kind hl hm h1 (aG O ⟨v, hw, h2⟩)
   ·obtain ⟨c, u, h1, h2, h3⟩ := R.cel x v e hl
    rcases R.kind x v e with h | h | h
    ·exact absurd h hl
    ·exact wpAny_loadName_cell hE.kind h h1 h2 (aG O ⟨v, hw, h3⟩)
    ·exact wpAny_loadName_free hE.kind h h1 h2 (aG O ⟨v, hw, h3⟩) ok2
theorem zJ {x : Str} {p : Pos} (hB : BsOk B) (hC : CtxOk prog w B C n) (ok : (x == ("__debug__" : Str)) = false) (ok2 : (x == ("__classdict__" : Str)) = false) : bZ prog w B C n (.Name x p) := by
 intro A E cw env κ G st s Q hA hE hκ O hw
 exact wpAny_Name (o7 hB hC ok2 A E cw env κ G st s Q hE hκ O hw) ok
theorem zbD {l r : Expr} {op : Operator} {p : Pos} (hl : bZ prog w B C n l) (hr : bZ prog w B C n r) : bZ prog w B C n (.BinOp l op r p) := by
 intro A E cw env κ G st s Q hA hE hκ O hw
 exact wpAny_BinOp (aE (hl A E cw env κ G st s _ hA hE hκ O hw) fun a G1 st1 s1 ⟨u, hq, hv⟩ O1 T1 =>
  aE (hr A E cw env κ G1 st1 s1 _ hA hE hκ O1 hq) fun b G2 st2 s2 ⟨u2, hq2, hv2⟩ O2 T2 =>
   aO (T1.trans T2) (bG O2 (zdm O2.rep.inh (O2.rep.view (hv.mono T2.ext)) (O2.rep.view hv2) hq2)))
theorem za0 {x : Expr} {op : UnaryOp} {p : Pos} (hx : bZ prog w B C n x) : bZ prog w B C n (.UnaryOp op x p) := by
 intro A E cw env κ G st s Q hA hE hκ O hw
 refine wpAny_UnaryOp (aE (hx A E cw env κ G st s _ hA hE hκ O hw) fun a G1 st1 s1 ⟨u, hq, hv⟩ O1 T1 => aO T1 ?_)
 cases op <;> first | exact False.elim hq | skip
 ·obtain ⟨b, hb, hq⟩ := bJ hq
  refine not_of (wpAny_mono (wpAny_toks_of O1.rep.tk (zbv O1.rep.inh (O1.rep.view hv) hb)) (fun c s' ⟨tk, hc, g⟩ => ?_) fun _ _ e => e.2)
  subst hc
  exact fD O1 g tk ⟨_, hq, by simp only [VRel]⟩
 ·obtain ⟨i, hi, hq⟩ := cA hq
  have hv' := O1.rep.view hv
  rw [hi] at hv'
  obtain ⟨t, rfl⟩ := uT hv'
  exact bG O1 (k7 O1.rep.inh hq fun Q q => neg_int q)
theorem vR {t b o : Expr} {p : Pos} (ht : kJ prog w B C n t) (hb : bZ prog w B C n b) (ho : bZ prog w B C n o) : bZ prog w B C n (.IfExp t b o p) := by
 intro A E cw env κ G st s Q hA hE hκ O hw
 refine IfExp_ (aE (ht A E cw env κ G st s _ hA hE hκ O hw) fun c G1 st1 s1 hq O1 T1 => ?_)
 simp only [BX] at hq
 cases c
 ·exact aO T1 (ho A E cw env κ G1 st1 s1 _ hA hE hκ O1 (by simpa using hq))
 ·exact aO T1 (hb A E cw env κ G1 st1 s1 _ hA hE hκ O1 (by simpa using hq))
theorem zP {x : Expr} {p : Pos} (hM : CtxMono C) (hx : kJ prog w B C n x) : kJ prog w B C n (.UnaryOp .Not x p) := by
 intro A E cw env κ G st s K hA hE hκ O hw
 refine isTrue_not (wpAny_mono (hx A E cw env κ G st s (fun b st1 => K (!b) st1) hA hE hκ O (aX hM x (fun u st1 h => ?_) hw)) (fun c s1 x => x) fun _ _ e => e)
 obtain ⟨b, e, h⟩ := bJ h
 rw [d6 e]
 have h' : tst K (.bool (!b)) st1 := h
 rwa [d6 (b := !b) rfl] at h'
theorem sU {t b o : Expr} {p : Pos} (ht : kJ prog w B C n t) (hb : kJ prog w B C n b) (ho : kJ prog w B C n o) : kJ prog w B C n (.IfExp t b o p) := by
 intro A E cw env κ G st s K hA hE hκ O hw
 refine isTrue_IfExp (aE (ht A E cw env κ G st s _ hA hE hκ O hw) fun c G1 st1 s1 hq O1 T1 => ?_)
 simp only [BX] at hq
 cases c
 ·exact aO T1 (ho A E cw env κ G1 st1 s1 K hA hE hκ O1 (by simpa using hq))
 ·exact aO T1 (hb A E cw env κ G1 st1 s1 K hA hE hκ O1 (by simpa using hq))
theorem za2 {op : BoolOp} {p : Pos} : ∀ (es : List Expr), (∀ e ∈ es, bZ prog w B C n e) -> bZ prog w B C n (.BoolOp op es p)
 | [], _ => fun A E cw env κ G st s Q hA hE hκ O hw => False.elim hw
 | [e], h => fun A E cw env κ G st s Q hA hE hκ O hw => BoolOp_one (h e (by simp) A E cw env κ G st s Q hA hE hκ O hw)
 | e :: e' :: es, h => by
  intro A E cw env κ G st s Q hA hE hκ O hw
  have ih := za2 (p := p) (op := op) (e' :: es) fun x hx => h x (List.mem_cons_of_mem _ hx)
  have he := h e (by simp) A E cw env κ G st s _ hA hE hκ O (show wE C e κ (fun v st1 => opt (qF (der st1.σ v)) fun b => if b = (op == .Or) then Q v st1 else wBo C op (e' :: es) κ Q st1) st from hw)
  have main : ∀ {G1 : GM} {st1 : St} {s1 : Shared} {a : Value} {u : PV} {R : Bool -> Shared -> Prop}, Tr cw env G st s G1 st1 s1 -> (opt (qF (der st1.σ u)) fun b => if b = (op == .Or) then Q u st1 else wBo C op (e' :: es) κ Q st1) -> VRel w.params G1 a u -> Ok B w.params G1 env st1 s1 ->
    (∀ s', Lands B w.params cw env G st s (VX w.params Q) a s' -> R (op == .Or) s') -> (∀ b s', b ≠ (op == .Or) -> wpAny (model prog w) A (eval (.BoolOp op (e' :: es) p) env) (Lands B w.params cw env G st s (VX w.params Q)) E s' -> R b s') -> wpAny (model prog w) A (truthy a) R E s1 := by
   intro G1 st1 s1 a u R T1 hq hv O1 k1 k2
   obtain ⟨b, e1, hq⟩ := bJ hq
   refine wpAny_mono (wpAny_toks_of O1.rep.tk (zbv O1.rep.inh (O1.rep.view hv) e1)) (fun c s' ⟨tk, hc, g⟩ => ?_) fun _ _ e => e.2
   subst hc
   by_cases hb : c = (op == .Or)
   ·rw [if_pos hb] at hq; rw [hb]
    exact k1 s' ((fD (X := VX w.params Q) O1 g tk ⟨u, hq, hv.mono g.ext⟩).after T1)
   ·rw [if_neg hb] at hq
    exact k2 c s' hb (aO (T1.trans g.tr) (ih A E cw env κ G1 st1 s' Q hA hE hκ (O1.grow g tk) hq))
  cases op
  ·refine BoolOp_and (aE he fun a G1 st1 s1 ⟨u, hq, hv⟩ O1 T1 => main T1 hq hv O1 (fun s' h => h) fun b s' hb h => ?_)
   cases b
   ·exact absurd rfl hb
   ·exact h
  ·refine BoolOp_or (aE he fun a G1 st1 s1 ⟨u, hq, hv⟩ O1 T1 => main T1 hq hv O1 (fun s' h => h) fun b s' hb h => ?_)
   cases b
   ·exact h
   ·exact absurd rfl hb
theorem vW {op : BoolOp} {p : Pos} : ∀ (es : List Expr), (∀ e ∈ es, kJ prog w B C n e) -> es ≠ [] -> kJ prog w B C n (.BoolOp op es p)
 | [], _, ne => absurd rfl ne
 | [e], h, _ => by
  intro A E cw env κ G st s K hA hE hκ O hw
  have he := h e (by simp) A E cw env κ G st s K hA hE hκ O hw
  cases op
  ·refine isTrue_and (aE he fun c G1 st1 s1 hq O1 T1 => ?_)
   cases c
   ·exact (aG (X := BX K) O1 hq).after T1
   ·exact isTrue_and_nil ((aG (X := BX K) O1 hq).after T1)
  ·refine isTrue_or (aE he fun c G1 st1 s1 hq O1 T1 => ?_)
   cases c
   ·exact isTrue_or_nil ((aG (X := BX K) O1 hq).after T1)
   ·exact (aG (X := BX K) O1 hq).after T1
 | e :: e' :: es, h, _ => by
  intro A E cw env κ G st s K hA hE hκ O hw
  have ih := vW (p := p) (op := op) (e' :: es) (fun x hx => h x (List.mem_cons_of_mem _ hx)) (by simp)
  have he := h e (by simp) A E cw env κ G st s (fun b st1 => if b = (op == .Or) then K b st1 else wBo C op (e' :: es) κ (tst K) st1) hA hE hκ O (by
   refine cast (congrArg (fun q => wE C e κ q st) ?_) hw
   funext v st1
   show (opt (qF (der st1.σ v)) fun b => if b = (op == .Or) then tst K v st1 else _) = opt (qF (der st1.σ v)) fun b => if b = (op == .Or) then K b st1 else _
   cases e1 : qF (der st1.σ v) with
   | none => rfl
   | some b => show (if b = (op == .Or) then tst K v st1 else _) = _; rw [d6 e1]; rfl)
  have go : ∀ {G1 : GM} {st1 : St} {s1 : Shared} (c : Bool), c ≠ (op == .Or) -> (if c = (op == .Or) then K c st1 else wBo C op (e' :: es) κ (tst K) st1) -> Ok B w.params G1 env st1 s1 -> wpAny (model prog w) A (isTrue (.BoolOp op (e' :: es) p) env (eval (.BoolOp op (e' :: es) p) env)) (Lands B w.params cw env G1 st1 s1 (BX K)) E s1 :=
   fun c hc hq O1 => ih A E cw env κ _ _ _ K hA hE hκ O1 (by rw [if_neg hc] at hq; exact hq)
  cases op
  ·refine isTrue_and (aE he fun c G1 st1 s1 hq O1 T1 => ?_)
   cases c
   ·exact (aG (X := BX K) O1 hq).after T1
   ·exact aO T1 (go true (by decide) hq O1)
  ·refine isTrue_or (aE he fun c G1 st1 s1 hq O1 T1 => ?_)
   cases c
   ·exact aO T1 (go false (by decide) hq O1)
   ·exact (aG (X := BX K) O1 hq).after T1
end
section
variable {prog : Program} {w : World} {B : Bs} {C : Ctx} {n : Nat}
theorem iT {A : Around} {E : Value -> Shared -> Prop} {cw : Bool} {env : Env} {G : GM} {st : St} {s : Shared} {a b : Value} {pa pb : PV} {op : CmpOp} {K : Bool -> St -> Prop} {R : Value -> Shared -> Prop}
  (hA : Room n A) (O : Ok B w.params G env st s) (ha : VRel w.params G a pa) (hb : VRel w.params G b pb) (h : zbk st.σ op pa pb fun c => K c st)
  (k : ∀ (c : Bool) (G' : GM) (st' : St) (s' : Shared), K c st' -> Ok B w.params G' env st' s' -> Tr cw env G st s G' st' s' -> R (.bool c) s') : wpAny (model prog w) A (compareOp op a b) R E s := by
 refine aE (cw := cw) (bG (Q := fun v st' => ∃ c, v = .bool c /\ K c st') O
   (zdS hA O.rep.inh O.rep.cellsOk ha hb (jX (fun c hc => ⟨c, rfl, hc⟩) h))) fun cv G2 st2 s2 ⟨v, ⟨c, hc, hq2⟩, hv2⟩ O2 T2 => ?_
 subst hc
 simp only [VRel] at hv2; subst hv2
 exact k c G2 st2 s2 hq2 O2 T2
theorem za1 {p : Pos} : ∀ (cs : List Expr) (ops : List CmpOp), (∀ e ∈ cs, bZ prog w B C n e) -> cs.length = ops.length ->
  ∀ (A : Around) (E : Value -> Shared -> Prop) (cw : Bool) (env : Env) (κ : Kn) (G : GM) (st : St) (s : Shared) (Q : PV -> St -> Prop) (a : Value) (pa : PV), Room n A -> EnvOk env -> KOk κ env -> Ok B w.params G env st s ->
   VRel w.params G a pa -> wCh C cs ops κ pa Q st -> wpAny (model prog w) A (compareChain p a ops (evalEach cs env)) (Lands B w.params cw env G st s (VX w.params Q)) E s
 | [], ops, _, _ => by
  intro A E cw env κ G st s Q a pa hA hE hκ O ha hw
  exact False.elim hw
 | [r], [op], h, _ => by
  intro A E cw env κ G st s Q a pa hA hE hκ O ha hw
  exact chain_last (aE (h r (by simp) A E cw env κ G st s _ hA hE hκ O hw) fun b G1 st1 s1 ⟨u, hq, hv⟩ O1 T1 =>
   aO T1 (iT (K := fun c st' => ([] : List CmpOp).isEmpty = true /\ Q (.bool c) st') hA O1 (ha.mono T1.ext) hv hq fun c G2 st2 s2 hq2 O2 T2 => (aG (X := VX w.params Q) O2 ⟨_, hq2.2, by simp only [VRel]⟩).after T2))
 | r :: r' :: rs, op :: op' :: ops, h, hl => by
  intro A E cw env κ G st s Q a pa hA hE hκ O ha hw
  have ih := za1 (p := p) (r' :: rs) (op' :: ops) (fun x hx => h x (List.mem_cons_of_mem _ hx)) (by simpa using hl)
  refine chain_link (aE (h r (by simp) A E cw env κ G st s _ hA hE hκ O hw) fun b G1 st1 s1 ⟨u, hq, hv⟩ O1 T1 => ?_)
  refine iT (cw := cw) (K := fun c st' => if c = true then wCh C (r' :: rs) (op' :: ops) κ u Q st' else Q (.bool false) st') hA O1 (ha.mono T1.ext) hv hq fun c G2 st2 s2 hq2 O2 T2 => ?_
  refine wpAny_truthy_bool ?_
  cases c
  ·exact (aG (X := VX w.params Q) O2 ⟨.bool false, hq2, by simp only [VRel]⟩).after (T1.trans T2)
  ·exact aO (T1.trans T2) (ih A E cw env κ G2 st2 s2 Q b u hA hE hκ O2 (hv.mono T2.ext) hq2)
theorem vV {p : Pos} : ∀ (cs : List Expr) (ops : List CmpOp), (∀ e ∈ cs, bZ prog w B C n e) -> cs.length = ops.length ->
  ∀ (A : Around) (E : Value -> Shared -> Prop) (cw : Bool) (env : Env) (κ : Kn) (G : GM) (st : St) (s : Shared) (K : Bool -> St -> Prop) (a : Value) (pa : PV), Room n A -> EnvOk env -> KOk κ env -> Ok B w.params G env st s ->
   VRel w.params G a pa -> wCh C cs ops κ pa (tst K) st -> wpAny (model prog w) A (testChain p a ops (evalEach cs env)) (Lands B w.params cw env G st s (BX K)) E s
 | [], ops, _, _ => by
  intro A E cw env κ G st s Q a pa hA hE hκ O ha hw
  exact False.elim hw
 | [r], [op], h, _ => by
  intro A E cw env κ G st s K a pa hA hE hκ O ha hw
  exact test_last (aE (h r (by simp) A E cw env κ G st s _ hA hE hκ O hw) fun b G1 st1 s1 ⟨u, hq, hv⟩ O1 T1 =>
   iT (cw := cw) (K := fun c st' => ([] : List CmpOp).isEmpty = true /\ tst K (.bool c) st') hA O1 (ha.mono T1.ext) hv hq fun c G2 st2 s2 hq2 O2 T2 =>
    wpAny_truthy_bool ((aG (X := BX K) O2 (by have hq2 := hq2.2; rwa [d6 (b := c) rfl] at hq2)).after (T1.trans T2)))
 | r :: r' :: rs, op :: op' :: ops, h, hl => by
  intro A E cw env κ G st s K a pa hA hE hκ O ha hw
  have ih := vV (p := p) (r' :: rs) (op' :: ops) (fun x hx => h x (List.mem_cons_of_mem _ hx)) (by simpa using hl)
  refine test_link (aE (h r (by simp) A E cw env κ G st s _ hA hE hκ O hw) fun b G1 st1 s1 ⟨u, hq, hv⟩ O1 T1 => ?_)
  refine iT (cw := cw) (K := fun c st' => if c = true then wCh C (r' :: rs) (op' :: ops) κ u (tst K) st' else tst K (.bool false) st') hA O1 (ha.mono T1.ext) hv hq fun c G2 st2 s2 hq2 O2 T2 => ?_
  refine wpAny_truthy_bool ?_
  cases c
  ·exact (aG (X := BX K) O2 hq2).after (T1.trans T2)
  ·exact aO (T1.trans T2) (ih A E cw env κ G2 st2 s2 K b u hA hE hκ O2 (hv.mono T2.ext) hq2)
theorem zbC {l : Expr} {ops : List CmpOp} {cs : List Expr} {p : Pos} (hl : bZ prog w B C n l) (h : ∀ e ∈ cs, bZ prog w B C n e) (hlen : cs.length = ops.length) (hm : lastMarks ops cs = false) :
  bZ prog w B C n (.Compare l ops cs p) := by
 intro A E cw env κ G st s Q hA hE hκ O hw
 rw [arm_eval_Compare, markedEach_of_false _ _ _ hm]
 exact wpAny_bind (aE (hl A E cw env κ G st s _ hA hE hκ O hw) fun a G1 st1 s1 ⟨u, hq, hv⟩ O1 T1 =>
  aO T1 (za1 cs ops h hlen A E cw env κ G1 st1 s1 Q a u hA hE hκ O1 hv hq))
theorem zQ {l : Expr} {ops : List CmpOp} {cs : List Expr} {p : Pos} (hl : bZ prog w B C n l) (h : ∀ e ∈ cs, bZ prog w B C n e) (hlen : cs.length = ops.length) (hm : lastMarks ops cs = false) :
  kJ prog w B C n (.Compare l ops cs p) := by
 intro A E cw env κ G st s K hA hE hκ O hw
 show wpAny _ _ (do testChain p (<- PySem.eval l env) ops (markedEach ops cs (evalEach cs env))) _ _ _
 rw [markedEach_of_false _ _ _ hm]
 exact wpAny_bind (aE (hl A E cw env κ G st s _ hA hE hκ O hw) fun a G1 st1 s1 ⟨u, hq, hv⟩ O1 T1 =>
  aO T1 (vV cs ops h hlen A E cw env κ G1 st1 s1 K a u hA hE hκ O1 hv hq))
theorem gB {e : Expr} (h : b9 e = true) (es : List Expr) (env : Env) : starEach (e :: es) env = (false, PySem.eval e env) :: starEach es env := by
 cases e <;> first | rfl | cases h
theorem d7 {p : Pos} : ∀ (es : List Expr), (∀ e ∈ es, bZ prog w B C n e) -> es.all b9 = true ->
  ∀ (A : Around) (E : Value -> Shared -> Prop) (cw : Bool) (env : Env) (κ : Kn) (G : GM) (st : St) (s : Shared) (Q : List PV -> St -> Prop), Room n A -> EnvOk env -> KOk κ env -> Ok B w.params G env st s ->
   wEs C es κ Q st -> wpAny (model prog w) A (spliced (backTo p (starEach es env))) (Lands B w.params cw env G st s (VsX w.params Q)) E s
 | [], _, _ => by
  intro A E cw env κ G st s Q hA hE hκ O hw
  exact Calls.spliced_nil (aG O ⟨[], hw, .nil⟩)
 | e :: es, h, hs => by
  intro A E cw env κ G st s Q hA hE hκ O hw
  simp only [List.all_cons, Bool.and_eq_true] at hs
  rw [gB hs.1]
  show wpAny _ _ (spliced ((false, PySem.eval e env) :: backTo p (starEach es env))) _ _ _
  exact Calls.spliced_cons (aE (h e (by simp) A E cw env κ G st s _ hA hE hκ O hw) fun a G1 st1 s1 ⟨u, hq, hv⟩ O1 T1 =>
   aE (d7 es (fun x hx => h x (List.mem_cons_of_mem _ hx)) hs.2 A E cw env κ G1 st1 s1 _ hA hE hκ O1 hq) fun vs G2 st2 s2 ⟨us, hq2, hv2⟩ O2 T2 =>
    (aG (X := VsX w.params Q) O2 ⟨u :: us, hq2, .cons (hv.mono T2.ext) hv2⟩).after (T1.trans T2))
theorem lR {p : Pos} {f : Value} (es : List Expr) (h : ∀ e ∈ es, bZ prog w B C n e) (hs : es.all b9 = true)
  (A : Around) (E : Value -> Shared -> Prop) (cw : Bool) (env : Env) (κ : Kn) (G : GM) (st : St) (s : Shared) (Q : List PV -> St -> Prop) (hA : Room n A) (hE : EnvOk env) (hκ : KOk κ env) (O : Ok B w.params G env st s)
  (hw : wEs C es κ Q st) : wpAny (model prog w) A (evalArgs f true (backTo p (starEach es env)) []) (fun a s' => ∃ vs, a = ⟨vs, []⟩ /\ Lands B w.params cw env G st s (VsX w.params Q) vs s') E s := by
 have hh := d7 (p := p) es h hs A E cw env κ G st s Q hA hE hκ O hw
 cases es with
 | nil =>
  exact PySem.evalArgs_none ⟨[], rfl, aG O ⟨[], hw, .nil⟩⟩
 | cons e es =>
  simp only [List.all_cons, Bool.and_eq_true] at hs
  rw [gB hs.1] at hh ⊢
  exact Calls.evalArgs_plain (wpAny_mono hh (fun vs s' x => ⟨vs, rfl, x⟩) fun _ _ e => e)
theorem iW {p : Pos} : ∀ (es : List Expr) (env : Env), es.all b9 = true -> (backTo p (starEach es env)).any (·.1) = false
 | [], _, _ => rfl
 | e :: es, env, h => by
  simp only [List.all_cons, Bool.and_eq_true] at h
  rw [gB h.1]
  exact iW es env h.2
theorem fZ {p : Pos} : ∀ (es : List Expr) (env : Env), es.all b9 = true -> (backTo p (starEach es env)).all (fun x => !x.1) = true
 | [], _, _ => rfl
 | e :: es, env, h => by
  simp only [List.all_cons, Bool.and_eq_true] at h
  rw [gB h.1]
  exact fZ es env h.2
theorem dI {A : Around} {E : Value -> Shared -> Prop} {s : Shared} {pos : Pos} {f : Value} {first : List Value} {args : List (Bool × Sem Value)} {Q : Value -> Shared -> Prop} (hst : args.any (·.1) = false)
  (h : wpAny (model prog w) A (evalArgs f true args []) (fun a s₁ => KeepsAt prog w s₁.heap f /\ wpAny (model prog w) A (call f (first ++ a.pos) a.kw) Q E s₁) E s) :
  wpAny (model prog w) A (callWith pos f first args []) Q E s := by
 unfold callWith
 refine wpAny_bind (wpAny_holding (wpAny_mono h (fun a s₁ h₁ => wpAny_bind (wpAny_standAt ?_)) fun _ _ x => x))
 obtain ⟨⟨k, hk⟩, hc⟩ := h₁
 simp only [hst, List.any_nil, Bool.or_false]
 have fin : ∀ t : Sem Value, wpAny (model prog w) A t Q E s₁ -> wpAny (model prog w) A (t >>= fun r => holding [r] point >>= fun _ => pure r) Q E s₁ :=
  fun t ht => wpAny_bind (wpAny_mono ht (fun r s₂ hr => wpAny_bind (wpAny_holding (wpAny_point (wpAny_pure hr)))) fun _ _ x => x)
 refine wpAny_bind (hk.here ?_)
 cases k <;> dsimp only
 ·refine wpAny_ite ?_
  split
  ·exact fin _ hc
  ·exact fin _ (by unfold callMarked; exact Calls.wpAny_keep hc)
 ·refine wpAny_ite ?_
  split
  ·exact fin _ hc
  ·exact fin _ (by unfold callMarked; exact Calls.wpAny_keep hc)
 ·exact fin _ hc
 ·exact fin _ (wpAny_operate' hc)
theorem eE (h : Heap) (id : String) : KeepsAt prog w h (.builtin id) := ⟨.machine, Looks.of_pure rfl⟩
theorem tX (h : Heap) (id : String) : KeepsAt prog w h (.type id) := ⟨.machine, Looks.of_pure rfl⟩
theorem KeepsAt.keeps {h h' : Heap} {f : Value} (x : KeepsAt prog w h f) (k : ∀ b o, h.get? b = some o -> h'.get? b = some o) : KeepsAt prog w h' f := let ⟨r, hr⟩ := x; ⟨r, hr.keeps k⟩
theorem zan (h : Heap) (x : Str) : KeepsAt prog w h (hV x) := by
 unfold hV
 (repeat' split) <;> first | exact tX _ _ | exact eE _ _
end
theorem n0 {σ : Nat -> Option Cell} : ∀ {ps : List PV}, ps.any tY = false -> ps.map (der σ) = ps
 | [], _ => rfl
 | p :: ps, h => by
  simp only [List.any_cons, Bool.or_eq_false_iff] at h
  rw [List.map_cons, n0 h.2]
  cases p <;> first | rfl | cases h.1
theorem VRel.scalar {P : Params} {G G' : GM} {v : Value} {p : PV} (h : VRel P G v p) (hs : lS p = true) : VRel P G' v p := by
 cases p <;> first | (cases hs; done) | (simp only [VRel] at h ⊢; exact h)
noncomputable def frz (G : GM) (σ : Nat -> Option Cell) (h : Heap) : GM := fun a => if (eI (σ a)).isSome = true then h.get? a else G a
noncomputable def y2 (G : GM) (σ : Nat -> Option Cell) : GM := fun a => if (eI (σ a)).isSome = true then none else G a
theorem gR {c : Option Cell} (h : (eI c).isSome = true) : ∃ xs, c = some (.lst xs) := by
 cases c with
 | none => cases h
 | some c => cases c with
  | lst xs => exact ⟨xs, rfl⟩
  | ins c fs => cases h
section
variable {prog : Program} {w : World} {B : Bs} {C : Ctx} {n : Nat} {P : Params} {G G' : GM} {env : Env} {st : St} {s s' : Shared}
theorem rL {σ : Nat -> Option Cell} {h : Heap} (hc : ∀ a c, σ a = some c -> G a = none) : Sub G (frz G σ h) := fun a o e => by
 unfold frz
 by_cases q : (eI (σ a)).isSome = true
 ·obtain ⟨xs, q⟩ := gR q
  rw [hc a _ q] at e; cases e
 ·rw [if_neg q]; exact e
theorem jN (R : Rep P G env st s) : Sub G (frz G st.σ s.heap) := rL fun a c e => (R.cells a c e).2.1
theorem zbd (R : Rep P G env st s) : InH (frz G st.σ s.heap) s.heap := by
 intro a o e
 unfold frz at e
 by_cases q : (eI (st.σ a)).isSome = true
 ·rw [if_pos q] at e; exact e
 ·rw [if_neg q] at e; exact R.inh a o e
theorem zb5 (R : Rep P G env st s) {v : Value} {p : PV} (h : VRel P G v p) : VRel P (frz G st.σ s.heap) v (der st.σ p) := by
 cases p with
 | ptr a =>
  show VRel P (frz G st.σ s.heap) v (Option.casesOn (motive := fun _ => PV) (eI (st.σ a)) (.ptr a) .list)
  by_cases q : (eI (st.σ a)).isSome = true
  ·obtain ⟨xs, e⟩ := gR q
   simp only [VRel] at h; subst h
   obtain ⟨⟨vs, m, h1, h2, h3⟩, _⟩ := R.cells a _ e
   have hf : frz G st.σ s.heap a = s.heap.get? a := if_pos q
   rw [e]
   simp only [eI, VRel]
   exact ⟨a, _, vs, m, rfl, hf.trans h1, rfl, rfl, rfl, h2, h3.mono (jN R)⟩
  ·cases e : eI (st.σ a) with
   | none => exact h.mono (jN R)
   | some xs => rw [e] at q; exact absurd rfl q
 | _ => exact h.mono (jN R)
theorem rM (R : Rep P G env st s) : ∀ {vs : List Value} {ps : List PV}, VRels P G vs ps -> VRels P (frz G st.σ s.heap) vs (ps.map (der st.σ))
 | vs, [], h => h
 | vs, p :: ps, h => let ⟨v, r, e, h1, h2⟩ := h; e ▸ .cons (zb5 R h1) (rM R h2)
theorem y1 (R : Rep P G env st s) (g : GS (frz G st.σ s.heap) s G' s') : GS G s (y2 G' st.σ) s' where
 ext := fun a o e => by
  unfold y2
  by_cases q : (eI (st.σ a)).isSome = true
  ·obtain ⟨xs, q⟩ := gR q
   rw [(R.cells a _ q).2.1] at e; cases e
  ·rw [if_neg q]; exact g.ext a o (jN R a o e)
 inh := fun a o e => by
  unfold y2 at e
  by_cases q : (eI (st.σ a)).isSome = true
  ·rw [if_pos q] at e; cases e
  ·rw [if_neg q] at e; exact g.inh a o e
 new := fun a o e => by
  unfold y2 at e
  by_cases q : (eI (st.σ a)).isSome = true
  ·rw [if_pos q] at e; cases e
  ·rw [if_neg q] at e
   rcases g.new a o e with h | h
   ·unfold frz at h
    rw [if_neg q] at h; exact .inl h
   ·exact .inr h
 keep := g.keep
 os := g.os
 gens := g.gens
theorem zcj {A : Around} {E : Value -> Shared -> Prop} {cw : Bool} {f : Value} {F : Fn} {vs : List Value} {ps : List PV} {Q : PV -> St -> Prop} (hA : Room n A) (hF : Meets prog w B n f F) (O : Ok B w.params G env st s)
  (hv : VRels w.params G vs ps) (h : F (ps.map (der st.σ)) fun r => (ps.any tY = false \/ lS r = true) /\ Q r st) :
  wpAny (model prog w) A (call f vs) (Lands B w.params cw env G st s (VX w.params Q)) E s := by
 refine bG O ?_
 by_cases hp : ps.any tY = false
 ·rw [n0 hp] at h
  exact (hF.2 A E G s vs ps _ hA O.rep.inh O.rep.tk O.over hv h).mono fun r x => x.2
 ·have hg := hF.2 A E (frz G st.σ s.heap) s vs _ _ hA (zbd O.rep) O.rep.tk (O.over.ext (jN O.rep)) (rM O.rep hv) h
  exact wpAny_mono hg (fun v s' ⟨r, G', ⟨h1, h2⟩, h3, h4⟩ => ⟨r, _, h2, y1 O.rep h3, h4.scalar (h1.resolve_left hp)⟩) fun _ _ e => e
theorem zaO {A : Around} {E : Value -> Shared -> Prop} {cw : Bool} {f : Value} {F : Fn} {vs : List Value} {ps : List PV} {Q : PV -> St -> Prop} (hA : Room n A) (hF : Meets prog w B n f F) (O : Ok B w.params G env st s)
  (hv : VRels w.params G vs ps) (h : F ps fun r => Q r st) : wpAny (model prog w) A (call f vs) (Lands B w.params cw env G st s (VX w.params Q)) E s :=
 bG O (hF.2 A E G s vs ps _ hA O.rep.inh O.rep.tk O.over hv h)
theorem zck {A : Around} {E : Value -> Shared -> Prop} {cw : Bool} {x : Str} {vs : List Value} {ps : List PV} {Q : PV -> St -> Prop} (hA : Room n A) (O : Ok B w.params G env st s)
  (hv : VRels w.params G vs ps) (h : biP x (ps.map (der st.σ)) fun r => Q r st) : wpAny (model prog w) A (call (hV x) vs) (Lands B w.params cw env G st s (VX w.params Q)) E s :=
 bG O (bi_G hA O.rep.inh (yC O.rep hv) h)
theorem Ok.keepsAt {f : Value} (O : Ok B P G env st s) (h : KeepsAt prog w B.h₀ f) : KeepsAt prog w s.heap f := h.keeps fun a o e => O.rep.inh a o (O.over a o e)
theorem zN {x : Str} {np p : Pos} {args : List Expr} (hB : BsOk B) (hC : CtxOk prog w B C n) (h : ∀ e ∈ args, bZ prog w B C n e) (hs : args.all b9 = true) (ok : (x == ("__debug__" : Str)) = false) :
  bZ prog w B C n (.Call (.Name x np) args [] p) := by
 intro A E cw env κ G st s Q hA hE hκ O hw
 rw [zbr] at hw
 obtain ⟨_, hk, hn, hw⟩ := hw
 have go : ∀ (f : Value), KeepsAt prog w B.h₀ f -> (∀ G' st' s' vs ps, Ok B w.params G' env st' s' -> VRels w.params G' vs ps -> iK C x ps st' (fun r => Q r st') -> wpAny (model prog w) A (call f vs) (Lands B w.params cw env G' st' s' (VX w.params Q)) E s') ->
   wpAny (model prog w) A (loadGlobal env x) (fun v s' => v = f /\ s' = s) E s -> wpAny (model prog w) A (PySem.eval (.Call (.Name x np) args [] p) env) (Lands B w.params cw env G st s (VX w.params Q)) E s := by
  intro f hf k hl
  refine wpAny_Call_NameR (wpAny_Name ?_ ok)
  rw [loadName_read hE.kind (hκ.glob hk)]
  refine wpAny_mono hl (fun v s' ⟨e1, e2⟩ => ?_) fun _ _ e => e
  subst e1 e2
  refine dI (iW args env hs) (wpAny_mono (lR args h hs A E cw env κ G st s' _ hA hE hκ O hw) (fun a s1 ⟨vs, ha, G1, st1, ⟨ps, hq, hv⟩, O1, T1⟩ => ?_) fun _ _ e => e)
  subst ha
  exact ⟨O1.keepsAt hf, aO T1 (k G1 st1 s1 vs ps O1 hv hq)⟩
 cases e1 : C.fn x with
 | some F =>
  obtain ⟨u, h1, h2⟩ := hC.fn x F e1
  exact go u h2.1 (fun G' st' s' vs ps O' hv hq => zcj hA h2 O' hv (by unfold iK at hq; rw [e1] at hq; exact hq)) (cW hB hE O.rep.inh O.over h1 ⟨rfl, rfl⟩)
 | none =>
  cases e2 : C.cls x with
  | some F =>
   obtain ⟨u, h1, h2⟩ := hC.cls x F e2
   exact go u h2.1 (fun G' st' s' vs ps O' hv hq => zaO hA h2 O' hv (by unfold iK at hq; rw [e1, e2] at hq; exact hq)) (cW hB hE O.rep.inh O.over h1 ⟨rfl, rfl⟩)
  | none =>
   by_cases e3 : C.bi x = true
   ·obtain ⟨h1, h2⟩ := hC.bi x e3
    exact go (hV x) (zan _ x) (fun G' st' s' vs ps O' hv hq => zck hA O' hv (by unfold iK at hq; rw [e1, e2] at hq; exact hq.2)) (l7 hB hE O.rep.inh O.over h1 h2 ⟨rfl, rfl⟩)
   ·unfold tW at hn
    rw [e1, e2] at hn
    exact absurd (by simpa using hn) e3
end
noncomputable def jD (o : Expr) : Bool := match o with
 | .Call f _ _ _ => (atN f).isSome
 | _ => exc false (fun _ => true) (fun _ => true) (fun _ => false) (fun _ _ _ => true) (fun _ _ => false) (fun _ _ => false) o
theorem pK {o : Expr} (h : jD o = true) (attr : Str) (env : Env) (t : Sem Value) : attributeBase o attr env t = t := by
 cases o <;> first | (cases h; done) | rfl | skip
 rename_i f _ _ _
 cases f <;> first | (cases h; done) | rfl
section
variable {prog : Program} {w : World} {B : Bs} {C : Ctx} {n : Nat}
theorem n4 {A : Around} {E : Value -> Shared -> Prop} {s : Shared} {env : Env} {o : Expr} {name : Str} {apos pos : Pos} {args : List Expr} {Q : Value -> Shared -> Prop}
  (hb : jD o = true) (hs : args.all b9 = true) (hlen : args.length < 30) (hline : (apos.endLine == pos.line) = true)
  (h : wpAny (model prog w) A (PySem.eval o env) (fun ov s₁ => ∃ T mid, PlainAttrs T /\ Slot T name mid /\ typeOf (.builtin mid) = pure (.type "method_descriptor") /\ s₁.TypeIs ov T /\ (∀ a, ov = .ref a -> ∃ ob, s₁.heap.get? a = some ob /\ ob.dict = none) /\
   wpAny (model prog w) A (callWith pos (.builtin mid) [ov] (backTo pos (starEach args env)) []) Q E s₁) E s) :
  wpAny (model prog w) A (PySem.eval (.Call (.Attribute o name apos) args [] pos) env) Q E s := by
 have hform : methodCallForm (args.length + ([] : List Keyword).length) (backTo pos (starEach args env)) (backToKw pos (keywordEach [] env)) = true := by
  unfold methodCallForm
  rw [fZ args env hs]
  simp [keywordEach, backToKw]
  omega
 have hpos : methodCallPos true o env apos pos = pure pos := by unfold methodCallPos; simp [hline]
 rw [arm_eval_Call, pK hb]
 refine wpAny_bind (wpAny_mono h (fun ov s₁ ⟨T, mid, h1, h2, h3, h4, h5, h6⟩ => ?_) fun _ _ e => e)
 refine wpAny_bind (wpAny_standAt ?_)
 unfold methodCall
 rw [hform]
 refine wpAny_bind (wpAny_holding (getMethod_builtin h4 h1 h2 h3 h5 ?_))
 exact wpAny_bind (wpAny_of_eq hpos h6)
theorem lK {s : Shared} {v : Value} {x : List Nat} {P : Params} {G : GM} (h : VRel P G v (.str x)) : s.TypeIs v "str" /\ ∀ a, v = .ref a -> ∃ ob, s.heap.get? a = some ob /\ ob.dict = none := by
 simp only [VRel] at h
 obtain ⟨t, rfl, _⟩ := h
 exact ⟨typeIs_str _ _ _, fun a e => by cases e⟩
theorem wP {G : GM} {env : Env} {st : St} {s : Shared} {name : Str} {o : PV} {v : Value} (O : Ok B w.params G env st s) (hv : VRel w.params G v o) (h : mOk st.σ name o = true) :
  ∃ T, PlainAttrs T /\ Slot T name (eB name o) /\ typeOf (.builtin (eB name o)) = pure (.type "method_descriptor") /\ s.TypeIs v T /\ (∀ a, v = .ref a -> ∃ ob, s.heap.get? a = some ob /\ ob.dict = none) := by
 cases o <;> first | (cases h; done) | skip
 ·rename_i x
  obtain ⟨t1, t2⟩ := lK (s := s) hv
  refine ⟨"str", PySem.F.plainAttrs_str, ?_⟩
  show Slot "str" name (cQ name) /\ typeOf (.builtin (cQ name)) = _ /\ _
  have h : (name == "startswith" || name == "find" || name == "rfind" || name == "count" || name == "join") = true := h
  rw [Bool.or_eq_true, Bool.or_eq_true, Bool.or_eq_true, Bool.or_eq_true, beq_iff_eq, beq_iff_eq, beq_iff_eq, beq_iff_eq, beq_iff_eq] at h
  rcases h with (((h | h) | h) | h) | h <;> subst h
  ·rw [show cQ "startswith" = "str.startswith" by decide +kernel]; exact ⟨PySem.F.slot_str_startswith, PySem.F.type_str_startswith, t1, t2⟩
  ·rw [show cQ "find" = "str.find" by decide +kernel]; exact ⟨PySem.F.slot_str_find, PySem.F.type_str_find, t1, t2⟩
  ·rw [show cQ "rfind" = "str.rfind" by decide +kernel]; exact ⟨PySem.F.slot_str_rfind, PySem.F.type_str_rfind, t1, t2⟩
  ·rw [show cQ "count" = "str.count" by decide +kernel]; exact ⟨PySem.F.slot_str_count, PySem.F.type_str_count, t1, t2⟩
  ·rw [show cQ "join" = "str.join" by decide +kernel]; exact ⟨PySem.F.slot_str_join, PySem.F.type_str_join, t1, t2⟩
 ·rename_i a
  have h : (name == "append" && (eI (st.σ a)).isSome) = true := h
  rw [Bool.and_eq_true, beq_iff_eq] at h
  obtain ⟨rfl, h2⟩ := h
  obtain ⟨xs, e⟩ := gR h2
  simp only [VRel] at hv; subst hv
  obtain ⟨⟨vs, m, g1, g2, g3⟩, _⟩ := O.rep.cells a _ e
  exact ⟨"list", PySem.F.plainAttrs_list, PySem.F.slot_list_append, PySem.F.type_list_append, ⟨_, g1, rfl⟩, fun b e => by cases e; exact ⟨_, g1, rfl⟩⟩
theorem zK {o : Expr} {name : Str} {apos p : Pos} {args : List Expr} (ho : bZ prog w B C n o) (h : ∀ e ∈ args, bZ prog w B C n e) (hs : args.all b9 = true) (hb : jD o = true) (hlen : args.length < 30)
  (hline : (apos.endLine == p.line) = true) (hr : cU args = none) : bZ prog w B C n (.Call (.Attribute o name apos) args [] p) := by
 intro A E cw env κ G st s Q hA hE hκ O hw
 rw [iY, hr] at hw
 refine n4 hb hs hlen hline (aE (ho A E cw env κ G st s _ hA hE hκ O hw.2) fun ov G1 st1 s1 ⟨u, ⟨hm, hq⟩, hv⟩ O1 T1 => ?_)
 obtain ⟨T, h1, h2, h3, h4, h5⟩ := wP O1 hv hm
 refine ⟨T, eB name u, h1, h2, h3, h4, h5, ?_⟩
 refine dI (iW args env hs) (wpAny_mono (lR args h hs A E cw env κ G1 st1 s1 _ hA hE hκ O1 hq) (fun a s2 ⟨vs, ha, G2, st2, ⟨ps, hq2, hv2⟩, O2, T2⟩ => ?_) fun _ _ e => e)
 subst ha
 exact ⟨eE _ _, aO (T1.trans T2) (tV O2 (zbQ hA O2.rep O2.ct (hv.mono T2.ext) hv2 hq2))⟩
theorem rX {e : Expr} {x : Str} (h : csE e = some x) : ∃ k p, e = .Constant (.str x) k p := by
 cases e <;> first | (cases h; done) | skip
 rename_i c _ _
 cases c <;> first | (cases h; done) | skip
 cases h; exact ⟨_, _, rfl⟩
theorem v8 {as : List Expr} {x y : Str} (h : cU as = some (x, y)) : ∃ k1 p1 k2 p2, as = [.Constant (.str x) k1 p1, .Constant (.str y) k2 p2] := by
 match as, h with
 | [a, b], h =>
  obtain ⟨p, h1, h⟩ := Option.bind_eq_some_iff.mp h
  obtain ⟨q, h2, e⟩ := Option.map_eq_some_iff.mp h
  cases e
  obtain ⟨k1, p1, rfl⟩ := rX h1
  obtain ⟨k2, p2, rfl⟩ := rX h2
  exact ⟨_, _, _, _, rfl⟩
theorem zI {o : Expr} {name : Str} {apos p : Pos} {args : List Expr} {x y : Str} (ho : bZ prog w B C n o) (hb : jD o = true)
  (hline : (apos.endLine == p.line) = true) (hr : cU args = some (x, y)) : bZ prog w B C n (.Call (.Attribute o name apos) args [] p) := by
 intro A E cw env κ G st s Q hA hE hκ O hw
 rw [iY, hr] at hw
 obtain ⟨k1, p1, k2, p2, rfl⟩ := v8 hr
 refine n4 hb rfl (show 2 < 30 by decide) hline (aE (ho A E cw env κ G st s _ hA hE hκ O hw.2) fun ov G1 st1 s1 ⟨u, hq, hv⟩ O1 T1 => ?_)
 obtain ⟨z, rfl, rfl, hz, ⟨k, r, hx, hkz⟩, hy, hxy, hq⟩ := c8 hq
 obtain ⟨t1, t2⟩ := lK (s := s1) hv
 refine ⟨"str", "str.replace", PySem.F.plainAttrs_str, PySem.F.slot_str_replace, PySem.F.type_str_replace, t1, t2, ?_⟩
 refine dI rfl (Calls.evalArgs_plain (Calls.spliced_cons (Calls.Constant_str (k := k1) (pos := p1) (Calls.spliced_cons (Calls.Constant_str (k := k2) (pos := p2) (Calls.spliced_nil ?_))))))
 have g := GS.toks O1.rep.inh (s1.toks + 1 + 1)
 have O2 := O1.grow g (Nat.le_add_left 1 _)
 refine ⟨eE _ _, aO (T1.trans g.tr) (bG O2 ?_)⟩
 have hv' := hv.mono g.ext
 simp only [VRel] at hv
 obtain ⟨t, rfl, okz⟩ := hv
 have tk := O1.rep.tk
 have sx : x = ⟨(k :: r).toArray⟩ := by rw [<- hx]
 have ly : y.length = 1 := by rw [<- hy]; exact (Array.length_toList).symm
 refine SC.replace (Nat.ne_of_gt tk) (Nat.succ_ne_zero _) (Nat.ne_of_lt (Nat.lt_succ_self _)) (beq_eq_false_iff_ne.mpr hxy) (by rw [b7, ly]; omega) fun t' k => ⟨_, G1, hq, GS.toks O2.rep.inh k, ?_⟩
 rw [sx, sX z _ r y hkz]
 simp only [VRel]
 exact ⟨t', rfl, okz⟩
end
section
variable {prog : Program} {w : World} {B : Bs} {C : Ctx} {n : Nat}
theorem t5 {P : Params} {G : GM} {v : Value} {p : PV} (h : VRel P G v p) : handedIn v = true := by
 cases p <;> simp only [VRel] at h
 ·subst h; rfl
 ·subst h; rfl
 ·obtain ⟨t, rfl⟩ := h; rfl
 ·obtain ⟨t, rfl, _⟩ := h; rfl
 ·obtain ⟨a, _, _, _, rfl, _⟩ := h; rfl
 ·obtain ⟨a, _, _, _, rfl, _⟩ := h; rfl
 ·obtain ⟨vs, ⟨x, dx, rfl, _⟩, _⟩ := h; rfl
 ·obtain ⟨a, _, _, _, rfl, _⟩ := h; rfl
 ·subst h; rfl
theorem zdn {A : Around} {E : Value -> Shared -> Prop} {G : GM} {s : Shared} {name : Str} {v : Value} {p : PV} {K : PV -> Prop} {x : Bool} (hB : BsOk B) (hC : CtxOk prog w B C n) (hi : InH G s.heap) (ho : Over B G)
  (hv : VRel w.params G v p) (h : zaQ C name p K) : GW (model prog w) A w.params E G s (getAttr v name x) K := by
 cases p <;> first | exact False.elim h | skip
 rename_i c fs
 simp only [VRel] at hv
 obtain ⟨vs, ⟨a, dx, rfl, h1, h2⟩, h3⟩ := hv
 have I : PySem.W.InstAt s.heap a _ c (some fS) := ⟨hi _ _ h1, rfl, rfl, hi _ _ h2⟩
 have X : B.K.In s.heap := hB.kin.keeps fun b o e => hi _ _ (ho _ _ e)
 have h : mP (C.slot c name) (opt (C.cval c name) K) fun i => opt fs[i]? K := h
 cases hs : C.slot c name with
 | some i =>
  rw [hs] at h
  obtain ⟨s1, s2, q, s3, s4, _⟩ := hC.slot c name i hs
  obtain ⟨u, hu, h⟩ := bJ h
  obtain ⟨uv, e1, e2⟩ := h3.get hu
  refine get_bind X I s1 s3 s2 ?_
  refine wpAny_call (slot_get (v := uv) (od := some fS) (X.keeps fun _ _ e => e) ⟨I.at_, I.cls, I.no, hi _ _ h2⟩ s4 ?_ ?_)
  ·show ((vs.map some).toArray[i]?).join = _
   rw [List.getElem?_toArray, List.getElem?_map, e1]; rfl
  ·dsimp only
   rw [handedOut_of (t5 e2)]
   exact wpAny_pure ⟨u, G, h, GS.toks hi _, e2⟩
 | none =>
  rw [hs] at h
  obtain ⟨u, hu, h⟩ := bJ h
  obtain ⟨s1, uv, s2, s3, s4⟩ := hC.cval c name u hu
  exact get_value X I s1 s2 s3 ⟨u, G, h, GS.toks hi _, s4.mono ho⟩
theorem zO {o : Expr} {name : Str} {p : Pos} (hB : BsOk B) (hC : CtxOk prog w B C n) (ho : bZ prog w B C n o) (hb : jD o = true) : bZ prog w B C n (.Attribute o name p) := by
 intro A E cw env κ G st s Q hA hE hκ O hw
 rw [arm_eval_Attribute, pK hb]
 refine wpAny_bind (aE (ho A E cw env κ G st s _ hA hE hκ O hw) fun ov G1 st1 s1 ⟨u, hq, hv⟩ O1 T1 => ?_)
 refine wpAny_bind (wpAny_standAt (wpAny_bind (wpAny_holding ?_)))
 refine aE (cw := cw) (bG (Q := Q) O1 (zdn hB hC O1.rep.inh O1.over hv hq)) fun r G2 st2 s2 hr O2 T2 => ?_
 exact wpAny_bind (wpAny_letTemporaryGo (wpAny_pure ((aG (X := VX w.params Q) O2 hr).after (T1.trans T2))))
theorem zdR {A : Around} {E : Value -> Shared -> Prop} {G : GM} {s : Shared} {v iv : Value} {p i : PV} {K : PV -> Prop} (hi : InH G s.heap) (hv : j6 w.params G s.heap v p) (hiv : VRel w.params G iv i) (h : zbc p i K) :
  GW (model prog w) A w.params E G s (getItem v iv) K /\ ∃ T id, s.TypeIs v T /\ typeLookup (.type T) "__getitem__" = pure (some (.builtin id)) := by
 obtain ⟨k, rfl, h⟩ := cA h
 cases p <;> first | exact False.elim h | skip
 ·obtain ⟨c, hc, h⟩ := bJ h
  exact ⟨zb1 hi hv hiv hc h, "str", _, (lK (P := w.params) (G := G) hv).1, PySem.F.slot_str_getitem.lookup⟩
 ·obtain ⟨c, hc, h⟩ := bJ h
  refine ⟨zb0 hi hv hiv hc h, "tuple", _, ?_, PySem.F.slot_tuple_getitem.lookup⟩
  simp only [j6, VRel] at hv
  obtain ⟨a, o, vs, m, rfl, h1, h2, _⟩ := hv
  exact ⟨o, hi _ _ h1, h2⟩
 ·obtain ⟨c, hc, h⟩ := bJ h
  refine ⟨zau hi hv hiv hc h, "list", _, ?_, PySem.F.slot_list_getitem.lookup⟩
  obtain ⟨a, o, vs, m, rfl, h1, h2, _⟩ := hv
  exact ⟨o, h1, h2⟩
theorem zbB {o i : Expr} {p : Pos} (ho : bZ prog w B C n o) (hi : bZ prog w B C n i) (hs : ∀ a b, subscripted i false a b = operate [a, b] (getItem a b)) (hu : zba i = false) : bZ prog w B C n (.Subscript o i p) := by
 intro A E cw env κ G st s Q hA hE hκ O hw
 rw [zcz, hu] at hw
 refine Subscript_ (aE (ho A E cw env κ G st s _ hA hE hκ O hw) fun ov G1 st1 s1 ⟨u, hq, hv⟩ O1 T1 => ?_)
 refine aE (hi A E cw env κ G1 st1 s1 _ hA hE hκ O1 hq) fun iv G2 st2 s2 ⟨u2, hq2, hv2⟩ O2 T2 => ?_
 obtain ⟨g, T, id, t1, t2⟩ := zdR (prog := prog) (A := A) (E := E) O2.rep.inh (O2.rep.view (hv.mono T2.ext)) hv2 hq2
 exact tail_any t1 t2 (aO (T1.trans T2) (bG O2 g)) (hs ov iv)
theorem qT {l : Option Expr} (h : ∀ e, l = some e -> bZ prog w B C n e) (A : Around) (E : Value -> Shared -> Prop) (cw : Bool) (env : Env) (κ : Kn) (G : GM) (st : St) (s : Shared) (Q : Option Int -> St -> Prop) (hA : Room n A) (hE : EnvOk env) (hκ : KOk κ env) (O : Ok B w.params G env st s)
  (hw : wOp C l κ Q st) : wpAny (model prog w) A (PySem.evalPart l env) (Lands B w.params cw env G st s (fun _ st' v => ∃ i, Q i st' /\ ∃ t, v = partValue (i.map (·, t)))) E s := by
 cases l with
 | none =>
  rw [evalPart_none]
  exact wpAny_pure (aG O ⟨none, hw, s.toks, rfl⟩)
 | some e =>
  rw [evalPart_some]
  refine w8 (h e rfl A E cw env κ G st s _ hA hE hκ O hw) fun v G' st' ⟨p, hq, hv⟩ => ?_
  obtain ⟨i, rfl, hq⟩ := cA hq
  simp only [VRel] at hv
  obtain ⟨t, rfl⟩ := hv
  exact ⟨some i, hq.2.2, t, rfl⟩
theorem vZ {A : Around} {E : Value -> Shared -> Prop} {G : GM} {s : Shared} {v vl vu : Value} {y : PV} {q : Addr} {lo hi : Option Int} {K : PV -> Prop} (hi' : InH G s.heap) (hv : j6 w.params G s.heap v y)
  (hs : s.heap.get? q = some { cls := .type "slice", data := .fields #[vl, vu, .none] }) (hl : ∃ t, vl = partValue (lo.map (·, t))) (hu : ∃ t, vu = partValue (hi.map (·, t))) (h : zbF y lo hi K) :
  ∃ T ci, s.TypeIs v T /\ typeLookup (.type T) "__getitem__" = pure (some (.builtin ci)) /\ GW (model prog w) A w.params E G s (getItem v (.ref q)) K := by
 cases y <;> first | exact False.elim h | skip
 ·rename_i y
  exact ⟨"str", _, (lK (P := w.params) (G := G) hv).1, PySem.F.slot_str_getitem.lookup, eY (sl := .none) (lo := lo) (hi := hi) (r := .str (slc y lo hi)) hi' hv hs hl hu rfl h⟩
 ·rename_i y
  have t3 := eY (prog := prog) (w := w) (A := A) (E := E) (K := K) (sl := .none) (lo := lo) (hi := hi) (r := .list (slc y lo hi)) hi' hv hs hl hu rfl h
  obtain ⟨a, ob, vs, m, rfl, h1, h2, _⟩ := hv
  exact ⟨"list", _, ⟨ob, h1, h2⟩, PySem.F.slot_list_getitem.lookup, t3⟩
theorem vP {o : Expr} {l u : Option Expr} {sp p : Pos} (ho : bZ prog w B C n o) (hl : ∀ e, l = some e -> bZ prog w B C n e) (hu : ∀ e, u = some e -> bZ prog w B C n e) :
  bZ prog w B C n (.Subscript o (.Slice l u none sp) p) := by
 intro A E cw env κ G st s Q hA hE hκ O hw
 rw [zcA] at hw
 refine Subscript_ (aE (ho A E cw env κ G st s _ hA hE hκ O hw) fun ov G1 st1 s1 ⟨x, hq, hv⟩ O1 T1 => ?_)
 refine PySem.wpAny_Slice (aE (qT hl A E cw env κ G1 st1 s1 _ hA hE hκ O1 hq.2) fun lv G2 st2 s2 ⟨lo, hq2, hlv⟩ O2 T2 => ?_)
 refine aE (qT hu A E cw env κ G2 st2 s2 _ hA hE hκ O2 hq2) fun uv G3 st3 s3 ⟨hi, hq3, huv⟩ O3 T3 => ?_
 refine wpAny_pure ?_
 have g : GS G3 s3 G3 { s3 with heap := s3.heap.push { cls := .type "slice", data := .fields #[lv, uv, .none] } } := GS.heap O3.rep.inh s3.toks fun a o e => Heap.get?_push_of_some _ e
 have O4 := O3.grow g O3.rep.tk
 have hv4 := O4.rep.view (hv.mono (T2.ext.trans T3.ext))
 have hat : (s3.heap.push { cls := .type "slice", data := .fields #[lv, uv, .none] }).get? s3.heap.objs.size = some { cls := .type "slice", data := .fields #[lv, uv, .none] } := Heap.get?_push_size _ rfl
 obtain ⟨T, ci, t1, t2, t3⟩ := vZ (prog := prog) (A := A) (E := E) O4.rep.inh hv4 hat hlv huv hq3
 exact tail_any (ops := [.ref s3.heap.objs.size, ov]) t1 t2 (aO (T1.trans (T2.trans (T3.trans g.tr))) (bG O4 t3)) rfl
theorem tF {A : Around} {E : Value -> Shared -> Prop} {cw : Bool} {env : Env} {G : GM} {st : St} {s : Shared} {pos : Pos} {vs : List Value} {ps : List PV} {Q : PV -> St -> Prop} (O : Ok B w.params G env st s) (hv : VRels w.params G vs ps) (hz : vs.length <= a0)
  (h : bD C pos ps Q st) : wpAny (model prog w) A (newList vs) (Lands B w.params cw env G st s (VX w.params Q)) E s := by
 unfold bD at h
 by_cases q : C.mutL pos.line = true
 ·rw [if_pos q] at h
  obtain ⟨h1, h2, h3, h4⟩ := O.rep.newCell (cw := cw) O.ct hv hz (k := s.toks) O.rep.tk
  refine wpAny_newObj_type ⟨G, _, ⟨.ptr s.heap.objs.size, h _ h1, by simp [VRel]⟩, ⟨O.over, h2, h3⟩, h4⟩ (by show vs.toArray.size <= sizeLine; rw [List.size_toArray]; exact hz)
 ·rw [if_neg q] at h
  exact bG O (wK O.rep.inh hv hz h)
theorem oF : ∀ (es : List Expr) {κ : Kn} {Q : List PV -> St -> Prop} {st : St}, CtxMono C -> wEs C es κ Q st -> wEs C es κ (fun ps st' => ps.length = es.length /\ Q ps st') st
 | [], _, _, _, _, h => ⟨rfl, h⟩
 | e :: es, _, _, _, hM, h => aX hM e (fun v st1 h1 => bN hM es (fun ps st2 h2 => ⟨congrArg Nat.succ h2.1, h2.2⟩) (oF es hM h1)) h
theorem zL {es : List Expr} {p : Pos} (hM : CtxMono C) (h : ∀ e ∈ es, bZ prog w B C n e) (hs : es.all b9 = true) (hz : es.length <= 1000) : bZ prog w B C n (.List es p) := by
 intro A E cw env κ G st s Q hA hE hκ O hw
 rw [arm_eval_List]
 refine wpAny_bind (wpAny_standAt (wpAny_bind (aE (d7 es h hs A E cw env κ G st s _ hA hE hκ O (oF es hM hw)) fun vs G1 st1 s1 ⟨ps, ⟨hl, hq⟩, hv⟩ O1 T1 => ?_)))
 exact aO T1 (tF O1 hv (by rw [hv.length, hl]; unfold a0; omega) hq)
theorem vO {es : List Expr} {x : Nat} {p : Pos} (hM : CtxMono C) (h : ∀ e ∈ es, bZ prog w B C n e) (hs : es.all b9 = true) (hz : es.length <= 1000) : bZ prog w B C n (.Tuple es x p) := by
 intro A E cw env κ G st s Q hA hE hκ O hw
 rw [arm_eval_Tuple]
 refine wpAny_bind (wpAny_standAt (wpAny_bind (aE (d7 es h hs A E cw env κ G st s _ hA hE hκ O (oF es hM hw)) fun vs G1 st1 s1 ⟨ps, ⟨hl, hq⟩, hv⟩ O1 T1 => ?_)))
 exact aO T1 (bG O1 (tE O1.rep.inh hv (by rw [hv.length, hl]; unfold a0; omega) hq))
end
structure Itr (prog : Program) (w : World) (A : Around) (P : Params) (I : Addr) (G : GM) (items : List PV) (Ws : Nat -> Heap -> Prop) : Prop where
 frame : ∀ i h h', Ws i h -> (∀ o, h.get? I = some o -> h'.get? I = some o) -> InH G h' -> Ws i h'
 item : ∀ i p (s : Shared) (Q : Option Value -> Shared -> Prop) (E : Value -> Shared -> Prop), items[i]? = some p -> Ws i s.heap ->
  (∀ v h' tk, VRel P G v p -> Ws (i + 1) h' -> (∀ b o, b ≠ I -> s.heap.get? b = some o -> h'.get? b = some o) ->
   (∀ (target : Expr) (E' : Value -> Shared -> Prop) (Q' : Unit -> Shared -> Prop), Q' () { s with heap := h', toks := tk } -> wpAny (model prog w) A (letOwnedTupleGo target (.ref I) v) Q' E' { s with heap := h', toks := tk }) ->
   Q (some v) { s with heap := h', toks := tk }) -> wpAny (model prog w) A (pyNext (.ref I)) Q E s
 done : ∀ (s : Shared) (Q : Option Value -> Shared -> Prop) (E : Value -> Shared -> Prop), Ws items.length s.heap ->
  (∀ h' tk, (∀ b o, b ≠ I -> s.heap.get? b = some o -> h'.get? b = some o) -> Q none { s with heap := h', toks := tk }) -> wpAny (model prog w) A (pyNext (.ref I)) Q E s
 alive : ∀ i h, Ws i h -> ∃ o, h.get? I = some o
 self : ∀ i (s : Shared) (Q : Value -> Shared -> Prop) (E : Value -> Shared -> Prop), Ws i s.heap -> Q (.ref I) s -> wpAny (model prog w) A (pyIter (.ref I)) Q E s
section
variable {prog : Program} {w : World} {A : Around} {E : Value -> Shared -> Prop} {s : Shared} {G : GM} {P : Params}
theorem jH {target : Expr} {I : Addr} {v : Value} {Q : Unit -> Shared -> Prop} (hv : ∀ a, v ≠ .ref a) (h : Q () s) : wpAny (model prog w) A (letOwnedTupleGo target (.ref I) v) Q E s := by
 have : letOwnedTupleGo target (.ref I) v = pure () := by cases target <;> first | rfl | (cases v <;> first | rfl | exact absurd rfl (hv _))
 rw [this]; exact wpAny_pure h
theorem cY {h : Heap} : h.get? h.objs.size = none := by
 cases e : h.get? h.objs.size with
 | none => rfl
 | some o => exact absurd (Heap.lt_size e) (Nat.lt_irrefl _)
theorem zao (hh : A.handled = none) {I ax : Addr} {vs : Array Value} {items : List PV} (hne : ax ≠ I) (hl : ∀ h, InH G h -> h.IsList ax vs) (hr : VRels P G vs.toList items) :
  Itr prog w A P I G items (fun i h => h.IsListIter I ax i /\ h.IsList ax vs) := by
 have W := Walks.list (prog := prog) (w := w) hh I ax hne vs
 have hlen := hr.length
 simp only [Array.length_toList] at hlen
 refine ⟨fun i h h' st hk hi => ⟨st.1.at fun o e => hk o e, hl h' hi⟩, fun i p s Q E hp st hQ => ?_, fun s Q E st hQ => ?_, fun i h st => let ⟨o, ho, _⟩ := st.1; ⟨o, ho⟩, fun i s Q E st hQ => W.self i s Q E st hQ⟩
 ·have hi : i < items.length := (List.getElem?_eq_some_iff.mp hp).1
  refine W.item i s Q E (by omega) st fun v h' tk hv st' hk => ?_
  obtain ⟨q, hq, hvq⟩ := hr.get' (i := i) (v := v) (by simpa using hv)
  rw [hp] at hq; cases hq
  exact hQ v h' tk hvq st' (fun b o hb e => hk b o (by simpa using hb) e) fun target E' Q' hq => letGo_listiter st'.1 hq
 ·exact W.done s Q E (by rw [hlen]; exact st) fun h' tk hk => hQ h' tk fun b o hb e => hk b o (by simpa using hb) e
theorem xB {I : Addr} {x : List Nat} {St : Nat -> Heap -> Prop} (W : Walks prog w A I [I] [I] x.length (SignAt ⟨x.toArray⟩) St) (al : ∀ i h, St i h -> ∃ o, h.get? I = some o) (ok : okStr x) :
  Itr prog w A P I G (x.map fun c => .str [c]) St := by
 refine ⟨fun i h h' st hk hi => W.frame i h h' st fun b hb o e => by simp only [List.mem_singleton] at hb; subst hb; exact hk o e, fun i p s Q E hp st hQ => ?_, fun s Q E st hQ => ?_, al, fun i s Q E st hQ => W.self i s Q E st hQ⟩
 ·rw [List.getElem?_map, Option.map_eq_some_iff] at hp
  obtain ⟨c, hc, rfl⟩ := hp
  refine W.item i s Q E (List.getElem?_eq_some_iff.mp hc).1 st fun v h' tk hv st' hk => ?_
  obtain ⟨d, u, hd, rfl⟩ := hv
  have : d = c := by
   have hd' : x[i]? = some d := by simpa using hd
   rw [hc] at hd'; cases hd'; rfl
  subst this
  refine hQ _ h' tk ?_ st' (fun b o hb e => hk b o (by simpa using hb) e) fun target E' Q' hq => jH (fun a e => by cases e) hq
  simp only [VRel]
  exact ⟨u, rfl, oS (ok.1 d (List.mem_of_getElem? hc))⟩
 ·exact W.done s Q E (by simpa using st) fun h' tk hk => hQ h' tk fun b o hb e => hk b o (by simpa using hb) e
theorem xC (hh : A.handled = none) {I : Addr} {lo hi : Int} :
  Itr prog w A P I G ((List.range (hi - lo).toNat).map fun (k : Nat) => .int (lo + k)) (fun i h => IsRangeIter h I (lo + (i : Nat) * 1) (((hi - lo).toNat : Int) - (i : Nat)) 1) := by
 have W := Walks.range (prog := prog) (w := w) hh I lo 1 (hi - lo).toNat
 refine ⟨fun i h h' st hk hi => W.frame i h h' st fun b hb o e => by simp only [List.mem_singleton] at hb; subst hb; exact hk o e, fun i p s Q E hp st hQ => ?_, fun s Q E st hQ => ?_, fun i h st => ⟨_, st⟩, fun i s Q E st hQ => W.self i s Q E st hQ⟩
 ·rw [List.getElem?_map, Option.map_eq_some_iff] at hp
  obtain ⟨c, hc, rfl⟩ := hp
  have hlt := (List.getElem?_eq_some_iff.mp hc).1
  rw [List.length_range] at hlt
  have : c = i := by rw [List.getElem?_range hlt] at hc; cases hc; rfl
  subst this
  refine W.item c s Q E hlt st fun v h' tk hv st' hk => ?_
  obtain ⟨u, rfl⟩ := hv
  refine hQ _ h' tk ?_ st' (fun b o hb e => hk b o (by simpa using hb) e) fun target E' Q' hq => jH (fun a e => by cases e) hq
  simp only [VRel]
  exact ⟨u, by simp⟩
 ·exact W.done s Q E (by simpa using st) fun h' tk hk => hQ h' tk fun b o hb e => hk b o (by simpa using hb) e
theorem v5 {lo hj : Int} (h : 0 <= lo /\ lo <= 16777216 /\ 0 <= hj /\ hj <= 16777216) : Builtin.Range.small lo hj 1 = true := by
 have f : ∀ i : Int, 0 <= i -> i <= 16777216 -> Builtin.Range.rangeFitsLong i = true := by
  intro i h0 h1
  unfold Builtin.Range.rangeFitsLong
  simp
  omega
 have e : 0 <= Builtin.Range.rangeSize lo hj 1 /\ Builtin.Range.rangeSize lo hj 1 <= 16777216 := by
  unfold Builtin.Range.rangeSize
  rw [if_pos (by decide)]
  split <;> omega
 simp only [Builtin.Range.small, Bool.and_eq_true, Bool.or_eq_true]
 refine ⟨⟨⟨⟨f _ h.1 h.2.1, f _ h.2.2.1 h.2.2.2⟩, f _ (by omega) (by omega)⟩, f _ e.1 e.2⟩, .inr ?_⟩
 rw [if_pos (by decide)]
 exact f _ (by omega) (by omega)
theorem xD {v : Value} {p : PV} {items : List PV} {Q : Value -> Shared -> Prop} (hi : InH G s.heap) (hv : VRel P G v p) (e : eX p = some items)
  (h : ∀ I h' Ws, GS G s G { s with heap := h' } -> s.heap.get? I = none -> I < h'.objs.size -> (∀ A', A'.handled = none -> Itr prog w A' P I G items Ws) -> Ws 0 h' -> Q (.ref I) { s with heap := h' }) :
  wpAny (model prog w) A (pyIter v) Q E s := by
 have push : ∀ o : Obj, GS G s G { s with heap := s.heap.push o } /\ s.heap.get? s.heap.objs.size = none /\ s.heap.objs.size < (s.heap.push o).objs.size := fun o =>
  ⟨GS.heap hi s.toks fun a o' e => Heap.get?_push_of_some _ e, cY, by rw [Heap.size_push]; omega⟩
 cases p <;> first | (cases e; done) | skip
 all_goals cases e
 ·rename_i x
  simp only [VRel] at hv
  obtain ⟨t, rfl, ok⟩ := hv
  cases ha : (⟨x.toArray⟩ : Str).cps.all (· < 128)
  ·refine wpAny_pyIter_wide ha ?_
   obtain ⟨p1, p2, p3⟩ := push { cls := .type "str_iterator", data := .fields #[.str ⟨x.toArray⟩ t, .int 0 0] }
   exact h _ _ _ p1 p2 p3 (fun A' hA => xB (St := fun i h => h.IsStrIter s.heap.objs.size "str_iterator" ⟨x.toArray⟩ t i) (by simpa using Walks.strWide hA _ ⟨x.toArray⟩ t) (fun i h st => let ⟨o, ho, _⟩ := st; ⟨o, ho⟩) ok) ⟨_, Heap.get?_push_size _ rfl, rfl, rfl⟩
  ·refine wpAny_pyIter_ascii ha ?_
   obtain ⟨p1, p2, p3⟩ := push { cls := .type "str_ascii_iterator", data := .fields #[.str ⟨x.toArray⟩ t, .int 0 0] }
   exact h _ _ _ p1 p2 p3 (fun A' hA => xB (St := fun i h => h.IsStrIter s.heap.objs.size "str_ascii_iterator" ⟨x.toArray⟩ t i) (by simpa using Walks.strAscii hA _ ⟨x.toArray⟩ t) (fun i h st => let ⟨o, ho, _⟩ := st; ⟨o, ho⟩) ok) ⟨_, Heap.get?_push_size _ rfl, rfl, rfl⟩
 ·simp only [VRel] at hv
  obtain ⟨ax, ⟨c, d, dt, sl⟩, vs, m, rfl, h1, h2, h3, h4, h5, h6⟩ := hv
  simp only at h2 h3 h4; subst h2 h3 h4
  have hl : ∀ h, InH G h -> h.IsList ax vs := fun h ih => ⟨_, ih _ _ h1, rfl, m, rfl⟩
  have hne : ax ≠ s.heap.objs.size := fun q => by have := hi _ _ h1; rw [q, cY] at this; cases this
  refine wpAny_pyIter_list (hl _ hi) ?_
  obtain ⟨p1, p2, p3⟩ := push { cls := .type "list_iterator", data := .fields #[.ref ax, .int 0 0] }
  exact h _ _ _ p1 p2 p3 (fun A' hA => zao hA hne hl h6) ⟨⟨_, Heap.get?_push_size _ rfl, rfl, rfl⟩, hl _ p1.inh⟩
 ·rename_i lo hj
  simp only [VRel] at hv
  obtain ⟨r, t, u, z, rfl, h1, h2⟩ := hv
  refine wpAny_pyIter_range (hi _ _ h1) (v5 h2) ?_
  obtain ⟨p1, p2, p3⟩ := push { cls := .type "range_iterator", data := .fields #[rawInt lo, rawInt (Builtin.Range.rangeSize lo hj 1), rawInt 1] }
  refine h _ _ _ p1 p2 p3 (fun A' hA => xC hA) ?_
  have e1 : Builtin.Range.rangeSize lo hj 1 = ((hj - lo).toNat : Int) := by
   unfold Builtin.Range.rangeSize
   rw [if_pos (by decide)]
   split <;> omega
  have e2 : rawInt (lo + ((0 : Nat) : Int) * 1) = rawInt lo := by simp
  have e3 : rawInt (((hj - lo).toNat : Int) - ((0 : Nat) : Int)) = rawInt (Builtin.Range.rangeSize lo hj 1) := by rw [e1]; simp
  show Heap.get? _ _ = _
  rw [e2, e3]
  exact Heap.get?_push_size _ rfl
end
section
variable {prog : Program} {w : World} {A : Around} {E : Value -> Shared -> Prop} {s : Shared} {G : GM} {P : Params} {env : Env} {st : St} {cw : Bool} {B : Bs}
theorem wL (R : Rep P G env st s) {a : Addr} {o : Obj} (h : G a = some o) : a ≠ env.locals := fun q => by have := R.gl; rw [<- q, h] at this; cases this
theorem Rep.storeLocal (R : Rep P G env st s) {x : Str} {p : PV} {v : Value} {m : Str -> Option Value} {h' : Heap} {k : Nat} (hl : env.kindOf x = some .local) (hv : VRel P G v p)
  (hx : ∀ y q, st.ρ y = some q -> env.kindOf y = some .local -> ∃ u, m y = some u /\ VRel P G u q)
  (hn : h'.Ns env.locals (fun y => if y = x then some v else m y)) (hs : Heap.SameBut env.locals s.heap h') (hk : 1 <= k) :
  Rep P G env ⟨upd st.ρ x p, st.σ⟩ { s with heap := h', toks := k } where
 inh := fun a o e => (hs.2 a (wL R e)).trans (R.inh a o e)
 tk := hk
 ns := ⟨_, hn, fun y q e hy => by
  simp only [upd] at e
  by_cases q1 : y = x
  ·rw [if_pos q1] at e; cases e
   exact ⟨v, by rw [if_pos q1], hv⟩
  ·rw [if_neg q1] at e
   obtain ⟨u, h1, h2⟩ := hx y q e hy
   exact ⟨u, by rw [if_neg q1]; exact h1, h2⟩⟩
 kind := fun y q e => by
  simp only [upd] at e
  by_cases q1 : y = x
  ·subst q1; exact .inl hl
  ·rw [if_neg q1] at e; exact R.kind y q e
 cel := fun y q e hy => by
  simp only [upd] at e
  by_cases q1 : y = x
  ·subst q1; exact absurd hl hy
  ·rw [if_neg q1] at e
   obtain ⟨c, u, h1, h2, h3⟩ := R.cel y q e hy
   exact ⟨c, u, h1, h2.sameBut hs (R.gc y c h1).2, h3⟩
 cell0 := fun y e => by
  obtain ⟨c, u, h1, h2⟩ := R.cell0 y e
  exact ⟨c, u, h1, h2.sameBut hs (R.gc y c h1).2⟩
 gl := R.gl
 gc := R.gc
 cinj := R.cinj
 cells := fun a c e => by
  obtain ⟨h1, h2, h3, h4⟩ := R.cells a c e
  refine ⟨?_, h2, h3, h4⟩
  exact h1.mono (.refl _) fun o ho => (hs.2 a h3).trans ho
theorem Ok.storeLocal (O : Ok B P G env st s) {x : Str} {p : PV} {v : Value} {m : Str -> Option Value} {h' : Heap} {k : Nat} (hl : env.kindOf x = some .local) (hv : VRel P G v p)
  (hx : ∀ y q, st.ρ y = some q -> env.kindOf y = some .local -> ∃ u, m y = some u /\ VRel P G u q) (hm : s.heap.Ns env.locals m)
  (hn : h'.Ns env.locals (fun y => if y = x then some v else m y)) (hs : Heap.SameBut env.locals s.heap h') (hk : 1 <= k) :
  Ok B P G env ⟨upd st.ρ x p, st.σ⟩ { s with heap := h', toks := k } /\ Tr cw env G st s G ⟨upd st.ρ x p, st.σ⟩ { s with heap := h', toks := k } := by
 have al : (h'.get? env.locals).isSome = true := by obtain ⟨o, _, _, h1, _⟩ := hn; rw [h1]; rfl
 refine ⟨⟨O.over, O.rep.storeLocal hl hv hx hn hs hk, O.ct.same hs al⟩, ⟨.refl _, fun _ _ e => .inl e, fun a o e h1 _ _ => (hs.2 a h1).trans e, fun a e => ?_, fun _ e => e, fun _ e => .inl e, rfl, fun e => e⟩⟩
 by_cases q : a = env.locals
 ·subst q; exact al
 ·show (h'.get? a).isSome = true
  rw [hs.2 a q]; exact e
theorem Rep.storeCell (R : Rep P G env st s) {x : Str} {p : PV} {v : Value} {c : Addr} {h' : Heap} {k : Nat} (hl : env.kindOf x = some .cell) (hc : env.cells.lookup x = some c) (hv : VRel P G v p)
  (hn : h'.IsCell c (some v)) (hs : Heap.SameBut c s.heap h') (hk : 1 <= k) :
  Rep P G env ⟨upd st.ρ x p, st.σ⟩ { s with heap := h', toks := k } where
 inh := fun a o e => (hs.2 a fun q => by have := (R.gc x c hc).1; rw [<- q, e] at this; cases this).trans (R.inh a o e)
 tk := hk
 ns := by
  obtain ⟨m, h1, h2⟩ := R.ns
  refine ⟨m, h1.sameBut hs (Ne.symm (R.gc x c hc).2), fun y q e hy => ?_⟩
  simp only [upd] at e
  by_cases q1 : y = x
  ·subst q1; rw [hl] at hy; cases hy
  ·rw [if_neg q1] at e; exact h2 y q e hy
 kind := fun y q e => by
  simp only [upd] at e
  by_cases q1 : y = x
  ·subst q1; exact .inr (.inl hl)
  ·rw [if_neg q1] at e; exact R.kind y q e
 cel := fun y q e hy => by
  simp only [upd] at e
  by_cases q1 : y = x
  ·subst q1; rw [if_pos rfl] at e; cases e
   exact ⟨c, v, hc, hn, hv⟩
  ·rw [if_neg q1] at e
   obtain ⟨d, u, h1, h2, h3⟩ := R.cel y q e hy
   exact ⟨d, u, h1, h2.sameBut hs fun q2 => q1 (R.cinj y x c (q2 ▸ h1) hc), h3⟩
 cell0 := fun y e => by
  by_cases q1 : y = x
  ·subst q1; exact ⟨c, some v, hc, hn⟩
  ·obtain ⟨d, u, h1, h2⟩ := R.cell0 y e
   exact ⟨d, u, h1, h2.sameBut hs fun q2 => q1 (R.cinj y x c (q2 ▸ h1) hc)⟩
 gl := R.gl
 gc := R.gc
 cinj := R.cinj
 cells := fun a d e => by
  obtain ⟨h1, h2, h3, h4⟩ := R.cells a d e
  refine ⟨?_, h2, h3, h4⟩
  exact h1.mono (.refl _) fun o ho => (hs.2 a fun q => h4 x (q ▸ hc)).trans ho
theorem Ok.storeCell (O : Ok B P G env st s) {x : Str} {p : PV} {v : Value} {c : Addr} {h' : Heap} {k : Nat} (hl : env.kindOf x = some .cell) (hc : env.cells.lookup x = some c) (hv : VRel P G v p)
  (hn : h'.IsCell c (some v)) (hs : Heap.SameBut c s.heap h') (hk : 1 <= k) :
  Ok B P G env ⟨upd st.ρ x p, st.σ⟩ { s with heap := h', toks := k } /\ Tr true env G st s G ⟨upd st.ρ x p, st.σ⟩ { s with heap := h', toks := k } := by
 have al : (h'.get? c).isSome = true := by obtain ⟨o, h1, _⟩ := hn; rw [h1]; rfl
 refine ⟨⟨O.over, O.rep.storeCell hl hc hv hn hs hk, O.ct.same hs al⟩, ⟨.refl _, fun _ _ e => .inl e, fun a o e h1 h2 _ => (hs.2 a fun q => h2 rfl x (q ▸ hc)).trans e, fun a e => ?_, fun _ e => e, fun _ e => .inl e, rfl, fun e => e⟩⟩
 by_cases q : a = c
 ·subst q; exact al
 ·show (h'.get? a).isSome = true
  rw [hs.2 a q]; exact e
noncomputable def zcq (cw : Bool) (env : Env) (x : Str) : Prop := env.kindOf x = some .local \/ (cw = true /\ env.kindOf x = some .cell)
theorem lO {x : Str} {p : PV} {v : Value} (hE : EnvOk env) (O : Ok B P G env st s) (hx : zcq cw env x) (hv : VRel P G v p) :
  wpAny (model prog w) A (storeName env x v) (Lands B P cw env G st s (fun _ st' _ => st' = ⟨upd st.ρ x p, st.σ⟩)) E s := by
 have hp : (env.scope.kind == .class || (env.scope.kind == .module && env.locals != env.globals)) = false := by rw [hE.kind]; rfl
 rcases hx with hl | ⟨rfl, hl⟩
 ·obtain ⟨m, h1, h2⟩ := O.rep.ns
  refine wpAny_storeName_local hl h1 (fun h' hn hs => ?_) hp
  obtain ⟨O', T'⟩ := O.storeLocal (cw := cw) (k := s.toks + 1) hl hv h2 h1 hn hs (by omega)
  exact ⟨G, _, rfl, O', T'⟩
 ·obtain ⟨c, u, h1, h2⟩ := O.rep.cell0 x hl
  refine wpAny_storeName_cell hE.kind hl h1 h2 fun h' hn hs => ?_
  obtain ⟨O', T'⟩ := O.storeCell (k := s.toks) hl h1 hv hn hs O.rep.tk
  exact ⟨G, _, rfl, O', T'⟩
theorem fB {e : Expr} {x : Str} (h : nmE e = some x) : ∃ p, e = .Name x p := by
 cases e <;> first | (cases h; done) | (cases h; exact ⟨_, rfl⟩)
theorem uZ {e : Expr} {es : List Expr} (h : zdt e = some es) : ∃ k p, e = .Tuple es k p := by
 cases e <;> first | (cases h; done) | (cases h; exact ⟨_, _, rfl⟩)
theorem nE {vs : List PV} {ρ ρ' : dD} (h : cZ [] vs ρ = some ρ') : vs = [] /\ ρ' = ρ := by
 cases vs with
 | nil => cases h; exact ⟨rfl, rfl⟩
 | cons v vs => cases h
theorem kT {e : Expr} {es : List Expr} {vs : List PV} {ρ ρ' : dD} (h : cZ (e :: es) vs ρ = some ρ') : ∃ x px v us, e = .Name x px /\ vs = v :: us /\ cZ es us (upd ρ x v) = some ρ' := by
 obtain ⟨x, hx, h⟩ := Option.bind_eq_some_iff.mp h
 obtain ⟨px, rfl⟩ := fB hx
 cases vs with
 | nil => cases h
 | cons v us => exact ⟨x, px, v, us, rfl, rfl, h⟩
theorem r7 (hE : EnvOk env) : ∀ (es : List Expr) (ps : List PV) (vs : List Value) (ρ' : dD) (G : GM) (st : St) (s : Shared), Ok B P G env st s -> (∀ x ∈ es.filterMap nmE, zcq cw env x) -> VRels P G vs ps ->
  cZ es ps st.ρ = some ρ' -> wpAny (model prog w) A (assignInOrder ((assignEach es env).map (·.2)) vs) (Lands B P cw env G st s (fun _ st' _ => st' = ⟨ρ', st.σ⟩)) E s
 | [], ps, vs, ρ', G, st, s, O, hx, hr, h => by
  obtain ⟨rfl, rfl⟩ := nE h
  cases hr
  exact wpAny_pure (aG O rfl)
 | e :: es, ps, vs, ρ', G, st, s, O, hx, hr, h => by
  obtain ⟨x, px, p, ps, rfl, rfl, h⟩ := kT h
  obtain ⟨v, us, rfl, h1, h2⟩ := hr
  show wpAny _ _ (do holding us (assign (.Name x px) env v); assignInOrder ((assignEach es env).map (·.2)) us) _ _ _
  refine wpAny_bind (wpAny_holding (wpAny_assign_Name (aE (lO (p := p) hE O (hx x List.mem_cons_self) h1) fun _ G1 st1 s1 e1 O1 T1 => ?_)))
  subst e1
  exact aO T1 (r7 hE es ps us ρ' G1 _ s1 O1 (fun y hy => hx y (List.mem_cons_of_mem _ hy)) (h2.mono T1.ext) h)
theorem fT (env : Env) : ∀ (es : List Expr) (ps : List PV) (ρ ρ' : dD), cZ es ps ρ = some ρ' -> (assignEach es env).length = ps.length /\ (assignEach es env).findIdx? (·.1) = none
 | [], ps, _, _, h => by obtain ⟨rfl, _⟩ := nE h; exact ⟨rfl, rfl⟩
 | e :: es, ps, ρ, ρ', h => by
  obtain ⟨x, px, v, us, rfl, rfl, h⟩ := kT h
  obtain ⟨h1, h2⟩ := fT env es us _ _ h
  refine ⟨congrArg Nat.succ h1, ?_⟩
  show ((false, assign (.Name x px) env) :: assignEach es env).findIdx? (·.1) = none
  rw [List.findIdx?_cons, h2]; rfl
theorem j4 (hh : A.handled = none) (hE : EnvOk env) {t : Expr} {p : PV} {v : Value} {ρ' : dD} (O : Ok B P G env st s) (hx : ∀ x ∈ bU t, zcq cw env x) (hv : VRel P G v p) (h : gS t p st.ρ = some ρ') :
  wpAny (model prog w) A (assign t env v) (Lands B P cw env G st s (fun _ st' _ => st' = ⟨ρ', st.σ⟩)) E s := by
 unfold gS at h
 unfold bU at hx
 cases hn : nmE t with
 | some x =>
  rw [hn] at h hx
  obtain ⟨px, rfl⟩ := fB hn
  cases h
  exact wpAny_assign_Name (lO hE O (hx x List.mem_cons_self) hv)
 | none =>
  rw [hn] at h hx
  obtain ⟨es, he, hb⟩ := Option.bind_eq_some_iff.mp h
  clear h
  obtain ⟨k, ppos, rfl⟩ := uZ he
  cases p <;> first | (cases hb; done) | skip
  rename_i ps
  have h : cZ es ps st.ρ = some ρ' := hb
  clear hb
  simp only [VRel] at hv
  obtain ⟨a, ⟨c, d, dt, sl⟩, vs, m, rfl, h1, h2, h3, h4, h5⟩ := hv
  simp only at h2 h3; subst h2 h3
  obtain ⟨l1, l2⟩ := fT env es ps _ _ h
  have l3 := h5.length
  rw [Array.length_toList] at l3
  refine wpAny_assign_Tuple hh ⟨_, O.rep.inh _ _ h1, rfl, m, rfl⟩ (by rw [l1, l3]) l2 fun h' hx' => ?_
  have g : GS G s G { s with heap := h' } := GS.heap O.rep.inh s.toks fun a o e => hx' a o (fun q => by rw [q, cY] at e; cases e) e
  exact aO g.tr (r7 hE es ps vs.toList ρ' G st _ (O.grow g O.rep.tk) hx h5 h)
end
structure Fr (G : GM) (σ : Nat -> Option Cell) (s : Shared) (G' : GM) (σ' : Nat -> Option Cell) (s' : Shared) : Prop where
 ext : Sub G G'
 new : ∀ a o, G' a = some o -> G a = some o \/ s.heap.get? a = none
 keep : ∀ a o, s.heap.get? a = some o -> σ a = none -> s'.heap.get? a = some o
 alive : ∀ a, (s.heap.get? a).isSome = true -> (s'.heap.get? a).isSome = true
 dom : ∀ a, (σ a).isSome = true -> (σ' a).isSome = true
 fresh : ∀ a, (σ' a).isSome = true -> (σ a).isSome = true \/ s.heap.get? a = none
 os : s'.os = s.os
 gens : AllBare s.gens -> AllBare s'.gens
section
variable {P : Params} {G G' G'' : GM} {env cenv : Env} {st st' st'' : St} {s s' s'' : Shared} {cw : Bool} {σ σ' σ'' : Nat -> Option Cell} {B : Bs}
theorem Fr.refl : Fr G σ s G σ s := ⟨.refl _, fun _ _ e => .inl e, fun _ _ e _ => e, fun _ e => e, fun _ e => e, fun _ e => .inl e, rfl, fun e => e⟩
theorem Fr.tr {ρ ρ' : dD} (F : Fr G σ s G' σ' s') : Tr cw env G ⟨ρ, σ⟩ s G' ⟨ρ', σ'⟩ s' := ⟨F.ext, F.new, fun a o e _ _ h => F.keep a o e h, F.alive, F.dom, F.fresh, F.os, F.gens⟩
theorem dU {a : Addr} (k : (s.heap.get? a).isSome = true -> (s'.heap.get? a).isSome = true) (h : s'.heap.get? a = none) : s.heap.get? a = none := by
 cases e : s.heap.get? a with
 | none => rfl
 | some o => have := k (by rw [e]; rfl); rw [h] at this; cases this
theorem Fr.then (F : Fr G σ s G' σ' s') {ρ' ρ'' : dD} (T : Tr false cenv G' ⟨ρ', σ'⟩ s' G'' ⟨ρ'', σ''⟩ s'') (hl : s.heap.get? cenv.locals = none) : Fr G σ s G'' σ'' s'' where
 ext := F.ext.trans T.ext
 new := fun a o e => by
  rcases T.new a o e with q | q
  ·exact F.new a o q
  ·exact .inr (dU (F.alive a) q)
 keep := fun a o e h => T.keep a o (F.keep a o e h) (fun q => by rw [q, hl] at e; cases e) (fun q => by cases q) (by
  cases q : σ' a with
  | none => exact q
  | some c =>
   rcases F.fresh a (by rw [q]; rfl) with r | r
   ·rw [h] at r; cases r
   ·rw [e] at r; cases r)
 alive := fun a e => T.alive a (F.alive a e)
 dom := fun a e => T.dom a (F.dom a e)
 fresh := fun a e => by
  rcases T.fresh a e with q | q
  ·exact F.fresh a q
  ·exact .inr (dU (F.alive a) q)
 os := T.os.trans F.os
 gens := fun e => T.gens (F.gens e)
theorem Fr.at1 (F : Fr G σ s G' σ' s') {I : Addr} (hI : s.heap.get? I = none) {h' : Heap} {k : Nat} (hk : ∀ b o, b ≠ I -> s'.heap.get? b = some o -> h'.get? b = some o) : Fr G σ s G' σ' { s' with heap := h', toks := k } where
 ext := F.ext
 new := F.new
 keep := fun a o e h => hk a o (fun q => by rw [q, hI] at e; cases e) (F.keep a o e h)
 alive := fun a e => by
  obtain ⟨o, ho⟩ := Option.isSome_iff_exists.mp (F.alive a e)
  show (h'.get? a).isSome = true
  rw [hk a o (fun q => by rw [q, hI] at e; cases e) ho]; rfl
 dom := F.dom
 fresh := F.fresh
 os := F.os
 gens := F.gens
theorem Fr.gs (F : Fr G σ s G' σ' s') (g : GS G' s' G'' s'') : Fr G σ s G'' σ' s'' where
 ext := F.ext.trans g.ext
 new := fun a o e => by
  rcases g.new a o e with q | q
  ·exact F.new a o q
  ·exact .inr (dU (F.alive a) q)
 keep := fun a o e h => g.keep a o (F.keep a o e h)
 alive := fun a e => by
  obtain ⟨o, ho⟩ := Option.isSome_iff_exists.mp (F.alive a e)
  rw [g.keep a o ho]; rfl
 dom := F.dom
 fresh := F.fresh
 os := g.os.trans F.os
 gens := fun e => g.gens (F.gens e)
theorem Ok.back {ρ : dD} {env' : Env} {ρ' : dD} (O : Ok B P G env ⟨ρ, σ⟩ s) (F : Fr G σ s G' σ' s') (O' : Ok B P G' env' ⟨ρ', σ'⟩ s') : Ok B P G' env ⟨ρ, σ'⟩ s' := by
 have R := O.rep
 have hσ : ∀ a, G a = none -> a ≠ env.locals -> True := fun _ _ _ => trivial
 obtain ⟨m, hn, hx⟩ := R.ns
 have σl : σ env.locals = none := by
  cases e : σ env.locals with
  | none => rfl
  | some c => exact absurd rfl (R.cells _ c e).2.2.1
 have σc : ∀ x c, env.cells.lookup x = some c -> σ c = none := by
  intro x c e
  cases q : σ c with
  | none => rfl
  | some d => exact absurd e ((R.cells _ d q).2.2.2 x)
 have hl : ∃ o, s.heap.get? env.locals = some o := by obtain ⟨o, _, _, h1, _⟩ := hn; exact ⟨o, h1⟩
 refine ⟨O'.over, ⟨O'.rep.inh, O'.rep.tk, ⟨m, hn.at' fun o e => F.keep _ o e σl, fun x p e hk => let ⟨v, h1, h2⟩ := hx x p e hk; ⟨v, h1, h2.mono F.ext⟩⟩, R.kind, ?_, ?_, ?_, ?_, R.cinj, ?_⟩, ?_⟩
 ·intro x p e hk
  obtain ⟨c, v, h1, h2, h3⟩ := R.cel x p e hk
  exact ⟨c, v, h1, bI h2 fun o e => F.keep c o e (σc x c h1), h3.mono F.ext⟩
 ·intro x e
  obtain ⟨c, v, h1, h2⟩ := R.cell0 x e
  exact ⟨c, v, h1, bI h2 fun o e => F.keep c o e (σc x c h1)⟩
 ·cases e : G' env.locals with
  | none => rfl
  | some o =>
   obtain ⟨o', ho⟩ := hl
   rcases F.new _ o e with q | q
   ·rw [R.gl] at q; cases q
   ·rw [ho] at q; cases q
 ·intro x c e
  refine ⟨?_, (R.gc x c e).2⟩
  cases q : G' c with
  | none => rfl
  | some o =>
   obtain ⟨o', ho⟩ := O.ct x c e
   rcases F.new _ o q with q1 | q1
   ·rw [(R.gc x c e).1] at q1; cases q1
   ·rw [ho] at q1; cases q1
 ·intro a c e
  obtain ⟨h1, h2, _⟩ := O'.rep.cells a c e
  refine ⟨h1, h2, ?_⟩
  rcases F.fresh a (by dsimp only at e; rw [e]; rfl) with q | q
  ·obtain ⟨d, hd⟩ := Option.isSome_iff_exists.mp q
   exact (R.cells a d hd).2.2
  ·refine ⟨fun q1 => ?_, fun x q1 => ?_⟩
   ·obtain ⟨o', ho⟩ := hl; rw [q1, ho] at q; cases q
   ·obtain ⟨o', ho⟩ := O.ct x a q1; rw [ho] at q; cases q
 ·intro x c e
  obtain ⟨o, ho⟩ := O.ct x c e
  exact ⟨o, F.keep c o ho (σc x c e)⟩
theorem Ok.at1 {ρ : dD} (O : Ok B P G env ⟨ρ, σ⟩ s) {I : Addr} (h1 : G I = none) (h2 : σ I = none) (h3 : I ≠ env.locals) (h4 : ∀ x, env.cells.lookup x ≠ some I) {h' : Heap} {k : Nat} (hk : 1 <= k)
  (kp : ∀ b o, b ≠ I -> s.heap.get? b = some o -> h'.get? b = some o) : Ok B P G env ⟨ρ, σ⟩ { s with heap := h', toks := k } := by
 have R := O.rep
 obtain ⟨m, hn, hx⟩ := R.ns
 refine ⟨O.over, ⟨fun a o e => kp a o (fun q => by rw [q, h1] at e; cases e) (R.inh a o e), hk, ⟨m, hn.at' fun o e => kp _ o (Ne.symm h3) e, hx⟩, R.kind, ?_, ?_, R.gl, R.gc, R.cinj, ?_⟩, ?_⟩
 ·intro x p e hk
  obtain ⟨c, v, g1, g2, g3⟩ := R.cel x p e hk
  exact ⟨c, v, g1, bI g2 fun o e => kp c o (fun q => h4 x (q ▸ g1)) e, g3⟩
 ·intro x e
  obtain ⟨c, v, g1, g2⟩ := R.cell0 x e
  exact ⟨c, v, g1, bI g2 fun o e => kp c o (fun q => h4 x (q ▸ g1)) e⟩
 ·intro a c e
  obtain ⟨g1, g2, g3⟩ := R.cells a c e
  exact ⟨g1.mono (.refl _) fun o ho => kp a o (fun q => by rw [q] at e; dsimp only at e; rw [h2] at e; cases e) ho, g2, g3⟩
 ·intro x c e
  obtain ⟨o, ho⟩ := O.ct x c e
  exact ⟨o, kp c o (fun q => h4 x (q ▸ e)) ho⟩
theorem Ok.again {ρ₀ ρa ρb : dD} (hρ : ∀ x p, ρ₀ x = some p -> env.kindOf x ≠ some .local) (O : Ok B P G env ⟨ρ₀, σ⟩ s) (T : Tr false env G ⟨ρa, σ⟩ s G' ⟨ρb, σ'⟩ s') (O' : Ok B P G' env ⟨ρb, σ'⟩ s') : Ok B P G' env ⟨ρ₀, σ'⟩ s' := by
 have R := O.rep
 obtain ⟨m, hn, _⟩ := O'.rep.ns
 refine ⟨O'.over, ⟨O'.rep.inh, O'.rep.tk, ⟨m, hn, fun x p e hk => absurd hk (hρ x p e)⟩, R.kind, ?_, O'.rep.cell0, O'.rep.gl, O'.rep.gc, R.cinj, O'.rep.cells⟩, O'.ct⟩
 intro x p e hk
 obtain ⟨c, v, h1, h2, h3⟩ := R.cel x p e hk
 refine ⟨c, v, h1, bI h2 fun o e => T.keep c o e (R.gc x c h1).2 (fun q => by cases q) ?_, h3.mono T.ext⟩
 cases q : σ c with
 | none => exact q
 | some d => exact absurd h1 ((R.cells _ d q).2.2.2 x)
end
noncomputable def gQ (names : List (Str × NameKind)) : List Str := ((names.filter fun n => n.2 == .free).map (·.1)).reverse
noncomputable def gP (env : Env) (names : List (Str × NameKind)) : List (Str × Addr) := (gQ names).map fun x => (x, (env.cells.lookup x).getD 0)
theorem zbl (env : Env) : ∀ (names : List (Str × NameKind)) (acc : List (Str × Addr)), (∀ n ∈ names, n.2 = .free -> ∃ c, env.cells.lookup n.1 = some c) ->
  (forIn names acc fun (x : Str × NameKind) (r : List (Str × Addr)) => (if (x.2 == NameKind.free) = true then (do let c <- cellOf env x.1; pure (ForInStep.yield ((x.1, c) :: r))) else pure (ForInStep.yield r) : Sem (ForInStep (List (Str × Addr))))) =
   pure (gP env names ++ acc)
 | [], acc, _ => rfl
 | (n, k) :: r, acc, h => by
  rw [List.forIn_cons]
  have ih := fun a => zbl env r a fun x hx => h x (List.mem_cons_of_mem _ hx)
  by_cases hk : k = .free
  ·subst hk
   obtain ⟨c, hc⟩ := h (n, .free) (by simp) rfl
   have e1 : cellOf env n = pure c := by unfold cellOf; dsimp only at hc; rw [hc]
   simp only [beq_self_eq_true, if_true, e1, pure_bind]
   rw [ih]
   simp only [gP, gQ, List.filter_cons, beq_self_eq_true, if_true, List.map_cons, List.reverse_cons, List.map_append, List.map_nil, List.append_assoc, List.singleton_append]
   dsimp only at hc
   rw [hc]; rfl
  ·have hb : (k == NameKind.free) = false := by simpa using hk
   simp only [hb, Bool.false_eq_true, if_false, pure_bind]
   rw [ih]
   simp only [gP, gQ, List.filter_cons, hb, Bool.false_eq_true, if_false]
theorem lD {scope : Scope} {env : Env} (h : ∀ n ∈ scope.names, n.2 = .free -> ∃ c, env.cells.lookup n.1 = some c) : closureFor scope env = pure (gP env scope.names) := by
 have := zbl env scope.names [] h
 rw [List.append_nil] at this
 show (forIn scope.names [] (fun (x : Str × NameKind) (r : List (Str × Addr)) => (if (x.2 == NameKind.free) = true then (do let c <- cellOf env x.1; pure (ForInStep.yield ((x.1, c) :: r))) else pure (ForInStep.yield r) : Sem (ForInStep (List (Str × Addr))))) >>= fun cs => pure cs) = _
 rw [this]
 rfl
theorem jG {α : Type} (f : Str -> α) : ∀ (l : List Str) (x : Str), List.lookup x (l.map fun a => (a, f a)) = if x ∈ l then some (f x) else none
 | [], x => rfl
 | a :: l, x => by
  rw [List.map_cons, List.lookup_cons]
  by_cases h : x = a
  ·subst h; simp
  ·have hb : (x == a) = false := by simpa using h
   rw [hb, jG f l x]
   simp [h]
theorem lE (env : Env) (names : List (Str × NameKind)) (x : Str) : List.lookup x (gP env names) = if (x, NameKind.free) ∈ names then some ((env.cells.lookup x).getD 0) else none := by
 unfold gP
 rw [jG]
 have : x ∈ gQ names ↔ (x, NameKind.free) ∈ names := by
  unfold gQ
  simp only [List.mem_reverse, List.mem_map, List.mem_filter, beq_iff_eq]
  constructor
  ·rintro ⟨⟨a, k⟩, ⟨h1, h2⟩, h3⟩; dsimp only at h2 h3; subst h2 h3; exact h1
  ·intro h; exact ⟨_, ⟨h, rfl⟩, rfl⟩
 by_cases h : (x, NameKind.free) ∈ names
 ·rw [if_pos (this.mpr h), if_pos h]
 ·rw [if_neg (fun q => h (this.mp q)), if_neg h]
theorem mem_of_lookup {α : Type} : ∀ {l : List (Str × α)} {x : Str} {a : α}, List.lookup x l = some a -> (x, a) ∈ l
 | [], _, _, h => by simp at h
 | (n, k) :: r, x, a, h => by
  rw [List.lookup_cons] at h
  cases hx : x == n with
  | true => rw [hx] at h; cases h; have := beq_iff_eq.mp hx; subst this; simp
  | false => rw [hx] at h; exact List.mem_cons_of_mem _ (mem_of_lookup h)
theorem fQ {env : Env} (hk : env.scope.kind = .function) : ∀ {names : List (Str × NameKind)}, (∀ n ∈ names, n.2 = .free -> env.kindOf n.1 = some .cell) -> ∀ x,
  (names.map fun (n, k) => if (k == NameKind.free && env.scope.kind == .function && env.kindOf n == some .cell) then (n, NameKind.cell) else (n, k)).lookup x = if names.lookup x = some .free then some .cell else names.lookup x
 | [], _, x => rfl
 | (n, k) :: r, h, x => by
  have ih := fQ hk (names := r) (fun n hn => h n (List.mem_cons_of_mem _ hn)) x
  rw [List.map_cons]
  by_cases hf : k = .free
  ·subst hf
   have e := h (n, .free) (by simp) rfl
   dsimp only at e ⊢
   have e2 : (NameKind.free == NameKind.free && env.scope.kind == .function && env.kindOf n == some .cell) = true := by rw [hk, e]; rfl
   rw [if_pos e2, List.lookup_cons, List.lookup_cons]
   cases hx : x == n with
   | true => rfl
   | false => exact ih
  ·have hb : (k == NameKind.free) = false := by simpa using hf
   have e2 : (k == NameKind.free && env.scope.kind == .function && env.kindOf n == some .cell) = false := by rw [hb]; rfl
   dsimp only
   rw [if_neg (by rw [e2]; decide), List.lookup_cons, List.lookup_cons]
   cases hx : x == n with
   | true => dsimp only; rw [if_neg (by simpa using hf)]
   | false => exact ih
section
variable {P : Params} {G : GM} {env : Env} {s : Shared} {σ : Nat -> Option Cell} {B : Bs} {κ : Kn} {sc : Scope}
theorem gW (hκ : KOk κ env) (h : cO κ sc = true) : ∀ n ∈ sc.names, n.2 = .free -> env.kindOf n.1 = some .cell := by
 intro n hn e
 unfold cO at h
 simp only [Bool.and_eq_true, List.all_eq_true] at h
 have := h.2 n hn
 rw [e] at this
 simp only [Bool.or_eq_true, beq_iff_eq] at this
 exact hκ.cell this
theorem v2 (h : cO κ sc = true) : ∀ n ∈ sc.names, n.2 ≠ .cell := by
 intro n hn e
 unfold cO at h
 simp only [Bool.and_eq_true, List.all_eq_true] at h
 have := h.2 n hn
 rw [e] at this; cases this
theorem qK (h : cO κ sc = true) : ∀ n ∈ sc.names, n.2 = .local -> sc.names.lookup n.1 = some .local := by
 intro n hn e
 unfold cO at h
 simp only [Bool.and_eq_true, List.all_eq_true] at h
 have := h.2 n hn
 rw [e] at this
 simpa using this
theorem lT (h : cO κ sc = true) : sc.kind = .function := by
 unfold cO at h
 simp only [Bool.and_eq_true, beq_iff_eq] at h
 exact h.1
theorem gL (hE : EnvOk env) (hκ : KOk κ env) (h : cO κ sc = true) (cl : List (Str × Addr)) (L : Addr) : KOk (bV sc.names) (compEnvC sc cl L env) := fun x => fQ hE.kind (gW hκ h) x
theorem uA (hE : EnvOk env) (h : cO κ sc = true) (cl : List (Str × Addr)) (L : Addr) : EnvOk (compEnvC sc cl L env) := ⟨(by show sc.kind = _; exact lT h), hE.glob, hE.bi⟩
theorem jY {ρ : dD} (O : Ok B P G env ⟨ρ, σ⟩ s) (hκ : KOk κ env) (h : cO κ sc = true) {x : Str} {c : Addr} (e : List.lookup x (gP env sc.names) = some c) : env.cells.lookup x = some c /\ (x, NameKind.free) ∈ sc.names := by
 rw [lE] at e
 split at e
 ·rename_i hm
  obtain ⟨d, v, h1, h2⟩ := O.rep.cell0 x (gW hκ h _ hm rfl)
  cases e
  rw [h1]; exact ⟨rfl, hm⟩
 ·cases e
theorem zaM {ρ : dD} (O : Ok B P G env ⟨ρ, σ⟩ s) (hE : EnvOk env) (hκ : KOk κ env) (h : cO κ sc = true) {L : Addr} {m : Str -> Option Value} (g1 : G L = none) (g2 : σ L = none) (g3 : ∀ x, env.cells.lookup x ≠ some L) (g4 : s.heap.Ns L m) :
  Ok B P G (compEnvC sc (gP env sc.names) L env) ⟨eZ sc.names ρ, σ⟩ s := by
 have R := O.rep
 have hk := gL hE hκ h (gP env sc.names) L
 have fr : ∀ x p, eZ sc.names ρ x = some p -> sc.names.lookup x = some .free /\ ρ x = some p := by
  intro x p e
  unfold eZ at e
  split at e
  ·rename_i q; exact ⟨q, e⟩
  ·cases e
 have kd : ∀ x p, eZ sc.names ρ x = some p -> (compEnvC sc (gP env sc.names) L env).kindOf x = some .cell := fun x p e => hk.cell (.inr (fr x p e).1)
 have cx : ∀ x, sc.names.lookup x = some .free -> ∀ c, env.cells.lookup x = some c -> List.lookup x (gP env sc.names) = some c := by
  intro x e c hc
  rw [lE, if_pos (mem_of_lookup e), hc]; rfl
 refine ⟨O.over, ⟨R.inh, R.tk, ⟨m, g4, fun x p e q => ?_⟩, fun x p e => .inr (.inl (kd x p e)), fun x p e _ => ?_, fun x e => ?_, g1, fun x c e => ?_, fun x y c e1 e2 => ?_, fun a c e => ?_⟩, fun x c e => ?_⟩
 ·rw [kd x p e] at q; cases q
 ·obtain ⟨q1, q2⟩ := fr x p e
  have q3 := gW hκ h _ (mem_of_lookup q1) rfl
  obtain ⟨c, v, h1, h2, h3⟩ := R.cel x p q2 (by dsimp only at q3; rw [q3]; decide)
  exact ⟨c, v, cx x q1 c h1, h2, h3⟩
 ·have q1 : sc.names.lookup x = some .free := by
   have := hk x
   rw [e] at this
   split at this
   ·rename_i q; exact q
   ·exact absurd rfl (v2 h _ (mem_of_lookup this.symm))
  obtain ⟨c, v, h1, h2⟩ := R.cell0 x (gW hκ h _ (mem_of_lookup q1) rfl)
  exact ⟨c, v, cx x q1 c h1, h2⟩
 ·have := (jY O hκ h e).1
  exact ⟨(R.gc x c this).1, fun q => g3 x (by rw [<- show c = L from q]; exact this)⟩
 ·exact R.cinj x y c (jY O hκ h e1).1 (jY O hκ h e2).1
 ·obtain ⟨h1, h2, h3, h4⟩ := R.cells a c e
  exact ⟨h1, h2, fun q => (by rw [show a = L from q] at e; dsimp only at e; rw [g2] at e; cases e), fun x q => h4 x (jY O hκ h q).1⟩
 ·exact O.ct x c (jY O hκ h e).1
end
section
variable {prog : Program} {w : World} {B : Bs} {C : Ctx} {n : Nat}
theorem nN {A : Around} {E : Value -> Shared -> Prop} {env : Env} {s : Shared} {Q : Bool -> Shared -> Prop} : ∀ (ifs : List Expr), Q false s ->
  wpAny (model prog w) A (forIn ifs false fun c r => if r = true then do let ok <- isTrue c env (PySem.eval c env); pure (ForInStep.yield ok) else pure (ForInStep.yield r)) Q E s
 | [], h => wpAny_pure h
 | c :: ifs, h => by
  rw [List.forIn_cons]
  simp only [Bool.false_eq_true, if_false, pure_bind]
  exact nN ifs h
theorem vQ : ∀ (ifs : List Expr), (∀ e ∈ ifs, kJ prog w B C n e) ->
  ∀ (A : Around) (E : Value -> Shared -> Prop) (cw : Bool) (env : Env) (κ : Kn) (G : GM) (st : St) (s : Shared) (K : Bool -> St -> Prop), Room n A -> EnvOk env -> KOk κ env -> Ok B w.params G env st s ->
   wIf C ifs κ K st -> wpAny (model prog w) A (forIn ifs true fun c r => if r = true then do let ok <- isTrue c env (PySem.eval c env); pure (ForInStep.yield ok) else pure (ForInStep.yield r)) (Lands B w.params cw env G st s (BX K)) E s
 | [], _ => by
  intro A E cw env κ G st s K hA hE hκ O hw
  exact wpAny_pure (aG O hw)
 | e :: es, h => by
  intro A E cw env κ G st s K hA hE hκ O hw
  rw [List.forIn_cons]
  simp only [if_true]
  refine wpAny_bind (wpAny_bind (aE (h e (by simp) A E cw env κ G st s (fun b st1 => if b = true then wIf C es κ K st1 else K false st1) hA hE hκ O hw) fun b G1 st1 s1 hq O1 T1 => wpAny_pure ?_))
  dsimp only [BX] at hq
  cases b with
  | true => exact aO T1 (vQ es (fun x hx => h x (List.mem_cons_of_mem _ hx)) A E cw env κ G1 st1 s1 K hA hE hκ O1 hq)
  | false => exact nN es ((aG (X := BX K) O1 hq).after T1)
theorem uB {A : Around} {R : Result -> Shared -> Prop} {s : Shared} {elt target iter : Expr} {ifs : List Expr} {scope : Scope} {pos : Pos} {it acc : Value} {env : Env} (I : Nat -> Shared -> Prop)
  (turn : ∀ n s, I n s -> wpAny (model prog w) A (pyNext it) (fun r s₁ => match r with
   | none => R (.ok .next) s₁
   | some v => wpAny (model prog w) A (letOwnedTupleGo target it v) (fun _ s₁' => wpAny (model prog w) A (assign target env v) (fun _ s₂ =>
     wpAny (model prog w) A (forIn ifs true fun c r => if r = true then do let ok <- isTrue c env (PySem.eval c env); pure (ForInStep.yield ok) else pure (ForInStep.yield r)) (fun ok s₃ =>
      if ok = true then wpAny (model prog w) A (PySem.eval elt env) (fun x s₄ =>
       wpAny (model prog w) A (call (.builtin "list.append") [acc, x]) (fun _ s₅ => ∃ m, m < n /\ I m s₅) (notedBy (model prog w) A env fun e s' => R (.error e) s') s₄) (notedBy (model prog w) A env fun e s' => R (.error e) s') s₃
      else ∃ m, m < n /\ I m s₃) (notedBy (model prog w) A env fun e s' => R (.error e) s') s₂) (notedBy (model prog w) A env fun e s' => R (.error e) s') s₁') (notedBy (model prog w) A env fun e s' => R (.error e) s') s₁) (notedBy (model prog w) A env fun e s' => R (.error e) s') s)
  (n : Nat) (h : I n s) : codeAny (model prog w) A (.compLoop (.ListComp elt [⟨target, iter, ifs, 0⟩] scope pos) 0 it acc env) R s := by
 refine codeAny_loop rfl I (fun n s hI => ?_) n h
 show wpAny _ A ((compTurn (.ListComp elt [⟨target, iter, ifs, 0⟩] scope pos) 0 it acc env).onRaise (fun x => do noteFrame x env; theTreesLotGoes x)) _ _ s
 refine wpAny_noted ?_
 rw [compTurn_list]
 refine wpAny_bind (wpAny_standAt (wpAny_bind (wpAny_mono (turn n s hI) (fun r s₁ h₁ => ?_) fun _ _ h' => h')))
 cases r with
 | none => exact wpAny_pure h₁
 | some v =>
  refine wpAny_bind (wpAny_mono h₁ (fun _ s₁' h₁' => ?_) fun _ _ h' => h')
  refine wpAny_bind (wpAny_mono h₁' (fun _ s₂ h₂ => wpAny_bind (wpAny_mono h₂ (fun ok s₃ h₃ => ?_) fun _ _ h' => h')) fun _ _ h' => h')
  cases ok with
  | false => exact wpAny_pure ⟨rfl, h₃⟩
  | true => exact wpAny_bind (wpAny_bind (wpAny_mono h₃ (fun x s₄ h₄ => wpAny_bind (wpAny_mono h₄ (fun _ s₅ h₅ => wpAny_pure (wpAny_pure ⟨rfl, h₅⟩)) fun _ _ h' => h')) fun _ _ h' => h'))
theorem fU {cenv : Env} {G G' : GM} {st st' : St} {s s' : Shared} {cw : Bool} (T : Tr cw cenv G st s G' st' s') {a : Addr} {o : Obj} (h : s.heap.get? a = some o) (g : G a = none) : G' a = none := by
 cases e : G' a with
 | none => rfl
 | some o' =>
  rcases T.new a o' e with q | q
  ·rw [g] at q; cases q
  ·rw [h] at q; cases q
theorem dB {cenv : Env} {G G' : GM} {st st' : St} {s s' : Shared} {cw : Bool} (T : Tr cw cenv G st s G' st' s') {a : Addr} {o : Obj} (h : s.heap.get? a = some o) (g : st.σ a = none) : st'.σ a = none := by
 cases e : st'.σ a with
 | none => rfl
 | some c =>
  rcases T.fresh a (by rw [e]; rfl) with q | q
  ·rw [g] at q; cases q
  ·rw [h] at q; cases q
theorem yH {A : Around} {elt tgt iter : Expr} {ifs : List Expr} {sc : Scope} {pos : Pos} {cenv : Env} {I D : Addr} {items : List PV} {Ws : Nat -> Heap -> Prop} {G₀ : GM} {σ₀ : Nat -> Option Cell} {s₀ s : Shared} {ρ₀ : dD} {R : Result -> Shared -> Prop}
  {Qc : List PV -> (Nat -> Option Cell) -> Prop}
  (he : bZ prog w B C n elt) (hifs : ∀ e ∈ ifs, kJ prog w B C n e) (hA : Room n A) (hE : EnvOk cenv) (hκ : KOk (bV sc.names) cenv) (hT : Itr prog w A w.params I G₀ items Ws) (hz : items.length <= a0)
  (hnames : ∀ x ∈ bU tgt, cenv.kindOf x = some .local) (hρ : ∀ x p, ρ₀ x = some p -> cenv.kindOf x ≠ some .local)
  (d1 : D ≠ I) (d2 : D ≠ cenv.locals) (d3 : ∀ x, cenv.cells.lookup x ≠ some D) (i2 : I ≠ cenv.locals) (i3 : ∀ x, cenv.cells.lookup x ≠ some I)
  (b1 : s₀.heap.get? D = none) (b2 : s₀.heap.get? I = none) (b3 : s₀.heap.get? cenv.locals = none)
  (hR : ∀ (G' : GM) (σ' : Nat -> Option Cell) (s' : Shared) (acc : List PV) (ys : Array Value), Qc acc σ' -> Ok B w.params G' cenv ⟨ρ₀, σ'⟩ s' -> s'.heap.PlainList D ys -> VRels w.params G' ys.toList acc -> Fr G₀ σ₀ s₀ G' σ' s' -> G' D = none -> σ' D = none ->
   acc.length <= items.length -> R (.ok .next) s')
  (O : Ok B w.params G₀ cenv ⟨ρ₀, σ₀⟩ s) (hws : Ws 0 s.heap) (hD : s.heap.PlainList D #[]) (F : Fr G₀ σ₀ s₀ G₀ σ₀ s) (g1 : G₀ D = none) (g2 : σ₀ D = none) (g3 : G₀ I = none) (g4 : σ₀ I = none)
  (hc : bY (fun K s' => wIf C ifs (bV sc.names) K s') (fun K s' => wE C elt (bV sc.names) K s') tgt ρ₀ Qc items [] σ₀) :
  codeAny (model prog w) A (.compLoop (.ListComp elt [⟨tgt, iter, ifs, 0⟩] sc pos) 0 (.ref I) (.ref D) cenv) R s := by
 refine uB (fun k s' => ∃ done rest acc ys Gj σj, items = done ++ rest /\ k = rest.length + 1 /\ Ws done.length s'.heap /\ Ok B w.params Gj cenv ⟨ρ₀, σj⟩ s' /\ s'.heap.PlainList D ys /\ VRels w.params Gj ys.toList acc /\
  acc.length <= done.length /\ bY (fun K s' => wIf C ifs (bV sc.names) K s') (fun K s' => wE C elt (bV sc.names) K s') tgt ρ₀ Qc rest acc σj /\ Fr G₀ σ₀ s₀ Gj σj s' /\ Gj D = none /\ σj D = none /\ Gj I = none /\ σj I = none) ?_
  (items.length + 1) ⟨[], items, [], #[], G₀, σ₀, rfl, rfl, hws, O, hD, .nil, Nat.le_refl _, hc, F, g1, g2, g3, g4⟩
 clear hc F O hws hD g1 g2 g3 g4 s
 rintro k s ⟨done, rest, acc, ys, Gj, σj, hit, rfl, hws, O, hD, hys, hal, hc, F, g1, g2, g3, g4⟩
 cases rest with
 | nil =>
  rw [List.append_nil] at hit
  subst hit
  refine wpAny_with_toks (n := 1) O.rep.tk (hT.done s _ _ hws fun h' tk hk htk => ?_)
  exact hR Gj σj _ acc ys hc (O.at1 g3 g4 i2 i3 htk hk) (hD.at fun o e => hk D o d1 e) hys (F.at1 b2 hk) g1 g2 hal
 | cons v rest =>
  obtain ⟨ρ1, hb, hc⟩ := bJ hc
  refine wpAny_with_toks (n := 1) O.rep.tk (hT.item done.length v s _ _ (by rw [hit]; simp) hws fun val h1 tk hval hws1 hk1 hgo htk => ?_)
  have O1 := O.at1 g3 g4 i2 i3 htk hk1
  have F1 := F.at1 (k := tk) b2 hk1
  have D1 : h1.PlainList D ys := hD.at fun o e => hk1 D o d1 e
  obtain ⟨oI, aI⟩ := hT.alive _ _ hws1
  obtain ⟨nD, aD⟩ := D1
  refine hgo _ _ _ ?_
  refine aE (j4 (cw := false) hA.handled hE O1 (fun x hx => .inl (hnames x hx)) (hval.mono F.ext) hb) fun _ G2 st2 s2 e2 O2 T2 => ?_
  subst e2
  refine aE (vQ ifs hifs A _ false cenv (bV sc.names) G2 _ s2 _ hA hE hκ O2 hc) fun ok G3 st3 s3 hq O3 T3 => ?_
  have T13 := T2.trans T3
  cases ok with
  | false =>
   obtain ⟨ρ3, σ3⟩ := st3
   simp only [BX, Bool.false_eq_true, if_false] at hq ⊢
   refine ⟨rest.length + 1, by simp, done ++ [v], rest, acc, ys, G3, σ3, by rw [hit]; simp, rfl, ?_, Ok.again hρ O1 T13 O3, ⟨nD, T13.keep D _ aD d2 (fun q => by cases q) g2⟩, hys.mono T13.ext, by simp; omega, hq, F1.then T13 b3, fU T13 aD g1, dB T13 aD g2, fU T13 aI g3, dB T13 aI g4⟩
   rw [List.length_append, List.length_singleton]
   exact hT.frame _ _ _ hws1 (fun o e => T13.keep I o e i2 (fun q => by cases q) g4) fun a o e => O3.rep.inh a o ((F1.then T13 b3).ext a o e)
  | true =>
   simp only [BX, if_true] at hq ⊢
   refine aE (he A _ false cenv (bV sc.names) G3 st3 s3 _ hA hE hκ O3 hq) fun x G4 st4 s4 ⟨p, hq4, hx⟩ O4 T4 => ?_
   have T14 := T13.trans T4
   obtain ⟨ρ4, σ4⟩ := st4
   have aD4 := T14.keep D _ aD d2 (fun q => by cases q) g2
   have aI4 := T14.keep I _ aI i2 (fun q => by cases q) g4
   have l1 := hys.length
   simp only [Array.length_toList] at l1
   have hsz : items.length = done.length + (rest.length + 1) := by rw [hit]; simp
   refine wpAny_list_append_plain (s := s4) ⟨nD, aD4⟩ (fun h5 hp5 hs5 => ?_) (by show ys.size <= sizeLine; unfold a0 at hz; show ys.size <= 16777216; omega)
   have k5 : ∀ b o, b ≠ D -> s4.heap.get? b = some o -> h5.get? b = some o := fun b o hb e => (hs5.2 b hb).trans e
   have O5 := (Ok.again hρ O1 T14 O4).at1 (h' := h5) (k := s4.toks) (fU T14 aD g1) (dB T14 aD g2) d2 d3 O4.rep.tk k5
   refine ⟨rest.length + 1, by simp, done ++ [v], rest, acc ++ [p], ys.push x, G4, σ4, by rw [hit]; simp, rfl, ?_, O5, hp5, ?_, by simp; omega, hq4, (F1.then T14 b3).at1 b1 k5, fU T14 aD g1, dB T14 aD g2, fU T14 aI g3, dB T14 aI g4⟩
   ·rw [List.length_append, List.length_singleton]
    exact hT.frame _ _ _ hws1 (fun o e => k5 I o (Ne.symm d1) (T14.keep I o e i2 (fun q => by cases q) g4)) fun a o e => O5.rep.inh a o ((F1.then T14 b3).ext a o e)
   ·rw [Array.toList_push]; exact (hys.mono T14.ext).append (.one hx)
end
theorem oU {h : Heap} {a : Addr} (e : h.objs.size <= a) : h.get? a = none := by
 cases q : h.get? a with
 | none => rfl
 | some o => exact absurd (Heap.lt_size q) (Nat.not_lt.mpr e)
section
variable {prog : Program} {w : World} {B : Bs} {C : Ctx} {n : Nat} {P : Params} {G G' : GM} {env : Env} {st : St} {s s' : Shared} {σ σ' : Nat -> Option Cell} {ρ : dD}
theorem Ok.g0 (O : Ok B P G env ⟨ρ, σ⟩ s) {a : Addr} (h : s.heap.get? a = none) : G a = none := by
 cases e : G a with
 | none => rfl
 | some o => have := O.rep.inh a o e; rw [h] at this; cases this
theorem Ok.s0 (O : Ok B P G env ⟨ρ, σ⟩ s) {a : Addr} (h : s.heap.get? a = none) : σ a = none := by
 cases e : σ a with
 | none => rfl
 | some c => obtain ⟨o, ho⟩ := (O.rep.cells a c e).1.alive; rw [h] at ho; cases ho
theorem Ok.c0 (O : Ok B P G env ⟨ρ, σ⟩ s) {a : Addr} (h : s.heap.get? a = none) : ∀ x, env.cells.lookup x ≠ some a := fun x e => by
 obtain ⟨o, ho⟩ := O.ct x a e; rw [h] at ho; cases ho
theorem Ok.l0 (O : Ok B P G env ⟨ρ, σ⟩ s) {a : Addr} (h : s.heap.get? a = none) : a ≠ env.locals := fun e => by
 obtain ⟨m, ⟨o, _, _, h1, _⟩, _⟩ := O.rep.ns; rw [<- e, h] at h1; cases h1
theorem lC {A : Around} {E : Value -> Shared -> Prop} {elt tgt iter : Expr} {ifs : List Expr} {sc : Scope} {pos : Pos} {κ : Kn} {xv : Value} {p : PV} {items : List PV} {Qc : List PV -> (Nat -> Option Cell) -> Prop} {RR : Value -> Addr -> Result -> Shared -> Prop}
  (he : bZ prog w B C n elt) (hifs : ∀ e ∈ ifs, kJ prog w B C n e) (hA : Room n A) (hE : EnvOk env) (hκ : KOk κ env) (hsc : cO κ sc = true) (hn : ∀ x ∈ bU tgt, sc.names.lookup x = some .local)
  (O : Ok B w.params G env ⟨ρ, σ⟩ s) (hv : VRel w.params G xv p) (hi : eX p = some items) (hz : items.length <= a0)
  (hc : bY (fun K s' => wIf C ifs (bV sc.names) K s') (fun K s' => wE C elt (bV sc.names) K s') tgt (eZ sc.names ρ) Qc items [] σ)
  (hR : ∀ (D L : Addr) (G' : GM) (σ' : Nat -> Option Cell) (s' : Shared) (acc : List PV) (ys : Array Value) (m : Str -> Option Value), Qc acc σ' -> Ok B w.params G' env ⟨ρ, σ'⟩ s' -> Fr G σ s G' σ' s' -> s'.heap.PlainList D ys -> VRels w.params G' ys.toList acc ->
   G' D = none -> σ' D = none -> s.heap.get? D = none -> s'.heap.Ns L m -> s.heap.get? L = none -> G' L = none -> σ' L = none -> D ≠ L -> acc.length <= a0 -> RR (.ref D) L (.ok .next) s') :
  wpAny (model prog w) A (pyIter xv) (fun it s₂ => wpAny (model prog w) A (newList []) (fun acc s₃ => wpAny (model prog w) A (newFunctionEnv sc env.globals (gP env sc.names) [] env.qual none .none (some env)) (fun cenv s₄ =>
   codeAny (model prog w) A (.compStart (.ListComp elt [⟨tgt, iter, ifs, 0⟩] sc pos) 0 it acc { cenv with scope := relabel sc env }) (RR acc cenv.locals) s₄) E s₃) E s₂) E s := by
 refine xD O.rep.inh hv hi fun I h' Ws g hI hlt hT hws => ?_
 refine wpAny_newObj_type (wpAny_newFunctionEnv (v2 hsc) (by intro y hy; simp at hy) (fun h₁ hns hsb => ?_) (lT hsc))
 dsimp only at hns hsb ⊢
 generalize hH2 : h'.push { cls := .type "list", dict := none, data := .seq ([] : List Value).toArray } = H2 at hns hsb ⊢
 have hC : H2.objs.size = h'.objs.size + 1 := by rw [<- hH2, Heap.size_push]
 have k1 : ∀ b o, h'.get? b = some o -> h₁.get? b = some o := fun b o e => hsb.extBut b o (by have := Heap.lt_size e; rw [hC]; exact Nat.ne_of_lt (Nat.lt_succ_of_lt this)) (Heap.get?_push_of_some _ (hH2 ▸ Heap.get?_push_of_some _ e))
 have k0 : ∀ b o, s.heap.get? b = some o -> h₁.get? b = some o := fun b o e => k1 b o (g.keep b o e)
 have n1 : ∀ a, h'.objs.size <= a -> s.heap.get? a = none := fun a ha => dU (s := s) (s' := { s with heap := h' }) (fun e => by
  obtain ⟨o, ho⟩ := Option.isSome_iff_exists.mp e
  show (h'.get? a).isSome = true
  rw [g.keep a o ho]; rfl) (oU ha)
 have nD := n1 h'.objs.size (Nat.le_refl _)
 have neDL : h'.objs.size ≠ H2.objs.size := by rw [hC]; exact Nat.ne_of_lt (Nat.lt_succ_self _)
 have neID : I ≠ h'.objs.size := Nat.ne_of_lt hlt
 have neIL : I ≠ H2.objs.size := by rw [hC]; exact Nat.ne_of_lt (Nat.lt_succ_of_lt hlt)
 have nL := n1 H2.objs.size (by rw [hC]; exact Nat.le_succ _)
 have hD : h₁.PlainList h'.objs.size #[] := ⟨_, hsb.extBut _ _ neDL (Heap.get?_push_of_some _ (hH2 ▸ Heap.get?_push_size _ rfl))⟩
 have g4 : GS G s G { s with heap := h₁, toks := s.toks } := GS.heap O.rep.inh s.toks k0
 have O4 : Ok B w.params G env ⟨ρ, σ⟩ { s with heap := h₁, toks := s.toks } := O.grow g4 O.rep.tk
 have hTA := hT A hA.handled
 have hws4 : Ws 0 h₁ := hTA.frame _ _ _ hws (fun o e => k1 I o e) O4.rep.inh
 have Oc := zaM (m := fun x => List.lookup x []) O4 hE hκ hsc (L := H2.objs.size) (O.g0 nL) (O.s0 nL) (O.c0 nL) hns
 have F4 : Fr G σ s G σ { s with heap := h₁, toks := s.toks } := Fr.refl.gs g4
 have loop : codeAny (model prog w) A (.compLoop (.ListComp elt [⟨tgt, iter, ifs, 0⟩] sc pos) 0 (.ref I) (.ref h'.objs.size) (compEnvC sc (gP env sc.names) H2.objs.size env)) (RR (.ref h'.objs.size) H2.objs.size) { s with heap := h₁, toks := s.toks } := by
  refine yH (s₀ := s) (G₀ := G) (σ₀ := σ) (ρ₀ := eZ sc.names ρ) (Qc := Qc) he hifs hA (uA hE hsc _ _) (gL hE hκ hsc _ _) hTA hz (fun x hx => (gL hE hκ hsc _ _).loc (hn x hx)) (fun x p e => ?_)
   (Ne.symm neID) neDL (fun x e => O.c0 nD x (jY O hκ hsc e).1) neIL (fun x e => O.c0 hI x (jY O hκ hsc e).1) nD hI nL ?_ Oc hws4 hD F4 (O.g0 nD) (O.s0 nD) (O.g0 hI) (O.s0 hI) hc
  ·rcases Oc.rep.kind x p e with q | q | q
   ·exfalso
    unfold eZ at e
    split at e
    ·rename_i q1
     have := (gL hE hκ hsc (gP env sc.names) H2.objs.size) x
     rw [show bV sc.names x = some .free from q1, q] at this
     cases this
    ·cases e
   ·rw [q]; decide
   ·rw [q]; decide
  ·intro G' σ' s' acc ys hq O' hp hr F' d1 d2 hl
   obtain ⟨m, hm, _⟩ := O'.rep.ns
   refine hR _ _ G' σ' s' acc ys m hq (Ok.back O F' O') F' hp hr d1 d2 nD hm nL O'.rep.gl ?_ neDL (Nat.le_trans hl hz)
   cases q : σ' H2.objs.size with
   | none => rfl
   | some c => exact absurd rfl (O'.rep.cells _ c q).2.2.1
 exact codeAny_compStart_list loop (hTA.self 0 _ _ _ hws4 loop)
theorem Ok.addCell (O : Ok B P G env ⟨ρ, σ⟩ s) {D : Addr} {ys : Array Value} {acc : List PV} (hp : s.heap.PlainList D ys) (hr : VRels P G ys.toList acc) (hz : acc.length <= a0) (h1 : G D = none) (h3 : D ≠ env.locals) (h4 : ∀ x, env.cells.lookup x ≠ some D) :
  Ok B P G env ⟨ρ, a7 σ D (.lst acc)⟩ s := by
 have R := O.rep
 refine ⟨O.over, ⟨R.inh, R.tk, R.ns, R.kind, R.cel, R.cell0, R.gl, R.gc, R.cinj, fun a c e => ?_⟩, O.ct⟩
 simp only [a7] at e
 split at e
 ·rename_i q; subst q; cases e
  obtain ⟨m, hm⟩ := hp
  have l := hr.length
  simp only [Array.length_toList] at l
  exact ⟨⟨ys, m, hm, by omega, hr⟩, h1, h3, h4⟩
 ·exact R.cells a c e
theorem Ok.addFrozen (O : Ok B P G env ⟨ρ, σ⟩ s) {D : Addr} {o : Obj} (ho : s.heap.get? D = some o) (h2 : σ D = none) (h3 : D ≠ env.locals) (h4 : ∀ x, env.cells.lookup x ≠ some D) (h1 : G D = none) : Ok B P (iE G D o) env ⟨ρ, σ⟩ s := by
 have R := O.rep
 have hx : Sub G (iE G D o) := fun a o' e => by
  unfold iE; split
  ·rename_i q; rw [q, h1] at e; cases e
  ·exact e
 have gn : ∀ a, a ≠ D -> iE G D o a = G a := fun a ha => by unfold iE; rw [if_neg ha]
 refine ⟨O.over.ext hx, ⟨fun a o' e => ?_, R.tk, ?_, R.kind, ?_, R.cell0, ?_, ?_, R.cinj, ?_⟩, O.ct⟩
 ·unfold iE at e; split at e
  ·rename_i q; subst q; cases e; exact ho
  ·exact R.inh a o' e
 ·obtain ⟨m, g1, g2⟩ := R.ns
  exact ⟨m, g1, fun x p e k => let ⟨v, a, b⟩ := g2 x p e k; ⟨v, a, b.mono hx⟩⟩
 ·intro x p e k
  obtain ⟨c, v, g1, g2, g3⟩ := R.cel x p e k
  exact ⟨c, v, g1, g2, g3.mono hx⟩
 ·rw [gn _ (Ne.symm h3)]; exact R.gl
 ·intro x c e
  rw [gn c fun q => h4 x (q ▸ e)]; exact R.gc x c e
 ·intro a c e
  obtain ⟨g1, g2, g3⟩ := R.cells a c e
  exact ⟨g1.mono hx fun _ h => h, by rw [gn a fun q => by dsimp only at e; rw [q, h2] at e; cases e]; exact g2, g3⟩
theorem Fr.addCell (F : Fr G σ s G' σ' s') {D : Addr} (h : s.heap.get? D = none) {c : Cell} : Fr G σ s G' (a7 σ' D c) s' :=
 ⟨F.ext, F.new, F.keep, F.alive, fun a e => by unfold a7; split; rfl; exact F.dom a e, fun a e => by
  unfold a7 at e; split at e
  ·rename_i q; subst q; exact .inr h
  ·exact F.fresh a e, F.os, F.gens⟩
theorem Fr.addFrozen (F : Fr G σ s G' σ' s') {D : Addr} {o : Obj} (h : s.heap.get? D = none) (h1 : G' D = none) : Fr G σ s (iE G' D o) σ' s' :=
 ⟨fun a o' e => by
  have := F.ext a o' e
  unfold iE; split
  ·rename_i q; rw [q, h1] at this; cases this
  ·exact this, fun a o' e => by
  unfold iE at e; split at e
  ·rename_i q; subst q; exact .inr h
  ·exact F.new a o' e, F.keep, F.alive, F.dom, F.fresh, F.os, F.gens⟩
theorem rY {pos : Pos} {Q : PV -> St -> Prop} {D L : Addr} {acc : List PV} {ys : Array Value} (O₀ : Ok B P G env ⟨ρ, σ⟩ s) (hq : bD C pos acc Q ⟨ρ, σ'⟩) (O : Ok B P G' env ⟨ρ, σ'⟩ s') (F : Fr G σ s G' σ' s') (hp : s'.heap.PlainList D ys) (hr : VRels P G' ys.toList acc)
  (h1 : G' D = none) (h2 : σ' D = none) (h3 : s.heap.get? D = none) (l1 : G' L = none) (l2 : σ' L = none) (hDL : D ≠ L) (hz : acc.length <= a0) :
  ∃ p G'' σ'', Q p ⟨ρ, σ''⟩ /\ Ok B P G'' env ⟨ρ, σ''⟩ s' /\ Fr G σ s G'' σ'' s' /\ VRel P G'' (.ref D) p /\ G'' L = none /\ σ'' L = none := by
 unfold bD at hq
 split at hq
 ·refine ⟨.ptr D, G', a7 σ' D (.lst acc), hq D h2, O.addCell hp hr hz h1 (O₀.l0 h3) (O₀.c0 h3), F.addCell h3, by simp [VRel], l1, ?_⟩
  unfold a7; rw [if_neg (Ne.symm hDL)]; exact l2
 ·obtain ⟨m, hm⟩ := hp
  have l := hr.length
  simp only [Array.length_toList] at l
  have F' := F.addFrozen (o := { cls := .type "list", data := .seq ys m }) h3 h1
  refine ⟨.list acc, _, σ', hq, O.addFrozen hm h2 (O₀.l0 h3) (O₀.c0 h3) h1, F', ?_, ?_, l2⟩
  ·simp only [VRel]
   refine ⟨D, _, ys, m, rfl, cH, rfl, rfl, rfl, by omega, hr.mono fun a o e => ?_⟩
   unfold iE; split
   ·rename_i q; rw [q, h1] at e; cases e
   ·exact e
  ·unfold iE; rw [if_neg (Ne.symm hDL)]; exact l1
end
noncomputable def oV : Expr -> Bool
 | .Set _ _ _ => false
 | _ => true
theorem jO {e : Expr} (h : oV e = true) (env : Env) (x : Value) : foldedSetIterable e env x = pure x := by
 cases e <;> first | rfl | cases h
noncomputable def okN (x : Str) : Bool := !(x == ("__debug__" : Str)) && !(x == ("__classdict__" : Str))
noncomputable def zbm (f : Expr) (p : Pos) : Bool := exc true (fun _ => true) (fun _ => true) (fun _ => true) (fun _ _ ap => ap.endLine == p.line) (fun _ _ => true) (fun _ _ => true) f
mutual
noncomputable def okE : Expr -> Bool
 | .Constant c _ _ => okC c
 | .Name x _ => okN x
 | .BoolOp _ vs _ => za4 vs && !vs.isEmpty
 | .BinOp l _ r _ => okE l && okE r
 | .UnaryOp _ x _ => okE x
 | .IfExp t b o _ => okE t && (okE b && okE o)
 | .Compare l ops cs _ => okE l && (za4 cs && ((cs.length == ops.length) && !(lastMarks ops cs)))
 | .Call f args _ p => okE f && (za4 args && (args.all b9 && (decide (args.length < 30) && zbm f p)))
 | .Attribute o _ _ => jD o && okE o
 | .Subscript o i _ => okE o && okE i
 | .List es _ => za4 es && (es.all b9 && decide (es.length <= 1000))
 | .Tuple es _ _ => za4 es && (es.all b9 && decide (es.length <= 1000))
 | .ListComp elt [⟨_, iter, ifs, _⟩] _ _ => okE elt && (okE iter && (za4 ifs && oV iter))
 | .Slice l u sp _ => sp.isNone && (okO l && okO u)
 | _ => true
noncomputable def okO : Option Expr -> Bool
 | none => true
 | some e => okE e
noncomputable def za4 : List Expr -> Bool
 | [] => true
 | e :: es => okE e && za4 es
end
theorem zB {i : Expr} (h : zba i = false) (a b : Value) : subscripted i false a b = operate [a, b] (getItem a b) := by
 cases i <;> first | (cases h; done) | rfl
section
variable {prog : Program} {w : World} {B : Bs} {C : Ctx} {n : Nat}
theorem yP {P : Params} {G G' : GM} {env : Env} {s s' : Shared} {σ σ' : Nat -> Option Cell} {ρ ρ' : dD} {L : Addr} {h' : Heap} {k : Nat} (hk : 1 <= k) (O₀ : Ok B P G env ⟨ρ, σ⟩ s) (hL : s.heap.get? L = none) (O : Ok B P G' env ⟨ρ', σ'⟩ s') (l1 : G' L = none) (l2 : σ' L = none)
  (hs : Heap.SameBut L s'.heap h') : Ok B P G' env ⟨ρ', σ'⟩ { s' with heap := h', toks := k } :=
 O.at1 l1 l2 (O₀.l0 hL) (O₀.c0 hL) hk fun b o hb e => (hs.2 b hb).trans e
theorem zM {elt tgt iter : Expr} {ifs : List Expr} {asy : Int} {sc : Scope} {pos : Pos} (he : bZ prog w B C n elt) (hi : bZ prog w B C n iter) (hifs : ∀ e ∈ ifs, kJ prog w B C n e) (hs : oV iter = true) :
  bZ prog w B C n (.ListComp elt [⟨tgt, iter, ifs, asy⟩] sc pos) := by
 intro A E cw env κ G st s Q hA hE hκ O hw
 rw [uR] at hw
 obtain ⟨rfl, hsc, hn, hw⟩ := hw
 have hn' : ∀ x ∈ bU tgt, sc.names.lookup x = some .local := fun x hx => by simpa using List.all_eq_true.mp hn x hx
 have hclos := lD (scope := sc) (env := env) fun m hm hf => by
  obtain ⟨c, v, h1, h2⟩ := O.rep.cell0 m.1 (gW hκ hsc m hm hf)
  exact ⟨c, h1⟩
 rw [eval_ListComp]
 refine wpAny_comprehension_free (use := none) rfl (fun x => jO hs env x) hclos (lT hsc) (qK hsc) ?_
 refine aE (hi A E cw env κ G st s _ hA hE hκ O hw) fun xv G1 st1 s1 ⟨p, hq, hv⟩ O1 T1 => ?_
 obtain ⟨ρ1, σ1⟩ := st1
 obtain ⟨items, hit, hq⟩ := bJ hq
 ·refine lC he hifs hA hE hκ hsc hn' O1 hv hit hq.1 hq.2 fun D L G' σ' s' acc ys m hq' O' F' hp hr d1 d2 d3 hm hL l1 l2 hDL hz => ?_
  refine ⟨m, hm, fun h' hs' => ?_⟩
  obtain ⟨p', G'', σ'', hQ, O2, F2, hv2, l3, l4⟩ := rY O1 hq' O' F' hp hr d1 d2 d3 l1 l2 hDL hz
  refine ⟨G'', ⟨ρ1, σ''⟩, ⟨p', hQ, hv2⟩, yP O2.rep.tk O1 hL O2 l3 l4 hs', ?_⟩
  exact T1.trans (F2.at1 hL fun b o hb e => (hs'.2 b hb).trans e).tr
theorem dE {b : Bool} (h : (!b) = true) : b = false := by cases b <;> first | rfl | cases h
theorem aZ {a b : Bool} (h : (a && b) = true) : a = true /\ b = true := Bool.and_eq_true_iff.mp h
noncomputable def zdq (prog : Program) (w : World) (B : Bs) (C : Ctx) (n : Nat) (e : Expr) : Prop := exc True (fun _ => True) (fun _ => True) (fun _ => True) (fun o _ _ => jD o = true /\ bZ prog w B C n o) (fun l u => (∀ e, l = some e -> bZ prog w B C n e) /\ ∀ e, u = some e -> bZ prog w B C n e)
 (fun elt gens => ∀ tgt iter ifs asy, gens = [⟨tgt, iter, ifs, asy⟩] -> bZ prog w B C n elt /\ bZ prog w B C n iter /\ (∀ f ∈ ifs, kJ prog w B C n f) /\ oV iter = true) e
noncomputable def zcx (prog : Program) (w : World) (B : Bs) (C : Ctx) (n : Nat) (e : Expr) : Prop := bZ prog w B C n e /\ kJ prog w B C n e /\ zdq prog w B C n e
theorem zaP {e : Expr} (a : bZ prog w B C n e) (b : ∀ env whole, isTrue e env whole = (do let v <- whole; standAt e.pos; holding [v] (truthy v))) (c : zdq prog w B C n e) : zcx prog w B C n e := ⟨a, kP a b, c⟩
theorem bad {e : Expr} (h : ∀ κ Q st, ¬ wE C e κ Q st) (c : zdq prog w B C n e) : zcx prog w B C n e :=
 ⟨fun _ _ _ _ _ _ _ _ _ _ _ _ _ hw => (h _ _ _ hw).elim, fun _ _ _ _ _ _ _ _ _ _ _ _ _ hw => (h _ _ _ hw).elim, c⟩
theorem vU {f : Expr} {args : List Expr} {kws : List Keyword} {p : Pos} (hB : BsOk B) (hC : CtxOk prog w B C n) (hf : okE f = true) (hf' : zdq prog w B C n f) (ha : ∀ e ∈ args, zcx prog w B C n e) (hs : args.all b9 = true) (hl : args.length < 30) (hp : zbm f p = true) : bZ prog w B C n (.Call f args kws p) := by
 intro A E cw env κ G st s Q hA hE hκ O hw
 have hk : kws = [] := by have := hw.1; cases kws <;> first | rfl | cases this
 subst hk
 cases f <;> first | exact False.elim hw.2 | skip
 ·obtain ⟨h1, h2⟩ := hf'
  cases hr : cU args with
  | none => exact zK h2 (fun e he => (ha e he).1) hs h1 hl hp hr A E cw env κ G st s Q hA hE hκ O hw
  | some xy => exact zI h2 h1 hp hr A E cw env κ G st s Q hA hE hκ O hw
 ·exact zN hB hC (fun e he => (ha e he).1) hs (dE (aZ hf).1) A E cw env κ G st s Q hA hE hκ O hw
theorem zH {o i : Expr} {p : Pos} (ho : bZ prog w B C n o) (hk : okE i = true) (hi : zcx prog w B C n i) : bZ prog w B C n (.Subscript o i p) := by
 cases h : zba i with
 | false => exact zbB ho hi.1 (zB h) h
 | true =>
  cases i <;> first | (cases h; done) | skip
  rename_i l u sp q
  cases sp with
  | none => exact vP ho hi.2.2.1 hi.2.2.2
  | some sp => cases hk
mutual
theorem c9 (hB : BsOk B) (hC : CtxOk prog w B C n) : ∀ e : Expr, okE e = true -> zcx prog w B C n e
 | .Constant _ _ _, h => zaP (vT h) (fun _ _ => rfl) trivial
 | .Name _ _, h => zaP (zJ hB hC (dE (aZ h).1) (dE (aZ h).2)) (fun _ _ => rfl) trivial
 | .BoolOp _ vs _, h => ⟨za2 vs fun e he => (fP hB hC vs (aZ h).1 e he).1, vW vs (fun e he => (fP hB hC vs (aZ h).1 e he).2.1) (fun q => by subst q; cases (aZ h).2), trivial⟩
 | .BinOp l _ r _, h => zaP (zbD (c9 hB hC l (aZ h).1).1 (c9 hB hC r (aZ h).2).1) (fun _ _ => rfl) trivial
 | .UnaryOp op x _, h => ⟨za0 (c9 hB hC x h).1, by
   have hx := c9 hB hC x h
   cases op with
   | Not => exact zP hC.mono hx.2.1
   | _ => exact kP (za0 hx.1) fun _ _ => rfl, trivial⟩
 | .IfExp t b o _, h => ⟨vR (c9 hB hC t (aZ h).1).2.1 (c9 hB hC b (aZ (aZ h).2).1).1 (c9 hB hC o (aZ (aZ h).2).2).1, sU (c9 hB hC t (aZ h).1).2.1 (c9 hB hC b (aZ (aZ h).2).1).2.1 (c9 hB hC o (aZ (aZ h).2).2).2.1, trivial⟩
 | .Compare l _ cs _, h => ⟨zbC (c9 hB hC l (aZ h).1).1 (fun e he => (fP hB hC cs (aZ (aZ h).2).1 e he).1) (beq_iff_eq.mp (aZ (aZ (aZ h).2).2).1) (dE (aZ (aZ (aZ h).2).2).2),
   zQ (c9 hB hC l (aZ h).1).1 (fun e he => (fP hB hC cs (aZ (aZ h).2).1 e he).1) (beq_iff_eq.mp (aZ (aZ (aZ h).2).2).1) (dE (aZ (aZ (aZ h).2).2).2), trivial⟩
 | .Call f args _ _, h => zaP (vU hB hC (aZ h).1 (c9 hB hC f (aZ h).1).2.2 (fP hB hC args (aZ (aZ h).2).1) (aZ (aZ (aZ h).2).2).1 (of_decide_eq_true (aZ (aZ (aZ (aZ h).2).2).2).1) (aZ (aZ (aZ (aZ h).2).2).2).2) (fun _ _ => rfl) trivial
 | .Attribute o _ _, h => zaP (zO hB hC (c9 hB hC o (aZ h).2).1 (aZ h).1) (fun _ _ => rfl) ⟨(aZ h).1, (c9 hB hC o (aZ h).2).1⟩
 | .Subscript o i _, h => zaP (zH (c9 hB hC o (aZ h).1).1 (aZ h).2 (c9 hB hC i (aZ h).2)) (fun _ _ => rfl) trivial
 | .List es _, h => zaP (zL hC.mono (fun e he => (fP hB hC es (aZ h).1 e he).1) (aZ (aZ h).2).1 (of_decide_eq_true (aZ (aZ h).2).2)) (fun _ _ => rfl) trivial
 | .Tuple es _ _, h => zaP (vO hC.mono (fun e he => (fP hB hC es (aZ h).1 e he).1) (aZ (aZ h).2).1 (of_decide_eq_true (aZ (aZ h).2).2)) (fun _ _ => rfl) trivial
 | .ListComp elt [⟨_, iter, ifs, _⟩] _ _, h =>
   have s : bZ prog w B C n elt /\ bZ prog w B C n iter /\ (∀ f ∈ ifs, kJ prog w B C n f) /\ oV iter = true := ⟨(c9 hB hC elt (aZ h).1).1, (c9 hB hC iter (aZ (aZ h).2).1).1, fun f hf => (fP hB hC ifs (aZ (aZ (aZ h).2).2).1 f hf).2.1, (aZ (aZ (aZ h).2).2).2⟩
   zaP (zM s.1 s.2.1 s.2.2.1 s.2.2.2) (fun _ _ => rfl) fun _ _ _ _ e => by cases e; exact s
 | .ListComp _ [] _ _, _ => bad (fun _ _ _ h => h) fun _ _ _ _ e => by cases e
 | .ListComp _ (⟨_, _, _, _⟩ :: _ :: _) _ _, _ => bad (fun _ _ _ h => h) fun _ _ _ _ e => by cases e
 | .Slice l u _ _, h => bad (fun _ _ _ h => h) ⟨zcI hB hC l (aZ (aZ h).2).1, zcI hB hC u (aZ (aZ h).2).2⟩
 | .NamedExpr _ _ _, _ => bad (fun _ _ _ h => h) trivial
 | .Lambda _ _ _ _, _ => bad (fun _ _ _ h => h) trivial
 | .Dict _ _ _, _ => bad (fun _ _ _ h => h) trivial
 | .Set _ _ _, _ => bad (fun _ _ _ h => h) trivial
 | .SetComp _ _ _ _, _ => bad (fun _ _ _ h => h) trivial
 | .DictComp _ _ _ _ _, _ => bad (fun _ _ _ h => h) trivial
 | .GeneratorExp _ _ _ _, _ => bad (fun _ _ _ h => h) trivial
 | .Await _ _, _ => bad (fun _ _ _ h => h) trivial
 | .Yield _ _, _ => bad (fun _ _ _ h => h) trivial
 | .YieldFrom _ _, _ => bad (fun _ _ _ h => h) trivial
 | .FormattedValue _ _ _ _, _ => bad (fun _ _ _ h => h) trivial
 | .JoinedStr _ _, _ => bad (fun _ _ _ h => h) trivial
 | .Starred _ _, _ => bad (fun _ _ _ h => h) trivial
theorem fP (hB : BsOk B) (hC : CtxOk prog w B C n) : ∀ es : List Expr, za4 es = true -> ∀ e ∈ es, zcx prog w B C n e
 | [], _ => fun _ h => nomatch h
 | a :: es, h => List.forall_mem_cons.mpr ⟨c9 hB hC a (aZ h).1, fP hB hC es (aZ h).2⟩
theorem zcI (hB : BsOk B) (hC : CtxOk prog w B C n) : ∀ e : Option Expr, okO e = true -> ∀ x, e = some x -> bZ prog w B C n x
 | none, _ => fun _ h => nomatch h
 | some a, h => fun _ e => by cases e; exact (c9 hB hC a h).1
end
theorem snd (hB : BsOk B) (hC : CtxOk prog w B C n) {e : Expr} (h : okE e = true) : bZ prog w B C n e := (c9 hB hC e h).1
theorem sndT (hB : BsOk B) (hC : CtxOk prog w B C n) {e : Expr} (h : okE e = true) : kJ prog w B C n e := (c9 hB hC e h).2.1
end
noncomputable section
noncomputable abbrev nK (K : St -> Prop) (Q : Fl -> St -> Prop) (fl : Fl) (st : St) : Prop := Fl.casesOn (motive := fun _ => Prop) fl (K st) (Q .next st) (K st) fun r => Q (.ret r) st
noncomputable def dO (T : (PV -> St -> Prop) -> St -> Prop) (B : (Fl -> St -> Prop) -> St -> Prop) (O : (Fl -> St -> Prop) -> St -> Prop) (Q : Fl -> St -> Prop) : Nat -> St -> Prop
 | 0, _ => False
 | n + 1, st => T (tst fun b st1 => if b = true then B (nK (dO T B O Q n) Q) st1 else O Q st1) st
noncomputable def e5 (tgt : Expr) (B : (Fl -> St -> Prop) -> St -> Prop) (O : (Fl -> St -> Prop) -> St -> Prop) (Q : Fl -> St -> Prop) : List PV -> St -> Prop
 | [], st => O Q st
 | v :: vs, st => opt (gS tgt v st.ρ) fun ρ1 => B (nK (e5 tgt B O Q vs) Q) ⟨ρ1, st.σ⟩
noncomputable def c3 (κ : Kn) (x : Str) : Bool := κ x == some .local || κ x == some .cell
noncomputable def uF (ts : List Expr) : Option (Str × Str) := List.casesOn (motive := fun _ => Option (Str × Str)) ts none fun t r => List.casesOn (motive := fun _ => Option (Str × Str)) r
 (exc none (fun _ => none) (fun _ => none) (fun _ => none) (fun o n _ => (nmE o).map fun x => (x, n)) (fun _ _ => none) (fun _ _ => none) t) fun _ _ => none
noncomputable def eK (C : Ctx) (κ : Kn) (targets : List Expr) (v : PV) (st : St) (K : St -> Prop) : Prop :=
 mP (uF targets) (targets.all (fun t => (bU t).all (c3 κ)) = true /\ opt (mK targets v st.ρ) fun ρ' => K ⟨ρ', st.σ⟩)
  fun xn => opt (st.ρ xn.1) fun p => asP p fun a => setCell C a xn.2 v st K
noncomputable def dF (e : Expr) : Option (List Expr) := Expr.casesOn (motive_1 := fun _ => Option (List Expr)) e (fun _ _ _ => none) (fun _ _ _ => none) (fun _ _ _ _ => none) (fun _ _ _ => none) (fun _ _ _ _ => none) (fun _ _ _ _ => none) (fun _ _ _ => none) (fun _ _ _ => none) (fun _ _ _ _ => none) (fun _ _ _ _ => none) (fun _ _ _ _ _ => none) (fun _ _ _ _ => none) (fun _ _ => none) (fun _ _ => none) (fun _ _ => none) (fun _ _ _ _ => none) (fun f args kws _ => exc none (fun _ => none) (fun _ => none) (fun _ => none) (fun o m _ => if nmE o = some "Node" /\ m = "__init__" /\ kws.isEmpty = true then some args else none) (fun _ _ => none) (fun _ _ => none) f) (fun _ _ _ _ => none) (fun _ _ => none) (fun _ _ _ => none) (fun _ _ _ => none) (fun _ _ _ => none) (fun _ _ => none) (fun _ _ => none) (fun _ _ => none) (fun _ _ _ => none) (fun _ _ _ _ => none)
noncomputable def xK (C : Ctx) (vs : List PV) (st : St) (K : St -> Prop) : Prop := lM vs fun p va vb => asP p fun ad => setCell C ad "source_line" va st fun st3 => setCell C ad "source_column" vb st3 K
noncomputable def jJ (e : Expr) : Bool := Expr.casesOn (motive_1 := fun _ => Bool) e (fun _ _ _ => false) (fun _ _ _ => false) (fun _ _ _ _ => false) (fun _ _ _ => false) (fun _ _ _ _ => false) (fun _ _ _ _ => false) (fun _ _ _ => false) (fun _ _ _ => false) (fun _ _ _ _ => true) (fun _ _ _ _ => true) (fun _ _ _ _ _ => true) (fun _ _ _ _ => false) (fun _ _ => false) (fun _ _ => false) (fun _ _ => false) (fun _ _ _ _ => false) (fun _ _ _ _ => false) (fun _ _ _ _ => false) (fun _ _ => false) (fun _ _ _ => false) (fun _ _ _ => false) (fun _ _ _ => false) (fun _ _ => false) (fun _ _ => false) (fun _ _ => false) (fun _ _ _ => false) (fun _ _ _ _ => false)
noncomputable def d5 (K : St -> Prop) (Q : Fl -> St -> Prop) (fl : Fl) (st : St) : Prop := Fl.casesOn (motive := fun _ => Prop) fl (K st) (Q .brk st) (Q .cont st) fun v => Q (.ret v) st
mutual
noncomputable def wS (C : Ctx) (κ : Kn) : Stmt -> (Fl -> St -> Prop) -> St -> Prop
 | .Expr v _, Q, st => mP (dF v) (jJ v = false /\ wE C v κ (fun _ st1 => Q .next st1) st) fun args => C.ini = true /\ κ "Node" = some .globalImplicit /\ wEs C args κ (fun vs st1 => xK C vs st1 fun st2 => Q .next st2) st
 | .Break _, Q, st => Q .brk st
 | .Continue _, Q, st => Q .cont st
 | .Return e _, Q, st => opt e fun e => wE C e κ (fun v st1 => Q (.ret v) st1) st
 | .Assign ts e _, Q, st => wE C e κ (fun v st1 => eK C κ ts v st1 fun st2 => Q .next st2) st
 | .AugAssign t op e _, Q, st => opt (nmE t) fun x => c3 κ x = true /\ opt (st.ρ x) fun old => wE C e κ (fun v st1 => inP op old v fun r => Q .next ⟨upd st1.ρ x r, st1.σ⟩) st
 | .If t b o _, Q, st => wE C t κ (tst fun c st1 => if c = true then wSs C κ b Q st1 else wSs C κ o Q st1) st
 | .While t b o _, Q, st => ∃ n, dO (wE C t κ) (wSs C κ b) (wSs C κ o) Q n st
 | .For tgt iter b o _, Q, st => (bU tgt).all (c3 κ) = true /\ wE C iter κ (fun v st1 => opt (eX v) fun items => items.length <= a0 /\ e5 tgt (wSs C κ b) (wSs C κ o) Q items st1) st
 | .Try b hs o fin _, Q, st => hs.isEmpty = false /\ fin.isEmpty = true /\ wSs C κ b (d5 (fun st1 => wSs C κ o Q st1) Q) st
 | _, _, _ => False
noncomputable def wSs (C : Ctx) (κ : Kn) : List Stmt -> (Fl -> St -> Prop) -> St -> Prop
 | [], Q, st => Q .next st
 | s :: ss, Q, st => wS C κ s (d5 (fun st1 => wSs C κ ss Q st1) Q) st
end
end
theorem lI {C : Ctx} {κ : Kn} {v : Expr} {p : Pos} {Q : Fl -> St -> Prop} {st : St} : wS C κ (.Expr v p) Q st = mP (dF v) (jJ v = false /\ wE C v κ (fun _ st1 => Q .next st1) st) fun args => C.ini = true /\ κ "Node" = some .globalImplicit /\ wEs C args κ (fun vs st1 => xK C vs st1 fun st2 => Q .next st2) st := rfl
section mono
variable {C : Ctx}
theorem fC {K K' : St -> Prop} {Q Q' : Fl -> St -> Prop} (h : ∀ s, K s -> K' s) (hq : ∀ f s, Q f s -> Q' f s) (f : Fl) (s : St) (x : nK K Q f s) : nK K' Q' f s := by
 cases f
 ·exact h s x
 ·exact hq _ s x
 ·exact h s x
 ·exact hq _ s x
theorem i8 {K K' : St -> Prop} {Q Q' : Fl -> St -> Prop} (h : ∀ s, K s -> K' s) (hq : ∀ f s, Q f s -> Q' f s) (f : Fl) (s : St) (x : d5 K Q f s) : d5 K' Q' f s := by
 cases f
 ·exact h s x
 ·exact hq _ s x
 ·exact hq _ s x
 ·exact hq _ s x
theorem eT {a : Nat} {name : Str} {v : PV} {st : St} {K K' : St -> Prop} (h : ∀ s, K s -> K' s) : setCell C a name v st K -> setCell C a name v st K' := fun ⟨c, fs, i, h1, h2, h3, h4⟩ => ⟨c, fs, i, h1, h2, h3, h _ h4⟩
theorem n6 {κ : Kn} {ts : List Expr} {v : PV} {st : St} {K K' : St -> Prop} (h : ∀ s, K s -> K' s) : eK C κ ts v st K -> eK C κ ts v st K' :=
 dS (fun x => ⟨x.1, a6 (fun _ => h _) x.2⟩) fun _ => a6 fun _ => mL fun _ => eT h
theorem tZ {vs : List PV} {st : St} {K K' : St -> Prop} (h : ∀ s, K s -> K' s) : xK C vs st K -> xK C vs st K' :=
 kK fun _ _ _ => mL fun _ => eT fun _ => eT h
theorem fL {T : (PV -> St -> Prop) -> St -> Prop} {B O : (Fl -> St -> Prop) -> St -> Prop} {Q Q' : Fl -> St -> Prop}
  (hT : ∀ K K' s, (∀ b s, K b s -> K' b s) -> T K s -> T K' s) (hB : ∀ K K' s, (∀ b s, K b s -> K' b s) -> B K s -> B K' s) (hO : ∀ K K' s, (∀ b s, K b s -> K' b s) -> O K s -> O K' s) (h : ∀ f s, Q f s -> Q' f s) :
  ∀ n st, dO T B O Q n st -> dO T B O Q' n st
 | 0, _, x => x
 | n + 1, _, x => hT _ _ _ (e8 fun _ _ => aY (hB _ _ _ (fC (fL hT hB hO h n) h)) (hO _ _ _ h)) x
theorem iC {tgt : Expr} {B O : (Fl -> St -> Prop) -> St -> Prop} {Q Q' : Fl -> St -> Prop}
  (hB : ∀ K K' s, (∀ b s, K b s -> K' b s) -> B K s -> B K' s) (hO : ∀ K K' s, (∀ b s, K b s -> K' b s) -> O K s -> O K' s) (h : ∀ f s, Q f s -> Q' f s) :
  ∀ items st, e5 tgt B O Q items st -> e5 tgt B O Q' items st
 | [], _, x => hO _ _ _ h x
 | _ :: vs, _, x => a6 (fun _ => hB _ _ _ (fC (iC hB hO h vs) h)) x
mutual
theorem uQ (M : CtxMono C) : ∀ (s : Stmt) {κ : Kn} {Q Q' : Fl -> St -> Prop} {st : St}, (∀ f s, Q f s -> Q' f s) -> wS C κ s Q st -> wS C κ s Q' st
 | .Expr v _, _, _, _, _, h, x => dS (fun x => ⟨x.1, aX M v (fun _ _ => h _ _) x.2⟩) (fun _ x => ⟨x.1, x.2.1, bN M _ (fun _ _ => tZ fun _ => h _ _) x.2.2⟩) x
 | .Break _, _, _, _, _, h, x => h _ _ x
 | .Continue _, _, _, _, _, h, x => h _ _ x
 | .Return _ _, _, _, _, _, h, x => a6 (fun e => aX M e fun _ _ => h _ _) x
 | .Assign _ e _, _, _, _, _, h, x => aX M e (fun _ _ => n6 fun _ => h _ _) x
 | .AugAssign _ _ e _, _, _, _, _, h, x => a6 (fun _ x => ⟨x.1, a6 (fun _ => aX M e fun _ _ => zat fun _ => h _ _) x.2⟩) x
 | .If t b o _, _, _, _, _, h, x => aX M t (e8 fun _ _ => aY (cC M b h) (cC M o h)) x
 | .While t b o _, κ, _, _, _, h, x => x.imp fun n => fL (T := wE C t κ) (B := wSs C κ b) (O := wSs C κ o) (fun _ _ _ hk => aX M t hk) (fun _ _ _ hk => cC M b hk) (fun _ _ _ hk => cC M o hk) h n _
 | .For _ iter b o _, κ, _, _, _, h, x => ⟨x.1, aX M iter (fun _ _ => a6 fun _ y => ⟨y.1, iC (B := wSs C κ b) (O := wSs C κ o) (fun _ _ _ hk => cC M b hk) (fun _ _ _ hk => cC M o hk) h _ _ y.2⟩) x.2⟩
 | .Try b _ o _ _, _, _, _, _, h, x => ⟨x.1, x.2.1, cC M b (i8 (fun _ => cC M o h) h) x.2.2⟩
 | .FunctionDef _ _ _ _ _ _ _ _ _ _, _, _, _, _, _, x => x
 | .AsyncFunctionDef _ _ _ _ _ _ _ _ _ _, _, _, _, _, _, x => x
 | .ClassDef _ _ _ _ _ _ _ _ _ _ _, _, _, _, _, _, x => x
 | .Delete _ _, _, _, _, _, _, x => x
 | .TypeAlias _ _ _ _ _ _ _, _, _, _, _, _, x => x
 | .AnnAssign _ _ _ _ _, _, _, _, _, _, x => x
 | .AsyncFor _ _ _ _ _, _, _, _, _, _, x => x
 | .With _ _ _, _, _, _, _, _, x => x
 | .AsyncWith _ _ _, _, _, _, _, _, x => x
 | .Match _ _ _, _, _, _, _, _, x => x
 | .Raise _ _ _, _, _, _, _, _, x => x
 | .TryStar _ _ _ _ _, _, _, _, _, _, x => x
 | .Assert _ _ _, _, _, _, _, _, x => x
 | .Import _ _, _, _, _, _, _, x => x
 | .ImportFrom _ _ _ _, _, _, _, _, _, x => x
 | .Global _ _, _, _, _, _, _, x => x
 | .Nonlocal _ _, _, _, _, _, _, x => x
 | .Pass _, _, _, _, _, _, x => x
theorem cC (M : CtxMono C) : ∀ (ss : List Stmt) {κ : Kn} {Q Q' : Fl -> St -> Prop} {st : St}, (∀ f s, Q f s -> Q' f s) -> wSs C κ ss Q st -> wSs C κ ss Q' st
 | [], _, _, _, _, h, x => h _ _ x
 | s :: ss, _, _, _, _, h, x => uQ M s (i8 (fun _ => cC M ss h) h) x
end
end mono
end Mine
end
section
set_option maxRecDepth 100000
open PySem PySem.W PyProof.Rows
open Builtin Builtin.Str
set_option Elab.async false
set_option autoImplicit false
set_option linter.unusedVariables false
namespace Mine
section
open PySem.Calls Builtin.ObjectAttr Builtin.Getset_descriptor
variable {prog : Program} {w : World} {A : Around} {K : Frag} {x C : Addr} {s : Shared} {R : Result -> Shared -> Prop}
theorem zS {ox : Obj} {od : Option Obj} {v : Value} {p i : Nat} (X : K.In s.heap) (I : PySem.W.InstAt s.heap x ox C od)
  (hp : slotIn K p C = some i) (hi : i < 1000) (hf : ox.isFreed = false)
  (h : ∀ h', h'.get? x = some { ox with slots := (ox.slots ++ Array.replicate (i + 1 - ox.slots.size) none).setIfInBounds i (some v) } -> Heap.SameBut x s.heap h' -> R (.ok (.ret .none)) { s with heap := h' }) :
  codeAny (model prog w) A (.call (.builtin "member_descriptor.__set__") ⟨[.ref p, .ref x, v], []⟩) R s := by
 obtain ⟨n, tn, owner, behind, tb, d, sl, cd, ho, hc, hm, hb, rfl⟩ := slot_of X hp
 obtain ⟨hh, g, dr, t, os⟩ := s
 have L0 := I.type (M := model prog w)
 have L1 := looks_mroIn (M := model prog w) X hm
 have L2 : Looks (model prog w) hh (Slots.slotNamesOf (.ref C)) cd.slotNames := (looks_clsIn X hc).andThen .now
 have hx := I.at_
 dsimp only at ho hx L0 L1
 have f0 := looks_field (M := model prog w) ho 0 (v := .str n tn) rfl
 have f1 := looks_field (M := model prog w) ho 1 (v := owner) rfl
 have f3 := looks_field (M := model prog w) ho 3 (v := .builtin "proto.slot#set") rfl
 have f4 := looks_field (M := model prog w) ho 4 (v := .int behind tb) rfl
 refine codeAny_call_builtin KF.slot_mset.plain KF.entry_mset (KF.slot_mset.check _ _ _ _ _ _ _ _ ⟨_, ho, rfl⟩ (KF.args_mset _ _ _) ?_)
 unfold Builtin.«member_descriptor.__set__» descrSet descrStoreThrough descrCheckInstance descrNameAndClass isInstance
 have f5 : Looks (model prog w) hh (descrItself (.ref p)) [.ref p] := ((Looks.ld (part := none) ho).andThen .now).andThen (Looks.of_pure (by kernel_rfl))
 repeat lk
 refine ⟨Code.quiet_builtin _ (by decide +kernel), codeAny_builtin KF.entry_slotset ?_⟩
 unfold Builtin.«proto.slot#set» Slots.target
 repeat lk
 rw [if_neg hb]
 refine wpAny_pure (wpAny_bind ?_)
 unfold setSlotAt
 dsimp only
 rw [if_neg (by rw [sizeLine_eq]; omega)]
 refine wpAny_updatePart hx (wpAny_pure (h _ (Heap.get?_update_self _ hx ?_) (Heap.SameBut.update ..)))
 obtain ⟨a, b, c, d⟩ := ox
 cases c <;> first | rfl | cases hf
end
section
variable {prog : Program} {w : World} {B : Bs} {C : Ctx} {n : Nat}
theorem zaN {A : Around} {E : Value -> Shared -> Prop} {cw : Bool} {env : Env} {G : GM} {st : St} {s : Shared} {a c i : Nat} {fs : List (Option PV)} {name : Str} {v : Value} {p : PV} (hB : BsOk B) (hC : CtxOk prog w B C n) (O : Ok B w.params G env st s)
  (hσ : st.σ a = some (.ins c fs)) (hs : C.slot c name = some i) (hi : i < fs.length) (hv : VRel w.params G v p) :
  wpAny (model prog w) A (setAttr (.ref a) name v) (Lands B w.params cw env G st s (fun _ st' _ => st' = ⟨st.ρ, a7 st.σ a (.ins c (fs.set i (some p)))⟩)) E s := by
 obtain ⟨_, _, q, _, s4, s5, s6, s7, s8, s9⟩ := hC.slot c name i hs
 obtain ⟨⟨dx, sl, h1, h2, h3, h4⟩, g1, g2, g3⟩ := O.rep.cells a _ hσ
 have X : B.K.In s.heap := hB.kin.keeps fun b o e => O.rep.inh _ _ (O.over _ _ e)
 have I : PySem.W.InstAt s.heap a _ c (some fS) := ⟨h1, rfl, rfl, O.rep.inh _ _ h2⟩
 refine set_plain X I s5 (osa_descr (s := { s with toks := s.toks + 1 }) (od := some fS) KF.slot_mset X ⟨I.at_, I.cls, I.no, O.rep.inh _ _ h2⟩ s6 s7 s8 ?_)
 refine zS (s := { s with toks := s.toks + 1 }) (od := some fS) X ⟨I.at_, I.cls, I.no, O.rep.inh _ _ h2⟩ s4 s9 rfl fun h' hx hsb => ?_
 have cr : CellRel w.params G h' a (.ins c (fs.set i (some p))) := by
  refine ⟨dx, _, hx, h2, ?_, fun j q hj => ?_⟩
  ·simp only [Array.size_setIfInBounds, Array.size_append, Array.size_replicate, List.length_set]; omega
  ·by_cases e : j = i
   ·subst e
    rw [List.getElem?_set_self hi] at hj
    cases hj
    refine ⟨v, ?_, hv⟩
    rw [Array.getElem?_setIfInBounds_self_of_lt]
    simp only [Array.size_append, Array.size_replicate]; omega
   ·rw [List.getElem?_set_ne (Ne.symm e)] at hj
    obtain ⟨u, e1, e2⟩ := h4 j q hj
    refine ⟨u, ?_, e2⟩
    rw [Array.getElem?_setIfInBounds_ne (Ne.symm e)]
    have hlt := (Array.getElem?_eq_some_iff.mp e1).1
    rw [Array.getElem?_append_left hlt]; exact e1
 obtain ⟨R', T'⟩ := O.rep.setCell (cw := cw) hσ hsb cr (show 1 <= s.toks + 1 by omega)
 exact ⟨G, _, rfl, ⟨O.over, R', O.ct.same hsb (by rw [hx]; rfl)⟩, T'⟩
end
end Mine
end
section
open PySem PySem.W PyProof.Rows
open Builtin Builtin.Str
set_option Elab.async false
set_option autoImplicit false
set_option linter.unusedVariables false
namespace Mine
noncomputable def FX (P : Params) (Q : Fl -> St -> Prop) : GM -> St -> Flow -> Prop := fun G' st' f => match f with
 | .next => Q .next st'
 | .brk => Q .brk st'
 | .cont => Q .cont st'
 | .ret v => ∃ p, Q (.ret p) st' /\ VRel P G' v p
noncomputable def mT (prog : Program) (w : World) (B : Bs) (C : Ctx) (n : Nat) (s : Stmt) : Prop :=
 ∀ (A : Around) (E : Value -> Shared -> Prop) (env : Env) (κ : Kn) (G : GM) (st : St) (sh : Shared) (Q : Fl -> St -> Prop), Room n A -> EnvOk env -> KOk κ env -> Ok B w.params G env st sh ->
  wS C κ s Q st -> wpAny (model prog w) A (exec s env) (Lands B w.params true env G st sh (FX w.params Q)) E sh
noncomputable def fK (prog : Program) (w : World) (B : Bs) (C : Ctx) (n : Nat) (ss : List Stmt) : Prop :=
 ∀ (A : Around) (E : Value -> Shared -> Prop) (env : Env) (κ : Kn) (G : GM) (st : St) (sh : Shared) (Q : Fl -> St -> Prop), Room n A -> EnvOk env -> KOk κ env -> Ok B w.params G env st sh ->
  wSs C κ ss Q st -> wpAny (model prog w) A (execs ss env) (Lands B w.params true env G st sh (FX w.params Q)) E sh
section
variable {prog : Program} {w : World} {B : Bs} {C : Ctx} {n : Nat}
theorem zE : fK prog w B C n [] := by
 intro A E env κ G st s Q hA hE hκ O hw
 exact wpAny_execs_nil (aG O hw)
theorem vM {s : Stmt} {ss : List Stmt} (h : mT prog w B C n s) (hs : fK prog w B C n ss) : fK prog w B C n (s :: ss) := by
 intro A E env κ G st sh Q hA hE hκ O hw
 refine wpAny_execs_cons (aE (h A E env κ G st sh _ hA hE hκ O hw) fun f G1 st1 s1 hq O1 T1 => ?_)
 cases f with
 | next => exact aO T1 (hs A E env κ G1 st1 s1 Q hA hE hκ O1 hq)
 | brk => exact (aG (X := FX w.params Q) (a := Flow.brk) O1 hq).after T1
 | cont => exact (aG (X := FX w.params Q) (a := Flow.cont) O1 hq).after T1
 | ret v => exact (aG (X := FX w.params Q) (a := Flow.ret v) O1 (by obtain ⟨p, h1, h2⟩ := hq; exact ⟨p, h1, h2⟩)).after T1
theorem sS {p : Pos} : mT prog w B C n (.Break p) := by
 intro A E env κ G st s Q hA hE hκ O hw
 exact wpAny_Break (aG (X := FX w.params Q) (a := Flow.brk) O hw)
theorem vL {p : Pos} : mT prog w B C n (.Continue p) := by
 intro A E env κ G st s Q hA hE hκ O hw
 rw [show exec (.Continue p) env = (do standAt p; pure .cont) from rfl]
 exact wpAny_bind (wpAny_standAt (wpAny_pure (aG (X := FX w.params Q) (a := Flow.cont) O hw)))
theorem oJ {e : Expr} {p : Pos} (he : bZ prog w B C n e) : mT prog w B C n (.Return (some e) p) := by
 intro A E env κ G st s Q hA hE hκ O hw
 exact wpAny_Return_some (aE (he A E true env κ G st s _ hA hE hκ O hw) fun v G1 st1 s1 ⟨u, hq, hv⟩ O1 T1 =>
  (aG (X := FX w.params Q) (a := Flow.ret v) O1 ⟨u, hq, hv⟩).after T1)
theorem qY {env : Env} (hE : EnvOk env) : interactive env = false := by unfold interactive; rw [hE.kind]; rfl
theorem sO {e : Expr} (h : jJ e = false) (line : Nat) (env : Env) : swapsWith e none line env = pure false := by
 cases e <;> first | rfl | cases h
theorem vK {e : Expr} {p : Pos} (he : bZ prog w B C n e) (hi : dF e = none) : mT prog w B C n (.Expr e p) := by
 intro A E env κ G st s Q hA hE hκ O hw
 rw [lI, hi] at hw
 exact wpAny_Expr_any (aE (he A E true env κ G st s _ hA hE hκ O hw.2) fun v G1 st1 s1 ⟨u, hq, hv⟩ O1 T1 =>
  (aG (X := FX w.params Q) (a := Flow.next) O1 hq).after T1) (qY hE) (sO hw.1 _ _)
theorem zbA {t : Expr} {b o : List Stmt} {p : Pos} (ht : kJ prog w B C n t) (hb : fK prog w B C n b) (ho : fK prog w B C n o) : mT prog w B C n (.If t b o p) := by
 intro A E env κ G st s Q hA hE hκ O hw
 refine wpAny_If (aE (ht A E true env κ G st s _ hA hE hκ O hw) fun c G1 st1 s1 hq O1 T1 => ?_)
 cases c
 ·exact aO T1 (ho A E env κ G1 st1 s1 Q hA hE hκ O1 hq)
 ·exact aO T1 (hb A E env κ G1 st1 s1 Q hA hE hκ O1 hq)
theorem zD {b o : List Stmt} {h₀ : ExceptHandler} {hs : List ExceptHandler} {p : Pos} (hb : fK prog w B C n b) (ho : fK prog w B C n o) : mT prog w B C n (.Try b (h₀ :: hs) o [] p) := by
 intro A E env κ G st s Q hA hE hκ O hw
 rw [show exec (.Try b (h₀ :: hs) o [] p) env = (do standAt p; tryStmt false (execs b env) (h₀ :: hs) (execs o env) [] env) from rfl]
 refine wpAny_bind (wpAny_standAt (wpAny_tryStmt_except (aE (hb A _ env κ G st s _ hA hE hκ O hw.2.2) fun f G1 st1 s1 hq O1 T1 => ?_)))
 cases f with
 | next => exact aO T1 (ho A E env κ G1 st1 s1 Q hA hE hκ O1 hq)
 | brk => exact (aG (X := FX w.params Q) (a := Flow.brk) O1 hq).after T1
 | cont => exact (aG (X := FX w.params Q) (a := Flow.cont) O1 hq).after T1
 | ret v => exact (aG (X := FX w.params Q) (a := Flow.ret v) O1 (by obtain ⟨p, h1, h2⟩ := hq; exact ⟨p, h1, h2⟩)).after T1
theorem zc1 {A : Around} {E : Value -> Shared -> Prop} {G : GM} {s : Shared} {op : Operator} {a b : Value} {p q : PV} {K : PV -> Prop} (hi : InH G s.heap) (ha : VRel w.params G a p) (hb : VRel w.params G b q) (h : inP op p q K) :
  GW (model prog w) A w.params E G s (inplaceOp op a b) K := by
 have twoI : ∀ {r : Int -> Int -> Int}, (asI p fun x => asI q fun y => K (.int (r x y))) -> (∀ x t y u (Q : Value -> Shared -> Prop), Q (.int (r x y) s.toks) { s with toks := s.toks + 1 } -> wpAny (model prog w) A (inplaceOp op (.int x t) (.int y u)) Q E s) -> GW (model prog w) A w.params E G s (inplaceOp op a b) K := by
  intro r h k
  obtain ⟨x, rfl, h1⟩ := cA (v := p) h
  obtain ⟨y, rfl, h2⟩ := cA (v := q) h1
  simp only [VRel] at ha hb
  obtain ⟨t, rfl⟩ := ha; obtain ⟨u, rfl⟩ := hb
  exact k7 hi h2 fun Q q => k x t y u Q q
 cases op <;> first | exact False.elim h | skip
 ·cases p <;> first | exact False.elim h | skip
  ·exact twoI (r := fun x y => x + y) h fun _ _ _ _ Q q => iadd_int q
  ·obtain ⟨y, rfl, hz, hk⟩ := c8 (v := q) h
   simp only [VRel] at ha hb
   obtain ⟨t, rfl, hx⟩ := ha
   obtain ⟨u, rfl, hy⟩ := hb
   refine SB.iadd (fun t' k => ?_) (by rw [b7, b7]; exact hz)
   refine ⟨_, G, hk, GS.toks hi _, ?_⟩
   simp only [VRel]
   exact ⟨t', by rw [kN], hZ hx hy hz⟩
 ·exact twoI (r := fun x y => x - y) h fun _ _ _ _ Q q => isub_int q
theorem lP {κ : Kn} {env : Env} (hκ : KOk κ env) {x : Str} (h : c3 κ x = true) : zcq true env x := by
 unfold c3 at h
 simp only [Bool.or_eq_true, beq_iff_eq] at h
 rcases h with h | h
 ·exact .inl (hκ.loc h)
 ·exact .inr ⟨rfl, hκ.cell (.inl h)⟩
theorem zG {x : Str} {px p : Pos} {op : Operator} {e : Expr} (hB : BsOk B) (hC : CtxOk prog w B C n) (he : bZ prog w B C n e) (ok2 : (x == ("__classdict__" : Str)) = false) : mT prog w B C n (.AugAssign (.Name x px) op e p) := by
 intro A E env κ G st s Q hA hE hκ O hw
 obtain ⟨hst, hw⟩ := (show c3 κ x = true /\ opt (st.ρ x) _ from hw)
 have hst' := hst
 unfold c3 at hst
 obtain ⟨old, e0, hw⟩ := bJ hw
 refine wpAny_AugAssign_Name ?_
 have hN' := o7 (p := px) hB hC ok2 A E true env κ G st s (fun v st' => v = old /\ st' = st) hE hκ O (by rw [gT, if_neg (fun q => by rw [q] at hst; cases hst), e0]; exact ⟨rfl, rfl⟩)
 refine aE hN' fun ov G1 st1 s1 ⟨u, ⟨hu, hst1⟩, hv⟩ O1 T1 => ?_
 subst hu hst1
 refine aE (he A E true env κ G1 st1 s1 _ hA hE hκ O1 hw) fun v G2 st2 s2 ⟨u2, hq2, hv2⟩ O2 T2 => ?_
 refine aE (cw := true) (bG (Q := fun r st' => Q .next ⟨upd st'.ρ x r, st'.σ⟩) O2 (zc1 O2.rep.inh (hv.mono T2.ext) hv2 hq2)) fun r G3 st3 s3 ⟨u3, hq3, hv3⟩ O3 T3 => ?_
 refine aE (lO (cw := true) hE O3 (lP hκ hst') hv3) fun _ G4 st4 s4 e4 O4 T4 => ?_
 subst e4
 exact (aG (X := FX w.params Q) (a := Flow.next) O4 hq3).after (T1.trans (T2.trans (T3.trans T4)))
end
section
variable {prog : Program} {w : World} {B : Bs} {C : Ctx} {n : Nat}
theorem Tr.at1 {cw : Bool} {env : Env} {G G' : GM} {st st' : St} {s s' : Shared} (T : Tr cw env G st s G' st' s') {I : Addr} (hI : s.heap.get? I = none) {h' : Heap} {k : Nat} (hk : ∀ b o, b ≠ I -> s'.heap.get? b = some o -> h'.get? b = some o) : Tr cw env G st s G' st' { s' with heap := h', toks := k } where
 ext := T.ext
 new := T.new
 keep := fun a o e h1 h2 h3 => hk a o (fun q => by rw [q, hI] at e; cases e) (T.keep a o e h1 h2 h3)
 alive := fun a e => by
  obtain ⟨o, ho⟩ := Option.isSome_iff_exists.mp (T.alive a e)
  show (h'.get? a).isSome = true
  rw [hk a o (fun q => by rw [q, hI] at e; cases e) ho]; rfl
 dom := T.dom
 fresh := T.fresh
 os := T.os
 gens := T.gens
theorem sQ {t : Expr} {b o : List Stmt} {p : Pos} (ht : kJ prog w B C n t) (hb : fK prog w B C n b) (ho : fK prog w B C n o) : mT prog w B C n (.While t b o p) := by
 intro A E env κ G st s Q hA hE hκ O hw
 obtain ⟨m, hw⟩ := hw
 refine wpAny_While (codeAny_whileLoop (fun k s' => ∃ Gj stj, Ok B w.params Gj env stj s' /\ dO (wE C t κ) (wSs C κ b) (wSs C κ o) Q k stj /\ Tr true env G st s Gj stj s') ?_ m ⟨G, st, O, hw, .refl⟩)
 rintro k s' ⟨Gj, stj, Oj, hwj, Tj⟩
 cases k with
 | zero => exact hwj.elim
 | succ k =>
  refine aE (ht A _ true env κ Gj stj s' _ hA hE hκ Oj hwj) fun c G1 st1 s1 hq O1 T1 => ?_
  cases c with
  | false =>
   refine aE (ho A _ env κ G1 st1 s1 Q hA hE hκ O1 hq) fun f G2 st2 s2 hq2 O2 T2 => ?_
   exact (aG (X := FX w.params Q) (a := f) O2 hq2).after (Tj.trans (T1.trans T2))
  | true =>
   refine aE (hb A _ env κ G1 st1 s1 _ hA hE hκ O1 hq) fun f G2 st2 s2 hq2 O2 T2 => ?_
   have T := Tj.trans (T1.trans T2)
   cases f with
   | next => exact ⟨k, Nat.lt_succ_self _, G2, st2, O2, hq2, T⟩
   | cont => exact ⟨k, Nat.lt_succ_self _, G2, st2, O2, hq2, T⟩
   | brk => exact (aG (X := FX w.params Q) (a := Flow.next) O2 hq2).after T
   | ret v => exact (aG (X := FX w.params Q) (a := Flow.ret v) O2 (by obtain ⟨p, h1, h2⟩ := hq2; exact ⟨p, h1, h2⟩)).after T
theorem zF {tgt iter : Expr} {b o : List Stmt} {p : Pos} (hi : bZ prog w B C n iter) (hb : fK prog w B C n b) (ho : fK prog w B C n o) (hs : oV iter = true) : mT prog w B C n (.For tgt iter b o p) := by
 intro A E env κ G st s Q hA hE hκ O hw
 obtain ⟨hn, hw⟩ := hw
 have hn' : ∀ x ∈ bU tgt, zcq true env x := fun x hx => lP hκ (List.all_eq_true.mp hn x hx)
 refine wpAny_For (aE (hi A E true env κ G st s _ hA hE hκ O hw) fun xv G1 st1 s1 ⟨u, hq, hv⟩ O1 T1 => ?_) (fun x => jO hs env x)
 obtain ⟨items, hit, hz, hq⟩ := bJ hq
 obtain ⟨ρ1, σ1⟩ := st1
 refine xD O1.rep.inh hv hit fun I h' Ws g hI hlt hT hws => ?_
 have hTA := hT A hA.handled
 have O2 := O1.grow g O1.rep.tk
 have i1 := O1.g0 hI
 have i2 := O1.s0 hI
 have i3 := O1.l0 hI
 have i4 := O1.c0 hI
 refine codeAny_forLoop_any (fun k s' => ∃ done rest Gj ρj σj, items = done ++ rest /\ k = rest.length + 1 /\ Ws done.length s'.heap /\ Ok B w.params Gj env ⟨ρj, σj⟩ s' /\ e5 tgt (wSs C κ b) (wSs C κ o) Q rest ⟨ρj, σj⟩ /\
  Tr true env G1 ⟨ρ1, σ1⟩ s1 Gj ⟨ρj, σj⟩ s' /\ Gj I = none /\ σj I = none) ?_ (items.length + 1) ⟨[], items, G1, ρ1, σ1, rfl, rfl, hws, O2, hq, g.tr, i1, i2⟩
 rintro k s' ⟨done, rest, Gj, ρj, σj, hit', rfl, hwsj, Oj, hqj, Tj, j1, j2⟩
 cases rest with
 | nil =>
  rw [List.append_nil] at hit'
  subst hit'
  refine wpAny_with_toks (n := 1) Oj.rep.tk (hTA.done s' _ _ hwsj fun h2 tk hk htk => ?_)
  refine aE (ho A _ env κ Gj _ _ Q hA hE hκ (Oj.at1 j1 j2 i3 i4 htk hk) hqj) fun f G2 st2 s2 hq2 O2 T2 => ?_
  exact (aG (X := FX w.params Q) (a := f) O2 hq2).after (T1.trans ((Tj.at1 hI hk).trans T2))
 | cons v rest =>
  obtain ⟨ρb, hbind, hqj⟩ := bJ hqj
  refine wpAny_with_toks (n := 1) Oj.rep.tk (hTA.item done.length v s' _ _ (by rw [hit']; simp) hwsj fun val h2 tk hval hws2 hk hgo htk => ?_)
  have O3 := Oj.at1 j1 j2 i3 i4 htk hk
  have T3 := Tj.at1 (k := tk) hI hk
  obtain ⟨oI, aI⟩ := hTA.alive _ _ hws2
  refine hgo _ _ _ ?_
  refine aE (j4 (cw := true) hA.handled hE O3 hn' (hval.mono Tj.ext) hbind) fun _ G4 st4 s4 e4 O4 T4 => ?_
  subst e4
  refine aE (hb A _ env κ G4 _ s4 _ hA hE hκ O4 hqj) fun f G5 st5 s5 hq5 O5 T5 => ?_
  have T45 := T4.trans T5
  have T := T3.trans T45
  obtain ⟨ρ5, σ5⟩ := st5
  have inv : e5 tgt (wSs C κ b) (wSs C κ o) Q rest ⟨ρ5, σ5⟩ -> ∃ m, m < (v :: rest).length + 1 /\ ∃ done' rest' Gj ρj σj, items = done' ++ rest' /\ m = rest'.length + 1 /\ Ws done'.length s5.heap /\ Ok B w.params Gj env ⟨ρj, σj⟩ s5 /\ e5 tgt (wSs C κ b) (wSs C κ o) Q rest' ⟨ρj, σj⟩ /\
    Tr true env G1 ⟨ρ1, σ1⟩ s1 Gj ⟨ρj, σj⟩ s5 /\ Gj I = none /\ σj I = none := fun hq6 => by
   refine ⟨rest.length + 1, by simp, done ++ [v], rest, G5, ρ5, σ5, by rw [hit']; simp, rfl, ?_, O5, hq6, T, fU T45 aI j1, dB T45 aI j2⟩
   rw [List.length_append, List.length_singleton]
   exact hTA.frame _ _ _ hws2 (fun o e => T45.keep I o e i3 (fun _ x => i4 x) j2) fun a o e => O5.rep.inh a o (T.ext a o e)
  cases f with
  | next => exact inv hq5
  | cont => exact inv hq5
  | brk => exact (aG (X := FX w.params Q) (a := Flow.next) O5 hq5).after (T1.trans T)
  | ret v => exact (aG (X := FX w.params Q) (a := Flow.ret v) O5 (by obtain ⟨p, h1, h2⟩ := hq5; exact ⟨p, h1, h2⟩)).after (T1.trans T)
end
noncomputable def zcQ (ts : List Expr) (v : Expr) : Bool := (zdt v).isNone || ts.all fun t => (nmE t).isSome
theorem hY {ts : List Expr} {v : Expr} (h : zcQ ts v = true) (env : Env) : swappedStores ts v env = pure none := by
 match ts with
 | [] => rfl
 | a :: b :: r => cases a <;> first | rfl | (cases v <;> rfl)
 | [t] => cases t <;> first | rfl | (cases v <;> first | rfl | cases h)
theorem zbP {β : Type} {t : Expr} (h : nmE t = none) (a : β) (f : Str -> Pos -> β) (b : β) : (match (some t : Option Expr) with | none => a | some (.Name x p) => f x p | some _ => b) = b := by
 cases t <;> first | rfl | cases h
theorem zbz {v t : Expr} {line : Nat} {env : Env} (h : jJ v = true) : ∃ b, swapsWith v (some t) line env = pure b /\ (b = true -> ∃ x p, t = .Name x p /\ env.kindOf x = some .local) := by
 cases hn : nmE t with
 | some x =>
  obtain ⟨p, rfl⟩ := fB hn
  cases v <;> first | (cases h; done) | (refine ⟨_, rfl, fun h => ⟨x, p, rfl, ?_⟩⟩; simp only [Bool.and_eq_true, beq_iff_eq] at h; exact h.1.1.2)
 | none =>
  refine ⟨false, ?_, fun h => by cases h⟩
  cases v <;> first | (cases h; done) | exact zbP hn _ _ _
theorem kM (ts : List Expr) (v : Expr) (line : Nat) (env : Env) : ∃ b, swapsWithSole ts v line env = pure b /\ (b = true -> ∃ x px, ts = [.Name x px] /\ env.kindOf x = some .local /\ jJ v = true) := by
 match ts with
 | [] => exact ⟨false, rfl, fun h => by cases h⟩
 | _ :: _ :: _ => exact ⟨false, rfl, fun h => by cases h⟩
 | [t] =>
  by_cases hv : jJ v = true
  ·obtain ⟨b, h1, h2⟩ := zbz (t := t) (line := line) (env := env) hv
   exact ⟨b, h1, fun h => let ⟨x, p, e, k⟩ := h2 h; ⟨x, p, by rw [e], k, hv⟩⟩
  ·refine ⟨false, ?_, fun h => by cases h⟩
   cases v <;> first | rfl | exact absurd rfl hv
section
variable {prog : Program} {w : World} {B : Bs} {C : Ctx} {n : Nat}
theorem jS {t : Expr} (h : b9 t = true) {ts : List Expr} {env : Env} : assignEach (t :: ts) env = (false, assign t env) :: assignEach ts env := by cases t <;> first | rfl | cases h
theorem e6 {A : Around} {E : Value -> Shared -> Prop} {env : Env} {P : Params} (hh : A.handled = none) (hE : EnvOk env) : ∀ (ts : List Expr) (G : GM) (st : St) (s : Shared) (v : Value) (p : PV) (ρ' : dD), Ok B P G env st s -> (∀ t ∈ ts, ∀ x ∈ bU t, zcq true env x) -> ts.all b9 = true ->
  VRel P G v p -> mK ts p st.ρ = some ρ' -> wpAny (model prog w) A (assignAll v ((assignEach ts env).map (·.2))) (Lands B P true env G st s (fun _ st' _ => st' = ⟨ρ', st.σ⟩)) E s
 | [], G, st, s, v, p, ρ', O, hx, hs, hv, h => by
  cases h
  exact wpAny_pure (aG O rfl)
 | [t], G, st, s, v, p, ρ', O, hx, hs, hv, h => by
  obtain ⟨ρ1, e, h⟩ := Option.bind_eq_some_iff.mp h
  cases h
  rw [jS (aZ hs).1]
  exact j4 hh hE O (hx t List.mem_cons_self) hv e
 | t :: t' :: ts, G, st, s, v, p, ρ', O, hx, hs, hv, h => by
  obtain ⟨ρ1, e, h⟩ := Option.bind_eq_some_iff.mp h
  have hs' := (aZ hs).2
  have e2 := jS (env := env) (aZ hs').1 (ts := ts)
  rw [jS (aZ hs).1, List.map_cons, e2, List.map_cons]
  show wpAny _ _ (do holding [v] (assign t env v); assignAll v (assign t' env :: (assignEach ts env).map (·.2))) _ _ _
  refine wpAny_bind (wpAny_holding (aE (j4 (cw := true) hh hE O (hx t List.mem_cons_self) hv e) fun _ G1 st1 s1 e3 O1 T1 => ?_))
  subst e3
  have := e6 (E := E) hh hE (t' :: ts) G1 _ s1 v p ρ' O1 (fun y hy => hx y (List.mem_cons_of_mem _ hy)) hs' (hv.mono T1.ext) h
  rw [e2] at this
  exact aO T1 this
theorem uE {ts : List Expr} {x name : Str} (h : uF ts = some (x, name)) : ∃ px p, ts = [.Attribute (.Name x px) name p] := by
 match ts, h with
 | [t], h =>
  cases t <;> first | (cases h; done) | skip
  obtain ⟨y, hy, e⟩ := Option.map_eq_some_iff.mp h
  cases e
  obtain ⟨p, rfl⟩ := fB hy
  exact ⟨_, _, rfl⟩
theorem oK {ts : List Expr} {e : Expr} {p : Pos} (hB : BsOk B) (hC : CtxOk prog w B C n) (he : bZ prog w B C n e) (hsw : zcQ ts e = true) (hs : ts.all b9 = true)
  (hx : ∀ x name, uF ts = some (x, name) -> (x == ("__debug__" : Str)) = false /\ (x == ("__classdict__" : Str)) = false) (hsub : zdq prog w B C n e) : mT prog w B C n (.Assign ts e p) := by
 intro A E env κ G st s Q hA hE hκ O hw
 have hw : wE C e κ (fun v st1 => eK C κ ts v st1 fun st2 => Q .next st2) st := hw
 obtain ⟨b, hb, hb'⟩ := kM ts e p.line env
 cases b with
 | false =>
  refine wpAny_Assign_stores (aE (he A E true env κ G st s _ hA hE hκ O hw) fun v G1 st1 s1 ⟨u, hq, hv⟩ O1 T1 => ?_) hb (hY hsw env)
  cases ht : uF ts with
  | some xn =>
   obtain ⟨x, name⟩ := xn
   dsimp only [eK] at hq
   rw [ht] at hq
   obtain ⟨px, pa, rfl⟩ := uE ht
   obtain ⟨ok1, ok2⟩ := hx x name ht
   obtain ⟨y, ha, hq1⟩ := bJ hq
   obtain ⟨a, rfl, c, fs, i, h1, h2, h3, h4⟩ := sB hq1
   clear hq hq1
   show wpAny _ _ (assign (.Attribute (.Name x px) name pa) env v) _ _ _
   rw [show assign (.Attribute (.Name x px) name pa) env v = (do
    let ov <- holding [v] (PySem.eval (.Name x px) env)
    standAt pa.atName
    holding [v, ov] (setAttr ov name v)
    release [v, ov] []) from rfl]
   refine wpAny_bind (wpAny_holding (wpAny_Name (aE (o7 (p := px) hB hC ok2 A E true env κ G1 st1 s1 (fun q st' => q = .ptr a /\ st' = st1) hE hκ O1 (by rw [gT, if_neg (fun q => by have h1 := hκ.glob q; rcases O1.rep.kind x _ ha with h | h | h <;> rw [h1] at h <;> cases h), ha]; exact ⟨rfl, rfl⟩)) fun ov G2 st2 s2 ⟨q, ⟨hq1, hq2⟩, hov⟩ O2 T2 => ?_) ok1))
   subst hq1 hq2
   simp only [VRel] at hov; subst hov
   refine wpAny_bind (wpAny_standAt (wpAny_bind (wpAny_holding ?_)))
   refine aE (zaN (cw := true) hB hC O2 h1 h2 h3 (hv.mono T2.ext)) fun _ G3 st3 s3 e3 O3 T3 => wpAny_release' ?_
   subst e3
   exact (aG (X := FX w.params Q) (a := Flow.next) O3 h4).after (T1.trans (T2.trans T3))
  | none =>
   dsimp only [eK] at hq
   rw [ht] at hq
   obtain ⟨hn, hq⟩ := hq
   obtain ⟨ρ', hbnd, hq⟩ := bJ hq
   refine aE (e6 hA.handled hE ts G1 st1 s1 v u ρ' O1 (fun t ht x hx => lP hκ (List.all_eq_true.mp (List.all_eq_true.mp hn t ht) x hx)) hs hv hbnd) fun _ G2 st2 s2 e2 O2 T2 => ?_
   subst e2
   exact (aG (X := FX w.params Q) (a := Flow.next) O2 hq).after (T1.trans T2)
 | true =>
  obtain ⟨x, px, rfl, hl, hcm⟩ := hb' rfl
  obtain ⟨elt, tgt, iter, ifs, asy, sc, cp, rfl⟩ : ∃ elt tgt iter ifs asy sc cp, e = .ListComp elt [⟨tgt, iter, ifs, asy⟩] sc cp := by
   cases e <;> first | (cases hcm; done) | exact False.elim hw | skip
   rename_i elt gens sc cp _
   match gens, hw with
   | [], hw => exact False.elim hw
   | ⟨_, _, _, _⟩ :: _ :: _, hw => exact False.elim hw
   | [⟨_, _, _, _⟩], _ => exact ⟨_, _, _, _, _, _, _, rfl⟩
  obtain ⟨s1, s2, s3, s4⟩ := hsub _ _ _ _ rfl
  clear hsub he hsw hb'
  obtain ⟨rfl, hsc, hn, hw⟩ := (show asy = 0 /\ cO κ sc = true /\ (bU tgt).all (fun x => sc.names.lookup x == some .local) = true /\ wE C iter κ _ st from hw)
  have hn' : ∀ x ∈ bU tgt, sc.names.lookup x = some .local := fun x hx => by simpa using List.all_eq_true.mp hn x hx
  have hclos := lD (scope := sc) (env := env) fun m hm hf => by
   obtain ⟨c, v, h1, h2⟩ := O.rep.cell0 m.1 (gW hκ hsc m hm hf)
   exact ⟨c, h1⟩
  rw [exec_Assign_arm]
  refine wpAny_bind (wpAny_standAt ?_)
  rw [hb]
  refine wpAny_bind (wpAny_pure ?_)
  rw [if_pos rfl]
  show wpAny _ A (do
   (do let _ <- comprehension (.ListComp elt [⟨tgt, iter, ifs, 0⟩] sc cp) sc env iter.pos (newList []) false (PySem.eval iter env) (some (assign (.Name x px) env)))
   pure Flow.next) _ _ s
  refine wpAny_bind (wpAny_bind (wpAny_mono (wpAny_comprehension_free (use := some (assign (.Name x px) env)) (Q := fun _ s' => Lands B w.params true env G st s (FX w.params Q) Flow.next s') rfl (fun x => jO s4 env x) hclos (lT hsc) (qK hsc) ?_) (fun _ s' hq => wpAny_pure (wpAny_pure hq)) fun _ _ e => e))
  refine aE (s2 A E true env κ G st s _ hA hE hκ O hw) fun xv G1 st1 s1' ⟨u, hq, hv⟩ O1 T1 => ?_
  obtain ⟨ρ1, σ1⟩ := st1
  obtain ⟨items, hit, hq⟩ := bJ hq
  ·refine lC s1 s3 hA hE hκ hsc hn' O1 hv hit hq.1 hq.2 fun D L G' σ' s' acc ys m hq' O' F' hp hr d1 d2 d3 hm hL l1 l2 hDL hz => ?_
   obtain ⟨p', G'', σ'', hQ, O2, F2, hv2, l3, l4⟩ := rY O1 hq' O' F' hp hr d1 d2 d3 l1 l2 hDL hz
   show wpAny _ A (assign (.Name x px) env (.ref D)) _ _ _
   have hbnd : eK C κ [.Name x px] p' ⟨ρ1, σ''⟩ (fun st2 => Q .next st2) := hQ
   obtain ⟨_, hbnd⟩ := (show _ /\ opt _ fun ρ' => Q .next ⟨ρ', σ''⟩ from hbnd)
   have hstor : zcq true env x := .inl hl
   obtain ⟨oL, eL⟩ : ∃ o, s'.heap.get? L = some o := by obtain ⟨o, _, _, h1, _⟩ := hm; exact ⟨o, h1⟩
   refine aE (j4 (cw := true) (t := .Name x px) (ρ' := upd ρ1 x p') hA.handled hE O2 (fun y hy => by have e := List.mem_singleton.mp (show y ∈ [x] from hy); subst e; exact hstor) hv2 rfl) fun _ G3 st3 s3' e3 O3 T3 => ?_
   subst e3
   refine ⟨m, hm.at' fun o e => T3.keep L o e (O1.l0 hL) (fun _ y => O1.c0 hL y) l4, fun h' hs' => ?_⟩
   have O4 := yP O3.rep.tk O1 hL O3 (fU T3 eL l3) (dB T3 eL l4) hs'
   refine ⟨G3, _, hbnd, O4, ?_⟩
   exact T1.trans ((F2.tr.trans T3).at1 hL fun b o hb e => (hs'.2 b hb).trans e)
end
section
variable {prog : Program} {w : World} {B : Bs} {C : Ctx} {n : Nat}
theorem o6 (hB : BsOk B) {env : Env} (hE : EnvOk env) (id : Str) (p : Pos) : ∃ b, Looks (model prog w) B.h₀ (do return (<- importBound (.Name id p) env).getD true) b := by
 have ns : ∀ s : Shared, (∀ a o, B.h₀.get? a = some o -> s.heap.get? a = some o) -> s.heap.Ns env.globals B.mg := fun s k => by rw [hE.glob]; exact hB.g.keeps k
 have triv : ∀ v, (∀ x t, v ≠ some (.str x t)) -> B.mg "__name__" = v -> Looks (model prog w) B.h₀ (do return (<- importBound (.Name id p) env).getD true) true := by
  intro v hv e A Q E s k q
  unfold importBound
  refine wpAny_bind (wpAny_bind (wpAny_askSetting (wpAny_bind (wpAny_nsGet (ns s k) ?_))))
  rw [e]
  cases v with
  | none => exact wpAny_pure (wpAny_pure q)
  | some v => cases v <;> first | exact wpAny_pure (wpAny_pure q) | exact absurd rfl (hv _ _)
 cases e : B.mg "__name__" with
 | none => exact ⟨true, triv none (fun _ _ h => by cases h) e⟩
 | some v =>
  cases v with
  | str x t =>
   refine ⟨((if (x == ("__main__" : Str)) = true then some prog.main else (prog.modules.lookup x).map (·.2)).map fun top => importsBind id top.body).getD true, fun A Q E s k q => ?_⟩
   unfold importBound
   refine wpAny_bind (wpAny_bind (wpAny_askSetting (wpAny_bind (wpAny_nsGet (ns s k) ?_))))
   rw [e]
   exact wpAny_pure (wpAny_pure q)
  | _ => exact ⟨true, triv _ (fun _ _ h => by cases h) e⟩
theorem mB {e : Expr} {args : List Expr} (h : dF e = some args) : ∃ np ap p, e = .Call (.Attribute (.Name "Node" np) "__init__" ap) args [] p := by
 cases e <;> first | (cases h; done) | skip
 rename_i f as kws p
 cases f <;> first | (cases h; done) | skip
 rename_i o m ap
 have h : (if nmE o = some "Node" /\ m = "__init__" /\ kws.isEmpty = true then some as else none) = some args := h
 by_cases q : nmE o = some "Node" /\ m = "__init__" /\ kws.isEmpty = true
 ·rw [if_pos q] at h
  cases h
  obtain ⟨q1, rfl, q3⟩ := q
  obtain ⟨np, rfl⟩ := fB q1
  cases List.isEmpty_iff.mp q3
  exact ⟨_, _, _, rfl⟩
 ·rw [if_neg q] at h; cases h
theorem vJ {args : List Expr} {np ap cp p : Pos} (hB : BsOk B) (hC : CtxOk prog w B C n) (h : ∀ e ∈ args, bZ prog w B C n e) (hs : args.all b9 = true) (hlen : args.length < 30) (hline : (ap.endLine == cp.line) = true) :
  mT prog w B C n (.Expr (.Call (.Attribute (.Name "Node" np) "__init__" ap) args [] cp) p) := by
 intro A E env κ G st s Q hA hE hκ O hw
 obtain ⟨hi, hk, hw⟩ : C.ini = true /\ κ "Node" = some .globalImplicit /\ wEs C args κ (fun vs st1 => xK C vs st1 fun st2 => Q .next st2) st := by
  have e : (if nmE (.Name "Node" np) = some "Node" /\ ("__init__" : Str) = "__init__" /\ ([] : List Keyword).isEmpty = true then some args else none) = some args := if_pos ⟨rfl, rfl, rfl⟩
  rw [lI, show dF (.Call (.Attribute (.Name "Node" np) "__init__" ap) args [] cp) = some args from e] at hw
  exact hw
 obtain ⟨nodeV, fV, i1, i2, i3, i4⟩ := hC.ini hi
 obtain ⟨b, hb⟩ := o6 (prog := prog) (w := w) hB hE "Node" np
 refine wpAny_Expr_any ?_ (qY hE) rfl
 have hform : methodCallForm (args.length + ([] : List Keyword).length) (backTo cp (starEach args env)) (backToKw cp (keywordEach [] env)) = true := by
  unfold methodCallForm
  rw [fZ args env hs]
  simp [keywordEach, backToKw]
  omega
 have hpos : methodCallPos true (.Name "Node" np) env ap cp = pure cp := by unfold methodCallPos; simp [hline]
 rw [arm_eval_Call, pK rfl]
 refine wpAny_bind (wpAny_Name ?_ (by decide +kernel))
 rw [loadName_read hE.kind (hκ.glob hk)]
 refine cW hB hE O.rep.inh O.over i1 ?_
 refine wpAny_bind (wpAny_standAt ?_)
 unfold methodCall
 rw [hform]
 refine wpAny_bind (wpAny_holding (i3 A E s _ _ b (fun a o e => O.rep.inh _ _ (O.over _ _ e)) hb fun k hk' => ?_))
 refine wpAny_bind (wpAny_of_eq hpos ?_)
 have g := GS.toks O.rep.inh k
 have O0 := O.grow g (show 1 <= k from Nat.le_trans O.rep.tk hk')
 refine dI (iW args env hs) (wpAny_mono (lR args h hs A E true env κ G st _ _ hA hE hκ O0 hw) (fun a s1 ⟨vs, ha, G1, st1, ⟨ps, hq, hv⟩, O1, T1⟩ => ?_) fun _ _ e => e)
 subst ha
 refine ⟨O1.keepsAt i2, ?_⟩
 obtain ⟨p, pa, pb, rfl, hq1⟩ := lL hq
 obtain ⟨ad, rfl, hq2⟩ := sB hq1
 clear hq hq1
 obtain ⟨v, _, rfl, h0, va, _, rfl, h1, vb, _, rfl, h2, rfl⟩ := hv
 simp only [VRel] at h0
 subst h0
 refine wpAny_mono (i4 A E true env G1 st1 s1 ad va vb pa pb _ hA O1 h1 h2 hq2) (fun v s2 ⟨G2, st2, hq2, O2, T2⟩ => ?_) fun _ _ e => e
 exact (aG (X := FX w.params Q) (a := Flow.next) O2 hq2).after (g.tr.trans (T1.trans T2))
noncomputable def za5 (ts : List Expr) : Bool := match uF ts with
 | some xn => okN xn.1
 | none => true
mutual
noncomputable def okS : Stmt -> Bool
 | .Expr e _ => okE e
 | .Return e _ => okO e
 | .Assign ts e _ => okE e && (zcQ ts e && (ts.all b9 && za5 ts))
 | .AugAssign t _ e _ => okE e && okE t
 | .If t b o _ => okE t && (mQ b && mQ o)
 | .While t b o _ => okE t && (mQ b && mQ o)
 | .For _ iter b o _ => okE iter && (oV iter && (mQ b && mQ o))
 | .Try b _ o _ _ => mQ b && mQ o
 | _ => true
noncomputable def mQ : List Stmt -> Bool
 | [] => true
 | s :: ss => okS s && mQ ss
end
theorem kG {s : Stmt} (h : ∀ κ Q st, ¬ wS C κ s Q st) : mT prog w B C n s := fun _ _ _ _ _ _ _ _ _ _ _ _ hw => (h _ _ _ hw).elim
theorem sR {e : Expr} {p : Pos} (hB : BsOk B) (hC : CtxOk prog w B C n) (h : okE e = true) : mT prog w B C n (.Expr e p) := by
 cases hi : dF e with
 | none => exact vK (snd hB hC h) hi
 | some args =>
  obtain ⟨np, ap, cp, rfl⟩ := mB hi
  have h := (aZ (aZ h).2)
  exact vJ hB hC (fun e he => (fP hB hC args h.1 e he).1) (aZ h.2).1 (of_decide_eq_true (aZ (aZ h.2).2).1) (aZ (aZ h.2).2).2
theorem vN {t e : Expr} {op : Operator} {p : Pos} (hB : BsOk B) (hC : CtxOk prog w B C n) (h : okE e = true) (ht : okE t = true) : mT prog w B C n (.AugAssign t op e p) := by
 cases hn : nmE t with
 | none => exact kG fun κ Q st hw => by have hw : opt (nmE t) _ := hw; rw [hn] at hw; exact hw
 | some x =>
  obtain ⟨px, rfl⟩ := fB hn
  exact zG hB hC (snd hB hC h) (dE (aZ ht).2)
theorem vH {b o f : List Stmt} {hs : List ExceptHandler} {p : Pos} (hb : fK prog w B C n b) (ho : fK prog w B C n o) : mT prog w B C n (.Try b hs o f p) := by
 cases hs with
 | nil => exact kG fun κ Q st hw => Bool.noConfusion hw.1
 | cons h hs => cases f with
  | nil => exact zD hb ho
  | cons f fs => exact kG fun κ Q st hw => Bool.noConfusion hw.2.1
theorem m4 {ts : List Expr} {e : Expr} {p : Pos} (hB : BsOk B) (hC : CtxOk prog w B C n) (h : okE e = true) (h1 : zcQ ts e = true) (h2 : ts.all b9 = true) (h3 : za5 ts = true) : mT prog w B C n (.Assign ts e p) :=
 oK hB hC (snd hB hC h) h1 h2 (fun x name hx => by
  have h3 : (match uF ts with
   | some xn => okN xn.1
   | none => true) = true := h3
  rw [hx] at h3; exact ⟨dE (aZ h3).1, dE (aZ h3).2⟩) (c9 hB hC e h).2.2
mutual
theorem zdI (hB : BsOk B) (hC : CtxOk prog w B C n) : ∀ s : Stmt, okS s = true -> mT prog w B C n s
 | .Expr _ _, h => sR hB hC h
 | .Break _, _ => sS
 | .Continue _, _ => vL
 | .Return (some _) _, h => oJ (snd hB hC h)
 | .Return none _, _ => kG fun _ _ _ h => h
 | .Assign _ _ _, h => m4 hB hC (aZ h).1 (aZ (aZ h).2).1 (aZ (aZ (aZ h).2).2).1 (aZ (aZ (aZ h).2).2).2
 | .AugAssign _ _ _ _, h => vN hB hC (aZ h).1 (aZ h).2
 | .If _ b o _, h => zbA (sndT hB hC (aZ h).1) (fN hB hC b (aZ (aZ h).2).1) (fN hB hC o (aZ (aZ h).2).2)
 | .While _ b o _, h => sQ (sndT hB hC (aZ h).1) (fN hB hC b (aZ (aZ h).2).1) (fN hB hC o (aZ (aZ h).2).2)
 | .For _ _ b o _, h => zF (snd hB hC (aZ h).1) (fN hB hC b (aZ (aZ (aZ h).2).2).1) (fN hB hC o (aZ (aZ (aZ h).2).2).2) (aZ (aZ h).2).1
 | .Try b _ o _ _, h => vH (fN hB hC b (aZ h).1) (fN hB hC o (aZ h).2)
 | .FunctionDef _ _ _ _ _ _ _ _ _ _, _ => kG fun _ _ _ h => h
 | .AsyncFunctionDef _ _ _ _ _ _ _ _ _ _, _ => kG fun _ _ _ h => h
 | .ClassDef _ _ _ _ _ _ _ _ _ _ _, _ => kG fun _ _ _ h => h
 | .Delete _ _, _ => kG fun _ _ _ h => h
 | .TypeAlias _ _ _ _ _ _ _, _ => kG fun _ _ _ h => h
 | .AnnAssign _ _ _ _ _, _ => kG fun _ _ _ h => h
 | .AsyncFor _ _ _ _ _, _ => kG fun _ _ _ h => h
 | .With _ _ _, _ => kG fun _ _ _ h => h
 | .AsyncWith _ _ _, _ => kG fun _ _ _ h => h
 | .Match _ _ _, _ => kG fun _ _ _ h => h
 | .Raise _ _ _, _ => kG fun _ _ _ h => h
 | .TryStar _ _ _ _ _, _ => kG fun _ _ _ h => h
 | .Assert _ _ _, _ => kG fun _ _ _ h => h
 | .Import _ _, _ => kG fun _ _ _ h => h
 | .ImportFrom _ _ _ _, _ => kG fun _ _ _ h => h
 | .Global _ _, _ => kG fun _ _ _ h => h
 | .Nonlocal _ _, _ => kG fun _ _ _ h => h
 | .Pass _, _ => kG fun _ _ _ h => h
theorem fN (hB : BsOk B) (hC : CtxOk prog w B C n) : ∀ ss : List Stmt, mQ ss = true -> fK prog w B C n ss
 | [], _ => zE
 | s :: ss, h => vM (zdI hB hC s (aZ h).1) (fN hB hC ss (aZ h).2)
end
theorem zdH (hB : BsOk B) (hC : CtxOk prog w B C n) {ss : List Stmt} (h : mQ ss = true) : fK prog w B C n ss := fN hB hC ss h
end
theorem eC {P : Params} {G : GM} {σ : Nat -> Option Cell} {h : Heap} (hc : ∀ a c, σ a = some c -> CellRel P G h a c /\ G a = none) : Sub G (frz G σ h) := rL fun a c e => (hc a c e).2
mutual
theorem v6 {P : Params} {G : GM} {σ : Nat -> Option Cell} {h : Heap} (hc : ∀ a c, σ a = some c -> CellRel P G h a c /\ G a = none) : ∀ (t : PV) {p : PV} {v : Value}, VRel P G v p -> Res σ p t -> VRel P (frz G σ h) v t
 | .tup ts, p, v, hv, r => by
  simp only [Res] at r
  obtain ⟨xs, rfl, r⟩ := r
  simp only [VRel] at hv ⊢
  obtain ⟨a, o, vs, n, h1, h2, h3, h4, h5, h6⟩ := hv
  exact ⟨a, o, vs, n, h1, eC hc _ _ h2, h3, h4, h5, gG hc ts h6 r⟩
 | .list ts, p, v, hv, r => by
  simp only [Res] at r
  rcases r with ⟨xs, rfl, r⟩ | ⟨a, xs, rfl, e, r⟩
  ·simp only [VRel] at hv ⊢
   obtain ⟨a, o, vs, n, h1, h2, h3, h3', h4, h5, h6⟩ := hv
   exact ⟨a, o, vs, n, h1, eC hc _ _ h2, h3, h3', h4, h5, gG hc ts h6 r⟩
  ·simp only [VRel] at hv; subst hv
   obtain ⟨⟨vs, m, g1, g2, g3⟩, _⟩ := hc a _ e
   simp only [VRel]
   exact ⟨a, _, vs, m, rfl, (if_pos (by rw [e]; rfl)).trans g1, rfl, rfl, rfl, g2, gG hc ts g3 r⟩
 | .inst c ts, p, v, hv, r => by
  simp only [Res] at r
  obtain ⟨xs, rfl, r⟩ := r
  simp only [VRel] at hv ⊢
  obtain ⟨vs, h1, h2⟩ := hv
  exact ⟨vs, h1.mono (eC hc), gG hc ts h2 r⟩
 | .none, p, v, hv, r => by simp only [Res] at r; subst r; exact hv.mono (eC hc)
 | .bool _, p, v, hv, r => by simp only [Res] at r; subst r; exact hv.mono (eC hc)
 | .int _, p, v, hv, r => by simp only [Res] at r; subst r; exact hv.mono (eC hc)
 | .str _, p, v, hv, r => by simp only [Res] at r; subst r; exact hv.mono (eC hc)
 | .rng _ _, p, v, hv, r => by simp only [Res] at r; subst r; exact hv.mono (eC hc)
 | .ptr _, p, v, hv, r => by simp only [Res] at r
theorem gG {P : Params} {G : GM} {σ : Nat -> Option Cell} {h : Heap} (hc : ∀ a c, σ a = some c -> CellRel P G h a c /\ G a = none) : ∀ (ts : List PV) {ps : List PV} {vs : List Value}, VRels P G vs ps -> n9 σ ps ts -> VRels P (frz G σ h) vs ts
 | [], ps, vs, hv, r => by
  simp only [n9] at r; subst r
  simp only [VRels] at hv ⊢; exact hv
 | t :: ts, ps, vs, hv, r => by
  simp only [n9] at r
  obtain ⟨y, ys, rfl, r1, r2⟩ := r
  simp only [VRels] at hv ⊢
  obtain ⟨v, us, rfl, h1, h2⟩ := hv
  exact ⟨v, us, rfl, v6 hc t h1 r1, gG hc ts h2 r2⟩
end
noncomputable def aV : List (Str × PV) -> dD -> dD
 | [], ρ => ρ
 | (x, p) :: r, ρ => aV r (upd ρ x p)
theorem lG {kindOf : Str -> Option NameKind} : ∀ (l : List (Str × PV)) (ρ : dD), (∀ x p, ρ x = some p -> kindOf x = some .local \/ kindOf x = some .cell) -> (∀ y ∈ l, kindOf y.1 = some .local \/ kindOf y.1 = some .cell) ->
  ∀ x p, aV l ρ x = some p -> kindOf x = some .local \/ kindOf x = some .cell
 | [], ρ, h, _, x, p, e => h x p e
 | (n, q) :: r, ρ, h, hl, x, p, e => by
  refine lG r (upd ρ n q) (fun y p e => ?_) (fun y hy => hl y (List.mem_cons_of_mem _ hy)) x p e
  unfold upd at e
  split at e
  ·rename_i hh; subst hh; exact hl (_, q) (by simp)
  ·exact h y p e
theorem r8 {P : Params} {G : GM} {kindOf : Str -> Option NameKind} : ∀ (l : List (Str × Value)) (pl : List (Str × PV)) (ρ : dD) (m cm : Str -> Option Value),
  (∀ x p, ρ x = some p -> kindOf x = some .local -> ∃ v, m x = some v /\ VRel P G v p) -> (∀ x p, ρ x = some p -> kindOf x ≠ some .local -> ∃ v, cm x = some v /\ VRel P G v p) ->
  l.map (·.1) = pl.map (·.1) -> VRels P G (l.map (·.2)) (pl.map (·.2)) ->
  (∀ x p, aV pl ρ x = some p -> kindOf x = some .local -> ∃ v, bindL kindOf l m x = some v /\ VRel P G v p) /\ (∀ x p, aV pl ρ x = some p -> kindOf x ≠ some .local -> ∃ v, bindC kindOf l cm x = some v /\ VRel P G v p)
 | [], [], ρ, m, cm, h1, h2, _, _ => ⟨h1, h2⟩
 | [], _ :: _, _, _, _, _, _, h, _ => by simp at h
 | _ :: _, [], _, _, _, _, _, h, _ => by simp at h
 | (n, v) :: l, (n', p) :: pl, ρ, m, cm, h1, h2, h3, h4 => by
  simp only [List.map_cons, List.cons.injEq] at h3
  obtain ⟨rfl, h3⟩ := h3
  simp only [List.map_cons, VRels] at h4
  obtain ⟨v', r, e, hv, h4⟩ := h4
  cases e
  refine r8 l pl (upd ρ n p) _ _ (fun x q e hk => ?_) (fun x q e hk => ?_) h3 h4
  ·unfold upd at e
   split at e
   ·rename_i hx; subst hx; cases e
    exact ⟨v, by rw [if_pos hk]; simp, hv⟩
   ·rename_i hx
    obtain ⟨u, a, b⟩ := h1 x q e hk
    refine ⟨u, ?_, b⟩
    split
    ·show (if x = n then some v else m x) = _
     rw [if_neg hx]; exact a
    ·exact a
  ·unfold upd at e
   split at e
   ·rename_i hx; subst hx; cases e
    exact ⟨v, by rw [if_neg hk]; simp, hv⟩
   ·rename_i hx
    obtain ⟨u, a, b⟩ := h2 x q e hk
    refine ⟨u, ?_, b⟩
    split
    ·exact a
    ·show (if x = n then some v else cm x) = _
     rw [if_neg hx]; exact a
theorem hU : ∀ (names : List (Str × NameKind)) (n : Nat) (acc : List (Str × Addr)) (x : Str), (List.lookup x acc).isSome = true -> (List.lookup x (cellsFrom n names acc)).isSome = true
 | [], _, _, _, h => h
 | (m, k) :: r, n, acc, x, h => by
  unfold cellsFrom
  split
  ·refine hU r _ _ x ?_
   rw [List.lookup_cons]
   split
   ·rfl
   ·exact h
  ·exact hU r _ _ x h
theorem d4 : ∀ (names : List (Str × NameKind)) (n : Nat) (acc : List (Str × Addr)) (x : Str), (x, NameKind.cell) ∈ names -> (List.lookup x (cellsFrom n names acc)).isSome = true
 | [], _, _, _, h => by simp at h
 | (m, k) :: r, n, acc, x, h => by
  unfold cellsFrom
  rcases List.mem_cons.mp h with e | e
  ·cases e
   rw [if_pos (by decide)]
   exact hU r _ _ _ (by simp [List.lookup_cons])
  ·split
   ·exact d4 r _ _ x e
   ·exact d4 r _ _ x e
noncomputable def jA (K : PV -> Prop) : Fl -> St -> Prop
 | .ret v, st => ∃ t, Res st.σ v t /\ K t
 | .next, _ => K .none
 | .brk, _ => False
 | .cont, _ => False
structure FunAt (K : Frag) (a : Addr) (fd : FuncData) (body : List Stmt) : Prop where
 at_ : ∃ c d sl, K.lookup a = some ⟨c, d, .func fd, sl⟩
 body : fd.body = .stmts body
 clo : fd.closure = []
 glob : fd.globals = mainGlobals
 bi : fd.builtins = builtinsNs
 code : codeIn K fd.code fd.qualname = true
 co : fd.scope.isCoroutine = false
 gen : fd.scope.isGenerator = false
 kind : fd.scope.kind = .function
 free : fd.scope.names.all (fun n => !(n.2 == .free)) = true
section
variable {prog : Program} {w : World} {B : Bs} {C : Ctx} {n : Nat}
theorem jM {a : Addr} {fd : FuncData} {body : List Stmt} (hB : BsOk B) (hF : FunAt B.K a fd body) : KeepsAt prog w B.h₀ (.ref a) := by
 obtain ⟨c, d, sl, h⟩ := hF.at_
 refine ⟨.frame, fun A Q E s k q => ?_⟩
 unfold keeperOf
 exact wpAny_bind (wpAny_load (k _ _ (hB.kin _ _ h)) (wpAny_pure q))
end
section
variable {prog : Program} {w : World} {B : Bs} {C : Ctx} {n : Nat}
theorem n3 {P : Params} {G : GM} {s s₁ : Shared} {fd : FuncData} {a : Addr} {params : List Str} {vals : List Value} {ps : List PV} (hi : InH G s.heap) (tk : 1 <= s₁.toks) (ho : Over B G)
  (hpar : ∀ x ∈ params, fd.scope.names.lookup x = some .local \/ fd.scope.names.lookup x = some .cell) (hlen : params.length = ps.length) (hv : VRels P G vals ps) {σ : Nat -> Option Cell} (hσ : ∀ a c, σ a = some c -> CellRel P G s.heap a c /\ G a = none)
  (x : InCallC s (callEnvC fd s.heap.objs.size a).locals (bindL (callEnvC fd s.heap.objs.size a).kindOf (params.zip vals) fun _ => none) (callEnvC fd s.heap.objs.size a).cells (bindC (callEnvC fd s.heap.objs.size a).kindOf (params.zip vals) fun _ => none) s₁) :
  Ok B P G (callEnvC fd s.heap.objs.size a) ⟨aV (params.zip ps) fun _ => none, σ⟩ s₁ := by
 have hlv := hv.length
 have e1 : (params.zip vals).map (·.1) = (params.zip ps).map (·.1) := by
  rw [List.map_fst_zip (by omega), List.map_fst_zip (by omega)]
 have e2 : VRels P G ((params.zip vals).map (·.2)) ((params.zip ps).map (·.2)) := by
  rw [List.map_snd_zip (by omega), List.map_snd_zip (by omega)]; exact hv
 have kp := x.toInCall.keep
 obtain ⟨hL, hC⟩ := r8 (P := P) (G := G) (kindOf := (callEnvC fd s.heap.objs.size a).kindOf) (params.zip vals) (params.zip ps) (fun _ => none) (fun _ => none) (fun _ => none) (fun _ _ e => by cases e) (fun _ _ e => by cases e) e1 e2
 have hk : ∀ y p, aV (params.zip ps) (fun _ => none) y = some p -> (callEnvC fd s.heap.objs.size a).kindOf y = some .local \/ (callEnvC fd s.heap.objs.size a).kindOf y = some .cell :=
  lG _ _ (fun _ _ e => by cases e) fun y hy => hpar y.1 (List.of_mem_zip hy).1
 have fresh : ∀ c, s.heap.objs.size <= c -> s.heap.get? c = none := fun c h => oU h
 have cellsAt : ∀ y c, (callEnvC fd s.heap.objs.size a).cells.lookup y = some c -> s.heap.get? c = none /\ c ≠ s.heap.objs.size := fun y c e => by
  have := x.above y c (PySem.mem_of_lookup e)
  exact ⟨fresh c (Nat.le_of_lt this), Nat.ne_of_gt this⟩
 have hG : ∀ c, s.heap.get? c = none -> G c = none := fun c h => by
  cases q : G c with
  | none => rfl
  | some o => have := hi c o q; rw [h] at this; cases this
 have have_cell : ∀ y, (callEnvC fd s.heap.objs.size a).kindOf y = some .cell -> ∃ c, (callEnvC fd s.heap.objs.size a).cells.lookup y = some c := fun y e =>
  Option.isSome_iff_exists.mp (d4 fd.scope.names _ [] y (mem_of_lookup e))
 refine ⟨ho, ⟨fun b o e => kp b o (hi b o e), tk, ⟨_, x.toInCall.ns, hL⟩, fun y p e => (hk y p e).elim .inl fun q => .inr (.inl q), ?_, ?_, hG _ (fresh _ (Nat.le_refl _)), fun y c e => ⟨hG c (cellsAt y c e).1, (cellsAt y c e).2⟩, ?_, fun b c e => ?_⟩, ?_⟩
 ·intro y p e q
  rcases hk y p e with q1 | q1
  ·exact absurd q1 q
  ·obtain ⟨c, hc⟩ := have_cell y q1
   obtain ⟨v, h1, h2⟩ := hC y p e q
   exact ⟨c, v, hc, by have := x.cell y c hc; rwa [h1] at this, h2⟩
 ·intro y e
  obtain ⟨c, hc⟩ := have_cell y e
  exact ⟨c, _, hc, x.cell y c hc⟩
 ·intro y z c e1 e2
  exact name_of_addr x.apart (PySem.mem_of_lookup e1) (PySem.mem_of_lookup e2)
 ·obtain ⟨h1, h2⟩ := hσ b c e
  obtain ⟨o, hob⟩ := h1.alive
  refine ⟨h1.mono (.refl _) fun o e => kp b o e, h2, fun q => ?_, fun y q => ?_⟩
  ·rw [show b = s.heap.objs.size from q, cY] at hob; cases hob
  ·rw [(cellsAt y b q).1] at hob; cases hob
 ·intro y c e
  obtain ⟨o, ho, _⟩ := x.cell y c e
  exact ⟨o, ho⟩
noncomputable def Ok0 (B : Bs) (P : Params) (G : GM) (env : Env) (st : St) (s : Shared) : Prop := ∀ k, 1 <= k -> Ok B P G env st { s with toks := k }
theorem rI {tk0 : Prop} {a : Addr} {fd : FuncData} {body : List Stmt} {params : List Str} {k : Nat} {dv : List Value} {dp : List PV} (hB : BsOk B) (hF : FunAt B.K a fd body)
  (hb : ∀ (A : Around) (E : Value -> Shared -> Prop) (env : Env) (G : GM) (st : St) (sh : Shared) (Q : Fl -> St -> Prop), Room n A -> EnvOk env -> KOk (bV fd.scope.names) env -> Ok0 B w.params G env st sh -> (tk0 -> 1 <= sh.toks) ->
   wSs C (bV fd.scope.names) body Q st -> wpAny (model prog w) A (execs body env) (Lands B w.params true env G st sh (FX w.params Q)) E sh)
  (hpar : ∀ x ∈ params, fd.scope.names.lookup x = some .local \/ fd.scope.names.lookup x = some .cell) (hlen : params.length = k + dp.length)
  (hd : ∀ G, VRels w.params G dv dp)
  (hbind : ∀ (s : Shared) (vals : List Value), B.K.In s.heap -> vals.length = k -> BindsTo s fd ⟨vals, []⟩ (params.zip (vals ++ dv))) :
  ∀ (A : Around) (E : Value -> Shared -> Prop) (G : GM) (s : Shared) (args : List Value) (ps : List PV) (K : PV -> Prop), Room (n + 1) A -> InH G s.heap -> (tk0 -> 1 <= s.toks) -> Over B G -> VRels w.params G args ps ->
   ps.length = k /\ wSs C (bV fd.scope.names) body (jA K) ⟨aV (params.zip (ps ++ dp)) fun _ => none, fun _ => none⟩ -> GW (model prog w) A w.params E G s (call (.ref a) args) K := by
 intro A E G s args ps K hA hi tk ho hv ⟨hl, hw⟩
 obtain ⟨c, d, sl, hat⟩ := hF.at_
 have hin : B.K.In s.heap := hB.kin.keeps fun b o e => hi _ _ (ho _ _ e)
 have hv' := hv.append (hd G)
 have hlv := hv'.length
 unfold GW
 refine wpAny_call (codeAny_call_function (body := body) (by have := hA.depth; show A.depth < 1000; omega) (hin _ _ hat) rfl hF.co hF.gen hF.body (codeRec_of hin hF.code) (hbind s args hin (by rw [hv.length, hl]) _ _ _ _ ?_))
 rw [hF.clo]
 refine wpAny_with_toks (n := s.toks) (Nat.le_refl _) (wpAny_newFunctionEnv_cells hF.kind (fun y hy => ?_) fun env he s₁ x htk => ?_)
 ·rcases hpar y.1 (List.of_mem_zip hy).1 with q | q
  ·exact .inl q
  ·exact .inr ⟨q, d4 _ _ [] _ (mem_of_lookup q)⟩
 rw [<- show callEnvC fd s.heap.objs.size a = newEnv fd.scope s.heap.objs.size fd.globals (cellsFrom (s.heap.objs.size + 1) fd.scope.names []) (fd.qualname ++ ".<locals>.") (some a) fd.code none fd.builtins from rfl] at he
 subst he
 have kp := x.toInCall.keep
 refine ⟨(hB.lim.keeps fun b o e => hi _ _ (ho _ _ e)).keeps kp, codeAny_func ?_⟩
 have O : Ok0 B w.params G _ _ s₁ := fun t ht => n3 (B := B) (s₁ := { s₁ with toks := t }) hi ht ho hpar (by rw [hlen, List.length_append, hl]) hv' (σ := fun _ => none) (fun _ _ e => by cases e) (x.tok t)
 have hκ : KOk (bV fd.scope.names) (callEnvC fd s.heap.objs.size a) := fun y => by
  rw [if_neg]
  ·rfl
  ·intro e
   have := List.all_eq_true.mp hF.free _ (mem_of_lookup (show List.lookup y fd.scope.names = some .free from e))
   simp at this
 have hE : EnvOk (callEnvC fd s.heap.objs.size a) := ⟨hF.kind, hF.glob, hF.bi⟩
 refine aE (hb (A.deeper (callEnvC fd s.heap.objs.size a)) _ _ G _ s₁ (jA K) hA.deeper hE hκ O (fun h => Nat.le_trans (tk h) htk) hw) fun f G2 st2 s2 hq O2 T2 => ?_
 have hc : ∀ a c, st2.σ a = some c -> CellRel w.params G2 s2.heap a c /\ G2 a = none := fun a c e => let h := O2.rep.cells a c e; ⟨h.1, h.2.1⟩
 have F : GS G s (frz G2 st2.σ s2.heap) s2 := by
  have keep : ∀ b o, s.heap.get? b = some o -> s2.heap.get? b = some o := fun b o e => by
   refine T2.keep b o (kp b o e) (fun q => ?_) (fun _ y q => ?_) rfl
   ·have := Heap.lt_size e; rw [q] at this; exact Nat.lt_irrefl _ this
   ·have h1 := x.above y b (PySem.mem_of_lookup q)
    have h2 := Heap.lt_size e
    exact Nat.lt_irrefl _ (Nat.lt_trans h1 h2)
  have back : ∀ b, s₁.heap.get? b = none -> s.heap.get? b = none := fun b e => dU (s := s) (s' := s₁) (fun q => by
   obtain ⟨o, ho⟩ := Option.isSome_iff_exists.mp q
   rw [kp b o ho]; rfl) e
  refine ⟨T2.ext.trans (eC hc), zbd O2.rep, fun b o e => ?_, keep, ?_, ?_⟩
  ·unfold frz at e
   by_cases q : (eI (st2.σ b)).isSome = true
   ·obtain ⟨xs, q⟩ := gR q
    rcases T2.fresh b (by rw [q]; rfl) with r | r
    ·cases r
    ·exact .inr (back b r)
   ·rw [if_neg q] at e
    rcases T2.new b o e with r | r
    ·exact .inl r
    ·exact .inr (back b r)
  ·obtain ⟨h', t', rfl⟩ := x.toInCall.same
   exact T2.os
  ·obtain ⟨h', t', rfl⟩ := x.toInCall.same
   exact T2.gens
 cases f with
 | next => exact ⟨.none, _, hq, F, by simp only [VRel]⟩
 | brk => exact hq.elim
 | cont => exact hq.elim
 | ret v =>
  obtain ⟨p, ⟨t, h1, h2⟩, h3⟩ := hq
  exact ⟨t, _, h2, F, v6 hc t h3 h1⟩
theorem xO {a : Addr} {fd : FuncData} {body : List Stmt} {params : List Str} {k : Nat} {dv : List Value} {dp : List PV} (hB : BsOk B) (hC : CtxOk prog w B C n) (hF : FunAt B.K a fd body) (hok : mQ body = true)
  (hpar : ∀ x ∈ params, fd.scope.names.lookup x = some .local \/ fd.scope.names.lookup x = some .cell) (hlen : params.length = k + dp.length)
  (hd : ∀ G, VRels w.params G dv dp)
  (hbind : ∀ (s : Shared) (vals : List Value), B.K.In s.heap -> vals.length = k -> BindsTo s fd ⟨vals, []⟩ (params.zip (vals ++ dv))) :
  Meets prog w B (n + 1) (.ref a) (fun ps K => ps.length = k /\ wSs C (bV fd.scope.names) body (jA K) ⟨aV (params.zip (ps ++ dp)) fun _ => none, fun _ => none⟩) :=
 ⟨jM hB hF, fun A E G s args ps K hA hi tk ho hv h => rI (tk0 := True) hB hF (fun A E env G st sh Q hA hE hκ O t hw => zdH hB hC hok A E env _ G st sh Q hA hE hκ (O sh.toks (t trivial)) hw) hpar hlen hd hbind A E G s args ps K hA hi (fun _ => tk) ho hv h⟩
end
noncomputable def rU (K : PV -> (Nat -> Option Cell) -> Prop) : Fl -> St -> Prop
 | .ret v, st => K v st.σ
 | .next, st => K .none st.σ
 | _, _ => False
section
variable {prog : Program} {w : World} {B : Bs} {C : Ctx} {n : Nat}
theorem m8 {A : Around} {R : Result -> Shared -> Prop} {G : GM} {σ : Nat -> Option Cell} {s : Shared} {a : Addr} {fd : FuncData} {body : List Stmt} {params : List Str} {vals : List Value} {ps : List PV} {K : PV -> (Nat -> Option Cell) -> Prop}
  (hB : BsOk B) (hC : CtxOk prog w B C n) (hF : FunAt B.K a fd body) (hok : mQ body = true) (hA : Room (n + 1) A)
  (hpar : ∀ x ∈ params, fd.scope.names.lookup x = some .local \/ fd.scope.names.lookup x = some .cell) (hlen : params.length = ps.length)
  (hbind : ∀ (s : Shared), B.K.In s.heap -> BindsTo s fd ⟨vals, []⟩ (params.zip vals))
  (hi : InH G s.heap) (tk : 1 <= s.toks) (ho : Over B G) (hσ : ∀ a c, σ a = some c -> CellRel w.params G s.heap a c /\ G a = none) (hv : VRels w.params G vals ps)
  (hw : wSs C (bV fd.scope.names) body (rU K) ⟨aV (params.zip ps) fun _ => none, σ⟩)
  (hR : ∀ p G' σ' s' v, K p σ' -> Fr G σ s G' σ' s' -> InH G' s'.heap -> 1 <= s'.toks -> Over B G' -> (∀ a c, σ' a = some c -> CellRel w.params G' s'.heap a c /\ G' a = none) -> VRel w.params G' v p -> R (.ok (.ret v)) s') :
  codeAny (model prog w) A (.call (.ref a) ⟨vals, []⟩) R s := by
 obtain ⟨c, d, sl, hat⟩ := hF.at_
 have hin : B.K.In s.heap := hB.kin.keeps fun b o e => hi _ _ (ho _ _ e)
 have hlv := hv.length
 refine codeAny_call_function (body := body) (by have := hA.depth; show A.depth < 1000; omega) (hin _ _ hat) rfl hF.co hF.gen hF.body (codeRec_of hin hF.code) (hbind s hin _ _ _ _ ?_)
 rw [hF.clo]
 refine wpAny_with_toks (n := 1) tk (wpAny_newFunctionEnv_cells hF.kind (fun y hy => ?_) fun env he s₁ x htk => ?_)
 ·rcases hpar y.1 (List.of_mem_zip hy).1 with q | q
  ·exact .inl q
  ·exact .inr ⟨q, d4 _ _ [] _ (mem_of_lookup q)⟩
 rw [<- show callEnvC fd s.heap.objs.size a = newEnv fd.scope s.heap.objs.size fd.globals (cellsFrom (s.heap.objs.size + 1) fd.scope.names []) (fd.qualname ++ ".<locals>.") (some a) fd.code none fd.builtins from rfl] at he
 subst he
 have kp := x.toInCall.keep
 refine ⟨(hB.lim.keeps fun b o e => hi _ _ (ho _ _ e)).keeps kp, codeAny_func ?_⟩
 have O := n3 (B := B) hi htk ho hpar hlen hv hσ x
 have hκ : KOk (bV fd.scope.names) (callEnvC fd s.heap.objs.size a) := fun y => by
  rw [if_neg]
  ·rfl
  ·intro e
   have := List.all_eq_true.mp hF.free _ (mem_of_lookup (show List.lookup y fd.scope.names = some .free from e))
   simp at this
 have hE : EnvOk (callEnvC fd s.heap.objs.size a) := ⟨hF.kind, hF.glob, hF.bi⟩
 refine aE (zdH hB hC hok (A.deeper (callEnvC fd s.heap.objs.size a)) _ _ _ G _ s₁ (rU K) hA.deeper hE hκ O hw) fun f G2 st2 s2 hq O2 T2 => ?_
 have hc : ∀ a c, st2.σ a = some c -> CellRel w.params G2 s2.heap a c /\ G2 a = none := fun a c e => let h := O2.rep.cells a c e; ⟨h.1, h.2.1⟩
 have alive₁ : ∀ b, (s.heap.get? b).isSome = true -> (s₁.heap.get? b).isSome = true := fun b q => by
  obtain ⟨o, ho⟩ := Option.isSome_iff_exists.mp q
  rw [kp b o ho]; rfl
 have back : ∀ b, s₁.heap.get? b = none -> s.heap.get? b = none := fun b e => dU (s := s) (s' := s₁) (alive₁ b) e
 have F : Fr G σ s G2 st2.σ s2 := by
  refine ⟨T2.ext, fun b o e => ?_, fun b o e h => ?_, fun b e => T2.alive b (alive₁ b e), T2.dom, fun b e => ?_, ?_, ?_⟩
  ·rcases T2.new b o e with r | r
   ·exact .inl r
   ·exact .inr (back b r)
  ·refine T2.keep b o (kp b o e) (fun q => ?_) (fun _ y q => ?_) h
   ·have := Heap.lt_size e; rw [q] at this; exact Nat.lt_irrefl _ this
   ·have h1 := x.above y b (PySem.mem_of_lookup q)
    have h2 := Heap.lt_size e
    exact Nat.lt_irrefl _ (Nat.lt_trans h1 h2)
  ·rcases T2.fresh b e with r | r
   ·exact .inl r
   ·exact .inr (back b r)
  ·obtain ⟨h', t', rfl⟩ := x.toInCall.same
   exact T2.os
  ·obtain ⟨h', t', rfl⟩ := x.toInCall.same
   exact T2.gens
 cases f with
 | next => exact hR .none G2 st2.σ s2 .none hq F O2.rep.inh O2.rep.tk O2.over hc (by simp [VRel])
 | brk => exact hq.elim
 | cont => exact hq.elim
 | ret v =>
  obtain ⟨p, h1, h3⟩ := hq
  exact hR p G2 st2.σ s2 v h1 F O2.rep.inh O2.rep.tk O2.over hc h3
theorem Room.creation {A : Around} {C : Addr} {rest : List Value} {kw : List (Str × Value)} (h : Room (n + 2) A) : Room (n + 1) (A.under (.builtin "type.__call__" ⟨.ref C :: rest, kw⟩)) := by
 have e1 : (Code.builtin "type.__call__" ⟨.ref C :: rest, kw⟩).weight = 1 := by kernel_rfl
 have e2 : (Code.builtin "type.__call__" ⟨.ref C :: rest, kw⟩).cUnits = 1 := by kernel_rfl
 refine ⟨h.handled, ?_, ?_⟩
 ·show A.depth + _ + (n + 1) <= 900
  rw [e1]; have := h.depth; omega
 ·show A.units + _ + 20 * (n + 1) <= 5000
  rw [e2]; have := h.units; omega
theorem yJ {Ca fI : Addr} {fd : FuncData} {body : List Stmt} {params : List Str} {k m : Nat} (hB : BsOk B) (hC : CtxOk prog w B C n) (hm : makesIn B.K Ca = true)
  (hin : findIn B.K (.ref Ca) "__init__" = some (some (.ref fI))) (hty : typeIn B.K (.ref fI) = some (.type "function")) (hkp : KeepsAt prog w B.h₀ (.ref Ca)) (hF : FunAt B.K fI fd body) (hok : mQ body = true)
  (hpar : ∀ x ∈ params, fd.scope.names.lookup x = some .local \/ fd.scope.names.lookup x = some .cell) (hlen : params.length = k + 1)
  (hbind : ∀ (s : Shared) (vals : List Value), B.K.In s.heap -> vals.length = k + 1 -> BindsTo s fd ⟨vals, []⟩ (params.zip vals)) :
  Meets prog w B (n + 2) (.ref Ca) (fun ps K => ps.length = k /\ ∀ x : Nat, wSs C (bV fd.scope.names) body (rU fun p σ' => p = .none /\ ∃ fs : List PV, σ' x = some (.ins Ca (fs.map some)) /\ K (.inst Ca fs))
   ⟨aV (params.zip (.ptr x :: ps)) fun _ => none, a7 (fun _ => none) x (.ins Ca (List.replicate m none))⟩) := by
 refine ⟨hkp, fun A E G s args ps K hA hi tk ho hv ⟨hl, hw⟩ => ?_⟩
 have hink : B.K.In s.heap := hB.kin.keeps fun b o e => hi _ _ (ho _ _ e)
 obtain ⟨hh, g, d, t, os⟩ := s
 unfold GW
 refine wpAny_call (make_core (makes_of hink hm) (looks_findIn hink hin) (fun self => bind_fn hink self hty) (.inl rfl) ?_)
 dsimp only at hi tk hink
 have d0 : hh.get? hh.objs.size = none := cY
 have d1 : hh.get? (hh.objs.size + 1) = none := oU (Nat.le_succ _)
 have gn : ∀ a, hh.get? a = none -> G a = none := fun a h => by
  cases q : G a with
  | none => rfl
  | some o => have := hi a o q; rw [h] at this; cases this
 have gs1 := GS.push (s := ⟨hh, g, d, t, os⟩) hi emptyDict rfl t
 have hgx : iE G hh.objs.size emptyDict (hh.objs.size + 1) = none := by
  unfold iE; rw [if_neg (Nat.succ_ne_self _)]; exact gn _ d1
 have k2 : ∀ b o, hh.get? b = some o -> ((hh.push emptyDict).push (instObj Ca hh.objs.size)).get? b = some o := fun b o e => Heap.get?_push_of_some _ (Heap.get?_push_of_some _ e)
 have hi2 : InH (iE G hh.objs.size emptyDict) ((hh.push emptyDict).push (instObj Ca hh.objs.size)) := fun a o e => Heap.get?_push_of_some _ (gs1.inh a o e)
 have hx : ((hh.push emptyDict).push (instObj Ca hh.objs.size)).get? (hh.objs.size + 1) = some (instObj Ca hh.objs.size) := by
  have := Heap.get?_push_size (hh.push emptyDict) (o := instObj Ca hh.objs.size) rfl
  rwa [Heap.size_push] at this
 refine m8 (σ := a7 (fun _ => none) (hh.objs.size + 1) (.ins Ca (List.replicate m none))) hB hC hF hok hA.creation hpar (ps := .ptr (hh.objs.size + 1) :: ps) (by simp [hlen, hl]) (fun s' h' => hbind s' _ h' (by simp [hv.length, hl])) hi2 tk (ho.ext gs1.ext) (fun a c e => ?_)
  (.cons (by simp [VRel]) (hv.mono gs1.ext)) (hw (hh.objs.size + 1)) fun p G' σ' s' v ⟨hp, fs, hfs, hK⟩ F hi' tk' ho' hσ' hvp => ?_
 ·unfold a7 at e
  split at e
  ·rename_i q; subst q; cases e
   refine ⟨⟨hh.objs.size, #[], hx, cH, by simp, fun i p e => ?_⟩, hgx⟩
   rw [List.getElem?_replicate] at e
   split at e <;> cases e
  ·cases e
 ·subst hp
  simp only [VRel] at hvp; subst hvp
  refine ⟨rfl, ?_⟩
  obtain ⟨⟨dx, sl, h1, h2, h3, h4⟩, h5⟩ := hσ' _ _ hfs
  have hsl : ∃ vs : List Value, sl = (vs.map some).toArray /\ VRels w.params G' vs fs := by
   have go : ∀ (fs : List PV) (sl : List (Option Value)), sl.length <= fs.length -> (∀ (i : Nat) (p : PV), fs[i]? = some p -> ∃ v, sl[i]? = some (some v) /\ VRel w.params G' v p) -> ∃ vs : List Value, sl = vs.map some /\ VRels w.params G' vs fs := by
    intro fs
    induction fs with
    | nil => intro sl h _; exact ⟨[], by simpa using h, .nil⟩
    | cons f fs ih =>
     intro sl h hh
     obtain ⟨v, e1, e2⟩ := hh 0 f (by simp)
     cases sl with
     | nil => simp at e1
     | cons y ys =>
      simp only [List.getElem?_cons_zero, Option.some.injEq] at e1
      subst e1
      obtain ⟨vs, e3, e4⟩ := ih ys (by simpa using h) fun i p e => by simpa using hh (i + 1) p (by simpa using e)
      exact ⟨v :: vs, by rw [e3]; rfl, .cons e2 e4⟩
   obtain ⟨vs, e1, e2⟩ := go fs sl.toList (by simpa using h3) fun i p e => by
    obtain ⟨v, e1, e2⟩ := h4 i p (by rw [List.getElem?_map, e]; rfl)
    exact ⟨v, by simpa using e1, e2⟩
   exact ⟨vs, by rw [<- e1], e2⟩
  obtain ⟨vs, rfl, hvs⟩ := hsl
  have hsub : Sub G' (iE G' (hh.objs.size + 1) { cls := .ref Ca, dict := some dx, data := .plain, slots := (vs.map some).toArray }) := fun a o e => by
   unfold iE; split
   ·rename_i q; rw [q, h5] at e; cases e
   ·exact e
  refine ⟨.inst Ca fs, iE G' (hh.objs.size + 1) { cls := .ref Ca, dict := some dx, data := .plain, slots := (vs.map some).toArray }, hK, ⟨(gs1.ext.trans F.ext).trans hsub, fun a o e => ?_, fun a o e => ?_, fun a o e => ?_, F.os, F.gens⟩, ?_⟩
  ·unfold iE at e; split at e
   ·rename_i q; subst q; cases e; exact h1
   ·exact hi' a o e
  ·unfold iE at e; split at e
   ·rename_i q; subst q; exact .inr d1
   ·rcases F.new a o e with q | q
    ·unfold iE at q; split at q
     ·rename_i q1; subst q1; exact .inr d0
     ·exact .inl q
    ·refine .inr ?_
     show hh.get? a = none
     cases e2 : hh.get? a with
     | none => rfl
     | some o2 => have := k2 a o2 e2; dsimp only at q; rw [this] at q; cases q
  ·refine F.keep a o (k2 a o e) ?_
   have ha : a ≠ hh.objs.size + 1 := fun q => by dsimp only at e; rw [q, d1] at e; cases e
   unfold a7; rw [if_neg ha]
  ·simp only [VRel]
   exact ⟨vs, ⟨hh.objs.size + 1, dx, rfl, cH, hsub _ _ h2⟩, hvs.mono hsub⟩
end
section
variable {prog : Program} {w : World} {B : Bs} {n : Nat}
theorem Meets.weaken {v : Value} {F F' : Fn} (h : Meets prog w B n v F) (k : ∀ ps K, F' ps K -> F ps K) : Meets prog w B n v F' :=
 ⟨h.1, fun A E G s args ps K hA hi tk ho hv hF => h.2 A E G s args ps K hA hi tk ho hv (k ps K hF)⟩
theorem zbZ {C C0 : Ctx} {Cn f : Addr} {mc : Value} {fd : FuncData} {body : List Stmt} {params : List Str} (hB : BsOk B) (hC0 : CtxOk prog w B C0 n) (hg : B.mg "Node" = some (.ref Cn))
  (hsg : specialIn B.K (.ref Cn) "__getattribute__" = some (some (.builtin "type.__getattribute__"))) (hr : readsIn B.K Cn mc = true) (hf : findCls B.K (.ref Cn) mc "__init__" = some (.val (.ref f)))
  (hF : FunAt B.K f fd body) (hok : mQ body = true) (hpar : ∀ x ∈ params, fd.scope.names.lookup x = some .local \/ fd.scope.names.lookup x = some .cell) (hlen : params.length = 3)
  (hbind : ∀ (s : Shared) (vals : List Value), B.K.In s.heap -> vals.length = 3 -> BindsTo s fd ⟨vals, []⟩ (params.zip vals))
  (hbody : ∀ (ad : Nat) (pa pb : PV) (st : St) (K : St -> Prop), (setCell C ad "source_line" pa st fun st1 => setCell C ad "source_column" pb st1 K) ->
   wSs C0 (bV fd.scope.names) body (rU fun p σ' => p = .none /\ K ⟨st.ρ, σ'⟩) ⟨aV (params.zip [.ptr ad, pa, pb]) fun _ => none, st.σ⟩) : sE prog w B C (n + 1) := by
 refine ⟨.ref Cn, .ref f, hg, jM hB hF, fun A E s Q pl b hk hl hq => ?_, fun A E cw env G st s ad va vb pa pb K hA O ha hb hK => ?_⟩
 ·have X : B.K.In s.heap := hB.kin.keeps hk
  exact method_cls X hsg (cls_value X hr hf rfl (hq (s.toks + 1) (Nat.le_succ _)))
 ·obtain ⟨ρ, σ⟩ := st
  refine wpAny_call (m8 (σ := σ) (ps := [.ptr ad, pa, pb]) hB hC0 hF hok hA hpar (by simpa using hlen) (fun s' h' => hbind s' _ h' rfl) O.rep.inh O.rep.tk O.over (fun a c e => let h := O.rep.cells a c e; ⟨h.1, h.2.1⟩)
   (.cons (by simp [VRel]) (.cons ha (.one hb))) (hbody ad pa pb ⟨ρ, σ⟩ K hK) fun p G' σ' s' v ⟨hp, hk'⟩ F hi' tk' ho' hσ' hv => ?_)
  refine ⟨G', ⟨ρ, σ'⟩, hk', ?_, F.tr⟩
  have R := O.rep
  obtain ⟨m, hn, hx⟩ := R.ns
  have hl : ∃ o, s.heap.get? env.locals = some o := by obtain ⟨o, _, _, h1, _⟩ := hn; exact ⟨o, h1⟩
  have σl : σ env.locals = none := by
   cases e : σ env.locals with
   | none => rfl
   | some c => exact absurd rfl (R.cells _ c e).2.2.1
  have σc : ∀ x c, env.cells.lookup x = some c -> σ c = none := by
   intro x c e
   cases q : σ c with
   | none => rfl
   | some d => exact absurd e ((R.cells _ d q).2.2.2 x)
  refine ⟨ho', ⟨hi', tk', ⟨m, hn.at' fun o e => F.keep _ o e σl, fun x p e hk => let ⟨v, h1, h2⟩ := hx x p e hk; ⟨v, h1, h2.mono F.ext⟩⟩, R.kind, ?_, ?_, ?_, ?_, R.cinj, ?_⟩, ?_⟩
  ·intro x p e hk
   obtain ⟨c, v, h1, h2, h3⟩ := R.cel x p e hk
   exact ⟨c, v, h1, bI h2 fun o e => F.keep c o e (σc x c h1), h3.mono F.ext⟩
  ·intro x e
   obtain ⟨c, v, h1, h2⟩ := R.cell0 x e
   exact ⟨c, v, h1, bI h2 fun o e => F.keep c o e (σc x c h1)⟩
  ·cases e : G' env.locals with
   | none => rfl
   | some o =>
    obtain ⟨o', ho⟩ := hl
    rcases F.new _ o e with q | q
    ·rw [R.gl] at q; cases q
    ·rw [ho] at q; cases q
  ·intro x c e
   refine ⟨?_, (R.gc x c e).2⟩
   cases q : G' c with
   | none => rfl
   | some o =>
    obtain ⟨o', ho⟩ := O.ct x c e
    rcases F.new _ o q with q1 | q1
    ·rw [(R.gc x c e).1] at q1; cases q1
    ·rw [ho] at q1; cases q1
  ·intro a c e
   obtain ⟨h1, h2⟩ := hσ' a c e
   refine ⟨h1, h2, ?_⟩
   rcases F.fresh a (by dsimp only at e; rw [e]; rfl) with q | q
   ·obtain ⟨d, hd⟩ := Option.isSome_iff_exists.mp q
    exact (R.cells a d hd).2.2
   ·refine ⟨fun q1 => ?_, fun x q1 => ?_⟩
    ·obtain ⟨o', ho⟩ := hl; rw [q1, ho] at q; cases q
    ·obtain ⟨o', ho⟩ := O.ct x a q1; rw [ho] at q; cases q
  ·intro x c e
   obtain ⟨o, ho⟩ := O.ct x c e
   exact ⟨o, F.keep c o ho (σc x c e)⟩
end
noncomputable def zaz (K : Frag) (a : Addr) : Option FuncData := match K.lookup a with
 | some ⟨_, _, .func fd, _⟩ => some fd
 | _ => none
noncomputable def aQ (K : Frag) (a : Addr) : List Stmt := match zaz K a with
 | some fd => (match fd.body with
  | .stmts b => b
  | _ => [])
 | none => []
noncomputable def aJ (K : Frag) (a : Addr) : List (Str × NameKind) := match zaz K a with
 | some fd => fd.scope.names
 | none => []
theorem sEq (a b : String) : (Str.ofString a = Str.ofString b) = (a = b) := by
 apply propext
 constructor
 ·intro e
  rw [Str.ofString_eq_toList, Str.ofString_eq_toList] at e
  have e' : a.toList.map Char.toNat = b.toList.map Char.toNat := by simpa using congrArg (fun s : Str => s.cps.toList) e
  have inj : Function.Injective Char.toNat := fun c d h => Char.toNat_inj.mp h
  exact String.toList_inj.mp ((List.map_inj_right inj).mp e')
 ·intro e; rw [e]
theorem bS (ρ : dD) (x : String) (v : PV) (y : String) : upd ρ (Str.ofString x) v (Str.ofString y) = if y = x then some v else ρ (Str.ofString y) := by
 unfold upd; simp only [sEq]
section
variable {C : Ctx} {κ : Kn}
theorem uP {t : Expr} {b o : List Stmt} {p : Pos} {Q : Fl -> St -> Prop} (M : CtxMono C) (I : Nat -> St -> Prop)
  (turn : ∀ n st, I n st -> wE C t κ (tst fun c st1 => if c = true then wSs C κ b (nK (fun st2 => ∃ m, m < n /\ I m st2) Q) st1 else wSs C κ o Q st1) st) (n : Nat) (st : St) (h : I n st) : wS C κ (.While t b o p) Q st := by
 have go : ∀ k n st, I n st -> n < k -> dO (wE C t κ) (wSs C κ b) (wSs C κ o) Q k st := by
  intro k
  induction k with
  | zero => intro n st _ h; exact absurd h (Nat.not_lt_zero _)
  | succ k ih =>
   intro n st hI hm
   exact aX M t (e8 fun c s => aY (cC M b (fC (fun s ⟨m, h1, h2⟩ => ih m s h2 (Nat.lt_of_lt_of_le h1 (Nat.le_of_lt_succ hm))) fun _ _ x => x)) fun x => x) (turn n st hI)
 exact ⟨n + 1, go _ n st h (Nat.lt_succ_self _)⟩
noncomputable def ev (C : Ctx) (κ : Kn) (e : Expr) (st : St) (v : PV) : Prop := wE C e κ (fun r st1 => r = v /\ st1 = st) st
noncomputable def tv (C : Ctx) (κ : Kn) (e : Expr) (st : St) (b : Bool) : Prop := wE C e κ (tst fun c st1 => c = b /\ st1 = st) st
theorem y5 {e : Expr} {st : St} {v : PV} {b : Bool} (M : CtxMono C) (h : ev C κ e st v) (hb : qF (der st.σ v) = some b) : tv C κ e st b :=
 aX M e (fun r st1 ⟨h1, h2⟩ => by subst h1 h2; rw [d6 hb]; exact ⟨rfl, rfl⟩) h
theorem pZ {e : Expr} {st : St} {b : Bool} {K : Bool -> St -> Prop} (M : CtxMono C) (h : tv C κ e st b) (k : K b st) : wE C e κ (tst K) st :=
 aX M e (e8 fun c s ⟨h1, h2⟩ => by subst h1 h2; exact k) h
theorem aT {e : Expr} {st : St} {v : PV} {Q : PV -> St -> Prop} (M : CtxMono C) (h : ev C κ e st v) (k : Q v st) : wE C e κ Q st :=
 aX M e (fun r st1 ⟨h1, h2⟩ => by subst h1 h2; exact k) h
theorem cK {t : Expr} {b o : List Stmt} {p : Pos} {Q : Fl -> St -> Prop} {st : St} (M : CtxMono C) (c : Bool) (h : tv C κ t st c) (hb : c = true -> wSs C κ b Q st) (ho : c = false -> wSs C κ o Q st) : wS C κ (.If t b o p) Q st := by
 refine pZ M h ?_
 cases c
 ·exact ho rfl
 ·exact hb rfl
theorem aL {x : Str} {e : Expr} {px p : Pos} {Q : Fl -> St -> Prop} {st : St} (M : CtxMono C) (v : PV) (h : ev C κ e st v) (hs : c3 κ x = true) (k : Q .next ⟨upd st.ρ x v, st.σ⟩) : wS C κ (.Assign [.Name x px] e p) Q st := by
 refine aT M h ?_
 exact ⟨Bool.and_eq_true_iff.mpr ⟨Bool.and_eq_true_iff.mpr ⟨hs, rfl⟩, rfl⟩, k⟩
theorem aR {e : Expr} {p : Pos} {Q : Fl -> St -> Prop} {st : St} (M : CtxMono C) (v : PV) (h : ev C κ e st v) (k : Q (.ret v) st) : wS C κ (.Return (some e) p) Q st := by
 exact aT M h k
theorem dP {x : Str} {op : Operator} {e : Expr} {px p : Pos} {Q : Fl -> St -> Prop} {st : St} (M : CtxMono C) (old v : PV) (h0 : st.ρ x = some old) (h : ev C κ e st v) (hs : c3 κ x = true) (k : inP op old v fun r => Q .next ⟨upd st.ρ x r, st.σ⟩) : wS C κ (.AugAssign (.Name x px) op e p) Q st := by
 refine ⟨hs, ?_⟩
 show opt (st.ρ x) _
 rw [h0]
 exact aT M h k
theorem lU {t : Expr} {b o : List Stmt} {p : Pos} {Q : Fl -> St -> Prop} (M : CtxMono C) (I : Nat -> St -> Prop)
  (turn : ∀ n st, I n st -> ∃ c, tv C κ t st c /\ (c = true -> wSs C κ b (nK (fun st2 => ∃ m, m < n /\ I m st2) Q) st) /\ (c = false -> wSs C κ o Q st)) (n : Nat) (st : St) (h : I n st) : wS C κ (.While t b o p) Q st :=
 uP M I (fun n st hI => by
  obtain ⟨c, h1, h2, h3⟩ := turn n st hI
  refine pZ M h1 ?_
  cases c
  ·exact h3 rfl
  ·exact h2 rfl) n st h
theorem fM {e e' : Expr} {es : List Expr} {p : Pos} {st : St} {c d : Bool} (M : CtxMono C) (h : tv C κ e st c) (h' : c = true -> tv C κ (.BoolOp .And (e' :: es) p) st d) : tv C κ (.BoolOp .And (e :: e' :: es) p) st (c && d) := by
 refine aX M e (fun r st1 x => ?_) h
 obtain ⟨b, hb, rfl, rfl⟩ := bJ x
 show opt (qF (der st1.σ r)) _
 rw [hb]
 cases b with
 | false => rw [gJ, if_pos (by decide), d6 hb]; exact ⟨rfl, rfl⟩
 | true => exact h' rfl
theorem zbt {e e' : Expr} {es : List Expr} {p : Pos} {st : St} {c d : Bool} (M : CtxMono C) (h : tv C κ e st c) (h' : c = false -> tv C κ (.BoolOp .Or (e' :: es) p) st d) : tv C κ (.BoolOp .Or (e :: e' :: es) p) st (c || d) := by
 refine aX M e (fun r st1 x => ?_) h
 obtain ⟨b, hb, rfl, rfl⟩ := bJ x
 show opt (qF (der st1.σ r)) _
 rw [hb]
 cases b with
 | true => rw [gJ, if_pos (by decide), d6 hb]; exact ⟨rfl, rfl⟩
 | false => exact h' rfl
theorem i0 {op : BoolOp} {e : Expr} {p : Pos} {st : St} {c : Bool} (h : tv C κ e st c) : tv C κ (.BoolOp op [e] p) st c := h
theorem uW {e : Expr} {p : Pos} {st : St} {c : Bool} (M : CtxMono C) (h : tv C κ e st c) : tv C κ (.UnaryOp .Not e p) st (!c) := by
 refine aX M e (fun r st1 x => ?_) h
 obtain ⟨b, hb, rfl, rfl⟩ := bJ x
 show opt (qF (der st1.σ r)) _
 rw [hb]
 exact ⟨rfl, rfl⟩
noncomputable def at1 (x : List Nat) (i : Nat) : List Nat := (x.drop i).take 1
theorem oN (x : List Nat) (i j : Nat) (h : i <= j) : slc x (some (i : Int)) (some (j : Int)) = (x.drop i).take (j - i) := by
 unfold slc eV
 simp only [Option.map_some, Option.getD_some]
 rw [if_neg (by omega), if_neg (by omega)]
 simp only [Int.toNat_natCast]
 by_cases h1 : i <= x.length
 ·rw [Nat.min_eq_left h1]
  by_cases h2 : j <= x.length
  ·rw [Nat.min_eq_left h2]
  ·rw [Nat.min_eq_right (by omega)]
   rw [List.take_of_length_le (by simp), List.take_of_length_le (by simp; omega)]
 ·rw [show min i x.length = x.length from Nat.min_eq_right (by omega), List.drop_of_length_le (Nat.le_refl _), List.drop_of_length_le (by omega)]; simp
theorem zav (x : List Nat) (i : Nat) : mD x (i : Int) = x[i]? := by
 unfold mD; rw [if_neg (by omega)]; simp
theorem rF (c : Nat) : ∀ x : List Nat, kZ [c] x = decide (c ∈ x)
 | [] => by simp [kZ]
 | d :: x => by
  rw [kZ, rF c x]
  by_cases h : c = d
  ·subst h; simp [List.isPrefixOf]
  ·have : (c == d) = false := by simpa using h
   simp [List.isPrefixOf, this, h]
theorem vG {Q : Fl -> St -> Prop} {st : St} (h : Q .next st) : wSs C κ [] Q st := h
theorem aA {s : Stmt} {ss : List Stmt} {Q : Fl -> St -> Prop} {st : St} (h : wS C κ s (d5 (fun st1 => wSs C κ ss Q st1) Q) st) : wSs C κ (s :: ss) Q st := h
theorem eS {s : Stmt} {ss : List Stmt} {Q : Fl -> St -> Prop} {st : St} (M : CtxMono C) (R : St -> Prop) (h : wS C κ s (d5 R Q) st) (k : ∀ st1, R st1 -> wSs C κ ss Q st1) : wSs C κ (s :: ss) Q st :=
 aA (uQ M s (i8 k fun _ _ x => x) h)
end
/-! what a reduction by the kernel needs: the form is found by simp (its proof is thrown away), the kernel checks it -/
theorem jI {α : Sort _} {a b : α} : (if some NameKind.local = some NameKind.globalImplicit then a else b) = b := rfl
theorem zaq {α : Sort _} {a b : α} : (if some NameKind.cell = some NameKind.globalImplicit then a else b) = b := rfl
theorem zap {α : Sort _} {a b : α} : (if some NameKind.free = some NameKind.globalImplicit then a else b) = b := rfl
theorem zcU {α : Sort _} {a b : α} : (if some NameKind.globalImplicit = some NameKind.globalImplicit then a else b) = a := rfl
theorem za9 {α : Sort _} {a b : α} : (if false = true then a else b) = b := rfl
noncomputable def PostV (v : PV) (st : St) (r : PV) (st1 : St) : Prop := r = v /\ st1 = st
noncomputable def PostB (v : Bool) (st : St) (r : Bool) (st1 : St) : Prop := r = v /\ st1 = st
section
variable {C : Ctx} {κ : Kn} {e : Expr} {st : St}
end
theorem aC {C : Ctx} {κ : Kn} {c : Const} {k : Nat} {p : Pos} {st : St} {v : PV} (h : lB c = some v) : ev C κ (.Constant c k p) st v := by show opt (lB c) _; rw [h]; exact ⟨rfl, rfl⟩
theorem of_eq {A B : Prop} (h : A = B) (b : B) : A := h ▸ b
noncomputable def kD (L : List (Str × PV)) (ρ : dD) : Prop := L.map (fun e => ρ e.1) = L.map (fun e => some e.2)
theorem aF {x : Str} {v : PV} {r : List (Str × PV)} {ρ : dD} (h : ρ x = some v) (t : kD r ρ) : kD ((x, v) :: r) ρ := by
 show ρ x :: _ = some v :: _
 rw [h]; exact congrArg _ t
theorem aP : ∀ (L : List (Str × PV)) {ρ : dD}, kD L ρ -> ρ = aV L ρ
 | [], _, _ => rfl
 | (x, v) :: r, ρ, h => by
  obtain ⟨h1, h2⟩ := List.cons.inj h
  have e : upd ρ x v = ρ := by
   funext y; unfold upd; split
   ·rename_i e; rw [e]; exact h1.symm
   ·rfl
  show ρ = aV r (upd ρ x v)
  rw [e]; exact aP r h2
section
variable {C : Ctx} {κ : Kn}
theorem bW {a b : Bool} (h : a = true) (k : b = true) : (a && b) = true := by rw [h, k]; rfl
theorem gE {x : Str} {e : Expr} {p1 p2 p3 p4 : Pos} {a : Nat} {xs : List PV} {Q : Fl -> St -> Prop} {st : St} (M : CtxMono C) (v : PV) (hk : κ x = some .local) (hx : st.ρ x = some (.ptr a)) (hc : st.σ a = some (.lst xs)) (he : ev C κ e st v)
  (hr : cU [e] = none) (hl : xs.length < a0) (k : Q .next ⟨st.ρ, a7 st.σ a (.lst (xs ++ [v]))⟩) :
  wS C κ (.Expr (.Call (.Attribute (.Name x p1) (Str.ofString "append") p2) [e] [] p3) p4) Q st := by
 have hn : Str.ofString "append" ≠ Str.ofString "__init__" := by rw [Ne, sEq]; decide
 have h0 : dF (.Call (.Attribute (.Name x p1) (Str.ofString "append") p2) [e] [] p3) = none := if_neg fun h => hn h.2.1
 rw [lI, h0]
 refine ⟨rfl, ?_⟩
 rw [iY, hr]
 refine ⟨rfl, ?_⟩
 rw [gI, gT, hk, jI, hx, gJ]
 refine ⟨?_, aT M he ?_⟩
 ·show (Str.ofString "append" == Str.ofString "append" && (eI (st.σ a)).isSome) = true
  rw [hc, beq_self_eq_true]; rfl
 ·rw [lJ]
  show (if Str.ofString "append" = Str.ofString "append" then _ else _)
  rw [if_pos rfl]
  exact ⟨xs, hc, hl, k⟩
theorem qM {x : Str} {px p : Pos} {pos : Pos} {Q : Fl -> St -> Prop} {st : St} (hm : C.mutL pos.line = true) (hs : c3 κ x = true) (h : ∀ a, st.σ a = none -> Q .next ⟨upd st.ρ x (.ptr a), a7 st.σ a (.lst [])⟩) :
  wS C κ (.Assign [.Name x px] (.List [] pos) p) Q st := by
 show bD C pos [] (fun v st1 => eK C κ [.Name x px] v st1 fun st2 => Q .next st2) st
 unfold bD
 rw [if_pos hm]
 exact fun a ha => ⟨bW (bW hs rfl) rfl, h a ha⟩
theorem zbH {x y : Str} {px py p : Pos} {pos : Pos} {Q : Fl -> St -> Prop} {st : St} (hm : C.mutL pos.line = true) (hs : c3 κ x = true) (hs' : c3 κ y = true) (h : ∀ a, st.σ a = none -> Q .next ⟨upd (upd st.ρ x (.ptr a)) y (.ptr a), a7 st.σ a (.lst [])⟩) :
  wS C κ (.Assign [.Name x px, .Name y py] (.List [] pos) p) Q st := by
 show bD C pos [] (fun v st1 => eK C κ [.Name x px, .Name y py] v st1 fun st2 => Q .next st2) st
 unfold bD
 rw [if_pos hm]
 exact fun a ha => ⟨bW (bW hs rfl) (bW (bW hs' rfl) rfl), h a ha⟩
theorem lW {x y : Str} {e : Expr} {px py p : Pos} {Q : Fl -> St -> Prop} {st : St} (M : CtxMono C) (v : PV) (h : ev C κ e st v) (hs : c3 κ x = true) (hs' : c3 κ y = true) (k : Q .next ⟨upd (upd st.ρ x v) y v, st.σ⟩) : wS C κ (.Assign [.Name x px, .Name y py] e p) Q st := by
 exact aT M h ⟨bW (bW hs rfl) (bW (bW hs' rfl) rfl), k⟩
theorem cX {x y : Str} {e : Expr} {kk : Nat} {px py pt p : Pos} {Q : Fl -> St -> Prop} {st : St} (M : CtxMono C) (v w : PV) (h : ev C κ e st (.tup [v, w])) (hs : c3 κ x = true) (hs' : c3 κ y = true) (k : Q .next ⟨upd (upd st.ρ x v) y w, st.σ⟩) : wS C κ (.Assign [.Tuple [.Name x px, .Name y py] kk pt] e p) Q st := by
 exact aT M h ⟨bW (bW hs (bW hs' rfl)) rfl, k⟩
theorem m6 {x y z : Str} {e : Expr} {kk : Nat} {px py pz pt p : Pos} {Q : Fl -> St -> Prop} {st : St} (M : CtxMono C) (v w u : PV) (h : ev C κ e st (.tup [v, w, u])) (hs : c3 κ x = true) (hs' : c3 κ y = true) (hs'' : c3 κ z = true) (k : Q .next ⟨upd (upd (upd st.ρ x v) y w) z u, st.σ⟩) :
  wS C κ (.Assign [.Tuple [.Name x px, .Name y py, .Name z pz] kk pt] e p) Q st := by
 exact aT M h ⟨bW (bW hs (bW hs' (bW hs'' rfl))) rfl, k⟩
theorem v3 {p : Pos} {Q : Fl -> St -> Prop} {st : St} (h : Q .brk st) : wS C κ (.Break p) Q st := h
theorem gX {p : Pos} {Q : Fl -> St -> Prop} {st : St} (h : Q .cont st) : wS C κ (.Continue p) Q st := h
theorem zbG {b o : List Stmt} {hd : ExceptHandler} {hs : List ExceptHandler} {p : Pos} {Q : Fl -> St -> Prop} {st : St} (h : wSs C κ b (d5 (fun st1 => wSs C κ o Q st1) Q) st) : wS C κ (.Try b (hd :: hs) o [] p) Q st := ⟨rfl, rfl, h⟩
theorem aS (σ : Nat -> Option Cell) (a : Nat) (c : Cell) : a7 σ a c a = some c := by unfold a7; rw [if_pos rfl]
theorem zcB (σ : Nat -> Option Cell) {a b : Nat} (h : b ≠ a) (c : Cell) : a7 σ a c b = σ b := by unfold a7; rw [if_neg h]
theorem gV : ∀ zs : List (List Nat), eM (zs.map .str) = some zs
 | [] => rfl
 | z :: r => by show (eM (r.map .str)).map (z :: ·) = _; rw [gV r]; rfl
theorem zca {x : Str} {k : Nat} {p1 p2 p3 p4 : Pos} {a : Nat} {st : St} {v : List Nat} (zs : List (List Nat)) (hk : κ x = some .local) (hx : st.ρ x = some (.ptr a)) (hc : st.σ a = some (.lst (zs.map .str))) (hv : zs.flatten = v) (hl : v.length <= a0) :
  ev C κ (.Call (.Attribute (.Constant (.str (Str.ofString "")) k p1) (Str.ofString "join") p2) [.Name x p3] [] p4) st (.str v) := by
 subst hv
 unfold ev
 rw [iY]
 refine ⟨rfl, ?_⟩
 rw [show cU [Expr.Name x p3] = none from rfl, gI, y0, show lB (.str (Str.ofString "")) = some (.str []) from rfl, gJ]
 refine ⟨rfl, ?_⟩
 rw [pW, gT, hk, jI, hx, gJ, lJ]
 have hn : ∀ y, y ≠ "join" -> ¬ (Str.ofString "join" = Str.ofString y) := fun y h q => h ((sEq _ _).mp q).symm
 show fY st.σ (Str.ofString "join") (.str []) [.ptr a] _
 unfold fY
 rw [if_neg (hn _ (by decide)), if_neg (hn _ (by decide)), if_neg (hn _ (by decide)), if_neg (hn _ (by decide)), if_neg (hn _ (by decide)), if_pos rfl]
 refine ⟨rfl, ?_⟩
 show asL (Option.casesOn (motive := fun _ => PV) (eI (st.σ a)) (.ptr a) .list) _
 rw [hc]
 exact ⟨zs, gV zs, hl, rfl, rfl⟩
end
section
variable {C : Ctx}
theorem mH {elt tgt : Expr} {ks : Kn} {ρ0 : dD} {Q : List PV -> (Nat -> Option Cell) -> Prop} (M : CtxMono C) (f : PV -> PV) (σ : Nat -> Option Cell) : ∀ (items acc : List PV), (∀ v ∈ items, ∃ ρ1, gS tgt v ρ0 = some ρ1 /\ ev C ks elt ⟨ρ1, σ⟩ (f v)) -> Q (acc ++ items.map f) σ ->
  bY (fun K s' => wIf C [] ks K s') (fun K s' => wE C elt ks K s') tgt ρ0 Q items acc σ
 | [], acc, h, q => by rw [List.map_nil, List.append_nil] at q; exact q
 | v :: vs, acc, h, q => by
  obtain ⟨ρ1, h1, h2⟩ := h v List.mem_cons_self
  show opt (gS tgt v ρ0) _
  rw [h1]
  exact aT M h2 (mH M f σ vs (acc ++ [f v]) (fun v hv => h v (List.mem_cons_of_mem _ hv)) (by rw [List.append_assoc]; exact q))
theorem f7 {elt tgt t : Expr} {ks : Kn} {ρ0 : dD} {Q : List PV -> (Nat -> Option Cell) -> Prop} (M : CtxMono C) (f : PV -> PV) (g : PV -> Bool) (σ : Nat -> Option Cell) : ∀ (items acc : List PV), (∀ v ∈ items, ∃ ρ1, gS tgt v ρ0 = some ρ1 /\ tv C ks t ⟨ρ1, σ⟩ (g v) /\ (g v = true -> ev C ks elt ⟨ρ1, σ⟩ (f v))) -> Q (acc ++ (items.filter g).map f) σ ->
  bY (fun K s' => wIf C [t] ks K s') (fun K s' => wE C elt ks K s') tgt ρ0 Q items acc σ
 | [], acc, h, q => by rw [List.filter_nil, List.map_nil, List.append_nil] at q; exact q
 | v :: vs, acc, h, q => by
  obtain ⟨ρ1, h1, h2, h3⟩ := h v List.mem_cons_self
  have hr := fun v hv => h v (List.mem_cons_of_mem _ hv)
  show opt (gS tgt v ρ0) _
  rw [h1]
  refine pZ (K := fun b st1 => if b = true then wIf C [] ks _ st1 else (fun ok st1 => if ok = true then wE C elt ks (fun r st2 => bY (fun K s' => wIf C [t] ks K s') (fun K s' => wE C elt ks K s') tgt ρ0 Q vs (acc ++ [r]) st2.σ) st1
    else bY (fun K s' => wIf C [t] ks K s') (fun K s' => wE C elt ks K s') tgt ρ0 Q vs acc st1.σ) false st1) M h2 ?_
  cases hb : g v with
  | true =>
   rw [List.filter_cons, hb] at q
   exact aT M (h3 hb) (f7 M f g σ vs (acc ++ [f v]) hr (by rw [List.append_assoc]; exact q))
  | false =>
   rw [List.filter_cons, hb] at q
   exact f7 M f g σ vs acc hr q
end
section
variable {C : Ctx} {κ : Kn}
theorem c4 {x name : Str} {e : Expr} {p1 p2 p3 : Pos} {a c i : Nat} {fs : List (Option PV)} {Q : Fl -> St -> Prop} {st : St} (M : CtxMono C) (v : PV) (h : ev C κ e st v) (hx : st.ρ x = some (.ptr a)) (hc : st.σ a = some (.ins c fs)) (hs : C.slot c name = some i) (hi : i < fs.length)
  (k : Q .next ⟨st.ρ, a7 st.σ a (.ins c (fs.set i (some v)))⟩) : wS C κ (.Assign [.Attribute (.Name x p1) name p2] e p3) Q st := by
 refine aT M h ?_
 show opt (st.ρ x) fun p => asP p fun a => setCell C a name v st fun st2 => Q .next st2
 rw [hx]
 exact ⟨c, fs, i, hc, hs, hi, k⟩
theorem gD {e0 e1 e2 : Expr} {p1 p2 p3 p4 : Pos} {a c i j : Nat} {fs : List (Option PV)} {Q : Fl -> St -> Prop} {st : St} (M : CtxMono C) (l k : PV) (hini : C.ini = true) (hκ : κ "Node" = some .globalImplicit) (h0 : ev C κ e0 st (.ptr a)) (h1 : ev C κ e1 st l) (h2 : ev C κ e2 st k)
  (hc : st.σ a = some (.ins c fs)) (hs : C.slot c "source_line" = some i) (hi : i < fs.length) (hs' : C.slot c "source_column" = some j) (hj : j < fs.length)
  (hQ : Q .next ⟨st.ρ, a7 (a7 st.σ a (.ins c (fs.set i (some l)))) a (.ins c ((fs.set i (some l)).set j (some k)))⟩) :
  wS C κ (.Expr (.Call (.Attribute (.Name (Str.ofString "Node") p1) (Str.ofString "__init__") p2) [e0, e1, e2] [] p3) p4) Q st := by
 have e : (if nmE (.Name "Node" p1) = some "Node" /\ ("__init__" : Str) = "__init__" /\ ([] : List Keyword).isEmpty = true then some [e0, e1, e2] else none) = some [e0, e1, e2] := if_pos ⟨rfl, rfl, rfl⟩
 rw [lI, show dF (.Call (.Attribute (.Name (Str.ofString "Node") p1) (Str.ofString "__init__") p2) [e0, e1, e2] [] p3) = some [e0, e1, e2] from e]
 refine ⟨hini, hκ, aT M h0 (aT M h1 (aT M h2 ?_))⟩
 exact ⟨c, fs, i, hc, hs, hi, c, fs.set i (some l), j, aS _ _ _, hs', by rw [List.length_set]; exact hj, hQ⟩
end
section
variable {C : Ctx} {κ : Kn}
theorem zbe {tgt : Expr} {b o : List Stmt} {Q : Fl -> St -> Prop} (M : CtxMono C) (items : List PV) (I : Nat -> St -> Prop)
  (turn : ∀ i (h : i < items.length) st, I i st -> ∃ ρ1, gS tgt items[i] st.ρ = some ρ1 /\ wSs C κ b (nK (I (i + 1)) Q) ⟨ρ1, st.σ⟩)
  (fin : ∀ st, I items.length st -> wSs C κ o Q st) : ∀ (n i : Nat) (st : St), i + n = items.length -> I i st -> e5 tgt (wSs C κ b) (wSs C κ o) Q (items.drop i) st
 | 0, i, st, h, hI => by
  have : i = items.length := by omega
  subst this
  rw [List.drop_length]
  exact fin st hI
 | n + 1, i, st, h, hI => by
  have hl : i < items.length := by omega
  obtain ⟨ρ1, h1, h2⟩ := turn i hl st hI
  rw [List.drop_eq_getElem_cons hl]
  show opt (gS tgt items[i] st.ρ) _
  rw [h1]
  exact cC M b (fC (fun s x => zbe M items I turn fin n (i + 1) s (by omega) x) fun _ _ x => x) h2
theorem zcJ {tgt iter : Expr} {b o : List Stmt} {p : Pos} {Q : Fl -> St -> Prop} {st : St} (M : CtxMono C) (v : PV) (items : List PV) (hv : eX v = some items) (hn : items.length <= a0) (hs : (bU tgt).all (c3 κ) = true) (h : ev C κ iter st v) (I : Nat -> St -> Prop)
  (turn : ∀ i (h : i < items.length) st, I i st -> ∃ ρ1, gS tgt items[i] st.ρ = some ρ1 /\ wSs C κ b (nK (I (i + 1)) Q) ⟨ρ1, st.σ⟩)
  (fin : ∀ st, I items.length st -> wSs C κ o Q st) (h0 : I 0 st) : wS C κ (.For tgt iter b o p) Q st := by
 refine ⟨hs, aT M h ?_⟩
 show opt (eX v) _
 rw [hv]
 exact ⟨hn, zbe M items I turn fin items.length 0 st (by omega) h0⟩
end
section
variable {prog : Program} {w : World} {B : Bs} {C : Ctx} {n : Nat}
noncomputable def zaT (prog : Program) (w : World) (B : Bs) (C : Ctx) (n : Nat) (loc : Str) (e : Expr) : Prop :=
 ∀ (A : Around) (E : Value -> Shared -> Prop) (cw : Bool) (env : Env) (κ : Kn) (G : GM) (st : St) (s : Shared) (Q : PV -> St -> Prop), κ loc = some .local -> Room n A -> EnvOk env -> KOk κ env -> Ok0 B w.params G env st s ->
  wE C e κ Q st -> wpAny (model prog w) A (eval e env) (Lands B w.params cw env G st s (VX w.params Q)) E s
noncomputable def zaS (prog : Program) (w : World) (B : Bs) (C : Ctx) (n : Nat) (loc : Str) (s : Stmt) : Prop :=
 ∀ (A : Around) (E : Value -> Shared -> Prop) (env : Env) (κ : Kn) (G : GM) (st : St) (sh : Shared) (Q : Fl -> St -> Prop), κ loc = some .local -> Room n A -> EnvOk env -> KOk κ env -> Ok0 B w.params G env st sh ->
  wS C κ s Q st -> wpAny (model prog w) A (exec s env) (Lands B w.params true env G st sh (FX w.params Q)) E sh
noncomputable def zdr (prog : Program) (w : World) (B : Bs) (C : Ctx) (n : Nat) (loc : Str) (ss : List Stmt) : Prop :=
 ∀ (A : Around) (E : Value -> Shared -> Prop) (env : Env) (κ : Kn) (G : GM) (st : St) (sh : Shared) (Q : Fl -> St -> Prop), κ loc = some .local -> Room n A -> EnvOk env -> KOk κ env -> Ok0 B w.params G env st sh ->
  wSs C κ ss Q st -> wpAny (model prog w) A (execs ss env) (Lands B w.params true env G st sh (FX w.params Q)) E sh
theorem sT {loc : Str} {s : Stmt} {ss : List Stmt} (h : zaS prog w B C n loc s) (hs : fK prog w B C n ss) : zdr prog w B C n loc (s :: ss) := by
 intro A E env κ G st sh Q hx hA hE hκ O hw
 refine wpAny_execs_cons (aE (h A E env κ G st sh _ hx hA hE hκ O hw) fun f G1 st1 s1 hq O1 T1 => ?_)
 cases f with
 | next => exact aO T1 (hs A E env κ G1 st1 s1 Q hA hE hκ O1 hq)
 | brk => exact (aG (X := FX w.params Q) (a := Flow.brk) O1 hq).after T1
 | cont => exact (aG (X := FX w.params Q) (a := Flow.cont) O1 hq).after T1
 | ret v => exact (aG (X := FX w.params Q) (a := Flow.ret v) O1 (by obtain ⟨p, h1, h2⟩ := hq; exact ⟨p, h1, h2⟩)).after T1
theorem m5 {loc x : Str} {px p : Pos} {e : Expr} (he : zaT prog w B C n loc e) (hc : jJ e = false) (ht : zcQ [.Name x px] e = true) : zaS prog w B C n loc (.Assign [.Name x px] e p) := by
 intro A E env κ G st s Q hx hA hE hκ O hw
 obtain ⟨b, hb, hb'⟩ := kM [.Name x px] e p.line env
 cases b with
 | true =>
  obtain ⟨x, px, _, hl, hcm⟩ := hb' rfl
  rw [hc] at hcm; cases hcm
 | false =>
  refine wpAny_Assign_stores (aE (he A E true env κ G st s _ hx hA hE hκ O hw) fun v G1 st1 s1 ⟨u, hq, hv⟩ O1 T1 => ?_) hb (hY ht env)
  obtain ⟨hn, hq⟩ := (show (([Expr.Name x px].all fun t => (bU t).all (c3 κ)) = true /\ opt (mK [.Name x px] u st1.ρ) fun ρ' => Q .next ⟨ρ', st1.σ⟩) from hq)
  obtain ⟨ρ', hbnd, hq⟩ := bJ hq
  refine aE (e6 hA.handled hE [.Name x px] G1 st1 s1 v u ρ' O1 (fun t ht x hx => lP hκ (List.all_eq_true.mp (List.all_eq_true.mp hn t ht) x hx)) rfl hv hbnd) fun _ G2 st2 s2 e2 O2 T2 => ?_
  subst e2
  exact (aG (X := FX w.params Q) (a := Flow.next) O2 hq).after (T1.trans T2)
theorem zR {loc : Str} {l r : Expr} {op : Operator} {p : Pos} (hl : zaT prog w B C n loc l) (hr : bZ prog w B C n r) : zaT prog w B C n loc (.BinOp l op r p) := by
 intro A E cw env κ G st s Q hx hA hE hκ O hw
 exact wpAny_BinOp (aE (hl A E cw env κ G st s _ hx hA hE hκ O hw) fun a G1 st1 s1 ⟨u, hq, hv⟩ O1 T1 =>
  aE (hr A E cw env κ G1 st1 s1 _ hA hE hκ O1 hq) fun b G2 st2 s2 ⟨u2, hq2, hv2⟩ O2 T2 =>
   aO (T1.trans T2) (bG O2 (zdm O2.rep.inh (O2.rep.view (hv.mono T2.ext)) (O2.rep.view hv2) hq2)))
theorem zdO {x : Str} {p : Pos} {A : Around} {E : Value -> Shared -> Prop} {env : Env} {κ : Kn} {G : GM} {st : St} {s : Shared} {Q : PV -> St -> Prop} {R : Value -> Shared -> Prop} (hE : EnvOk env) (hκ : KOk κ env) (O : Ok0 B w.params G env st s) (ok : (x == ("__debug__" : Str)) = false)
  (hx : κ x = some .local) (hw : wE C (.Name x p) κ Q st) (k : ∀ u v, Q u st -> VRel w.params G v u -> R v s) : wpAny (model prog w) A (eval (.Name x p) env) R E s := by
 rw [gT, if_neg (by rw [hx]; decide)] at hw
 obtain ⟨v, e, hw⟩ := bJ hw
 have O1 := (O 1 (Nat.le_refl 1)).rep
 have hl : env.kindOf x = some .local := hκ.loc hx
 obtain ⟨m, hm, hx⟩ := O1.ns
 obtain ⟨u, h1, h2⟩ := hx x v e hl
 exact wpAny_Name (wpAny_loadName_local hE.kind hl hm h1 (k _ _ hw h2)) ok
theorem vX {x : Str} {px : Pos} {i : Int} {k : Nat} {pi sp p : Pos} (ok : (x == ("__debug__" : Str)) = false) :
  zaT prog w B C n x (.Subscript (.Name x px) (.Slice none (some (.Constant (.int i) k pi)) none sp) p) := by
 intro A E cw env κ G st s Q hx hA hE hκ O hw
 have hw : wE C (.Name x px) κ (fun ov st1 => (none : Option Expr).isNone = true /\ -4611686018427387904 < i /\ i < 4611686018427387904 /\ zbF (der st1.σ ov) none (some i) fun r => Q r st1) st := hw
 have hi : InH G s.heap := (O 1 (Nat.le_refl 1)).rep.inh
 refine Subscript_ (zdO hE hκ O ok hx hw fun x ov hq hv => ?_)
 refine PySem.wpAny_Slice ?_
 rw [evalPart_none]
 refine wpAny_pure ?_
 rw [evalPart_some]
 obtain ⟨_, b1, b2, hq3⟩ := hq
 rw [arm_eval_Constant]
 refine wpAny_mkInt (wpAny_pure ?_)
 have O3 := O (s.toks + 1) (Nat.le_add_left 1 _)
 have g0 : GS G s G { s with toks := s.toks + 1 } := GS.toks hi _
 have g : GS G { s with toks := s.toks + 1 } G { s with toks := s.toks + 1, heap := s.heap.push { cls := .type "slice", data := .fields #[.none, .int i s.toks, .none] } } := GS.heap O3.rep.inh (s.toks + 1) fun a o e => Heap.get?_push_of_some _ e
 have O4 := O3.grow g O3.rep.tk
 have hv4 := O4.rep.view hv
 have hat : (s.heap.push { cls := .type "slice", data := .fields #[.none, .int i s.toks, .none] }).get? s.heap.objs.size = some { cls := .type "slice", data := .fields #[.none, .int i s.toks, .none] } := Heap.get?_push_size _ rfl
 have hlv : ∃ t : Tok, Value.none = partValue ((none : Option Int).map (·, t)) := ⟨0, rfl⟩
 have huv : ∃ t : Tok, Value.int i s.toks = partValue ((some i : Option Int).map (·, t)) := ⟨s.toks, rfl⟩
 obtain ⟨T, ci, t1, t2, t3⟩ := vZ (prog := prog) (A := A) (E := E) O4.rep.inh hv4 hat hlv huv hq3
 exact tail_any (ops := [.ref s.heap.objs.size, ov]) t1 t2 (aO (g0.tr.trans g.tr) (bG O4 t3)) rfl
noncomputable def zbq (prog : Program) (w : World) (B : Bs) (n : Nat) (v : Value) (F : Fn) : Prop :=
 KeepsAt prog w B.h₀ v /\ ∀ (A : Around) (E : Value -> Shared -> Prop) (G : GM) (s : Shared) (args : List Value) (ps : List PV) (K : PV -> Prop),
  Room n A -> InH G s.heap -> Over B G -> VRels w.params G args ps -> F ps K -> GW (model prog w) A w.params E G s (call v args) K
theorem t6 {loc : Str} {s1 : Stmt} {ss : List Stmt} {a : Addr} {fd : FuncData} {body : List Stmt} {params : List Str} {k : Nat} {dv : List Value} {dp : List PV} (hB : BsOk B) (hC : CtxOk prog w B C n) (hF : FunAt B.K a fd body) (hbody : body = s1 :: ss) (h1 : zaS prog w B C n loc s1) (hloc : fd.scope.names.lookup loc = some .local) (hok : mQ ss = true)
  (hpar : ∀ x ∈ params, fd.scope.names.lookup x = some .local \/ fd.scope.names.lookup x = some .cell) (hlen : params.length = k + dp.length)
  (hd : ∀ G, VRels w.params G dv dp)
  (hbind : ∀ (s : Shared) (vals : List Value), B.K.In s.heap -> vals.length = k -> BindsTo s fd ⟨vals, []⟩ (params.zip (vals ++ dv))) :
  zbq prog w B (n + 1) (.ref a) (fun ps K => ps.length = k /\ wSs C (bV fd.scope.names) body (jA K) ⟨aV (params.zip (ps ++ dp)) fun _ => none, fun _ => none⟩) := by
 subst hbody
 exact ⟨jM hB hF, fun A E G s args ps K hA hi ho hv h => rI (tk0 := False) hB hF (fun A E env G st sh Q hA hE hκ O _ hw => sT h1 (zdH hB hC hok) A E env _ G st sh Q hloc hA hE hκ O hw) hpar hlen hd hbind A E G s args ps K hA hi False.elim ho hv h⟩
end
section
variable {C : Ctx} {κ : Kn}
theorem zb9 {elt tgt iter : Expr} {sc : Scope} {pos : Pos} {st : St} {v : PV} {items : List PV} (M : CtxMono C) (f : PV -> PV) (hsc : cO κ sc = true) (hn : (bU tgt).all (fun x => sc.names.lookup x == some .local) = true) (hit : ev C κ iter st v) (hi : eX v = some items) (hl : items.length <= a0) (hm : C.mutL pos.line = false)
  (h : ∀ w ∈ items, ∃ ρ1, gS tgt w (eZ sc.names st.ρ) = some ρ1 /\ ev C (bV sc.names) elt ⟨ρ1, st.σ⟩ (f w)) : ev C κ (.ListComp elt [⟨tgt, iter, [], 0⟩] sc pos) st (.list (items.map f)) := by
 refine ⟨rfl, hsc, hn, aT M hit ?_⟩
 show opt (eX v) _
 rw [hi]
 refine ⟨hl, mH M f _ _ _ h ?_⟩
 unfold bD
 rw [if_neg (by rw [hm]; decide)]
 exact ⟨rfl, rfl⟩
theorem t8 {elt tgt iter t : Expr} {sc : Scope} {pos : Pos} {st : St} {v : PV} {items : List PV} (M : CtxMono C) (f : PV -> PV) (g : PV -> Bool) (hsc : cO κ sc = true) (hn : (bU tgt).all (fun x => sc.names.lookup x == some .local) = true) (hit : ev C κ iter st v) (hi : eX v = some items) (hl : items.length <= a0) (hm : C.mutL pos.line = false)
  (h : ∀ w ∈ items, ∃ ρ1, gS tgt w (eZ sc.names st.ρ) = some ρ1 /\ tv C (bV sc.names) t ⟨ρ1, st.σ⟩ (g w) /\ (g w = true -> ev C (bV sc.names) elt ⟨ρ1, st.σ⟩ (f w))) : ev C κ (.ListComp elt [⟨tgt, iter, [t], 0⟩] sc pos) st (.list ((items.filter g).map f)) := by
 refine ⟨rfl, hsc, hn, aT M hit ?_⟩
 show opt (eX v) _
 rw [hi]
 refine ⟨hl, f7 M f g _ _ _ h ?_⟩
 unfold bD
 rw [if_neg (by rw [hm]; decide)]
 exact ⟨rfl, rfl⟩
end
end Mine
end
section
open PySem PySem.W PySem.Calls PyProof.Rows
set_option Elab.async false
set_option maxRecDepth 1000000
set_option maxHeartbeats 8000000
namespace MH
noncomputable abbrev pw : Program := PySem.Challenge.pw_te0060_02
noncomputable abbrev rwL : OpenLaw := PySem.Challenge.rw_te0060_02
noncomputable def pB : List Stmt := pw.main.body
noncomputable def nS (i : Nat) (l : List Stmt) : Stmt := match l.drop i with
 | s :: _ => s
 | [] => .Pass default
noncomputable def cB : Stmt -> List Stmt
 | .ClassDef _ _ _ b _ _ _ _ _ _ _ => b
 | _ => []
noncomputable abbrev Z (s : String) : Str := Str.ofString s
noncomputable abbrev S (s : String) (t : Nat) : Value := .str (Z s) t
noncomputable abbrev I (i : Int) (t : Nat) : Value := .int i t
noncomputable abbrev D (P : Params) (k : String) (t : Nat) (v : Value) : DictEntry := ⟨PyData.keyHash P (Z k), S k t, v⟩
noncomputable def fO (s : Stmt) (n q : String) (g : Nat) (dv kv doc pm cd ct : Value) (bi : Nat) : Obj := match s with
 | .FunctionDef _ a b _ _ _ sc _ _ _ => ⟨.type "function", none, .func ⟨Z n, Z q, a, .stmts b, sc, g, [], dv, kv, doc, pm, none, cd, ct, bi⟩, #[]⟩
 | _ => default
noncomputable def kO (s : Stmt) (n q : String) (g : Nat) (dv kv doc pm cd ct : Value) (bi : Nat) : Obj := match s with
 | .FunctionDef _ a b _ _ _ sc _ _ _ => ⟨.none, none, .func ⟨Z n, Z q, a, .stmts b, sc, g, [], dv, kv, doc, pm, none, cd, ct, bi⟩, #[]⟩
 | _ => default
noncomputable def HK (P : Params) : Frag := [
 (2, ⟨.none, none, .dict #[] 0, #[]⟩),
 (3, ⟨(.type "dict"), none, .dict #[D P "__name__" 165 (S "law_te0060_02" 1242), D P "__doc__" 166 .none, D P "__package__" 167 .none, D P "__loader__" 168 (.builtin "__main__.__loader__#opaque"), D P "__spec__" 169 .none, D P "__annotations__" 170 (.ref 6), D P "__builtins__" 171 (.ref 4), D P "__file__" 173 (S "/claim/cut.py" 172), D P "__cached__" 174 .none, D P "_wall" 193 (.ref 21), D P "ascii_lower" 201 (.ref 26), D P "_replacement_string_value" 219 (.ref 27), D P "serialize_string_value" 226 (.ref 34), D P "serialize_url" 233 (.ref 41), D P "Node" 284 (.ref 74), D P "ParseError" 330 (.ref 104), D P "Comment" 371 (.ref 134), D P "WhitespaceToken" 412 (.ref 163), D P "LiteralToken" 470 (.ref 206), D P "IdentToken" 515 (.ref 235), D P "AtKeywordToken" 560 (.ref 265), D P "HashToken" 606 (.ref 295), D P "StringToken" 652 (.ref 325), D P "URLToken" 698 (.ref 355), D P "UnicodeRangeToken" 744 (.ref 385), D P "NumberToken" 799 (.ref 415), D P "PercentageToken" 854 (.ref 447), D P "DimensionToken" 918 (.ref 479), D P "ParenthesesBlock" 959 (.ref 513), D P "SquareBracketsBlock" 1000 (.ref 542), D P "CurlyBracketsBlock" 1041 (.ref 571), D P "FunctionBlock" 1091 (.ref 600), D P "_DIGITS" 1104 (.ref 606), D P "_number_end" 1116 (.ref 613), D P "_hex_end" 1125 (.ref 620), D P "parse_component_value_list" 1160 (.ref 628), D P "_is_name_start" 1169 (.ref 635), D P "_is_ident_start" 1177 (.ref 642), D P "_consume_ident" 1189 (.ref 649), D P "_consume_quoted_string" 1203 (.ref 656), D P "_consume_escape" 1213 (.ref 663), D P "_consume_url" 1227 (.ref 670), D P "_consume_unicode_range" 1241 (.ref 677), D P "_law_NUMBERS" 1249 (.ref 684), D P "_law_TAILS" 1255 (.ref 691), D P "_law_SIGNS" 1261 (.ref 698), D P "_law_item" 1271 (.ref 705), D P "_law_figure" 1278 (.ref 712), D P "_law_letter" 1285 (.ref 719), D P "_law_melts" 1302 (.ref 726), D P "_law_laid" 1318 (.ref 733), D P "_law_mark" 1325 (.ref 740), D P "_law_told" 1336 (.ref 747), D P "law" 1342 (.ref 752)] 54, #[]⟩),
 (20, ⟨(.type "code"), none, .fields #[(S "_wall" 187), (S "_wall" 188), (S "/claim/cut.py" 189), (I 1 0), (I 1 0), (I 0 0), (I 0 0), (I 3 0), (.ref 15), (.bool true), (I 181 0), (.ref 16), .none, (.ref 17), (.ref 18), (.ref 19), (I 191 0), (I 1 0), (S "/claim/cut.py" 192)], #[]⟩),
 (21, fO (nS 0 pB) "_wall" "_wall" 3 .none .none .none (S "__main__" 164) (.ref 20) .none 0),
 (25, ⟨(.type "code"), none, .fields #[(S "ascii_lower" 196), (S "ascii_lower" 197), (S "/claim/cut.py" 198), (I 5 0), (I 1 0), (I 0 0), (I 0 0), (I 3 0), (.ref 22), (.bool true), (I 181 0), (.ref 23), .none, .none, .none, (.ref 24), (I 199 0), (I 5 0), (S "/claim/cut.py" 200)], #[]⟩),
 (26, fO (nS 2 pB) "ascii_lower" "ascii_lower" 3 .none .none .none (S "tinycss2.ast" 194) (.ref 25) .none 0),
 (27, ⟨(.type "dict"), none, .dict #[D P "\"" 204 (S "\\\"" 205), D P "\\" 206 (S "\\\\" 207), D P "\n" 208 (S "\\A " 209), D P "\x0d" 210 (S "\\D " 211), D P "\x0c" 212 (S "\\C " 213)] 5, #[]⟩),
 (33, ⟨(.type "code"), none, .fields #[(S "serialize_string_value" 220), (S "serialize_string_value" 221), (S "/claim/cut.py" 222), (I 9 0), (I 1 0), (I 0 0), (I 0 0), (I 3 0), (.ref 28), (.bool true), (I 181 0), (.ref 29), .none, (.ref 30), (.ref 31), (.ref 32), (I 224 0), (I 9 0), (S "/claim/cut.py" 225)], #[]⟩),
 (34, fO (nS 5 pB) "serialize_string_value" "serialize_string_value" 3 .none .none .none (S "tinycss2.serializer" 202) (.ref 33) .none 0),
 (40, ⟨(.type "code"), none, .fields #[(S "serialize_url" 227), (S "serialize_url" 228), (S "/claim/cut.py" 229), (I 11 0), (I 1 0), (I 0 0), (I 0 0), (I 3 0), (.ref 35), (.bool true), (I 181 0), (.ref 36), .none, (.ref 37), (.ref 38), (.ref 39), (I 231 0), (I 11 0), (S "/claim/cut.py" 232)], #[]⟩),
 (41, fO (nS 6 pB) "serialize_url" "serialize_url" 3 .none .none .none (S "tinycss2.serializer" 202) (.ref 40) .none 0),
 (55, ⟨(.type "code"), none, .fields #[(S "__init__" 251), (S "Node.__init__" 252), (S "/claim/cut.py" 253), (I 17 0), (I 3 0), (I 0 0), (I 0 0), (I 3 0), (.ref 50), (.bool true), (I 181 0), (.ref 51), .none, (.ref 52), (.ref 53), (.ref 54), (I 257 0), (I 17 0), (S "/claim/cut.py" 258)], #[]⟩),
 (56, fO (nS 1 (cB (nS 8 pB))) "__init__" "Node.__init__" 3 .none .none .none (S "tinycss2.ast" 234) (.ref 55) .none 0),
 (62, ⟨(.type "code"), none, .fields #[(S "serialize" 260), (S "Node.serialize" 261), (S "/claim/cut.py" 262), (I 21 0), (I 1 0), (I 0 0), (I 0 0), (I 3 0), (.ref 57), (.bool true), (I 181 0), (.ref 58), .none, (.ref 59), (.ref 60), (.ref 61), (I 264 0), (I 21 0), (S "/claim/cut.py" 265)], #[]⟩),
 (63, fO (nS 2 (cB (nS 8 pB))) "serialize" "Node.serialize" 3 .none .none .none (S "tinycss2.ast" 234) (.ref 62) .none 0),
 (69, ⟨(.type "code"), none, .fields #[(S "_serialize_to" 267), (S "Node._serialize_to" 268), (S "/claim/cut.py" 269), (I 24 0), (I 2 0), (I 0 0), (I 0 0), (I 3 0), (.ref 64), (.bool true), (I 181 0), (.ref 65), .none, (.ref 66), (.ref 67), (.ref 68), (I 272 0), (I 24 0), (S "/claim/cut.py" 273)], #[]⟩),
 (70, fO (nS 3 (cB (nS 8 pB))) "_serialize_to" "Node._serialize_to" 3 .none .none .none (S "tinycss2.ast" 234) (.ref 69) .none 0),
 (73, ⟨(.type "dict"), none, .dict #[D P "__module__" 243 (S "tinycss2.ast" 234), D P "__firstlineno__" 247 (I 14 246), D P "__slots__" 250 (.ref 49), D P "__init__" 259 (.ref 56), D P "serialize" 266 (.ref 63), D P "_serialize_to" 274 (.ref 70), D P "__static_attributes__" 277 (.ref 71), D P "source_column" 279 (.ref 75), D P "source_line" 281 (.ref 76), D P "__doc__" 282 .none] 4, #[]⟩),
 (74, ⟨(.type "type"), none, .cls ⟨Z "Node", [(.type "object")], [(.ref 74), (.type "object")], 73, Z "Node", false, [Z "source_column", Z "source_line"], [(.ref 104), (.ref 134), (.ref 163), (.ref 206), (.ref 235), (.ref 265), (.ref 295), (.ref 325), (.ref 355), (.ref 385), (.ref 415), (.ref 447), (.ref 479), (.ref 513), (.ref 542), (.ref 571), (.ref 600)], false, none, false⟩, #[none, none, some (S "Node" 236), some (S "Node" 244), some (.builtin "object.__new__"), some (.bool false)]⟩),
 (75, ⟨(.type "member_descriptor"), none, .fields #[(S "source_column" 278), (.ref 74), (.builtin "proto.slot"), (.builtin "proto.slot#set"), (I 1 0)], #[]⟩),
 (76, ⟨(.type "member_descriptor"), none, .fields #[(S "source_line" 280), (.ref 74), (.builtin "proto.slot"), (.builtin "proto.slot#set"), (I 0 0)], #[]⟩),
 (92, ⟨(.type "code"), none, .fields #[(S "__init__" 302), (S "ParseError.__init__" 303), (S "/claim/cut.py" 304), (I 30 0), (I 5 0), (I 0 0), (I 0 0), (I 3 0), (.ref 87), (.bool true), (I 181 0), (.ref 88), .none, (.ref 89), (.ref 90), (.ref 91), (I 310 0), (I 30 0), (S "/claim/cut.py" 311)], #[]⟩),
 (93, fO (nS 2 (cB (nS 9 pB))) "__init__" "ParseError.__init__" 3 .none .none .none (S "tinycss2.ast" 234) (.ref 92) .none 0),
 (99, ⟨(.type "code"), none, .fields #[(S "_serialize_to" 313), (S "ParseError._serialize_to" 314), (S "/claim/cut.py" 315), (I 35 0), (I 2 0), (I 0 0), (I 0 0), (I 3 0), (.ref 94), (.bool true), (I 181 0), (.ref 95), .none, (.ref 96), (.ref 97), (.ref 98), (I 318 0), (I 35 0), (S "/claim/cut.py" 319)], #[]⟩),
 (100, fO (nS 3 (cB (nS 9 pB))) "_serialize_to" "ParseError._serialize_to" 3 .none .none .none (S "tinycss2.ast" 234) (.ref 99) .none 0),
 (103, ⟨(.type "dict"), none, .dict #[D P "__module__" 292 (S "tinycss2.ast" 234), D P "__firstlineno__" 296 (I 26 295), D P "__slots__" 299 (.ref 86), D P "type" 301 (S "error" 300), D P "__init__" 312 (.ref 93), D P "_serialize_to" 320 (.ref 100), D P "__static_attributes__" 323 (.ref 101), D P "kind" 325 (.ref 105), D P "message" 327 (.ref 106), D P "__doc__" 328 .none] 4, #[]⟩),
 (104, ⟨(.type "type"), none, .cls ⟨Z "ParseError", [(.ref 74)], [(.ref 104), (.ref 74), (.type "object")], 103, Z "ParseError", false, [Z "source_column", Z "source_line", Z "kind", Z "message"], [], false, none, false⟩, #[some (.ref 79), none, some (S "ParseError" 285), some (S "ParseError" 293), some (.builtin "object.__new__"), some (.bool false)]⟩),
 (105, ⟨(.type "member_descriptor"), none, .fields #[(S "kind" 324), (.ref 104), (.builtin "proto.slot"), (.builtin "proto.slot#set"), (I 3 0)], #[]⟩),
 (106, ⟨(.type "member_descriptor"), none, .fields #[(S "message" 326), (.ref 104), (.builtin "proto.slot"), (.builtin "proto.slot#set"), (I 2 0)], #[]⟩),
 (122, ⟨(.type "code"), none, .fields #[(S "__init__" 347), (S "Comment.__init__" 348), (S "/claim/cut.py" 349), (I 41 0), (I 4 0), (I 0 0), (I 0 0), (I 3 0), (.ref 117), (.bool true), (I 181 0), (.ref 118), .none, (.ref 119), (.ref 120), (.ref 121), (I 354 0), (I 41 0), (S "/claim/cut.py" 355)], #[]⟩),
 (123, fO (nS 2 (cB (nS 10 pB))) "__init__" "Comment.__init__" 3 .none .none .none (S "tinycss2.ast" 234) (.ref 122) .none 0),
 (129, ⟨(.type "code"), none, .fields #[(S "_serialize_to" 357), (S "Comment._serialize_to" 358), (S "/claim/cut.py" 359), (I 45 0), (I 2 0), (I 0 0), (I 0 0), (I 3 0), (.ref 124), (.bool true), (I 181 0), (.ref 125), .none, (.ref 126), (.ref 127), (.ref 128), (I 362 0), (I 45 0), (S "/claim/cut.py" 363)], #[]⟩),
 (130, fO (nS 3 (cB (nS 10 pB))) "_serialize_to" "Comment._serialize_to" 3 .none .none .none (S "tinycss2.ast" 234) (.ref 129) .none 0),
 (133, ⟨(.type "dict"), none, .dict #[D P "__module__" 338 (S "tinycss2.ast" 234), D P "__firstlineno__" 342 (I 37 341), D P "__slots__" 344 (.ref 116), D P "type" 346 (S "comment" 345), D P "__init__" 356 (.ref 123), D P "_serialize_to" 364 (.ref 130), D P "__static_attributes__" 366 (.ref 131), D P "value" 368 (.ref 135), D P "__doc__" 369 .none] 3, #[]⟩),
 (134, ⟨(.type "type"), none, .cls ⟨Z "Comment", [(.ref 74)], [(.ref 134), (.ref 74), (.type "object")], 133, Z "Comment", false, [Z "source_column", Z "source_line", Z "value"], [], false, none, false⟩, #[some (.ref 109), none, some (S "Comment" 331), some (S "Comment" 339), some (.builtin "object.__new__"), some (.bool false)]⟩),
 (135, ⟨(.type "member_descriptor"), none, .fields #[(S "value" 367), (.ref 134), (.builtin "proto.slot"), (.builtin "proto.slot#set"), (I 2 0)], #[]⟩),
 (151, ⟨(.type "code"), none, .fields #[(S "__init__" 388), (S "WhitespaceToken.__init__" 389), (S "/claim/cut.py" 390), (I 51 0), (I 4 0), (I 0 0), (I 0 0), (I 3 0), (.ref 146), (.bool true), (I 181 0), (.ref 147), .none, (.ref 148), (.ref 149), (.ref 150), (I 395 0), (I 51 0), (S "/claim/cut.py" 396)], #[]⟩),
 (152, fO (nS 2 (cB (nS 11 pB))) "__init__" "WhitespaceToken.__init__" 3 .none .none .none (S "tinycss2.ast" 234) (.ref 151) .none 0),
 (158, ⟨(.type "code"), none, .fields #[(S "_serialize_to" 398), (S "WhitespaceToken._serialize_to" 399), (S "/claim/cut.py" 400), (I 55 0), (I 2 0), (I 0 0), (I 0 0), (I 3 0), (.ref 153), (.bool true), (I 181 0), (.ref 154), .none, (.ref 155), (.ref 156), (.ref 157), (I 403 0), (I 55 0), (S "/claim/cut.py" 404)], #[]⟩),
 (159, fO (nS 3 (cB (nS 11 pB))) "_serialize_to" "WhitespaceToken._serialize_to" 3 .none .none .none (S "tinycss2.ast" 234) (.ref 158) .none 0),
 (162, ⟨(.type "dict"), none, .dict #[D P "__module__" 379 (S "tinycss2.ast" 234), D P "__firstlineno__" 383 (I 47 382), D P "__slots__" 385 (.ref 145), D P "type" 387 (S "whitespace" 386), D P "__init__" 397 (.ref 152), D P "_serialize_to" 405 (.ref 159), D P "__static_attributes__" 407 (.ref 160), D P "value" 409 (.ref 164), D P "__doc__" 410 .none] 3, #[]⟩),
 (163, ⟨(.type "type"), none, .cls ⟨Z "WhitespaceToken", [(.ref 74)], [(.ref 163), (.ref 74), (.type "object")], 162, Z "WhitespaceToken", false, [Z "source_column", Z "source_line", Z "value"], [], false, none, false⟩, #[some (.ref 138), none, some (S "WhitespaceToken" 372), some (S "WhitespaceToken" 380), some (.builtin "object.__new__"), some (.bool false)]⟩),
 (164, ⟨(.type "member_descriptor"), none, .fields #[(S "value" 408), (.ref 163), (.builtin "proto.slot"), (.builtin "proto.slot#set"), (I 2 0)], #[]⟩),
 (180, ⟨(.type "code"), none, .fields #[(S "__init__" 429), (S "LiteralToken.__init__" 430), (S "/claim/cut.py" 431), (I 61 0), (I 4 0), (I 0 0), (I 0 0), (I 3 0), (.ref 175), (.bool true), (I 181 0), (.ref 176), .none, (.ref 177), (.ref 178), (.ref 179), (I 436 0), (I 61 0), (S "/claim/cut.py" 437)], #[]⟩),
 (181, fO (nS 2 (cB (nS 12 pB))) "__init__" "LiteralToken.__init__" 3 .none .none .none (S "tinycss2.ast" 234) (.ref 180) .none 0),
 (187, ⟨(.type "code"), none, .fields #[(S "__eq__" 439), (S "LiteralToken.__eq__" 440), (S "/claim/cut.py" 441), (I 65 0), (I 2 0), (I 0 0), (I 0 0), (I 3 0), (.ref 182), (.bool true), (I 181 0), (.ref 183), .none, (.ref 184), (.ref 185), (.ref 186), (I 444 0), (I 65 0), (S "/claim/cut.py" 445)], #[]⟩),
 (188, fO (nS 3 (cB (nS 12 pB))) "__eq__" "LiteralToken.__eq__" 3 .none .none .none (S "tinycss2.ast" 234) (.ref 187) .none 0),
 (194, ⟨(.type "code"), none, .fields #[(S "__ne__" 447), (S "LiteralToken.__ne__" 448), (S "/claim/cut.py" 449), (I 68 0), (I 2 0), (I 0 0), (I 0 0), (I 3 0), (.ref 189), (.bool true), (I 181 0), (.ref 190), .none, (.ref 191), (.ref 192), (.ref 193), (I 452 0), (I 68 0), (S "/claim/cut.py" 453)], #[]⟩),
 (195, fO (nS 4 (cB (nS 12 pB))) "__ne__" "LiteralToken.__ne__" 3 .none .none .none (S "tinycss2.ast" 234) (.ref 194) .none 0),
 (201, ⟨(.type "code"), none, .fields #[(S "_serialize_to" 455), (S "LiteralToken._serialize_to" 456), (S "/claim/cut.py" 457), (I 71 0), (I 2 0), (I 0 0), (I 0 0), (I 3 0), (.ref 196), (.bool true), (I 181 0), (.ref 197), .none, (.ref 198), (.ref 199), (.ref 200), (I 460 0), (I 71 0), (S "/claim/cut.py" 461)], #[]⟩),
 (202, fO (nS 5 (cB (nS 12 pB))) "_serialize_to" "LiteralToken._serialize_to" 3 .none .none .none (S "tinycss2.ast" 234) (.ref 201) .none 0),
 (205, ⟨(.type "dict"), none, .dict #[D P "__module__" 420 (S "tinycss2.ast" 234), D P "__firstlineno__" 424 (I 57 423), D P "__slots__" 426 (.ref 174), D P "type" 428 (S "literal" 427), D P "__init__" 438 (.ref 181), D P "__eq__" 446 (.ref 188), D P "__ne__" 454 (.ref 195), D P "_serialize_to" 462 (.ref 202), D P "__static_attributes__" 464 (.ref 203), D P "value" 466 (.ref 207), D P "__doc__" 467 .none, D P "__hash__" 468 .none] 4, #[]⟩),
 (206, ⟨(.type "type"), none, .cls ⟨Z "LiteralToken", [(.ref 74)], [(.ref 206), (.ref 74), (.type "object")], 205, Z "LiteralToken", false, [Z "source_column", Z "source_line", Z "value"], [], false, none, false⟩, #[some (.ref 167), none, some (S "LiteralToken" 413), some (S "LiteralToken" 421), some (.builtin "object.__new__"), some (.bool false)]⟩),
 (207, ⟨(.type "member_descriptor"), none, .fields #[(S "value" 465), (.ref 206), (.builtin "proto.slot"), (.builtin "proto.slot#set"), (I 2 0)], #[]⟩),
 (223, ⟨(.type "code"), none, .fields #[(S "__init__" 488), (S "IdentToken.__init__" 489), (S "/claim/cut.py" 490), (I 77 0), (I 4 0), (I 0 0), (I 0 0), (I 3 0), (.ref 218), (.bool true), (I 181 0), (.ref 219), .none, (.ref 220), (.ref 221), (.ref 222), (I 495 0), (I 77 0), (S "/claim/cut.py" 496)], #[]⟩),
 (224, fO (nS 2 (cB (nS 13 pB))) "__init__" "IdentToken.__init__" 3 .none .none .none (S "tinycss2.ast" 234) (.ref 223) .none 0),
 (230, ⟨(.type "code"), none, .fields #[(S "_serialize_to" 498), (S "IdentToken._serialize_to" 499), (S "/claim/cut.py" 500), (I 85 0), (I 2 0), (I 0 0), (I 0 0), (I 3 0), (.ref 225), (.bool true), (I 181 0), (.ref 226), .none, (.ref 227), (.ref 228), (.ref 229), (I 503 0), (I 85 0), (S "/claim/cut.py" 504)], #[]⟩),
 (231, fO (nS 3 (cB (nS 13 pB))) "_serialize_to" "IdentToken._serialize_to" 3 .none .none .none (S "tinycss2.ast" 234) (.ref 230) .none 0),
 (234, ⟨(.type "dict"), none, .dict #[D P "__module__" 478 (S "tinycss2.ast" 234), D P "__firstlineno__" 482 (I 73 481), D P "__slots__" 485 (.ref 217), D P "type" 487 (S "ident" 486), D P "__init__" 497 (.ref 224), D P "_serialize_to" 505 (.ref 231), D P "__static_attributes__" 508 (.ref 232), D P "lower_value" 510 (.ref 236), D P "value" 512 (.ref 237), D P "__doc__" 513 .none] 4, #[]⟩),
 (235, ⟨(.type "type"), none, .cls ⟨Z "IdentToken", [(.ref 74)], [(.ref 235), (.ref 74), (.type "object")], 234, Z "IdentToken", false, [Z "source_column", Z "source_line", Z "lower_value", Z "value"], [], false, none, false⟩, #[some (.ref 210), none, some (S "IdentToken" 471), some (S "IdentToken" 479), some (.builtin "object.__new__"), some (.bool false)]⟩),
 (236, ⟨(.type "member_descriptor"), none, .fields #[(S "lower_value" 509), (.ref 235), (.builtin "proto.slot"), (.builtin "proto.slot#set"), (I 3 0)], #[]⟩),
 (237, ⟨(.type "member_descriptor"), none, .fields #[(S "value" 511), (.ref 235), (.builtin "proto.slot"), (.builtin "proto.slot#set"), (I 2 0)], #[]⟩),
 (253, ⟨(.type "code"), none, .fields #[(S "__init__" 533), (S "AtKeywordToken.__init__" 534), (S "/claim/cut.py" 535), (I 91 0), (I 4 0), (I 0 0), (I 0 0), (I 3 0), (.ref 248), (.bool true), (I 181 0), (.ref 249), .none, (.ref 250), (.ref 251), (.ref 252), (I 540 0), (I 91 0), (S "/claim/cut.py" 541)], #[]⟩),
 (254, fO (nS 2 (cB (nS 14 pB))) "__init__" "AtKeywordToken.__init__" 3 .none .none .none (S "tinycss2.ast" 234) (.ref 253) .none 0),
 (260, ⟨(.type "code"), none, .fields #[(S "_serialize_to" 543), (S "AtKeywordToken._serialize_to" 544), (S "/claim/cut.py" 545), (I 99 0), (I 2 0), (I 0 0), (I 0 0), (I 3 0), (.ref 255), (.bool true), (I 181 0), (.ref 256), .none, (.ref 257), (.ref 258), (.ref 259), (I 548 0), (I 99 0), (S "/claim/cut.py" 549)], #[]⟩),
 (261, fO (nS 3 (cB (nS 14 pB))) "_serialize_to" "AtKeywordToken._serialize_to" 3 .none .none .none (S "tinycss2.ast" 234) (.ref 260) .none 0),
 (264, ⟨(.type "dict"), none, .dict #[D P "__module__" 523 (S "tinycss2.ast" 234), D P "__firstlineno__" 527 (I 87 526), D P "__slots__" 530 (.ref 247), D P "type" 532 (S "at-keyword" 531), D P "__init__" 542 (.ref 254), D P "_serialize_to" 550 (.ref 261), D P "__static_attributes__" 553 (.ref 262), D P "lower_value" 555 (.ref 266), D P "value" 557 (.ref 267), D P "__doc__" 558 .none] 4, #[]⟩),
 (265, ⟨(.type "type"), none, .cls ⟨Z "AtKeywordToken", [(.ref 74)], [(.ref 265), (.ref 74), (.type "object")], 264, Z "AtKeywordToken", false, [Z "source_column", Z "source_line", Z "lower_value", Z "value"], [], false, none, false⟩, #[some (.ref 240), none, some (S "AtKeywordToken" 516), some (S "AtKeywordToken" 524), some (.builtin "object.__new__"), some (.bool false)]⟩),
 (266, ⟨(.type "member_descriptor"), none, .fields #[(S "lower_value" 554), (.ref 265), (.builtin "proto.slot"), (.builtin "proto.slot#set"), (I 3 0)], #[]⟩),
 (267, ⟨(.type "member_descriptor"), none, .fields #[(S "value" 556), (.ref 265), (.builtin "proto.slot"), (.builtin "proto.slot#set"), (I 2 0)], #[]⟩),
 (283, ⟨(.type "code"), none, .fields #[(S "__init__" 578), (S "HashToken.__init__" 579), (S "/claim/cut.py" 580), (I 105 0), (I 5 0), (I 0 0), (I 0 0), (I 3 0), (.ref 278), (.bool true), (I 181 0), (.ref 279), .none, (.ref 280), (.ref 281), (.ref 282), (I 586 0), (I 105 0), (S "/claim/cut.py" 587)], #[]⟩),
 (284, fO (nS 2 (cB (nS 15 pB))) "__init__" "HashToken.__init__" 3 .none .none .none (S "tinycss2.ast" 234) (.ref 283) .none 0),
 (290, ⟨(.type "code"), none, .fields #[(S "_serialize_to" 589), (S "HashToken._serialize_to" 590), (S "/claim/cut.py" 591), (I 110 0), (I 2 0), (I 0 0), (I 0 0), (I 3 0), (.ref 285), (.bool true), (I 181 0), (.ref 286), .none, (.ref 287), (.ref 288), (.ref 289), (I 594 0), (I 110 0), (S "/claim/cut.py" 595)], #[]⟩),
 (291, fO (nS 3 (cB (nS 15 pB))) "_serialize_to" "HashToken._serialize_to" 3 .none .none .none (S "tinycss2.ast" 234) (.ref 290) .none 0),
 (294, ⟨(.type "dict"), none, .dict #[D P "__module__" 568 (S "tinycss2.ast" 234), D P "__firstlineno__" 572 (I 101 571), D P "__slots__" 575 (.ref 277), D P "type" 577 (S "hash" 576), D P "__init__" 588 (.ref 284), D P "_serialize_to" 596 (.ref 291), D P "__static_attributes__" 599 (.ref 292), D P "is_identifier" 601 (.ref 296), D P "value" 603 (.ref 297), D P "__doc__" 604 .none] 4, #[]⟩),
 (295, ⟨(.type "type"), none, .cls ⟨Z "HashToken", [(.ref 74)], [(.ref 295), (.ref 74), (.type "object")], 294, Z "HashToken", false, [Z "source_column", Z "source_line", Z "is_identifier", Z "value"], [], false, none, false⟩, #[some (.ref 270), none, some (S "HashToken" 561), some (S "HashToken" 569), some (.builtin "object.__new__"), some (.bool false)]⟩),
 (296, ⟨(.type "member_descriptor"), none, .fields #[(S "is_identifier" 600), (.ref 295), (.builtin "proto.slot"), (.builtin "proto.slot#set"), (I 3 0)], #[]⟩),
 (297, ⟨(.type "member_descriptor"), none, .fields #[(S "value" 602), (.ref 295), (.builtin "proto.slot"), (.builtin "proto.slot#set"), (I 2 0)], #[]⟩),
 (313, ⟨(.type "code"), none, .fields #[(S "__init__" 624), (S "StringToken.__init__" 625), (S "/claim/cut.py" 626), (I 116 0), (I 5 0), (I 0 0), (I 0 0), (I 3 0), (.ref 308), (.bool true), (I 181 0), (.ref 309), .none, (.ref 310), (.ref 311), (.ref 312), (I 632 0), (I 116 0), (S "/claim/cut.py" 633)], #[]⟩),
 (314, fO (nS 2 (cB (nS 16 pB))) "__init__" "StringToken.__init__" 3 .none .none .none (S "tinycss2.ast" 234) (.ref 313) .none 0),
 (320, ⟨(.type "code"), none, .fields #[(S "_serialize_to" 635), (S "StringToken._serialize_to" 636), (S "/claim/cut.py" 637), (I 121 0), (I 2 0), (I 0 0), (I 0 0), (I 3 0), (.ref 315), (.bool true), (I 181 0), (.ref 316), .none, (.ref 317), (.ref 318), (.ref 319), (I 640 0), (I 121 0), (S "/claim/cut.py" 641)], #[]⟩),
 (321, fO (nS 3 (cB (nS 16 pB))) "_serialize_to" "StringToken._serialize_to" 3 .none .none .none (S "tinycss2.ast" 234) (.ref 320) .none 0),
 (324, ⟨(.type "dict"), none, .dict #[D P "__module__" 614 (S "tinycss2.ast" 234), D P "__firstlineno__" 618 (I 112 617), D P "__slots__" 621 (.ref 307), D P "type" 623 (S "string" 622), D P "__init__" 634 (.ref 314), D P "_serialize_to" 642 (.ref 321), D P "__static_attributes__" 645 (.ref 322), D P "representation" 647 (.ref 326), D P "value" 649 (.ref 327), D P "__doc__" 650 .none] 4, #[]⟩),
 (325, ⟨(.type "type"), none, .cls ⟨Z "StringToken", [(.ref 74)], [(.ref 325), (.ref 74), (.type "object")], 324, Z "StringToken", false, [Z "source_column", Z "source_line", Z "representation", Z "value"], [], false, none, false⟩, #[some (.ref 300), none, some (S "StringToken" 607), some (S "StringToken" 615), some (.builtin "object.__new__"), some (.bool false)]⟩),
 (326, ⟨(.type "member_descriptor"), none, .fields #[(S "representation" 646), (.ref 325), (.builtin "proto.slot"), (.builtin "proto.slot#set"), (I 3 0)], #[]⟩),
 (327, ⟨(.type "member_descriptor"), none, .fields #[(S "value" 648), (.ref 325), (.builtin "proto.slot"), (.builtin "proto.slot#set"), (I 2 0)], #[]⟩),
 (343, ⟨(.type "code"), none, .fields #[(S "__init__" 670), (S "URLToken.__init__" 671), (S "/claim/cut.py" 672), (I 127 0), (I 5 0), (I 0 0), (I 0 0), (I 3 0), (.ref 338), (.bool true), (I 181 0), (.ref 339), .none, (.ref 340), (.ref 341), (.ref 342), (I 678 0), (I 127 0), (S "/claim/cut.py" 679)], #[]⟩),
 (344, fO (nS 2 (cB (nS 17 pB))) "__init__" "URLToken.__init__" 3 .none .none .none (S "tinycss2.ast" 234) (.ref 343) .none 0),
 (350, ⟨(.type "code"), none, .fields #[(S "_serialize_to" 681), (S "URLToken._serialize_to" 682), (S "/claim/cut.py" 683), (I 132 0), (I 2 0), (I 0 0), (I 0 0), (I 3 0), (.ref 345), (.bool true), (I 181 0), (.ref 346), .none, (.ref 347), (.ref 348), (.ref 349), (I 686 0), (I 132 0), (S "/claim/cut.py" 687)], #[]⟩),
 (351, fO (nS 3 (cB (nS 17 pB))) "_serialize_to" "URLToken._serialize_to" 3 .none .none .none (S "tinycss2.ast" 234) (.ref 350) .none 0),
 (354, ⟨(.type "dict"), none, .dict #[D P "__module__" 660 (S "tinycss2.ast" 234), D P "__firstlineno__" 664 (I 123 663), D P "__slots__" 667 (.ref 337), D P "type" 669 (S "url" 668), D P "__init__" 680 (.ref 344), D P "_serialize_to" 688 (.ref 351), D P "__static_attributes__" 691 (.ref 352), D P "representation" 693 (.ref 356), D P "value" 695 (.ref 357), D P "__doc__" 696 .none] 4, #[]⟩),
 (355, ⟨(.type "type"), none, .cls ⟨Z "URLToken", [(.ref 74)], [(.ref 355), (.ref 74), (.type "object")], 354, Z "URLToken", false, [Z "source_column", Z "source_line", Z "representation", Z "value"], [], false, none, false⟩, #[some (.ref 330), none, some (S "URLToken" 653), some (S "URLToken" 661), some (.builtin "object.__new__"), some (.bool false)]⟩),
 (356, ⟨(.type "member_descriptor"), none, .fields #[(S "representation" 692), (.ref 355), (.builtin "proto.slot"), (.builtin "proto.slot#set"), (I 3 0)], #[]⟩),
 (357, ⟨(.type "member_descriptor"), none, .fields #[(S "value" 694), (.ref 355), (.builtin "proto.slot"), (.builtin "proto.slot#set"), (I 2 0)], #[]⟩),
 (373, ⟨(.type "code"), none, .fields #[(S "__init__" 716), (S "UnicodeRangeToken.__init__" 717), (S "/claim/cut.py" 718), (I 138 0), (I 5 0), (I 0 0), (I 0 0), (I 3 0), (.ref 368), (.bool true), (I 181 0), (.ref 369), .none, (.ref 370), (.ref 371), (.ref 372), (I 724 0), (I 138 0), (S "/claim/cut.py" 725)], #[]⟩),
 (374, fO (nS 2 (cB (nS 18 pB))) "__init__" "UnicodeRangeToken.__init__" 3 .none .none .none (S "tinycss2.ast" 234) (.ref 373) .none 0),
 (380, ⟨(.type "code"), none, .fields #[(S "_serialize_to" 727), (S "UnicodeRangeToken._serialize_to" 728), (S "/claim/cut.py" 729), (I 143 0), (I 2 0), (I 0 0), (I 0 0), (I 3 0), (.ref 375), (.bool true), (I 181 0), (.ref 376), .none, (.ref 377), (.ref 378), (.ref 379), (I 732 0), (I 143 0), (S "/claim/cut.py" 733)], #[]⟩),
 (381, fO (nS 3 (cB (nS 18 pB))) "_serialize_to" "UnicodeRangeToken._serialize_to" 3 .none .none .none (S "tinycss2.ast" 234) (.ref 380) .none 0),
 (384, ⟨(.type "dict"), none, .dict #[D P "__module__" 706 (S "tinycss2.ast" 234), D P "__firstlineno__" 710 (I 134 709), D P "__slots__" 713 (.ref 367), D P "type" 715 (S "unicode-range" 714), D P "__init__" 726 (.ref 374), D P "_serialize_to" 734 (.ref 381), D P "__static_attributes__" 737 (.ref 382), D P "end" 739 (.ref 386), D P "start" 741 (.ref 387), D P "__doc__" 742 .none] 4, #[]⟩),
 (385, ⟨(.type "type"), none, .cls ⟨Z "UnicodeRangeToken", [(.ref 74)], [(.ref 385), (.ref 74), (.type "object")], 384, Z "UnicodeRangeToken", false, [Z "source_column", Z "source_line", Z "end", Z "start"], [], false, none, false⟩, #[some (.ref 360), none, some (S "UnicodeRangeToken" 699), some (S "UnicodeRangeToken" 707), some (.builtin "object.__new__"), some (.bool false)]⟩),
 (386, ⟨(.type "member_descriptor"), none, .fields #[(S "end" 738), (.ref 385), (.builtin "proto.slot"), (.builtin "proto.slot#set"), (I 3 0)], #[]⟩),
 (387, ⟨(.type "member_descriptor"), none, .fields #[(S "start" 740), (.ref 385), (.builtin "proto.slot"), (.builtin "proto.slot#set"), (I 2 0)], #[]⟩),
 (403, ⟨(.type "code"), none, .fields #[(S "__init__" 764), (S "NumberToken.__init__" 765), (S "/claim/cut.py" 766), (I 149 0), (I 6 0), (I 0 0), (I 0 0), (I 3 0), (.ref 398), (.bool true), (I 181 0), (.ref 399), .none, (.ref 400), (.ref 401), (.ref 402), (I 773 0), (I 149 0), (S "/claim/cut.py" 774)], #[]⟩),
 (404, fO (nS 2 (cB (nS 19 pB))) "__init__" "NumberToken.__init__" 3 .none .none .none (S "tinycss2.ast" 234) (.ref 403) .none 0),
 (410, ⟨(.type "code"), none, .fields #[(S "_serialize_to" 776), (S "NumberToken._serialize_to" 777), (S "/claim/cut.py" 778), (I 156 0), (I 2 0), (I 0 0), (I 0 0), (I 3 0), (.ref 405), (.bool true), (I 181 0), (.ref 406), .none, (.ref 407), (.ref 408), (.ref 409), (I 781 0), (I 156 0), (S "/claim/cut.py" 782)], #[]⟩),
 (411, fO (nS 3 (cB (nS 19 pB))) "_serialize_to" "NumberToken._serialize_to" 3 .none .none .none (S "tinycss2.ast" 234) (.ref 410) .none 0),
 (414, ⟨(.type "dict"), none, .dict #[D P "__module__" 752 (S "tinycss2.ast" 234), D P "__firstlineno__" 756 (I 145 755), D P "__slots__" 761 (.ref 397), D P "type" 763 (S "number" 762), D P "__init__" 775 (.ref 404), D P "_serialize_to" 783 (.ref 411), D P "__static_attributes__" 788 (.ref 412), D P "int_value" 790 (.ref 416), D P "is_integer" 792 (.ref 417), D P "representation" 794 (.ref 418), D P "value" 796 (.ref 419), D P "__doc__" 797 .none] 6, #[]⟩),
 (415, ⟨(.type "type"), none, .cls ⟨Z "NumberToken", [(.ref 74)], [(.ref 415), (.ref 74), (.type "object")], 414, Z "NumberToken", false, [Z "source_column", Z "source_line", Z "int_value", Z "is_integer", Z "representation", Z "value"], [], false, none, false⟩, #[some (.ref 390), none, some (S "NumberToken" 745), some (S "NumberToken" 753), some (.builtin "object.__new__"), some (.bool false)]⟩),
 (416, ⟨(.type "member_descriptor"), none, .fields #[(S "int_value" 789), (.ref 415), (.builtin "proto.slot"), (.builtin "proto.slot#set"), (I 5 0)], #[]⟩),
 (417, ⟨(.type "member_descriptor"), none, .fields #[(S "is_integer" 791), (.ref 415), (.builtin "proto.slot"), (.builtin "proto.slot#set"), (I 4 0)], #[]⟩),
 (418, ⟨(.type "member_descriptor"), none, .fields #[(S "representation" 793), (.ref 415), (.builtin "proto.slot"), (.builtin "proto.slot#set"), (I 3 0)], #[]⟩),
 (419, ⟨(.type "member_descriptor"), none, .fields #[(S "value" 795), (.ref 415), (.builtin "proto.slot"), (.builtin "proto.slot#set"), (I 2 0)], #[]⟩),
 (435, ⟨(.type "code"), none, .fields #[(S "__init__" 819), (S "PercentageToken.__init__" 820), (S "/claim/cut.py" 821), (I 162 0), (I 6 0), (I 0 0), (I 0 0), (I 3 0), (.ref 430), (.bool true), (I 181 0), (.ref 431), .none, (.ref 432), (.ref 433), (.ref 434), (I 828 0), (I 162 0), (S "/claim/cut.py" 829)], #[]⟩),
 (436, fO (nS 2 (cB (nS 20 pB))) "__init__" "PercentageToken.__init__" 3 .none .none .none (S "tinycss2.ast" 234) (.ref 435) .none 0),
 (442, ⟨(.type "code"), none, .fields #[(S "_serialize_to" 831), (S "PercentageToken._serialize_to" 832), (S "/claim/cut.py" 833), (I 169 0), (I 2 0), (I 0 0), (I 0 0), (I 3 0), (.ref 437), (.bool true), (I 181 0), (.ref 438), .none, (.ref 439), (.ref 440), (.ref 441), (I 836 0), (I 169 0), (S "/claim/cut.py" 837)], #[]⟩),
 (443, fO (nS 3 (cB (nS 20 pB))) "_serialize_to" "PercentageToken._serialize_to" 3 .none .none .none (S "tinycss2.ast" 234) (.ref 442) .none 0),
 (446, ⟨(.type "dict"), none, .dict #[D P "__module__" 807 (S "tinycss2.ast" 234), D P "__firstlineno__" 811 (I 158 810), D P "__slots__" 816 (.ref 429), D P "type" 818 (S "percentage" 817), D P "__init__" 830 (.ref 436), D P "_serialize_to" 838 (.ref 443), D P "__static_attributes__" 843 (.ref 444), D P "int_value" 845 (.ref 448), D P "is_integer" 847 (.ref 449), D P "representation" 849 (.ref 450), D P "value" 851 (.ref 451), D P "__doc__" 852 .none] 6, #[]⟩),
 (447, ⟨(.type "type"), none, .cls ⟨Z "PercentageToken", [(.ref 74)], [(.ref 447), (.ref 74), (.type "object")], 446, Z "PercentageToken", false, [Z "source_column", Z "source_line", Z "int_value", Z "is_integer", Z "representation", Z "value"], [], false, none, false⟩, #[some (.ref 422), none, some (S "PercentageToken" 800), some (S "PercentageToken" 808), some (.builtin "object.__new__"), some (.bool false)]⟩),
 (448, ⟨(.type "member_descriptor"), none, .fields #[(S "int_value" 844), (.ref 447), (.builtin "proto.slot"), (.builtin "proto.slot#set"), (I 5 0)], #[]⟩),
 (449, ⟨(.type "member_descriptor"), none, .fields #[(S "is_integer" 846), (.ref 447), (.builtin "proto.slot"), (.builtin "proto.slot#set"), (I 4 0)], #[]⟩),
 (450, ⟨(.type "member_descriptor"), none, .fields #[(S "representation" 848), (.ref 447), (.builtin "proto.slot"), (.builtin "proto.slot#set"), (I 3 0)], #[]⟩),
 (451, ⟨(.type "member_descriptor"), none, .fields #[(S "value" 850), (.ref 447), (.builtin "proto.slot"), (.builtin "proto.slot#set"), (I 2 0)], #[]⟩),
 (467, ⟨(.type "code"), none, .fields #[(S "__init__" 876), (S "DimensionToken.__init__" 877), (S "/claim/cut.py" 878), (I 175 0), (I 7 0), (I 0 0), (I 0 0), (I 3 0), (.ref 462), (.bool true), (I 181 0), (.ref 463), .none, (.ref 464), (.ref 465), (.ref 466), (I 886 0), (I 175 0), (S "/claim/cut.py" 887)], #[]⟩),
 (468, fO (nS 2 (cB (nS 21 pB))) "__init__" "DimensionToken.__init__" 3 .none .none .none (S "tinycss2.ast" 234) (.ref 467) .none 0),
 (474, ⟨(.type "code"), none, .fields #[(S "_serialize_to" 889), (S "DimensionToken._serialize_to" 890), (S "/claim/cut.py" 891), (I 187 0), (I 2 0), (I 0 0), (I 0 0), (I 3 0), (.ref 469), (.bool true), (I 181 0), (.ref 470), .none, (.ref 471), (.ref 472), (.ref 473), (I 894 0), (I 187 0), (S "/claim/cut.py" 895)], #[]⟩),
 (475, fO (nS 3 (cB (nS 21 pB))) "_serialize_to" "DimensionToken._serialize_to" 3 .none .none .none (S "tinycss2.ast" 234) (.ref 474) .none 0),
 (478, ⟨(.type "dict"), none, .dict #[D P "__module__" 862 (S "tinycss2.ast" 234), D P "__firstlineno__" 866 (I 171 865), D P "__slots__" 873 (.ref 461), D P "type" 875 (S "dimension" 874), D P "__init__" 888 (.ref 468), D P "_serialize_to" 896 (.ref 475), D P "__static_attributes__" 903 (.ref 476), D P "int_value" 905 (.ref 480), D P "is_integer" 907 (.ref 481), D P "lower_unit" 909 (.ref 482), D P "representation" 911 (.ref 483), D P "unit" 913 (.ref 484), D P "value" 915 (.ref 485), D P "__doc__" 916 .none] 8, #[]⟩),
 (479, ⟨(.type "type"), none, .cls ⟨Z "DimensionToken", [(.ref 74)], [(.ref 479), (.ref 74), (.type "object")], 478, Z "DimensionToken", false, [Z "source_column", Z "source_line", Z "int_value", Z "is_integer", Z "lower_unit", Z "representation", Z "unit", Z "value"], [], false, none, false⟩, #[some (.ref 454), none, some (S "DimensionToken" 855), some (S "DimensionToken" 863), some (.builtin "object.__new__"), some (.bool false)]⟩),
 (480, ⟨(.type "member_descriptor"), none, .fields #[(S "int_value" 904), (.ref 479), (.builtin "proto.slot"), (.builtin "proto.slot#set"), (I 7 0)], #[]⟩),
 (481, ⟨(.type "member_descriptor"), none, .fields #[(S "is_integer" 906), (.ref 479), (.builtin "proto.slot"), (.builtin "proto.slot#set"), (I 6 0)], #[]⟩),
 (482, ⟨(.type "member_descriptor"), none, .fields #[(S "lower_unit" 908), (.ref 479), (.builtin "proto.slot"), (.builtin "proto.slot#set"), (I 5 0)], #[]⟩),
 (483, ⟨(.type "member_descriptor"), none, .fields #[(S "representation" 910), (.ref 479), (.builtin "proto.slot"), (.builtin "proto.slot#set"), (I 4 0)], #[]⟩),
 (484, ⟨(.type "member_descriptor"), none, .fields #[(S "unit" 912), (.ref 479), (.builtin "proto.slot"), (.builtin "proto.slot#set"), (I 3 0)], #[]⟩),
 (485, ⟨(.type "member_descriptor"), none, .fields #[(S "value" 914), (.ref 479), (.builtin "proto.slot"), (.builtin "proto.slot#set"), (I 2 0)], #[]⟩),
 (501, ⟨(.type "code"), none, .fields #[(S "__init__" 935), (S "ParenthesesBlock.__init__" 936), (S "/claim/cut.py" 937), (I 193 0), (I 4 0), (I 0 0), (I 0 0), (I 3 0), (.ref 496), (.bool true), (I 181 0), (.ref 497), .none, (.ref 498), (.ref 499), (.ref 500), (I 942 0), (I 193 0), (S "/claim/cut.py" 943)], #[]⟩),
 (502, fO (nS 2 (cB (nS 22 pB))) "__init__" "ParenthesesBlock.__init__" 3 .none .none .none (S "tinycss2.ast" 234) (.ref 501) .none 0),
 (508, ⟨(.type "code"), none, .fields #[(S "_serialize_to" 945), (S "ParenthesesBlock._serialize_to" 946), (S "/claim/cut.py" 947), (I 197 0), (I 2 0), (I 0 0), (I 0 0), (I 3 0), (.ref 503), (.bool true), (I 181 0), (.ref 504), .none, (.ref 505), (.ref 506), (.ref 507), (I 950 0), (I 197 0), (S "/claim/cut.py" 951)], #[]⟩),
 (509, fO (nS 3 (cB (nS 22 pB))) "_serialize_to" "ParenthesesBlock._serialize_to" 3 .none .none .none (S "tinycss2.ast" 234) (.ref 508) .none 0),
 (512, ⟨(.type "dict"), none, .dict #[D P "__module__" 926 (S "tinycss2.ast" 234), D P "__firstlineno__" 930 (I 189 929), D P "__slots__" 932 (.ref 495), D P "type" 934 (S "() block" 933), D P "__init__" 944 (.ref 502), D P "_serialize_to" 952 (.ref 509), D P "__static_attributes__" 954 (.ref 510), D P "content" 956 (.ref 514), D P "__doc__" 957 .none] 3, #[]⟩),
 (513, ⟨(.type "type"), none, .cls ⟨Z "ParenthesesBlock", [(.ref 74)], [(.ref 513), (.ref 74), (.type "object")], 512, Z "ParenthesesBlock", false, [Z "source_column", Z "source_line", Z "content"], [], false, none, false⟩, #[some (.ref 488), none, some (S "ParenthesesBlock" 919), some (S "ParenthesesBlock" 927), some (.builtin "object.__new__"), some (.bool false)]⟩),
 (514, ⟨(.type "member_descriptor"), none, .fields #[(S "content" 955), (.ref 513), (.builtin "proto.slot"), (.builtin "proto.slot#set"), (I 2 0)], #[]⟩),
 (530, ⟨(.type "code"), none, .fields #[(S "__init__" 976), (S "SquareBracketsBlock.__init__" 977), (S "/claim/cut.py" 978), (I 203 0), (I 4 0), (I 0 0), (I 0 0), (I 3 0), (.ref 525), (.bool true), (I 181 0), (.ref 526), .none, (.ref 527), (.ref 528), (.ref 529), (I 983 0), (I 203 0), (S "/claim/cut.py" 984)], #[]⟩),
 (531, fO (nS 2 (cB (nS 23 pB))) "__init__" "SquareBracketsBlock.__init__" 3 .none .none .none (S "tinycss2.ast" 234) (.ref 530) .none 0),
 (537, ⟨(.type "code"), none, .fields #[(S "_serialize_to" 986), (S "SquareBracketsBlock._serialize_to" 987), (S "/claim/cut.py" 988), (I 207 0), (I 2 0), (I 0 0), (I 0 0), (I 3 0), (.ref 532), (.bool true), (I 181 0), (.ref 533), .none, (.ref 534), (.ref 535), (.ref 536), (I 991 0), (I 207 0), (S "/claim/cut.py" 992)], #[]⟩),
 (538, fO (nS 3 (cB (nS 23 pB))) "_serialize_to" "SquareBracketsBlock._serialize_to" 3 .none .none .none (S "tinycss2.ast" 234) (.ref 537) .none 0),
 (541, ⟨(.type "dict"), none, .dict #[D P "__module__" 967 (S "tinycss2.ast" 234), D P "__firstlineno__" 971 (I 199 970), D P "__slots__" 973 (.ref 524), D P "type" 975 (S "[] block" 974), D P "__init__" 985 (.ref 531), D P "_serialize_to" 993 (.ref 538), D P "__static_attributes__" 995 (.ref 539), D P "content" 997 (.ref 543), D P "__doc__" 998 .none] 3, #[]⟩),
 (542, ⟨(.type "type"), none, .cls ⟨Z "SquareBracketsBlock", [(.ref 74)], [(.ref 542), (.ref 74), (.type "object")], 541, Z "SquareBracketsBlock", false, [Z "source_column", Z "source_line", Z "content"], [], false, none, false⟩, #[some (.ref 517), none, some (S "SquareBracketsBlock" 960), some (S "SquareBracketsBlock" 968), some (.builtin "object.__new__"), some (.bool false)]⟩),
 (543, ⟨(.type "member_descriptor"), none, .fields #[(S "content" 996), (.ref 542), (.builtin "proto.slot"), (.builtin "proto.slot#set"), (I 2 0)], #[]⟩),
 (559, ⟨(.type "code"), none, .fields #[(S "__init__" 1017), (S "CurlyBracketsBlock.__init__" 1018), (S "/claim/cut.py" 1019), (I 213 0), (I 4 0), (I 0 0), (I 0 0), (I 3 0), (.ref 554), (.bool true), (I 181 0), (.ref 555), .none, (.ref 556), (.ref 557), (.ref 558), (I 1024 0), (I 213 0), (S "/claim/cut.py" 1025)], #[]⟩),
 (560, fO (nS 2 (cB (nS 24 pB))) "__init__" "CurlyBracketsBlock.__init__" 3 .none .none .none (S "tinycss2.ast" 234) (.ref 559) .none 0),
 (566, ⟨(.type "code"), none, .fields #[(S "_serialize_to" 1027), (S "CurlyBracketsBlock._serialize_to" 1028), (S "/claim/cut.py" 1029), (I 217 0), (I 2 0), (I 0 0), (I 0 0), (I 3 0), (.ref 561), (.bool true), (I 181 0), (.ref 562), .none, (.ref 563), (.ref 564), (.ref 565), (I 1032 0), (I 217 0), (S "/claim/cut.py" 1033)], #[]⟩),
 (567, fO (nS 3 (cB (nS 24 pB))) "_serialize_to" "CurlyBracketsBlock._serialize_to" 3 .none .none .none (S "tinycss2.ast" 234) (.ref 566) .none 0),
 (570, ⟨(.type "dict"), none, .dict #[D P "__module__" 1008 (S "tinycss2.ast" 234), D P "__firstlineno__" 1012 (I 209 1011), D P "__slots__" 1014 (.ref 553), D P "type" 1016 (S "{} block" 1015), D P "__init__" 1026 (.ref 560), D P "_serialize_to" 1034 (.ref 567), D P "__static_attributes__" 1036 (.ref 568), D P "content" 1038 (.ref 572), D P "__doc__" 1039 .none] 3, #[]⟩),
 (571, ⟨(.type "type"), none, .cls ⟨Z "CurlyBracketsBlock", [(.ref 74)], [(.ref 571), (.ref 74), (.type "object")], 570, Z "CurlyBracketsBlock", false, [Z "source_column", Z "source_line", Z "content"], [], false, none, false⟩, #[some (.ref 546), none, some (S "CurlyBracketsBlock" 1001), some (S "CurlyBracketsBlock" 1009), some (.builtin "object.__new__"), some (.bool false)]⟩),
 (572, ⟨(.type "member_descriptor"), none, .fields #[(S "content" 1037), (.ref 571), (.builtin "proto.slot"), (.builtin "proto.slot#set"), (I 2 0)], #[]⟩),
 (588, ⟨(.type "code"), none, .fields #[(S "__init__" 1060), (S "FunctionBlock.__init__" 1061), (S "/claim/cut.py" 1062), (I 223 0), (I 5 0), (I 0 0), (I 0 0), (I 3 0), (.ref 583), (.bool true), (I 181 0), (.ref 584), .none, (.ref 585), (.ref 586), (.ref 587), (I 1068 0), (I 223 0), (S "/claim/cut.py" 1069)], #[]⟩),
 (589, fO (nS 2 (cB (nS 25 pB))) "__init__" "FunctionBlock.__init__" 3 .none .none .none (S "tinycss2.ast" 234) (.ref 588) .none 0),
 (595, ⟨(.type "code"), none, .fields #[(S "_serialize_to" 1071), (S "FunctionBlock._serialize_to" 1072), (S "/claim/cut.py" 1073), (I 232 0), (I 2 0), (I 0 0), (I 0 0), (I 3 0), (.ref 590), (.bool true), (I 181 0), (.ref 591), .none, (.ref 592), (.ref 593), (.ref 594), (I 1076 0), (I 232 0), (S "/claim/cut.py" 1077)], #[]⟩),
 (596, fO (nS 3 (cB (nS 25 pB))) "_serialize_to" "FunctionBlock._serialize_to" 3 .none .none .none (S "tinycss2.ast" 234) (.ref 595) .none 0),
 (599, ⟨(.type "dict"), none, .dict #[D P "__module__" 1049 (S "tinycss2.ast" 234), D P "__firstlineno__" 1053 (I 219 1052), D P "__slots__" 1057 (.ref 582), D P "type" 1059 (S "function" 1058), D P "__init__" 1070 (.ref 589), D P "_serialize_to" 1078 (.ref 596), D P "__static_attributes__" 1082 (.ref 597), D P "arguments" 1084 (.ref 601), D P "lower_name" 1086 (.ref 602), D P "name" 1088 (.ref 603), D P "__doc__" 1089 .none] 5, #[]⟩),
 (600, ⟨(.type "type"), none, .cls ⟨Z "FunctionBlock", [(.ref 74)], [(.ref 600), (.ref 74), (.type "object")], 599, Z "FunctionBlock", false, [Z "source_column", Z "source_line", Z "arguments", Z "lower_name", Z "name"], [], false, none, false⟩, #[some (.ref 575), none, some (S "FunctionBlock" 1042), some (S "FunctionBlock" 1050), some (.builtin "object.__new__"), some (.bool false)]⟩),
 (601, ⟨(.type "member_descriptor"), none, .fields #[(S "arguments" 1083), (.ref 600), (.builtin "proto.slot"), (.builtin "proto.slot#set"), (I 4 0)], #[]⟩),
 (602, ⟨(.type "member_descriptor"), none, .fields #[(S "lower_name" 1085), (.ref 600), (.builtin "proto.slot"), (.builtin "proto.slot#set"), (I 3 0)], #[]⟩),
 (603, ⟨(.type "member_descriptor"), none, .fields #[(S "name" 1087), (.ref 600), (.builtin "proto.slot"), (.builtin "proto.slot#set"), (I 2 0)], #[]⟩),
 (606, ⟨(.type "tuple"), none, .seq #[(S "0" 1094), (S "1" 1095), (S "2" 1096), (S "3" 1097), (S "4" 1098), (S "5" 1099), (S "6" 1100), (S "7" 1101), (S "8" 1102), (S "9" 1103)] 0, #[]⟩),
 (612, ⟨(.type "code"), none, .fields #[(S "_number_end" 1105), (S "_number_end" 1106), (S "/claim/cut.py" 1107), (I 236 0), (I 2 0), (I 0 0), (I 0 0), (I 3 0), (.ref 607), (.bool true), (I 181 0), (.ref 608), .none, (.ref 609), (.ref 610), (.ref 611), (I 1114 0), (I 236 0), (S "/claim/cut.py" 1115)], #[]⟩),
 (613, fO (nS 28 pB) "_number_end" "_number_end" 3 .none .none .none (S "tinycss2.tokenizer" 1092) (.ref 612) .none 0),
 (619, ⟨(.type "code"), none, .fields #[(S "_hex_end" 1117), (S "_hex_end" 1118), (S "/claim/cut.py" 1119), (I 261 0), (I 2 0), (I 0 0), (I 0 0), (I 3 0), (.ref 614), (.bool true), (I 181 0), (.ref 615), .none, (.ref 616), (.ref 617), (.ref 618), (I 1123 0), (I 261 0), (S "/claim/cut.py" 1124)], #[]⟩),
 (620, fO (nS 29 pB) "_hex_end" "_hex_end" 3 .none .none .none (S "tinycss2.tokenizer" 1092) (.ref 619) .none 0),
 (621, ⟨(.type "tuple"), none, .seq #[(.bool false)] 0, #[]⟩),
 (627, ⟨(.type "code"), none, .fields #[(S "parse_component_value_list" 1126), (S "parse_component_value_list" 1127), (S "/claim/cut.py" 1128), (I 266 0), (I 2 0), (I 0 0), (I 0 0), (I 3 0), (.ref 622), (.bool true), (I 181 0), (.ref 623), .none, (.ref 624), (.ref 625), (.ref 626), (I 1158 0), (I 266 0), (S "/claim/cut.py" 1159)], #[]⟩),
 (628, fO (nS 30 pB) "parse_component_value_list" "parse_component_value_list" 3 (.ref 621) .none .none (S "tinycss2.tokenizer" 1092) (.ref 627) .none 0),
 (634, ⟨(.type "code"), none, .fields #[(S "_is_name_start" 1161), (S "_is_name_start" 1162), (S "/claim/cut.py" 1163), (I 424 0), (I 2 0), (I 0 0), (I 0 0), (I 3 0), (.ref 629), (.bool true), (I 181 0), (.ref 630), .none, (.ref 631), (.ref 632), (.ref 633), (I 1167 0), (I 424 0), (S "/claim/cut.py" 1168)], #[]⟩),
 (635, fO (nS 31 pB) "_is_name_start" "_is_name_start" 3 .none .none .none (S "tinycss2.tokenizer" 1092) (.ref 634) .none 0),
 (641, ⟨(.type "code"), none, .fields #[(S "_is_ident_start" 1170), (S "_is_ident_start" 1171), (S "/claim/cut.py" 1172), (I 427 0), (I 2 0), (I 0 0), (I 0 0), (I 3 0), (.ref 636), (.bool true), (I 181 0), (.ref 637), .none, (.ref 638), (.ref 639), (.ref 640), (I 1175 0), (I 427 0), (S "/claim/cut.py" 1176)], #[]⟩),
 (642, fO (nS 32 pB) "_is_ident_start" "_is_ident_start" 3 .none .none .none (S "tinycss2.tokenizer" 1092) (.ref 641) .none 0),
 (648, ⟨(.type "code"), none, .fields #[(S "_consume_ident" 1178), (S "_consume_ident" 1179), (S "/claim/cut.py" 1180), (I 436 0), (I 2 0), (I 0 0), (I 0 0), (I 3 0), (.ref 643), (.bool true), (I 181 0), (.ref 644), .none, (.ref 645), (.ref 646), (.ref 647), (I 1187 0), (I 436 0), (S "/claim/cut.py" 1188)], #[]⟩),
 (649, fO (nS 33 pB) "_consume_ident" "_consume_ident" 3 .none .none .none (S "tinycss2.tokenizer" 1092) (.ref 648) .none 0),
 (655, ⟨(.type "code"), none, .fields #[(S "_consume_quoted_string" 1190), (S "_consume_quoted_string" 1191), (S "/claim/cut.py" 1192), (I 453 0), (I 2 0), (I 0 0), (I 0 0), (I 3 0), (.ref 650), (.bool true), (I 181 0), (.ref 651), .none, (.ref 652), (.ref 653), (.ref 654), (I 1201 0), (I 453 0), (S "/claim/cut.py" 1202)], #[]⟩),
 (656, fO (nS 34 pB) "_consume_quoted_string" "_consume_quoted_string" 3 .none .none .none (S "tinycss2.tokenizer" 1092) (.ref 655) .none 0),
 (662, ⟨(.type "code"), none, .fields #[(S "_consume_escape" 1204), (S "_consume_escape" 1205), (S "/claim/cut.py" 1206), (I 485 0), (I 2 0), (I 0 0), (I 0 0), (I 3 0), (.ref 657), (.bool true), (I 181 0), (.ref 658), .none, (.ref 659), (.ref 660), (.ref 661), (I 1211 0), (I 485 0), (S "/claim/cut.py" 1212)], #[]⟩),
 (663, fO (nS 35 pB) "_consume_escape" "_consume_escape" 3 .none .none .none (S "tinycss2.tokenizer" 1092) (.ref 662) .none 0),
 (669, ⟨(.type "code"), none, .fields #[(S "_consume_url" 1214), (S "_consume_url" 1215), (S "/claim/cut.py" 1216), (I 494 0), (I 2 0), (I 0 0), (I 0 0), (I 3 0), (.ref 664), (.bool true), (I 181 0), (.ref 665), .none, (.ref 666), (.ref 667), (.ref 668), (I 1225 0), (I 494 0), (S "/claim/cut.py" 1226)], #[]⟩),
 (670, fO (nS 36 pB) "_consume_url" "_consume_url" 3 .none .none .none (S "tinycss2.tokenizer" 1092) (.ref 669) .none 0),
 (676, ⟨(.type "code"), none, .fields #[(S "_consume_unicode_range" 1228), (S "_consume_unicode_range" 1229), (S "/claim/cut.py" 1230), (I 553 0), (I 2 0), (I 0 0), (I 0 0), (I 3 0), (.ref 671), (.bool true), (I 181 0), (.ref 672), .none, (.ref 673), (.ref 674), (.ref 675), (I 1239 0), (I 553 0), (S "/claim/cut.py" 1240)], #[]⟩),
 (677, fO (nS 37 pB) "_consume_unicode_range" "_consume_unicode_range" 3 .none .none .none (S "tinycss2.tokenizer" 1092) (.ref 676) .none 0),
 (683, ⟨(.type "code"), none, .fields #[(S "_law_NUMBERS" 1244), (S "_law_NUMBERS" 1245), (S "/claim/cut.py" 1246), (I 578 0), (I 0 0), (I 0 0), (I 0 0), (I 3 0), (.ref 678), (.bool true), (I 181 0), (.ref 679), .none, (.ref 680), (.ref 681), (.ref 682), (I 1247 0), (I 578 0), (S "/claim/cut.py" 1248)], #[]⟩),
 (684, fO (nS 39 pB) "_law_NUMBERS" "_law_NUMBERS" 3 .none .none .none (S "law_te0060_02" 1242) (.ref 683) .none 0),
 (690, ⟨(.type "code"), none, .fields #[(S "_law_TAILS" 1250), (S "_law_TAILS" 1251), (S "/claim/cut.py" 1252), (I 580 0), (I 0 0), (I 0 0), (I 0 0), (I 3 0), (.ref 685), (.bool true), (I 181 0), (.ref 686), .none, (.ref 687), (.ref 688), (.ref 689), (I 1253 0), (I 580 0), (S "/claim/cut.py" 1254)], #[]⟩),
 (691, fO (nS 40 pB) "_law_TAILS" "_law_TAILS" 3 .none .none .none (S "law_te0060_02" 1242) (.ref 690) .none 0),
 (697, ⟨(.type "code"), none, .fields #[(S "_law_SIGNS" 1256), (S "_law_SIGNS" 1257), (S "/claim/cut.py" 1258), (I 582 0), (I 0 0), (I 0 0), (I 0 0), (I 3 0), (.ref 692), (.bool true), (I 181 0), (.ref 693), .none, (.ref 694), (.ref 695), (.ref 696), (I 1259 0), (I 582 0), (S "/claim/cut.py" 1260)], #[]⟩),
 (698, fO (nS 41 pB) "_law_SIGNS" "_law_SIGNS" 3 .none .none .none (S "law_te0060_02" 1242) (.ref 697) .none 0),
 (704, ⟨(.type "code"), none, .fields #[(S "_law_item" 1262), (S "_law_item" 1263), (S "/claim/cut.py" 1264), (I 584 0), (I 1 0), (I 0 0), (I 0 0), (I 3 0), (.ref 699), (.bool true), (I 181 0), (.ref 700), .none, (.ref 701), (.ref 702), (.ref 703), (I 1269 0), (I 584 0), (S "/claim/cut.py" 1270)], #[]⟩),
 (705, fO (nS 42 pB) "_law_item" "_law_item" 3 .none .none .none (S "law_te0060_02" 1242) (.ref 704) .none 0),
 (711, ⟨(.type "code"), none, .fields #[(S "_law_figure" 1272), (S "_law_figure" 1273), (S "/claim/cut.py" 1274), (I 594 0), (I 1 0), (I 0 0), (I 0 0), (I 3 0), (.ref 706), (.bool true), (I 181 0), (.ref 707), .none, (.ref 708), (.ref 709), (.ref 710), (I 1276 0), (I 594 0), (S "/claim/cut.py" 1277)], #[]⟩),
 (712, fO (nS 43 pB) "_law_figure" "_law_figure" 3 .none .none .none (S "law_te0060_02" 1242) (.ref 711) .none 0),
 (718, ⟨(.type "code"), none, .fields #[(S "_law_letter" 1279), (S "_law_letter" 1280), (S "/claim/cut.py" 1281), (I 596 0), (I 1 0), (I 0 0), (I 0 0), (I 3 0), (.ref 713), (.bool true), (I 181 0), (.ref 714), .none, (.ref 715), (.ref 716), (.ref 717), (I 1283 0), (I 596 0), (S "/claim/cut.py" 1284)], #[]⟩),
 (719, fO (nS 44 pB) "_law_letter" "_law_letter" 3 .none .none .none (S "law_te0060_02" 1242) (.ref 718) .none 0),
 (725, ⟨(.type "code"), none, .fields #[(S "_law_melts" 1286), (S "_law_melts" 1287), (S "/claim/cut.py" 1288), (I 598 0), (I 2 0), (I 0 0), (I 0 0), (I 3 0), (.ref 720), (.bool true), (I 181 0), (.ref 721), .none, (.ref 722), (.ref 723), (.ref 724), (I 1300 0), (I 598 0), (S "/claim/cut.py" 1301)], #[]⟩),
 (726, fO (nS 45 pB) "_law_melts" "_law_melts" 3 .none .none .none (S "law_te0060_02" 1242) (.ref 725) .none 0),
 (732, ⟨(.type "code"), none, .fields #[(S "_law_laid" 1303), (S "_law_laid" 1304), (S "/claim/cut.py" 1305), (I 625 0), (I 2 0), (I 0 0), (I 0 0), (I 3 0), (.ref 727), (.bool true), (I 181 0), (.ref 728), .none, (.ref 729), (.ref 730), (.ref 731), (I 1316 0), (I 625 0), (S "/claim/cut.py" 1317)], #[]⟩),
 (733, fO (nS 46 pB) "_law_laid" "_law_laid" 3 .none .none .none (S "law_te0060_02" 1242) (.ref 732) .none 0),
 (739, ⟨(.type "code"), none, .fields #[(S "_law_mark" 1319), (S "_law_mark" 1320), (S "/claim/cut.py" 1321), (I 641 0), (I 1 0), (I 0 0), (I 0 0), (I 3 0), (.ref 734), (.bool true), (I 181 0), (.ref 735), .none, (.ref 736), (.ref 737), (.ref 738), (I 1323 0), (I 641 0), (S "/claim/cut.py" 1324)], #[]⟩),
 (740, fO (nS 47 pB) "_law_mark" "_law_mark" 3 .none .none .none (S "law_te0060_02" 1242) (.ref 739) .none 0),
 (746, ⟨(.type "code"), none, .fields #[(S "_law_told" 1326), (S "_law_told" 1327), (S "/claim/cut.py" 1328), (I 643 0), (I 1 0), (I 0 0), (I 0 0), (I 3 0), (.ref 741), (.bool true), (I 181 0), (.ref 742), .none, (.ref 743), (.ref 744), (.ref 745), (I 1334 0), (I 643 0), (S "/claim/cut.py" 1335)], #[]⟩),
 (747, fO (nS 48 pB) "_law_told" "_law_told" 3 .none .none .none (S "law_te0060_02" 1242) (.ref 746) .none 0),
 (751, ⟨(.type "code"), none, .fields #[(S "law" 1337), (S "law" 1338), (S "/claim/cut.py" 1339), (I 657 0), (I 1 0), (I 0 0), (I 0 0), (I 3 0), (.ref 748), (.bool true), (I 181 0), (.ref 749), .none, .none, .none, (.ref 750), (I 1340 0), (I 657 0), (S "/claim/cut.py" 1341)], #[]⟩),
 (752, fO (nS 49 pB) "law" "law" 3 .none .none .none (S "law_te0060_02" 1242) (.ref 751) .none 0)]
noncomputable def hkA : List Addr := [2, 3, 20, 21, 25, 26, 27, 33, 34, 40, 41, 55, 56, 62, 63, 69, 70, 73, 74, 75, 76, 92, 93, 99, 100, 103, 104, 105, 106, 122, 123, 129, 130, 133, 134, 135, 151, 152, 158, 159, 162, 163, 164, 180, 181, 187, 188, 194, 195, 201, 202, 205, 206, 207, 223, 224, 230, 231, 234, 235, 236, 237, 253, 254, 260, 261, 264, 265, 266, 267, 283, 284, 290, 291, 294, 295, 296, 297, 313, 314, 320, 321, 324, 325, 326, 327, 343, 344, 350, 351, 354, 355, 356, 357, 373, 374, 380, 381, 384, 385, 386, 387, 403, 404, 410, 411, 414, 415, 416, 417, 418, 419, 435, 436, 442, 443, 446, 447, 448, 449, 450, 451, 467, 468, 474, 475, 478, 479, 480, 481, 482, 483, 484, 485, 501, 502, 508, 509, 512, 513, 514, 530, 531, 537, 538, 541, 542, 543, 559, 560, 566, 567, 570, 571, 572, 588, 589, 595, 596, 599, 600, 601, 602, 603, 606, 612, 613, 619, 620, 621, 627, 628, 634, 635, 641, 642, 648, 649, 655, 656, 662, 663, 669, 670, 676, 677, 683, 684, 690, 691, 697, 698, 704, 705, 711, 712, 718, 719, 725, 726, 732, 733, 739, 740, 746, 747, 751, 752]
theorem zc2 (P : Params) : hkA = (HK P).map (·.1) := by kernel_rfl
noncomputable def mkT (l : List Obj) : BT := (l.foldl (fun (p : BT × Nat) o => (p.1.ins p.2 o, p.2 + 1)) (.nil, 0)).1
noncomputable def trA (P : Params) : BT := mkT [boot_o_0 P, boot_o_1 P, boot_o_2 P, boot_o_3 P, boot_o_4 P, boot_o_5 P, boot_o_6 P, boot_o_7 P, boot_o_8 P, boot_o_9 P, boot_o_10 P, ⟨(.type "tuple"), none, .seq #[] 0, #[]⟩, ⟨.none, none, .fields #[], #[]⟩, ⟨(.type "code"), none, .fields #[(S "<module>" 182), (S "<module>" 183), (S "/claim/cut.py" 184), (I 1 0), (I 0 0), (I 0 0), (I 0 0), (I 0 0), (.ref 11), (.bool false), (I 181 0), (.ref 12), .none, .none, .none, .none, (I 185 0), (I 1 0), (S "/claim/cut.py" 186)], #[]⟩, ⟨(.type "frame"), none, .plain, #[some (.ref 13), some (.ref 3), some (.ref 3), none, some (S "__main__" 164), none, some (.ref 0)]⟩]
noncomputable def trM (P : Params) : BT := mkT [boot_o_0 P, boot_o_1 P, boot_o_2 P, ⟨(.type "dict"), none, .dict #[D P "__name__" 165 (S "tinycss2.serializer" 202), D P "__doc__" 166 .none, D P "__package__" 167 .none, D P "__loader__" 168 (.builtin "__main__.__loader__#opaque"), D P "__spec__" 169 .none, D P "__annotations__" 170 (.ref 6), D P "__builtins__" 171 (.ref 4), D P "__file__" 173 (S "/claim/cut.py" 172), D P "__cached__" 174 .none, D P "_wall" 193 (.ref 21), D P "ascii_lower" 201 (.ref 26), D P "_replacement_string_value" 219 (.ref 27)] 12, #[]⟩, boot_o_4 P, boot_o_5 P, boot_o_6 P, boot_o_7 P, boot_o_8 P, boot_o_9 P, boot_o_10 P, ⟨(.type "tuple"), none, .seq #[] 0, #[]⟩, ⟨.none, none, .fields #[(I 1 0), (I 0 0), (.ref 20), (I 5 0), (I 0 0), (.ref 25)], #[]⟩, ⟨(.type "code"), none, .fields #[(S "<module>" 182), (S "<module>" 183), (S "/claim/cut.py" 184), (I 1 0), (I 0 0), (I 0 0), (I 0 0), (I 0 0), (.ref 11), (.bool false), (I 181 0), (.ref 12), .none, .none, .none, .none, (I 185 0), (I 1 0), (S "/claim/cut.py" 186)], #[]⟩, ⟨(.type "frame"), none, .plain, #[some (.ref 13), some (.ref 3), some (.ref 3), none, some (S "__main__" 164), none, some (.ref 0)]⟩, ⟨(.type "tuple"), none, .seq #[] 0, #[]⟩, ⟨.none, none, .fields #[], #[]⟩, ⟨(.type "tuple"), none, .seq #[(S "k" 190)] 0, #[]⟩, ⟨(.type "tuple"), none, .seq #[] 0, #[]⟩, kO (nS 0 pB) "_wall" "_wall" 0 .none .none .none .none .none .none 0, ⟨(.type "code"), none, .fields #[(S "_wall" 187), (S "_wall" 188), (S "/claim/cut.py" 189), (I 1 0), (I 1 0), (I 0 0), (I 0 0), (I 3 0), (.ref 15), (.bool true), (I 181 0), (.ref 16), .none, (.ref 17), (.ref 18), (.ref 19), (I 191 0), (I 1 0), (S "/claim/cut.py" 192)], #[]⟩, fO (nS 0 pB) "_wall" "_wall" 3 .none .none .none (S "__main__" 164) (.ref 20) .none 0, ⟨(.type "tuple"), none, .seq #[] 0, #[]⟩, ⟨.none, none, .fields #[], #[]⟩, kO (nS 2 pB) "ascii_lower" "ascii_lower" 0 .none .none .none .none .none .none 0, ⟨(.type "code"), none, .fields #[(S "ascii_lower" 196), (S "ascii_lower" 197), (S "/claim/cut.py" 198), (I 5 0), (I 1 0), (I 0 0), (I 0 0), (I 3 0), (.ref 22), (.bool true), (I 181 0), (.ref 23), .none, .none, .none, (.ref 24), (I 199 0), (I 5 0), (S "/claim/cut.py" 200)], #[]⟩, fO (nS 2 pB) "ascii_lower" "ascii_lower" 3 .none .none .none (S "tinycss2.ast" 194) (.ref 25) .none 0, ⟨(.type "dict"), none, .dict #[D P "\"" 204 (S "\\\"" 205), D P "\\" 206 (S "\\\\" 207), D P "\n" 208 (S "\\A " 209), D P "\x0d" 210 (S "\\D " 211), D P "\x0c" 212 (S "\\C " 213)] 5, #[]⟩]
noncomputable def zdz : Env := { scope := pw.main.scope, locals := mainNs, globals := mainNs, cells := [], code := (.ref 13), frame := some 14 }
noncomputable def cE : Code := .body (behindTheImports pw) zdz
noncomputable def p0 : Pos := default
noncomputable def sA (w : World) (os : OsState) : SharedT := ⟨trA w.params, 15, {}, #[], {}, 187, os⟩
noncomputable def sM (w : World) (os : OsState) : SharedT := ⟨trM w.params, 28, {}, #[], {}, 220, os⟩
noncomputable def pM : Pos := ⟨8, 0, 8, 25⟩
noncomputable abbrev st1 : List Stmt := (behindTheImports pw).take 5
noncomputable abbrev st2 : List Stmt := (behindTheImports pw).drop 5
noncomputable abbrev tb := treeTable
theorem zb7 {p : Program} {w : World} {n₀ : Nat} {ann : Option Value} {c : Code} {ps : Pos} {env : Env} {s : Shared} : topRun treeTable p w n₀ ann 2 s (restOf [] env c ps [topFrame p0]) = some s := by
 rfl
theorem zbU {p q : Program} {loose : List Str} {Xt : Shared -> Bool} {α : Type} {Yf : Shared -> α} {Ya : World -> α} {N : Nat} {g0 : Bool} {H₀ : Params -> Heap} {gs₀ : Array GenState} {d₀ : Drawn} {k₀ : Nat} {m₀ : Nat} {ann : Option Value} {M : Nat}
  (open_ : ∀ w : World, (fencedOpening treeTable p w N).map (fun s => (s.heap, s.gens, s.drawn, s.toks)) = some (H₀ w.params, gs₀, d₀, k₀))
  (size : ∀ w : World, ((H₀ w.params).isNs mainGlobals && gs₀.size == 0, (H₀ w.params).objs.size, (H₀ w.params).nsMap mainGlobals "__annotations__") = (true, m₀, ann))
  (run : ∀ (w : World) (os : OsState), ∃ s, topRun treeTable p w m₀ ann M ⟨H₀ w.params, gs₀, d₀, k₀, os⟩ (topStub p) = some s /\
   ((staticsOk (importedModules p.main.body) (H₀ w.params) s.heap && namesBound p s.heap && gensDone s && laidKept (H₀ w.params) s.heap), openSeen q loose (importedModules p.main.body) Xt g0 s, Yf s) = (true, openGood q loose, Ya w)) (le : Nat.ble M N = true) : LeftO p q loose Xt Yf Ya N g0 := fun w => by
 obtain ⟨⟨h, gs, d, k, os⟩, e, e'⟩ := Option.map_eq_some_iff.mp (open_ w)
 obtain ⟨rfl, rfl, rfl, rfl⟩ : h = H₀ w.params /\ gs = gs₀ /\ d = d₀ /\ k = k₀ := by simpa using e'
 obtain ⟨z1, z2, z3⟩ : _ /\ _ /\ _ := by simpa only [Prod.mk.injEq] using size w
 obtain ⟨s, r, l⟩ := run w os
 obtain ⟨l1, l2, l3⟩ : _ /\ _ /\ _ := by simpa only [Prod.mk.injEq] using l
 have r := topRun_mono (N - M) _ _ _ _ r
 rw [show M + (N - M) = N by have := Nat.le_of_ble_eq_true le; omega] at r
 have t : topFrom treeTable p w N ⟨H₀ w.params, gs, d, k, os⟩ = some s := by
  unfold topFrom
  dsimp only
  rw [z1, z2, z3, r]
  show (match staticsOk (importedModules p.main.body) (H₀ w.params) s.heap && namesBound p s.heap && gensDone s && laidKept (H₀ w.params) s.heap with | true => _ | false => _) = _
  rw [l1]
 unfold openEnds
 rw [e]
 show (topFrom treeTable p w N _).map _ = _
 rw [t]
 exact congrArg some (Prod.ext l2 l3)
noncomputable def zcw : Option Value := some (.ref 6)
noncomputable abbrev qL : Program := view pw [49]
noncomputable def Yf0 (s : Shared) : List (Option Obj) := hkA.map s.heap.get?
noncomputable def Ya0 (w : World) : List (Option Obj) := (HK w.params).map fun p => some p.2
noncomputable def nJ : List Str := ["_wall", "ascii_lower", "_replacement_string_value", "serialize_string_value", "serialize_url", "Node", "ParseError", "Comment", "WhitespaceToken", "LiteralToken", "IdentToken", "AtKeywordToken", "HashToken", "StringToken", "URLToken", "UnicodeRangeToken", "NumberToken", "PercentageToken", "DimensionToken", "ParenthesesBlock", "SquareBracketsBlock", "CurlyBracketsBlock", "FunctionBlock", "_DIGITS", "_number_end", "_hex_end", "parse_component_value_list", "_is_name_start", "_is_ident_start", "_consume_ident", "_consume_quoted_string", "_consume_escape", "_consume_url", "_consume_unicode_range", "_law_NUMBERS", "_law_TAILS", "_law_SIGNS", "_law_item", "_law_figure", "_law_letter", "_law_melts", "_law_laid", "_law_mark", "_law_told"].map Str.ofString
noncomputable def Xt0 (s : Shared) : Bool := recOk (RowW.records (OpenRow.toRowW rwL.row)) s
theorem zdL (N : Nat) (h : Nat.ble 600 N = true) : ∀ w : World, (fencedOpening treeTable pw w N).map (fun s => (s.heap, s.gens, s.drawn, s.toks)) = some (boot_heap w.params, #[], boot_drawn, boot_toks) :=
 boot_open (by kernel_rfl) h (fun s => by rfl)
theorem zdJ (w : World) : ((boot_heap w.params).isNs mainGlobals && (#[] : Array GenState).size == 0, (boot_heap w.params).objs.size, (boot_heap w.params).nsMap mainGlobals "__annotations__") = (true, 11, zcw) := by kernel_rfl
theorem pre0 (w : World) (os : OsState) : topGo treeTable pw w 11 zcw 12 ⟨boot_heap w.params, #[], boot_drawn, boot_toks, os⟩ (topStub pw) = some ((sA w os).abs, ⟨denote treeTable cE, cE, p0, [topFrame p0]⟩) := by
 rw [PySem.W.Fast.te15667345088766844465, PySem.W.Fast.te14364793385576792824, PySem.W.Fast.te11892475500146522536]
 kernel_rfl
theorem zdk (w : World) (os : OsState) : segRun treeTable pw w 11 zcw 1 1 (sA w os).abs (blockOf (behindTheImports pw) zdz cE p0 [topFrame p0]) = some (.next, (sA w os).abs, cE, p0) := by
 rw [PySem.W.Fast.te14374325043358763698, PySem.W.Fast.te14364793385576792824]
 kernel_rfl
theorem zc4 (w : World) (os : OsState) : segRunT treeTable pw w 11 zcw 1 159 (sA w os) (piecesOf st1 zdz cE p0 [topFrame p0]) = some (.next, sM w os, cE, pM) := by
 rw [PySem.W.Fast.te10110043849684766642, PySem.W.Fast.te14364793385576792824]
 revert w
 refine byRow2 "special-get-raises" (fun w => ?_) (fun w => ?_) <;> kernel_rfl
noncomputable def zdM (w : World) (s : Shared) := ((staticsOk (importedModules pw.main.body) (boot_heap w.params) s.heap && namesBound pw s.heap && gensDone s && laidKept (boot_heap w.params) s.heap), openSeen qL nJ (importedModules pw.main.body) Xt0 true s, Yf0 s)
theorem zdQ (w : World) (os : OsState) : (segRunT treeTable pw w 11 zcw 1 6964 (sM w os) (piecesOf st2 zdz cE pM [topFrame p0])).map (fun r => (r.1, r.2.2.1, zdM w r.2.1.abs)) = some (.next, cE, true, openGood qL nJ, Ya0 w) := by
 unfold zdM
 rw [PySem.W.Fast.te10110043849684766642, PySem.W.Fast.te14364793385576792824, PySem.W.Fast.te4187177175401517315]
 kernel_rfl
theorem zcH : behindTheImports pw = st1 ++ (st2 ++ []) := by rw [List.append_nil]; exact (List.take_append_drop _ _).symm
theorem run0 (w : World) (os : OsState) : ∃ s, topRun treeTable pw w 11 zcw (12 + (1 + (159 + (6964 + 2)))) ⟨boot_heap w.params, #[], boot_drawn, boot_toks, os⟩ (topStub pw) = some s /\ zdM w s = (true, openGood qL nJ, Ya0 w) := by
 obtain ⟨⟨f, s', c, p⟩, e, e'⟩ := Option.map_eq_some_iff.mp (zdQ w os)
 obtain ⟨rfl, e'⟩ := Prod.mk.inj e'
 obtain ⟨h1, h2⟩ := Prod.mk.inj e'
 dsimp only at h1 h2
 subst h1
 refine ⟨s'.abs, go_top (pre0 w os) (piece_block (zdk w os) ?_), h2⟩
 rw [zcH]
 exact piece_app (segRun_of (zc4 w os)) (piece_app (segRun_of e) zb7)
theorem zdP : LeftO (OpenRow.toRowW rwL.row).prog qL nJ Xt0 Yf0 Ya0 8000 :=
 zbU (p := pw) (zdL 8000 (by decide +kernel)) zdJ run0 (by decide +kernel)
noncomputable def zcR : Stmt -> DefRec
 | .FunctionDef n a b _ _ _ s _ _ p => ⟨n, a, b, s, p⟩
 | _ => ⟨Z "", ⟨[], [], none, [], [], none, []⟩, [], ⟨.function, [], false, false, []⟩, default⟩
noncomputable def dL : DefRec := zcR (nS 49 pB)
theorem hd (call : WalkO qL nJ (fun _ _ => True) (fun w h => (HK w.params).In h) (OpenRow.toRowW rwL.row) dL [] fun f vs => PySem.call f vs) : rwL.Holds :=
 holds_law (by rw [PySem.W.Fast.te9446332074065402090]; kernel_rfl) fun said => holds_open (hRf := fun s e => recFacts_of e) zdP (fun w s e => Frag.in_of (zc2 _) e) (fun w h h' x k => x.keeps k) (fun _ _ => trivial) (fun _ _ _ _ _ => trivial)
  (by kernel_rfl) (by kernel_rfl) (by kernel_rfl) (by rfl) said (by kernel_rfl) ⟨rfl, rfl, rfl, rfl, rfl, by decide +kernel⟩ ⟨[.list [.int 3, .int 1]], by kernel_rfl, by kernel_rfl⟩ call
end MH
end
section
open PySem PySem.W PyProof.Rows
set_option Elab.async false
set_option maxRecDepth 100000
set_option maxHeartbeats 4000000
set_option linter.unusedSimpArgs false
set_option linter.unusedVariables false
namespace Mine
noncomputable def HMb (mb : Str -> Option Value) : Prop := ∀ x : Str, x ≠ Str.ofString "__name__" -> mb x = bootBuiltins x
variable {prog : Program} {w : World} {h : Heap} {mb : Str -> Option Value}
noncomputable def HK (p : Params) : Frag := MH.HK p
noncomputable def alphaL : List Nat := [48, 49, 50, 51, 52, 53, 54, 55, 56, 57, 43, 45, 46, 101, 69, 37, 120, 121, 122, 95, 233, 35, 64, 62, 32, 44, 10, 47, 42]
noncomputable def dN (c : Nat) : Bool := alphaL.contains c
noncomputable abbrev Al (x : List Nat) : Prop := ∀ c ∈ x, dN c = true
theorem yS {P : Nat -> Bool} (h : alphaL.all P = true) {c : Nat} (hc : dN c = true) : P c = true := List.all_eq_true.mp h c (by simpa [dN] using hc)
theorem fG {f g : Nat -> Bool} (h : (alphaL.all fun c => f c == g c) = true) {c : Nat} (hc : dN c = true) : f c = g c := beq_iff_eq.mp (yS (P := fun c => f c == g c) h hc)
theorem Al.get {x : List Nat} (h : Al x) {i : Nat} (hi : i < x.length) : dN x[i] = true := h _ (List.getElem_mem hi)
theorem Al.drop {x : List Nat} (h : Al x) (n : Nat) : Al (x.drop n) := fun c hc => h c (List.mem_of_mem_drop hc)
theorem Al.at {x : List Nat} (h : Al x) {i c : Nat} (hi : x[i]? = some c) : dN c = true := h c (List.mem_of_getElem? hi)
noncomputable def tab {α : Type} : List (String × α) -> Str -> Option α
 | [], _ => none
 | (a, x) :: r, s => if s = Str.ofString a then some x else tab r s
theorem zA {α : Type} (a : String) (x : α) (r : List (String × α)) (b : String) : tab ((a, x) :: r) (Str.ofString b) = if b = a then some x else tab r (Str.ofString b) := by
 show (if Str.ofString b = Str.ofString a then some x else tab r (Str.ofString b)) = _
 simp only [sEq]
theorem eR {α : Type} : ∀ {l : List (String × α)} {s : Str} {x : α}, tab l s = some x -> ∃ a, s = Str.ofString a /\ (a, x) ∈ l
 | [], s, x, h => by cases h
 | (a, y) :: r, s, x, h => by
  unfold tab at h
  split at h
  ·rename_i e; cases h; exact ⟨a, e, by simp⟩
  ·obtain ⟨b, h1, h2⟩ := eR h; exact ⟨b, h1, List.mem_cons_of_mem _ h2⟩
noncomputable def slotsOf : List (Nat × List String) := [
 (74, ["source_column", "source_line"]), (104, ["kind", "message", "source_column", "source_line"]), (134, ["value", "source_column", "source_line"]),
 (163, ["value", "source_column", "source_line"]), (206, ["value", "source_column", "source_line"]), (235, ["lower_value", "value", "source_column", "source_line"]),
 (265, ["lower_value", "value", "source_column", "source_line"]), (295, ["is_identifier", "value", "source_column", "source_line"]),
 (325, ["representation", "value", "source_column", "source_line"]), (355, ["representation", "value", "source_column", "source_line"]), (385, ["end", "start", "source_column", "source_line"]),
 (415, ["int_value", "is_integer", "representation", "value", "source_column", "source_line"]), (447, ["int_value", "is_integer", "representation", "value", "source_column", "source_line"]),
 (479, ["int_value", "is_integer", "lower_unit", "representation", "unit", "value", "source_column", "source_line"]), (513, ["content", "source_column", "source_line"]),
 (542, ["content", "source_column", "source_line"]), (571, ["content", "source_column", "source_line"]), (600, ["arguments", "lower_name", "name", "source_column", "source_line"])]
noncomputable def typesOf : List (Nat × String) := [(104, "error"), (134, "comment"), (163, "whitespace"), (206, "literal"), (235, "ident"), (265, "at-keyword"), (295, "hash"), (325, "string"), (355, "url"), (385, "unicode-range"),
 (415, "number"), (447, "percentage"), (479, "dimension"), (513, "() block"), (542, "[] block"), (571, "{} block"), (600, "function")]
noncomputable def zcf (l : List String) : List (String × Nat) := l.zipIdx
noncomputable def sgP (s : String) : PV := .str (Str.ofString s).cps.toList
noncomputable def hJ : PV := .tup (["0", "1", "2", "3", "4", "5", "6", "7", "8", "9"].map sgP)
noncomputable def j5 : List (String × Unit) := ["len", "ord", "chr", "int", "sum", "range"].map fun s => (s, ())
noncomputable def mkC (fns clss : List (String × Fn)) (ini : Bool) (vals : List (String × PV)) (ls : List Nat) : Ctx where
 val := tab vals
 fn := tab fns
 bi := fun s => (tab j5 s).isSome
 slot := fun c s => (slotsOf.lookup c).bind fun l => tab (zcf l) s
 cval := fun c s => if s = Str.ofString "type" then (typesOf.lookup c).map sgP else none
 mutL := fun n => ls.contains n
 cls := tab clss
 ini := ini
theorem bO {fns clss : List (String × Fn)} {ini : Bool} {vals : List (String × PV)} {ls : List Nat} (h1 : ∀ e ∈ fns, bB e.2) (h2 : ∀ e ∈ clss, bB e.2) : CtxMono (mkC fns clss ini vals ls) :=
 ⟨fun x F h => by obtain ⟨a, _, h⟩ := eR h; exact h1 _ h, fun x F h => by obtain ⟨a, _, h⟩ := eR h; exact h2 _ h⟩
structure World0 (prog : Program) (w : World) (B : Bs) : Prop where
 ok : BsOk B
 k : B.K = HK w.params
 mg : ∀ x, B.mg x = (match (HK w.params).lookup 3 with
  | some ⟨_, _, .dict es _, _⟩ => nsFind es x
  | _ => none)
 mb : ∀ x : Str, x ≠ Str.ofString "__name__" -> B.mb x = bootBuiltins x
noncomputable def oM (K : Frag) (c : Nat) (name : Str) (i : Nat) : Bool :=
 findIn K (.ref c) "__getattribute__" == some (some (.builtin "object.__getattribute__")) && findIn K (.ref c) "__getattr__" == some none && findIn K (.ref c) "__setattr__" == some (some (.builtin "object.__setattr__")) && plainOver K c && decide (i < 1000) &&
 match findObj K c (some fS) name with
  | some (.bind (.builtin g) (.ref p)) => g == "member_descriptor.__get__" && slotIn K p c == some i && takerIn K c name == some (some (.ref p)) && typeIn K (.ref p) == some (.type "member_descriptor")
  | _ => false
theorem zT {K : Frag} {c : Nat} {name : Str} {i : Nat} (h : oM K c name i = true) : zbp K c name i := by
 unfold oM at h
 simp only [Bool.and_eq_true, beq_iff_eq, decide_eq_true_eq] at h
 obtain ⟨⟨⟨⟨⟨h1, h2⟩, h3⟩, h4⟩, h5⟩, h6⟩ := h
 split at h6
 ·rename_i g p e
  simp only [Bool.and_eq_true, beq_iff_eq] at h6
  obtain ⟨⟨⟨rfl, h7⟩, h8⟩, h9⟩ := h6
  exact ⟨h1, h2, p, e, h7, h3, h4, h8, h9, h5⟩
 ·cases h6
noncomputable def yF (K : Frag) (c : Nat) (x : String) : Bool :=
 findIn K (.ref c) "__getattribute__" == some (some (.builtin "object.__getattribute__")) && match findObj K c (some fS) (Str.ofString "type") with
  | some (.value (.str s _)) => s == Str.ofString x
  | _ => false
set_option maxRecDepth 1000000 in
theorem vY (p : Params) : (slotsOf.all fun e => (zcf e.2).all fun f => oM (HK p) e.1 (Str.ofString f.1) f.2) = true := by kernel_rfl
theorem yE (p : Params) : (typesOf.all fun e => yF (HK p) e.1 e.2) = true := by kernel_rfl
noncomputable def mgK (p : Params) : Str -> Option Value := fun x => match (HK p).lookup 3 with
 | some ⟨_, _, .dict es _, _⟩ => nsFind es x
 | _ => none
noncomputable def qI (K : Frag) (a : Addr) : Bool := match K.lookup a with
 | some ⟨_, _, .dict es _, _⟩ => es.toList.all fun e => match e.key with
  | .str _ _ => true
  | _ => false
 | _ => false
theorem zdN {K : Frag} {h : Heap} {a : Addr} (X : K.In h) (e : qI K a = true) : h.Ns a (fun x => match K.lookup a with
  | some ⟨_, _, .dict es _, _⟩ => nsFind es x
  | _ => none) := by
 unfold qI at e
 split at e
 ·rename_i c d es n sl ho
  refine ⟨_, es, n, X _ _ ho, rfl, fun en hen => ?_, fun name => rfl⟩
  have := List.all_eq_true.mp e en (Array.mem_toList_iff.mpr hen)
  split at this
  ·rename_i x t q; exact ⟨x, t, q⟩
  ·cases this
 ·cases e
noncomputable def bs (p : Params) (h : Heap) (mb : Str -> Option Value) : Bs := ⟨HK p, h, mgK p, mb⟩
theorem zdU {p : Params} {h : Heap} {mb : Str -> Option Value} (X : (HK p).In h) (hb : h.Ns builtinsNs mb) (hl : h.NoLimit) : BsOk (bs p h mb) :=
 ⟨X, zdN X (by kernel_rfl), hb, hl⟩
noncomputable def rK (K : Frag) (a : Addr) : Bool := match zaz K a with
 | some fd => (match fd.body with
  | .stmts _ => true
  | _ => false) && fd.closure.isEmpty && (fd.globals == mainGlobals) && (fd.builtins == builtinsNs) && codeIn K fd.code fd.qualname && !fd.scope.isCoroutine && !fd.scope.isGenerator && (fd.scope.kind == .function) && fd.scope.names.all (fun n => !(n.2 == .free))
 | none => false
theorem rJ {K : Frag} {a : Addr} (h : rK K a = true) : ∃ fd, FunAt K a fd (aQ K a) /\ zaz K a = some fd /\ fd.scope.names = aJ K a := by
 unfold rK at h
 split at h
 ·rename_i fd e
  simp only [Bool.and_eq_true, beq_iff_eq, Bool.not_eq_true'] at h
  obtain ⟨⟨⟨⟨⟨⟨⟨⟨h1, h2⟩, h3⟩, h4⟩, h5⟩, h6⟩, h7⟩, h8⟩, h9⟩ := h
  refine ⟨fd, ⟨?_, ?_, by simpa using h2, h3, h4, h5, h6, h7, h8, h9⟩, e, by unfold aJ; rw [e]⟩
  ·unfold zaz at e
   split at e
   ·rename_i c d fd' sl q; cases e; exact ⟨c, d, sl, q⟩
   ·cases e
  ·unfold aQ
   rw [e]
   dsimp only
   split at h1
   ·rename_i b q; rw [q]
   ·cases h1
 ·cases h
theorem zcn : ∀ e ∈ j5, bootBuiltins (Str.ofString e.1) = some (hV (Str.ofString e.1)) /\ Str.ofString e.1 ≠ Str.ofString "__name__" := by
 intro e he
 simp only [j5, List.map_cons, List.map_nil, List.mem_cons, List.not_mem_nil, or_false] at he
 rcases he with rfl | rfl | rfl | rfl | rfl | rfl <;> exact ⟨by kernel_rfl, by rw [Ne, sEq]; decide⟩
theorem dH {n : Nat} {fns clss : List (String × Fn)} {ini : Bool} {vals : List (String × PV)} {ls : List Nat} (hmb : HMb mb)
  (m1 : ∀ e ∈ fns, bB e.2) (m2 : ∀ e ∈ clss, bB e.2)
  (hv : ∀ e ∈ vals, ∃ u, mgK w.params (Str.ofString e.1) = some u /\ VRel w.params (fun a => h.get? a) u e.2)
  (h1 : ∀ e ∈ fns, ∃ u, mgK w.params (Str.ofString e.1) = some u /\ Meets prog w (bs w.params h mb) n u e.2)
  (h2 : ∀ e ∈ clss, ∃ u, mgK w.params (Str.ofString e.1) = some u /\ Meets prog w (bs w.params h mb) n u e.2)
  (hi : ini = true -> sE prog w (bs w.params h mb) (mkC fns clss ini vals ls) n) : CtxOk prog w (bs w.params h mb) (mkC fns clss ini vals ls) n where
 mono := bO m1 m2
 val := fun x v e => by obtain ⟨a, rfl, q⟩ := eR e; exact hv _ q
 fn := fun x v e => by obtain ⟨a, rfl, q⟩ := eR e; exact h1 _ q
 cls := fun x v e => by obtain ⟨a, rfl, q⟩ := eR e; exact h2 _ q
 bi := fun x e => by
  obtain ⟨u, hu⟩ := Option.isSome_iff_exists.mp (show (tab j5 x).isSome = true from e)
  obtain ⟨a, rfl, q⟩ := eR hu
  obtain ⟨b1, b2⟩ := zcn _ q
  refine ⟨?_, (hmb _ b2).trans b1⟩
  show mgK w.params _ = none
  simp only [j5, List.map_cons, List.map_nil, List.mem_cons, List.not_mem_nil, or_false, Prod.mk.injEq, and_true] at q
  rcases q with rfl | rfl | rfl | rfl | rfl | rfl <;> kernel_rfl
 slot := fun c x i e => by
  have e : (slotsOf.lookup c).bind (fun l => tab (zcf l) x) = some i := e
  obtain ⟨l, e1, e2⟩ := Option.bind_eq_some_iff.mp e
  obtain ⟨a, rfl, q⟩ := eR e2
  have hm : (c, l) ∈ slotsOf := by
   clear e e2 q
   revert e1
   generalize slotsOf = L
   intro e1
   induction L with
   | nil => cases e1
   | cons y r ih =>
    rw [List.lookup_cons] at e1
    split at e1
    ·rename_i hh; cases e1; have := beq_iff_eq.mp hh; subst this; simp
    ·exact List.mem_cons_of_mem _ (ih e1)
  exact zT (List.all_eq_true.mp (List.all_eq_true.mp (vY w.params) _ hm) _ q)
 cval := fun c x v e => by
  have e : (if x = Str.ofString "type" then (typesOf.lookup c).map sgP else none) = some v := e
  split at e
  ·rename_i hx; subst hx
   obtain ⟨l, e1, rfl⟩ := Option.map_eq_some_iff.mp e
   have hm : (c, l) ∈ typesOf := by
    clear e
    revert e1
    generalize typesOf = L
    intro e1
    induction L with
    | nil => cases e1
    | cons y r ih =>
     rw [List.lookup_cons] at e1
     split at e1
     ·rename_i hh; cases e1; have := beq_iff_eq.mp hh; subst this; simp
     ·exact List.mem_cons_of_mem _ (ih e1)
   have hc := List.all_eq_true.mp (yE w.params) _ hm
   unfold yF at hc
   simp only [Bool.and_eq_true, beq_iff_eq] at hc
   obtain ⟨c1, c2⟩ := hc
   split at c2
   ·rename_i s t q
    have := beq_iff_eq.mp c2; subst this
    refine ⟨c1, _, q, rfl, ?_⟩
    simp only [sgP, VRel]
    refine ⟨t, by simp, ?_⟩
    have : (typesOf.all fun e => (Str.ofString e.2).cps.toList.all (· < 1114112) && decide ((Str.ofString e.2).cps.toList.length <= 1000)) = true := by decide +kernel
    have := List.all_eq_true.mp this _ hm
    simp only [Bool.and_eq_true, List.all_eq_true, decide_eq_true_eq] at this
    exact ⟨this.1, by unfold a0; omega⟩
   ·cases c2
  ·cases e
 ini := hi
theorem bA {n k : Nat} {C : Ctx} {a : Addr} {params : List String} {dv : List Value} {dp : List PV} {F : Fn} (hB : BsOk (bs w.params h mb)) (hC : CtxOk prog w (bs w.params h mb) C n)
  (hf : rK (HK w.params) a = true) (hok : mQ (aQ (HK w.params) a) = true)
  (hpar : (params.all fun x => (aJ (HK w.params) a).lookup (Str.ofString x) == some .local || (aJ (HK w.params) a).lookup (Str.ofString x) == some .cell) = true)
  (hlen : params.length = k + dp.length) (hd : ∀ G, VRels w.params G dv dp)
  (hbind : ∀ S vals, vals.length = k -> (zaz (HK w.params) a).map (fun fd => peek (HK w.params) S (bindArgs fd ⟨vals, []⟩)) = some (some ((params.map Str.ofString).zip (vals ++ dv))))
  (hF : ∀ ps K, F ps K -> ps.length = k /\ wSs C (bV (aJ (HK w.params) a)) (aQ (HK w.params) a) (jA K) ⟨aV ((params.map Str.ofString).zip (ps ++ dp)) fun _ => none, fun _ => none⟩) :
  Meets prog w (bs w.params h mb) (n + 1) (.ref a) F := by
 obtain ⟨fd, h1, h2, h3⟩ := rJ hf
 refine (xO (C := C) (params := params.map Str.ofString) (k := k) (dv := dv) (dp := dp) hB hC h1 hok (fun x hx => ?_) (by simpa using hlen) hd (fun s vals X hl => ?_)).weaken fun ps K hp => ?_
 ·obtain ⟨y, hy, rfl⟩ := List.mem_map.mp hx
  have := List.all_eq_true.mp hpar y hy
  rw [h3]
  simpa using this
 ·refine kp_binds X fun S => ?_
  have := hbind S vals hl
  rw [h2] at this
  show peek (HK w.params) S _ = _
  simpa using this
 ·rw [h3]; exact hF ps K hp
theorem hP {α : Type} {n : Nat} : ∀ {l : List α}, l.length = n + 1 -> ∃ a r, l = a :: r /\ r.length = n
 | a :: r, h => ⟨a, r, rfl, Nat.succ.inj h⟩
theorem wC {α : Type} {l : List α} (h : l.length = 1) : ∃ a, l = [a] := List.length_eq_one_iff.mp h
theorem iZ {α : Type} {l : List α} (h : l.length = 2) : ∃ a b, l = [a, b] := by obtain ⟨a, r, e, h⟩ := hP h; obtain ⟨b, q⟩ := wC h; exact ⟨a, b, by rw [e, q]⟩
theorem qH {α : Type} {l : List α} (h : l.length = 3) : ∃ a b c, l = [a, b, c] := by obtain ⟨a, r, e, h⟩ := hP h; obtain ⟨b, c, q⟩ := iZ h; exact ⟨a, b, c, by rw [e, q]⟩
theorem zct {α : Type} {l : List α} (h : l.length = 4) : ∃ a b c d, l = [a, b, c, d] := by obtain ⟨a, r, e, h⟩ := hP h; obtain ⟨b, c, d, q⟩ := qH h; exact ⟨a, b, c, d, by rw [e, q]⟩
theorem five {α : Type} {l : List α} (h : l.length = 5) : ∃ a b c d e, l = [a, b, c, d, e] := by obtain ⟨a, r, e, h⟩ := hP h; obtain ⟨b, c, d, f, q⟩ := zct h; exact ⟨a, b, c, d, f, by rw [e, q]⟩
theorem six {α : Type} {l : List α} (h : l.length = 6) : ∃ a b c d e f, l = [a, b, c, d, e, f] := by obtain ⟨a, r, e, h⟩ := hP h; obtain ⟨b, c, d, f, g, q⟩ := five h; exact ⟨a, b, c, d, f, g, by rw [e, q]⟩
theorem zdK {α : Type} {l : List α} (h : l.length = 7) : ∃ a b c d e f g, l = [a, b, c, d, e, f, g] := by obtain ⟨a, r, e, h⟩ := hP h; obtain ⟨b, c, d, f, g, i, q⟩ := six h; exact ⟨a, b, c, d, f, g, i, by rw [e, q]⟩
section
variable {C : Ctx} {κ : Kn}
theorem eQ {e e' : Expr} {es : List Expr} {p : Pos} {st : St} {c d : Bool} (M : CtxMono C) (h : ev C κ e st (.bool c)) (h' : c = false -> ev C κ (.BoolOp .Or (e' :: es) p) st (.bool d)) : ev C κ (.BoolOp .Or (e :: e' :: es) p) st (.bool (c || d)) := by
 refine aT (e := e) M h ?_
 cases c with
 | true => exact ⟨rfl, rfl⟩
 | false => exact h' rfl
theorem dZ {e e' : Expr} {es : List Expr} {p : Pos} {st : St} {c d : Bool} (M : CtxMono C) (h : ev C κ e st (.bool c)) (h' : c = true -> ev C κ (.BoolOp .And (e' :: es) p) st (.bool d)) : ev C κ (.BoolOp .And (e :: e' :: es) p) st (.bool (c && d)) := by
 refine aT (e := e) M h ?_
 cases c with
 | false => exact ⟨rfl, rfl⟩
 | true => exact h' rfl
noncomputable def evs (C : Ctx) (κ : Kn) (es : List Expr) (st : St) (vs : List PV) : Prop := wEs C es κ (fun rs st1 => rs = vs /\ st1 = st) st
theorem aH {st : St} : evs C κ [] st [] := ⟨rfl, rfl⟩
theorem aB {e : Expr} {es : List Expr} {st : St} {v : PV} {vs : List PV} (M : CtxMono C) (h : ev C κ e st v) (hs : evs C κ es st vs) : evs C κ (e :: es) st (v :: vs) :=
 aT (e := e) M h (bN M es (fun rs st1 ⟨h1, h2⟩ => ⟨congrArg _ h1, h2⟩) hs)
theorem b8 {es : List Expr} {k : Nat} {p : Pos} {st : St} {vs : List PV} (M : CtxMono C) (h : evs C κ es st vs) : ev C κ (.Tuple es k p) st (.tup vs) :=
 bN M es (fun rs st1 ⟨h1, h2⟩ => ⟨congrArg _ h1, h2⟩) h
theorem eF {t b o : Expr} {p : Pos} {st : St} {c : Bool} {v : PV} (M : CtxMono C) (h : tv C κ t st c) (hb : c = true -> ev C κ b st v) (ho : c = false -> ev C κ o st v) : ev C κ (.IfExp t b o p) st v := by
 refine pZ (e := t) (K := fun c st1 => if c = true then wE C b κ (fun r st1 => r = v /\ st1 = st) st1 else wE C o κ (fun r st1 => r = v /\ st1 = st) st1) M h ?_
 cases c
 ·exact ho rfl
 ·exact hb rfl
theorem b6 {op : BoolOp} {e : Expr} {p : Pos} {st : St} {v : PV} (h : ev C κ e st v) : ev C κ (.BoolOp op [e] p) st v := h
theorem cJ {e : Expr} {st : St} {c : Bool} (M : CtxMono C) (h : ev C κ e st (.bool c)) : tv C κ e st c := y5 M h rfl
theorem zda {e : Expr} {p : Pos} {st : St} {c : Bool} (M : CtxMono C) (h : ev C κ e st (.bool c)) : ev C κ (.UnaryOp .Not e p) st (.bool !c) := aT (e := e) M h ⟨rfl, rfl⟩
theorem rR {e : Expr} {p : Pos} {st : St} {i : Int} (M : CtxMono C) (h : ev C κ e st (.int i)) : ev C κ (.UnaryOp .USub e p) st (.int (-i)) := aT (e := e) M h ⟨rfl, rfl⟩
theorem aN {x : Str} {p : Pos} {st : St} {v : PV} (k : κ x = some .local) (h : st.ρ x = some v) : ev C κ (.Name x p) st v := by
 show (if κ x = some .globalImplicit then opt (C.val x) _ else opt (st.ρ x) _)
 rw [k, jI, h]; exact ⟨rfl, rfl⟩
theorem x2 {x : Str} {p : Pos} {st : St} {v : PV} (k : κ x = some .free) (h : st.ρ x = some v) : ev C κ (.Name x p) st v := by
 show (if κ x = some .globalImplicit then opt (C.val x) _ else opt (st.ρ x) _)
 rw [k, zap, h]; exact ⟨rfl, rfl⟩
theorem pE {x : Str} {p : Pos} {st : St} {v : PV} (k : κ x = some .cell) (h : st.ρ x = some v) : ev C κ (.Name x p) st v := by
 show (if κ x = some .globalImplicit then opt (C.val x) _ else opt (st.ρ x) _)
 rw [k, zaq, h]; exact ⟨rfl, rfl⟩
theorem x1 {x : Str} {p : Pos} {st : St} {v : PV} (k : κ x = some .globalImplicit) (h : C.val x = some v) : ev C κ (.Name x p) st v := by
 show (if κ x = some .globalImplicit then opt (C.val x) _ else opt (st.ρ x) _)
 rw [k, zcU, h]; exact ⟨rfl, rfl⟩
theorem eO {l r : Expr} {p : Pos} {st : St} {i j : Int} (M : CtxMono C) (h : ev C κ l st (.int i)) (h' : ev C κ r st (.int j)) : ev C κ (.BinOp l .Add r p) st (.int (i + j)) :=
 aT (e := l) M h (aT (e := r) M h' ⟨rfl, rfl⟩)
theorem nW {o l u : Expr} {p q : Pos} {st : St} {x : List Nat} {i j : Int} (M : CtxMono C) (h : ev C κ o st (.str x)) (hl : ev C κ l st (.int i)) (hu : ev C κ u st (.int j)) (b : -4611686018427387904 < i /\ i < 4611686018427387904 /\ -4611686018427387904 < j /\ j < 4611686018427387904) :
  ev C κ (.Subscript o (.Slice (some l) (some u) none q) p) st (.str (slc x (some i) (some j))) :=
 aT (e := o) M h ⟨rfl, aT (e := l) M hl ⟨b.1, b.2.1, aT (e := u) M hu ⟨b.2.2.1, b.2.2.2, rfl, rfl⟩⟩⟩
theorem hW {l r : Expr} {op : CmpOp} {p : Pos} {st : St} {a b : PV} {d : Bool} (M : CtxMono C) (h : ev C κ l st a) (h' : ev C κ r st b) (k : zbk st.σ op a b fun c => true = true /\ c = d /\ st = st) : tv C κ (.Compare l [op] [r] p) st d :=
 aT (e := l) M h (aT (e := r) M h' k)
theorem bM {x : Str} {es : List Expr} {vs : List PV} {v : PV} {F : Fn} {p q : Pos} {st : St} (M : CtxMono C) (k : κ x = some .globalImplicit) (hf : C.fn x = some F) (hs : evs C κ es st vs) (h : F (vs.map (der st.σ)) fun r => (vs.any tY = false \/ lS r = true) /\ r = v) : ev C κ (.Call (.Name x q) es [] p) st v := by
 refine ⟨rfl, k, by unfold tW; rw [hf]; rfl, bN M es (fun rs st1 ⟨h1, h2⟩ => ?_) hs⟩
 subst h1 h2
 unfold iK
 rw [hf]
 exact M.1 x F hf _ _ _ (fun r ⟨a, b⟩ => ⟨a, b, rfl⟩) h
theorem gN {o i : Expr} {p : Pos} {st : St} {a b v : PV} (M : CtxMono C) (hs : zba i = false) (h : ev C κ o st a) (h' : ev C κ i st b) (k : zbc (der st.σ a) b fun r => r = v) : ev C κ (.Subscript o i p) st v := by
 refine aT (e := o) M h ?_
 show (if zba i = true then _ else wE C i κ _ st)
 rw [hs, za9]
 exact aT (e := i) M h' (nP (fun r e => ⟨e, rfl⟩) k)
theorem xV {l r : Expr} {p : Pos} {st : St} {i j : Int} (M : CtxMono C) (h : ev C κ l st (.int i)) (h' : ev C κ r st (.int j)) : ev C κ (.BinOp l .Sub r p) st (.int (i - j)) :=
 aT (e := l) M h (aT (e := r) M h' ⟨rfl, rfl⟩)
theorem jR {x : Str} {es : List Expr} {vs : List PV} {v : PV} {p q : Pos} {st : St} (M : CtxMono C) (k : κ x = some .globalImplicit) (hf : C.fn x = none) (hc : C.cls x = none) (hb : C.bi x = true) (hs : evs C κ es st vs) (h : biP x (vs.map (der st.σ)) fun r => r = v) : ev C κ (.Call (.Name x q) es [] p) st v := by
 refine ⟨rfl, k, by unfold tW; rw [hf, hc, hb]; rfl, bN M es (fun rs st1 ⟨h1, h2⟩ => ?_) hs⟩
 subst h1 h2
 unfold iK
 rw [hf, hc]
 exact ⟨hb, r9 (fun r e => ⟨e, rfl⟩) h⟩
theorem xZ {es : List Expr} {vs : List PV} {p : Pos} {st : St} (M : CtxMono C) (hm : C.mutL p.line = false) (hs : evs C κ es st vs) : ev C κ (.List es p) st (.list vs) :=
 bN M es (fun rs st1 ⟨h1, h2⟩ => by
  subst h1 h2
  unfold bD
  rw [hm, za9]
  exact ⟨rfl, rfl⟩) hs
theorem zce {l r : Expr} {p : Pos} {st : St} {x y : List PV} (M : CtxMono C) (h : ev C κ l st (.list x)) (h' : ev C κ r st (.list y)) (hl : x.length + y.length <= a0) : ev C κ (.BinOp l .Add r p) st (.list (x ++ y)) :=
 aT (e := l) M h (aT (e := r) M h' ⟨hl, rfl, rfl⟩)
theorem xY {l r : Expr} {p : Pos} {st : St} {i j : Int} (M : CtxMono C) (h : ev C κ l st (.int i)) (h' : ev C κ r st (.int j)) (hj : 0 < j) : ev C κ (.BinOp l .Mod r p) st (.int (i % j)) :=
 aT (e := l) M h (aT (e := r) M h' ⟨hj, rfl, rfl⟩)
theorem xT {o u : Expr} {p q : Pos} {st : St} {x : List PV} {j : Int} (M : CtxMono C) (h : ev C κ o st (.list x)) (hu : ev C κ u st (.int j)) (h0 : -4611686018427387904 < j) (h1 : j < 4611686018427387904) : ev C κ (.Subscript o (.Slice none (some u) none q) p) st (.list (slc x none (some j))) :=
 aT (e := o) M h ⟨rfl, aT (e := u) M hu ⟨h0, h1, rfl, rfl⟩⟩
theorem bL {l r : Expr} {op : CmpOp} {p : Pos} {st : St} {a b : PV} {d : Bool} (M : CtxMono C) (h1 : ev C κ l st a) (h2 : ev C κ r st b) (h3 : zbk st.σ op a b fun c => c = d) : ev C κ (.Compare l [op] [r] p) st (.bool d) :=
 aT (e := l) M h1 (aT (e := r) M h2 (jX (fun c h => ⟨rfl, congrArg PV.bool h, rfl⟩) h3))
theorem t7 {l r : Expr} {p : Pos} {st : St} {a b : Nat} (M : CtxMono C) (h : ev C κ l st (.int a)) (h' : ev C κ r st (.int b)) : ev C κ (.Compare l [.Lt] [r] p) st (.bool (decide (a < b))) := bL M h h' (decide_eq_decide.mpr Int.ofNat_lt)
theorem nY {l : Expr} {q : String} {k : Nat} {p p' : Pos} {st : St} {x : List Nat} (M : CtxMono C) (h : ev C κ l st (.str x)) : ev C κ (.Compare l [.Eq] [.Constant (.str (Str.ofString q)) k p] p') st (.bool (decide (x = (Str.ofString q).cps.toList))) := bL M h (aC rfl) rfl
theorem xX {l : Expr} {q : String} {k : Nat} {p p' : Pos} {st : St} {x : List Nat} (M : CtxMono C) (h : ev C κ l st (.str x)) : ev C κ (.Compare l [.NotEq] [.Constant (.str (Str.ofString q)) k p] p') st (.bool (!decide (x = (Str.ofString q).cps.toList))) := bL M h (aC rfl) rfl
theorem iD {l : Expr} {q : Str} {k : Nat} {p p' : Pos} {st : St} {c d : Nat} (M : CtxMono C) (h : ev C κ l st (.str [c])) (hq : q.cps.toList = [d]) : ev C κ (.Compare l [.Eq] [.Constant (.str q) k p] p') st (.bool (decide (c = d))) :=
 bL (b := .str [d]) M h (aC (by rw [lB, hq])) (decide_eq_decide.mpr ⟨fun h => (List.cons.inj h).1, fun h => congrArg (fun n => [n]) h⟩)
theorem jQ {l : Expr} {q : Str} {k : Nat} {p p' : Pos} {st : St} {c : Nat} (M : CtxMono C) (h : ev C κ l st (.str [c])) : ev C κ (.Compare l [.In] [.Constant (.str q) k p] p') st (.bool (decide (c ∈ q.cps.toList))) := bL M h (aC rfl) (rF _ _)
theorem x0 {e : Expr} {k : Nat} {p p' p2 p3 : Pos} {st : St} {c n : Nat} (M : CtxMono C) (k1 : κ "ord" = some .globalImplicit) (hf : C.fn "ord" = none) (hc : C.cls "ord" = none) (hb : C.bi "ord" = true) (h : ev C κ e st (.str [c])) : ev C κ (.Compare (.Call (.Name (Str.ofString "ord") p) [e] [] p2) [.Gt] [.Constant (.int n) k p3] p') st (.bool (decide (n < c))) :=
 bL (a := .int c) (b := .int n) M (jR M k1 hf hc hb (aB M h aH) (of_eq (B := PV.int c = .int c) (by kernel_rfl) rfl)) (aC rfl) (decide_eq_decide.mpr Int.ofNat_lt)
theorem gO {o i : Expr} {p : Pos} {st : St} {x : List Nat} {n c : Nat} (M : CtxMono C) (hs : zba i = false) (h : ev C κ o st (.str x)) (h' : ev C κ i st (.int n)) (hc : x[n]? = some c) : ev C κ (.Subscript o i p) st (.str [c]) :=
 gN M hs h h' (by show opt (mD x (n : Int)) _; rw [zav, hc]; rfl)
theorem zcs (n : Nat) : (-4611686018427387904 : Int) < n := Int.lt_of_lt_of_le (by decide) (Int.natCast_nonneg n)
theorem t4 {n : Nat} (h : n < 2000000) : (n : Int) < 4611686018427387904 := Int.lt_trans (Int.ofNat_lt.mpr h) (by decide)
theorem zaC {o l u : Expr} {p q : Pos} {st : St} {x : List Nat} {i j : Nat} (M : CtxMono C) (h : ev C κ o st (.str x)) (hl : ev C κ l st (.int i)) (hu : ev C κ u st (.int j)) (hij : i <= j) (hj : j < 2000000) : ev C κ (.Subscript o (.Slice (some l) (some u) none q) p) st (.str ((x.drop i).take (j - i))) :=
 oN x i j hij ▸ nW M h hl hu ⟨zcs i, t4 (Nat.lt_of_le_of_lt hij hj), zcs j, t4 hj⟩
theorem wQ {σ : Nat -> Option Cell} {x y : List Nat} {i : Int} {K : PV -> (Nat -> Option Cell) -> Prop} : fY σ "startswith" (.str x) [.str y, .int i] K = okI i (K (.bool (decide (i <= x.length) && y.isPrefixOf (x.drop i.toNat))) σ) := by kernel_rfl
theorem zV {x : List Nat} {i : Nat} (h : i <= x.length) : slc x (some (i : Int)) none = x.drop i := by
 show (x.drop (if (i : Int) < 0 then ((i : Int) + x.length).toNat else min i x.length)).take (x.length - (if (i : Int) < 0 then ((i : Int) + x.length).toNat else min i x.length)) = _
 rw [if_neg (Int.not_lt.mpr (Int.natCast_nonneg i)), Nat.min_eq_left h, List.take_of_length_le (Nat.le_of_eq List.length_drop)]
theorem zcc {o l : Expr} {p q : Pos} {st : St} {x : List Nat} {i : Nat} (M : CtxMono C) (h : ev C κ o st (.str x)) (hl : ev C κ l st (.int i)) (hi : i <= x.length) (hx : x.length < 2000000) : ev C κ (.Subscript o (.Slice (some l) none none q) p) st (.str (x.drop i)) :=
 zV hi ▸ aT (e := o) M h ⟨rfl, aT (e := l) M hl ⟨zcs i, t4 (Nat.lt_of_le_of_lt hi hx), rfl, rfl⟩⟩
theorem tH {σ : Nat -> Option Cell} {x y : List Nat} {i : Int} {K : PV -> (Nat -> Option Cell) -> Prop} : fY σ "find" (.str x) [.str y, .int i] K = okI i (K (.int (xR x y i.toNat)) σ) := by kernel_rfl
theorem dG {x : Str} {es : List Expr} {vs : List PV} {v : PV} {F : Fn} {p q : Pos} {st : St} (M : CtxMono C) (k : κ x = some .globalImplicit) (hf : C.fn x = none) (hc : C.cls x = some F) (hs : evs C κ es st vs) (h : F vs fun r => r = v) : ev C κ (.Call (.Name x q) es [] p) st v := by
 refine ⟨rfl, k, by unfold tW; rw [hf, hc]; rfl, bN M es (fun rs st1 ⟨h1, h2⟩ => ?_) hs⟩
 subst h1 h2
 unfold iK
 rw [hf, hc]
 exact M.2 x F hc _ _ _ (fun r e => ⟨e, rfl⟩) h
theorem nX {x : Str} {p q p2 : Pos} {st : St} {y : List Nat} (M : CtxMono C) (k : κ "len" = some .globalImplicit) (hf : C.fn "len" = none) (hc : C.cls "len" = none) (hb : C.bi "len" = true) (h : ev C κ (.Name x p) st (.str y)) : ev C κ (.Call (.Name (Str.ofString "len") q) [.Name x p] [] p2) st (.int y.length) :=
 jR M k hf hc hb (aB M h aH) (of_eq (B := PV.int y.length = .int y.length) (by kernel_rfl) rfl)
theorem mG {o : Expr} {es : List Expr} {vs : List PV} {n : Str} {p p2 : Pos} {st : St} {x : List Nat} {v : PV} (M : CtxMono C) (h : ev C κ o st (.str x)) (hs : evs C κ es st vs) (hr : cU es = none) (hm : mOk st.σ n (.str x) = true) (hv : fY st.σ n (.str x) vs fun r σ' => r = v /\ σ' = st.σ) :
  ev C κ (.Call (.Attribute o n p) es [] p2) st v := by
 rw [ev, iY, hr, gI]
 exact ⟨rfl, aT (e := o) M h ⟨hm, bN M es (fun rs st1 ⟨h1, h2⟩ => by subst h1 h2; exact kW (fun r σ' ⟨e1, e2⟩ => ⟨e1, congrArg (St.mk _) e2⟩) hv) hs⟩⟩
theorem zaB {o i : Expr} {q : Str} {k : Nat} {p p1 p2 : Pos} {st : St} {x : List Nat} {e : Nat} (M : CtxMono C) (h : ev C κ o st (.str x)) (hi : ev C κ i st (.int e)) (he : e <= x.length) (hx : x.length < 2000000) (hc : csE i = none) :
  ev C κ (.Call (.Attribute o (Str.ofString "startswith") p) [.Constant (.str q) k p1, i] [] p2) st (.bool (q.cps.toList.isPrefixOf (x.drop e))) := by
 refine mG M h (aB M (aC rfl) (aB M hi aH)) ?_ (by kernel_rfl) ?_
 ·show ((some q).bind fun p => (csE i).map fun q => (p, q)) = none
  rw [hc]; rfl
 ·rw [wQ]
  refine ⟨Int.natCast_nonneg e, t4 (Nat.lt_of_le_of_lt he hx), ?_, rfl⟩
  rw [decide_eq_true (Int.ofNat_le.mpr he), Bool.true_and]; rfl
end
mutual
noncomputable def flat : PV -> Bool
 | .none => true
 | .bool _ => true
 | .int _ => true
 | .str _ => true
 | .tup xs => xQ xs
 | .list xs => xQ xs
 | .inst _ xs => xQ xs
 | .rng _ _ => true
 | .ptr _ => false
noncomputable def xQ : List PV -> Bool
 | [] => true
 | x :: xs => flat x && xQ xs
end
mutual
theorem a5 (σ : Nat -> Option Cell) : ∀ v : PV, flat v = true -> Res σ v v
 | .none, _ => rfl
 | .bool _, _ => rfl
 | .int _, _ => rfl
 | .str _, _ => rfl
 | .tup xs, h => ⟨xs, rfl, gF σ xs h⟩
 | .list xs, h => .inl ⟨xs, rfl, gF σ xs h⟩
 | .inst _ xs, h => ⟨xs, rfl, gF σ xs h⟩
 | .rng _ _, _ => rfl
 | .ptr _, h => Bool.noConfusion h
theorem gF (σ : Nat -> Option Cell) : ∀ vs : List PV, xQ vs = true -> n9 σ vs vs
 | [], _ => rfl
 | v :: vs, h => ⟨v, vs, rfl, a5 σ v (Bool.and_eq_true_iff.mp h).1, gF σ vs (Bool.and_eq_true_iff.mp h).2⟩
end
theorem bC (σ : Nat -> Option Cell) (b : Bool) : Res σ (.bool b) (.bool b) := rfl
noncomputable def bK (c : Nat) : Bool := (97 <= c && c <= 122) || (65 <= c && c <= 90) || c == 95 || 127 < c
theorem oY {c : Nat} (h : dN c = true) : (decide (c ∈ (Str.ofString "abcdefghijklmnopqrstuvwxyzABCDEFGHIJKLMNOPQRSTUVWXYZ_").cps.toList) || decide (127 < c)) = bK c :=
 fG (f := fun c => decide (c ∈ (Str.ofString "abcdefghijklmnopqrstuvwxyzABCDEFGHIJKLMNOPQRSTUVWXYZ_").cps.toList) || decide (127 < c)) (by decide +kernel) h
noncomputable def zdE : Fn := fun ps K => ∃ (css : List Nat) (pos c : Nat), ps = [.str css, .int pos] /\ css[pos]? = some c /\ dN c = true /\ K (.bool (bK c))
theorem oC : bB zdE := fun ps K K' h ⟨css, pos, c, h1, h2, h3, h4⟩ => ⟨css, pos, c, h1, h2, h3, h _ h4⟩
local macro_rules | `(tactic| walk_at "ex") => `(tactic| first | exact aC rfl | exact aN (by kernel_rfl!) (by kernel_rfl!))
local macro_rules | `(tactic| walk_at "up") => `(tactic| first | kernel_rfl! | (simp only [bS, aV, String.reduceEq, if_true, if_false, *]; done) | (simp [bS, aV, *]; done))
local macro_rules | `(tactic| walk_at "cl") => `(tactic| first | kernel_rfl! | (simp only [aS]; done) | (simp [a7, *]; done))
local macro_rules | `(tactic| walk_at "sq") => `(tactic| repeat (first | refine vG ?_ | dsimp only [d5]))
local macro_rules | `(tactic| walk_at "core") => `(tactic| (show _ = _; first | kernel_rfl! | (rw [<- Nat.add_assoc]; kernel_rfl!) | (rw [<- Nat.add_assoc, <- Nat.add_assoc]; kernel_rfl!)))
local macro_rules | `(tactic| walk_at "nm") => `(tactic| exact aN (by kernel_rfl!) (by kernel_rfl!))
theorem zbN (p : Params) (css : List Nat) (pos c : Nat) (K : PV -> Prop) (hc : css[pos]? = some c) (ha : dN c = true) (hK : K (.bool (bK c))) :
  wSs (mkC [] [] false [] []) (bV (aJ (HK p) 635)) (aQ (HK p) 635) (jA K) ⟨aV [("css", .str css), ("pos", .int pos)] (fun _ => none), fun _ => none⟩ := by
 have M : CtxMono (mkC [] [] false [] []) := bO (by simp) (by simp)
 conv in (aQ _ _) => whnf
 refine aA (aL M (.str [c]) (gO M rfl (by walk_at "nm") (by walk_at "nm") hc) (by kernel_rfl) ?_)
 rw [<- oY ha] at hK
 exact aA (aR M (.bool _) (eQ M (jQ M (by walk_at "nm")) fun _ => b6 (x0 M (by kernel_rfl!) rfl rfl (by kernel_rfl) (by walk_at "nm"))) ⟨_, bC _ _, hK⟩)
theorem zaf (hB : BsOk (bs w.params h mb)) (hmb : HMb mb) : Meets prog w (bs w.params h mb) 1 (.ref 635) zdE := by
 have hC : CtxOk prog w (bs w.params h mb) (mkC [] [] false [] []) 0 := dH hmb (by simp) (by simp) (by simp) (by simp) (by simp) (by simp)
 refine bA (k := 2) (params := ["css", "pos"]) (dv := []) (dp := []) hB hC (by kernel_rfl) (by kernel_rfl) (by kernel_rfl) rfl (fun _ => .nil) (fun S vals hl => ?_) fun ps K ⟨css, pos, c, h1, h2, h3, h4⟩ => ?_
 ·obtain ⟨a, b, rfl⟩ := iZ hl
  kernel_rfl
 ·subst h1
  exact ⟨rfl, zbN _ css pos c K h2 h3 h4⟩
theorem uU (ρ : dD) (x : Str) (a b : PV) : upd (upd ρ x a) x b = upd ρ x b := by
 funext y; unfold upd; by_cases h : y = x <;> simp [h]
theorem qA {ρ : dD} {x : Str} {a : PV} (h : ρ x = some a) : upd ρ x a = ρ := by
 funext y; unfold upd
 by_cases e : y = x
 ·subst e; rw [if_pos rfl, h]
 ·rw [if_neg e]
theorem mX (ρ : dD) (x : Str) (a : PV) : upd ρ x a x = some a := by unfold upd; rw [if_pos rfl]
theorem uV (ρ : dD) {x y : Str} (h : y ≠ x) (a : PV) : upd ρ x a y = ρ y := by unfold upd; rw [if_neg h]
noncomputable def g8 (c : Nat) : Bool := 48 <= c && c <= 57
noncomputable def bX (x : List Nat) : Nat := (x.takeWhile g8).length
theorem zaR {x : List Nat} {i : Nat} (h : i < x.length) : (x.drop i).take 1 = [x[i]] := by rw [List.drop_eq_getElem_cons h]; rfl
theorem zcp {x : List Nat} {i : Nat} (h : x.length <= i) : (x.drop i).take 1 = [] := by rw [List.drop_of_length_le h]; rfl
theorem jT : eM (["0", "1", "2", "3", "4", "5", "6", "7", "8", "9"].map sgP) = some [[48], [49], [50], [51], [52], [53], [54], [55], [56], [57]] := by decide +kernel
noncomputable def c7 (x : List Nat) (i : Nat) : Bool := (x[i]?).any g8
theorem zbn (x : List Nat) (i : Nat) : at1 x i = (x[i]?).toList := by
 by_cases h : i < x.length
 ·rw [at1, zaR h, List.getElem?_eq_getElem h]; rfl
 ·rw [at1, zcp (Nat.le_of_not_lt h), List.getElem?_eq_none (Nat.le_of_not_lt h)]; rfl
theorem zbi {x : List Nat} (ha : Al x) (i : Nat) : decide (at1 x i ∈ ([[48], [49], [50], [51], [52], [53], [54], [55], [56], [57]] : List (List Nat))) = c7 x i := by
 rw [zbn, c7]
 cases h : x[i]? with
 | none => rfl
 | some c => exact fG (g := g8) (f := fun c => decide ([c] ∈ ([[48], [49], [50], [51], [52], [53], [54], [55], [56], [57]] : List (List Nat)))) (by decide +kernel) (ha.at h)
theorem jU {x : List Nat} {i : Nat} (h : c7 x i = true) : i < x.length /\ bX (x.drop i) = bX (x.drop (i + 1)) + 1 := by
 by_cases hl : i < x.length
 ·rw [c7, List.getElem?_eq_getElem hl] at h
  refine ⟨hl, ?_⟩
  rw [List.drop_eq_getElem_cons hl, bX, List.takeWhile_cons_of_pos (p := g8) h]; rfl
 ·rw [c7, List.getElem?_eq_none (Nat.le_of_not_lt hl)] at h; cases h
theorem nZ {x : List Nat} {i : Nat} (h : c7 x i = false) : bX (x.drop i) = 0 := by
 by_cases hl : i < x.length
 ·rw [c7, List.getElem?_eq_getElem hl] at h
  rw [List.drop_eq_getElem_cons hl, bX, List.takeWhile_cons_of_neg (fun q => by rw [Option.any_some, q] at h; cases h)]; rfl
 ·rw [List.drop_of_length_le (Nat.le_of_not_lt hl)]; rfl
section
variable {C : Ctx} {κ : Kn}
theorem sl1 (x : List Nat) (i : Nat) : slc x (some (i : Int)) (some ((i : Int) + 1)) = at1 x i := by
 rw [show (i : Int) + 1 = ((i + 1 : Nat) : Int) from rfl, oN _ _ _ (Nat.le_succ i), Nat.succ_sub (Nat.le_refl i), Nat.sub_self]; rfl
theorem v1 {i : Nat} (h : i < 1000000) : -4611686018427387904 < (i : Int) /\ (i : Int) < 4611686018427387904 /\ -4611686018427387904 < (i : Int) + 1 /\ (i : Int) + 1 < 4611686018427387904 :=
 ⟨zcs i, t4 (Nat.lt_trans h (by decide)), zcs (i + 1), t4 (n := i + 1) (Nat.lt_of_le_of_lt h (by decide))⟩
theorem qE {a i d : Str} {p1 p2 p3 p4 p5 p6 p7 p8 p9 : Pos} {k : Nat} {st : St} {x : List Nat} {e : Nat} (M : CtxMono C) (hD : C.val d = some hJ) (k1 : κ d = some .globalImplicit) (k2 : κ a = some .local) (k3 : κ i = some .local)
  (h1 : st.ρ a = some (.str x)) (h2 : st.ρ i = some (.int e)) (hx : x.length < 1000000) (ha : Al x) (he : e <= x.length) :
  tv C κ (.Compare (.Subscript (.Name a p1) (.Slice (some (.Name i p2)) (some (.BinOp (.Name i p3) .Add (.Constant (.int 1) k p4) p5)) none p6) p7) [.In] [.Name d p8] p9) st (c7 x e) := by
 refine hW M (nW M (aN k2 h1) (aN k3 h2) (eO M (aN k3 h2) (aC rfl)) (v1 (Nat.lt_of_le_of_lt he hx))) (x1 k1 hD) ⟨_, jT, rfl, ?_, rfl⟩
 rw [sl1]
 exact zbi ha e
theorem lV {a i d : Str} {p1 p2 p3 p4 p5 p6 p7 p8 p9 q1 q2 q3 q4 : Pos} {k k' : Nat} {st : St} {x : List Nat} {e : Nat} {Q : Fl -> St -> Prop} (M : CtxMono C) (hD : C.val d = some hJ) (k1 : κ d = some .globalImplicit) (k2 : κ a = some .local) (k3 : κ i = some .local) (hai : a ≠ i)
  (h1 : st.ρ a = some (.str x)) (h2 : st.ρ i = some (.int e)) (hx : x.length < 1000000) (ha : Al x) (he : e <= x.length)
  (hQ : Q .next ⟨upd st.ρ i (.int ((e + bX (x.drop e) : Nat))), st.σ⟩) :
  wS C κ (.While (.Compare (.Subscript (.Name a p1) (.Slice (some (.Name i p2)) (some (.BinOp (.Name i p3) .Add (.Constant (.int 1) k p4) p5)) none p6) p7) [.In] [.Name d p8] p9)
   [.AugAssign (.Name i q1) .Add (.Constant (.int 1) k' q2) q3] [] q4) Q st := by
 refine lU M (fun n s => ∃ f : Nat, s = ⟨upd st.ρ i (.int f), st.σ⟩ /\ f <= x.length /\ n = x.length - f /\ f + bX (x.drop f) = e + bX (x.drop e)) ?_ (x.length - e) st ⟨e, by rw [qA h2], he, rfl, rfl⟩
 rintro n s ⟨f, rfl, hf, rfl, hs⟩
 have g1 : (upd st.ρ i (.int f)) a = some (.str x) := by rw [uV _ hai]; exact h1
 refine ⟨c7 x f, qE M hD k1 k2 k3 g1 (mX _ _ _) hx ha hf, fun hc => ?_, fun hc => ?_⟩
 ·obtain ⟨hl, hd⟩ := jU hc
  refine aA (dP M (.int f) (.int 1) (mX _ _ _) (aC rfl) (by unfold c3; rw [k3]; decide) (of_eq cM ?_))
  exact ⟨x.length - (f + 1), Nat.sub_lt_sub_left hl (Nat.lt_succ_self f), f + 1, congrArg (St.mk · st.σ) (uU _ _ _ _), hl, rfl, by rw [<- hs, hd, Nat.add_right_comm]; rfl⟩
 ·rw [nZ hc] at hs
  rw [<- hs] at hQ
  exact hQ
end
mutual
noncomputable def tA (K : Frag) (v : Value) : PV -> Bool
 | .none => v == .none
 | .bool b => v == .bool b
 | .int i => match v with
  | .int j _ => j == i
  | _ => false
 | .str x => match v with
  | .str s _ => s.cps.toList == x && x.all (· < 1114112) && decide (x.length <= 10000)
  | _ => false
 | .tup xs => match v with
  | .ref a => (match K.lookup a with
   | some ⟨c, _, .seq vs _, _⟩ => c == .type "tuple" && decide (vs.size <= 10000) && sZ K vs.toList xs
   | _ => false)
  | _ => false
 | .list xs => match v with
  | .ref a => (match K.lookup a with
   | some ⟨c, none, .seq vs _, _⟩ => c == .type "list" && decide (vs.size <= 10000) && sZ K vs.toList xs
   | _ => false)
  | _ => false
 | _ => false
noncomputable def sZ (K : Frag) (vs : List Value) : List PV -> Bool
 | [] => vs.isEmpty
 | p :: ps => match vs with
  | v :: r => tA K v p && sZ K r ps
  | [] => false
end
mutual
theorem qR {K : Frag} {P : Params} {h : Heap} (X : K.In h) : ∀ (p : PV) {v : Value}, tA K v p = true -> VRel P (fun a => h.get? a) v p
 | .none, v, e => by simp only [tA, beq_iff_eq] at e; simp [VRel, e]
 | .bool b, v, e => by simp only [tA, beq_iff_eq] at e; simp [VRel, e]
 | .int i, v, e => by
  unfold tA at e
  split at e
  ·simp only [beq_iff_eq] at e; subst e; simp [VRel]
  ·cases e
 | .str x, v, e => by
  unfold tA at e
  split at e
  ·rename_i s t
   simp only [Bool.and_eq_true, beq_iff_eq, List.all_eq_true, decide_eq_true_eq] at e
   obtain ⟨⟨rfl, e2⟩, e3⟩ := e
   simp only [VRel]
   exact ⟨t, by simp, e2, by unfold a0; omega⟩
  ·cases e
 | .tup xs, v, e => by
  unfold tA at e
  split at e
  ·rename_i a
   split at e
   ·rename_i c d vs n sl ho
    simp only [Bool.and_eq_true, beq_iff_eq, decide_eq_true_eq] at e
    obtain ⟨⟨rfl, e2⟩, e3⟩ := e
    simp only [VRel]
    exact ⟨a, _, vs, n, rfl, X _ _ ho, rfl, rfl, by unfold a0; omega, jB X xs e3⟩
   ·cases e
  ·cases e
 | .list xs, v, e => by
  unfold tA at e
  split at e
  ·rename_i a
   split at e
   ·rename_i c vs n sl ho
    simp only [Bool.and_eq_true, beq_iff_eq, decide_eq_true_eq] at e
    obtain ⟨⟨rfl, e2⟩, e3⟩ := e
    simp only [VRel]
    exact ⟨a, _, vs, n, rfl, X _ _ ho, rfl, rfl, rfl, by unfold a0; omega, jB X xs e3⟩
   ·cases e
  ·cases e
 | .inst _ _, v, e => by simp [tA] at e
 | .rng _ _, v, e => by simp [tA] at e
 | .ptr _, v, e => by simp [tA] at e
theorem jB {K : Frag} {P : Params} {h : Heap} (X : K.In h) : ∀ (ps : List PV) {vs : List Value}, sZ K vs ps = true -> VRels P (fun a => h.get? a) vs ps
 | [], vs, e => by simp only [sZ, List.isEmpty_iff] at e; subst e; exact .nil
 | p :: ps, vs, e => by
  unfold sZ at e
  split at e
  ·simp only [Bool.and_eq_true] at e
   exact .cons (qR X p e.1) (jB X ps e.2)
  ·cases e
end
noncomputable def bF (x : List Nat) : Nat := if x[0]? = some 45 \/ x[0]? = some 43 then 1 else 0
noncomputable def c6 (x : List Nat) : Option Nat := if x[0]? = some 46 /\ c7 x 1 = true then some (bX (x.drop 2) + 2) else none
noncomputable def iS (x : List Nat) : Option Nat := if x[0]? = some 101 \/ x[0]? = some 69 then (if c7 x (bF (x.drop 1) + 1) = true then some (bX (x.drop (bF (x.drop 1) + 1)) + (bF (x.drop 1) + 1)) else none) else none
noncomputable def zdw (x : List Nat) (z k : Nat) : Option (Nat × Bool) :=
 (c6 (x.drop k)).elim (if z = 0 then none else some ((iS (x.drop k)).elim (k, true) fun g => (g + k, false))) fun f => some ((iS (x.drop (f + k))).getD 0 + (f + k), false)
noncomputable def iO (x : List Nat) : Option (Nat × Bool) := zdw x (bX (x.drop (bF x))) (bX (x.drop (bF x)) + bF x)
theorem dY (x : List Nat) (i : Nat) : (x.drop i)[0]? = x[i]? := List.getElem?_drop
theorem oO {x : List Nat} {i : Nat} (h : i <= x.length) : i + bF (x.drop i) <= x.length := by
 unfold bF
 split
 ·rename_i q
  rw [dY] at q
  exact q.elim (fun q => (List.getElem?_eq_some_iff.mp q).1) fun q => (List.getElem?_eq_some_iff.mp q).1
 ·exact h
theorem x7 {x : List Nat} {i : Nat} (h : i <= x.length) : i + bX (x.drop i) <= x.length := by
 have : bX (x.drop i) <= (x.drop i).length := (List.takeWhile_sublist _).length_le
 rw [List.length_drop] at this
 exact Nat.add_sub_cancel' h ▸ Nat.add_le_add_left this i
theorem yQ (x : List Nat) (i c : Nat) : (at1 x i = [c]) = (x[i]? = some c) := by
 rw [zbn]
 exact propext (match x[i]? with
 | none => ⟨fun h => (by cases h), fun h => (by cases h)⟩
 | some d => ⟨fun h => congrArg some (List.cons.inj h).1, fun h => congrArg (Option.toList) h⟩)
theorem pL (x : List Nat) (i c d : Nat) : decide (at1 x i ∈ ([[c], [d]] : List (List Nat))) = decide (x[i]? = some c \/ x[i]? = some d) :=
 decide_eq_decide.mpr (by rw [List.mem_cons, List.mem_singleton, yQ, yQ])
theorem xM {x : List Nat} {i c : Nat} (h : x[i]? = some c) : i < x.length := (List.getElem?_eq_some_iff.mp h).1
theorem rV {x : List Nat} {i : Nat} (h : c7 x i = true) : i < x.length := (jU h).1
theorem e9 (x : List Nat) (i : Nat) : bF (x.drop i) = if x[i]? = some 45 \/ x[i]? = some 43 then 1 else 0 := by
 rw [bF, dY]
theorem eD {x : List Nat} {n m : Nat} (h : n <= x.length) (h' : m <= (x.drop n).length) : n + m <= x.length := by
 rw [List.length_drop] at h'
 exact Nat.add_sub_cancel' h ▸ Nat.add_le_add_left h' n
noncomputable def zcu (x : List Nat) (i : Nat) (b : Bool) : Nat × Bool := if x[i]? = some 101 \/ x[i]? = some 69 then (if c7 x (i + 1 + bF (x.drop (i + 1))) = true then (i + 1 + bF (x.drop (i + 1)) + bX (x.drop (i + 1 + bF (x.drop (i + 1)))), false) else (i, b)) else (i, b)
noncomputable def wH (x : List Nat) (i j : Nat) : Option (Nat × Bool) := if x[j]? = some 46 /\ c7 x (j + 1) = true then some (zcu x (j + 2 + bX (x.drop (j + 2))) false) else if j = i then none else some (zcu x j true)
noncomputable def zcO (x : List Nat) (i : Nat) : Option (Nat × Bool) := wH x (i + bF (x.drop i)) (i + bF (x.drop i) + bX (x.drop (i + bF (x.drop i))))
theorem lA (x : List Nat) (i j : Nat) : c7 (x.drop i) j = c7 x (i + j) := by rw [c7, List.getElem?_drop, c7]
theorem zbg (x : List Nat) (i : Nat) (b : Bool) : zcu x i b = (iS (x.drop i)).elim (i, b) fun g => (g + i, false) := by
 rw [zcu, iS, lA, dY, List.drop_drop, List.drop_drop, Nat.add_comm (bF _) 1, <- Nat.add_assoc]
 split
 ·split
  ·exact congrArg (·, false) (by omega)
  ·rfl
 ·rfl
theorem xP (x : List Nat) (j : Nat) : c6 (x.drop j) = if x[j]? = some 46 /\ c7 x (j + 1) = true then some (bX (x.drop (j + 2)) + 2) else none := by rw [c6, lA, dY, List.drop_drop]
theorem zcN (x : List Nat) (i : Nat) : zcO x i = (iO (x.drop i)).map fun e => (i + e.1, e.2) := by
 rw [zcO, wH, iO, zdw]
 generalize bF (x.drop i) = s
 rw [show (x.drop i).drop s = x.drop (i + s) from List.drop_drop]
 generalize bX (x.drop (i + s)) = d
 have hj : i + (d + s) = i + s + d := by rw [Nat.add_comm d s, Nat.add_assoc]
 have hf : ∀ f, i + (f + (d + s)) = f + (i + s + d) := fun f => by rw [<- hj, Nat.add_left_comm]
 simp only [List.drop_drop, hj, hf, xP]
 split
 ·rw [Option.elim_some, Option.map_some, zbg, Nat.add_assoc, Nat.add_comm _ (2 + _), Nat.add_comm 2]
  cases iS (x.drop (bX (x.drop (i + s + d + 2)) + 2 + (i + s + d))) with
  | none => rw [Option.elim_none, Option.getD_none, Nat.zero_add, hf]
  | some g => exact congrArg (fun n => some (n, false)) (by rw [<- hf, Option.getD_some, Nat.add_left_comm])
 ·simp only [Option.elim_none, Nat.add_eq_left]
  split
  ·rfl
  ·rw [Option.map_some, zbg]
   cases iS (x.drop (i + s + d)) with
   | none => rw [Option.elim_none, Option.elim_none, hj]
   | some g => exact congrArg (fun n => some (n, false)) (show _ = i + (g + (d + s)) by rw [<- hj, Nat.add_left_comm])
noncomputable def yW (o : Option (Nat × Bool)) : PV := o.elim (.tup [.none, .bool false]) fun e => .tup [.int e.1, .bool e.2]
theorem v7 (σ : Nat -> Option Cell) (o : Option (Nat × Bool)) : Res σ (yW o) (yW o) := by cases o <;> exact a5 _ _ rfl
noncomputable def cN : Ctx := mkC [] [] false [("_DIGITS", hJ)] []
theorem zcl : CtxMono cN := bO (by simp) (by simp)
theorem n5 : cN.val (Str.ofString "_DIGITS") = some hJ := by simp [cN, mkC, zA]
theorem qD {C : Ctx} {κ : Kn} {a i : Str} {p1 p2 p3 p4 p5 p6 p7 p9 : Pos} {k : Nat} {st : St} {x : List Nat} {e : Nat} {r : Expr} {op : CmpOp} {b : PV} {d : Bool} (M : CtxMono C) (k2 : κ a = some .local) (k3 : κ i = some .local)
  (h1 : st.ρ a = some (.str x)) (h2 : st.ρ i = some (.int e)) (he : e < 1000000) (h' : ev C κ r st b) (h : zbk st.σ op (.str (at1 x e)) b fun c => true = true /\ c = d /\ st = st) :
  tv C κ (.Compare (.Subscript (.Name a p1) (.Slice (some (.Name i p2)) (some (.BinOp (.Name i p3) .Add (.Constant (.int 1) k p4) p5)) none p6) p7) [op] [r] p9) st d :=
 hW M (nW M (aN k2 h1) (aN k3 h2) (eO M (aN k3 h2) (aC rfl)) (v1 he)) h' ((sl1 x e).symm ▸ h)
theorem z8 (p : Params) (css : List Nat) (pos : Nat) (K : PV -> Prop) (hx : css.length < 1000000) (ha : Al css) (hp : pos <= css.length) (hK : K (yW (zcO css pos))) :
  wSs cN (bV (aJ (HK p) 613)) (aQ (HK p) 613) (jA K) ⟨aV [("css", .str css), ("pos", .int pos)] (fun _ => none), fun _ => none⟩ := by
 have M := zcl
 have lt : ∀ {i}, i <= css.length -> i < 1000000 := fun h => Nat.lt_of_le_of_lt h hx
 conv in (aQ _ _) => whnf
 conv in (aJ _ _) => whnf
 refine aA (aL M (.int pos) (aN (by kernel_rfl!) (by walk_at "up")) (by decide +kernel) ?_)
 rw [zcO] at hK
 refine eS M (fun s => ∃ e0 : Nat, kD [("css", .str css), ("end", .int e0)] s.ρ /\ e0 <= css.length /\ K (yW (wH css e0 (e0 + bX (css.drop e0)))))
  (cK M (decide (css[pos]? = some 45 \/ css[pos]? = some 43)) (qD M (by kernel_rfl!) (by kernel_rfl!) (by walk_at "up") (by walk_at "up") (lt hp) (b8 M (aB M (aC rfl) (aB M (aC rfl) aH))) ⟨[[45], [43]], by decide +kernel, rfl, pL css pos 45 43, rfl⟩) (fun hc => ?_) (fun hc => ?_)) ?_
 ·have hs : bF (css.drop pos) = 1 := by rw [e9, if_pos (of_decide_eq_true hc)]
  have hl := oO hp
  rw [hs] at hK hl
  exact aA (dP M (.int pos) (.int 1) (by walk_at "up") (aC rfl) (by decide +kernel) (of_eq cM ⟨pos + 1, by walk_at "core", hl, hK⟩))
 ·have hs : bF (css.drop pos) = 0 := by rw [e9, if_neg (of_decide_eq_false hc)]
  rw [hs] at hK
  exact ⟨pos, by walk_at "core", hp, hK⟩
 rintro ⟨ρ, σ⟩ ⟨e0, h1, b0, hK⟩
 rw [show ρ = aV _ ρ from aP _ h1]
 clear h1
 refine aA (aL M (.int e0) (aN (by kernel_rfl!) (by walk_at "up")) (by decide +kernel) ?_)
 refine aA (lV (x := css) (e := e0) M n5 (by kernel_rfl!) (by kernel_rfl!) (by kernel_rfl!) (by rw [Ne, sEq]; decide) (by walk_at "up") (by walk_at "up") hx ha b0 ?_)
 have b1 := x7 b0
 generalize e0 + bX (css.drop e0) = e1 at hK b1
 refine aA (aL M (.bool true) (aC rfl) (by decide +kernel) ?_)
 refine eS M (fun s => ∃ (e2 : Nat) (pl : Bool), kD [("css", .str css), ("end", .int e2), ("plain", .bool pl)] s.ρ /\ e2 <= css.length /\ K (yW (some (zcu css e2 pl)))) (cK M (decide (css[e1]? = some 46) && c7 css (e1 + 1)) ?_ (fun hc => ?_) (fun hc => ?_)) ?_
 ·refine fM M (qD M (by kernel_rfl!) (by kernel_rfl!) (by walk_at "up") (by walk_at "up") (lt b1) (aC rfl) ⟨rfl, decide_eq_decide.mpr (iff_of_eq (yQ css e1 46)), rfl⟩) fun h => i0 ?_
  have b2 : e1 + 1 <= css.length := xM (of_decide_eq_true h)
  refine hW (a := .str (slc css (some ((e1 : Int) + 1)) (some ((e1 : Int) + 2)))) M (nW (x := css) M (aN (by kernel_rfl!) (by walk_at "up")) (eO (i := e1) (j := 1) M (aN (by kernel_rfl!) (by walk_at "up")) (aC rfl)) (eO (i := e1) (j := 2) M (aN (by kernel_rfl!) (by walk_at "up")) (aC rfl)) (v1 (lt b2))) (x1 (by kernel_rfl!) n5) ⟨_, jT, rfl, ?_, rfl⟩
  exact (congrArg (fun y => decide (y ∈ _)) (sl1 css (e1 + 1))).trans (zbi ha (e1 + 1))
 ·obtain ⟨c1, c2⟩ := Bool.and_eq_true_iff.mp hc
  rw [wH, if_pos ⟨of_decide_eq_true c1, c2⟩] at hK
  refine aA (aL M (.bool false) (aC rfl) (by decide +kernel) ?_)
  refine aA (dP M (.int e1) (.int 2) (by walk_at "up") (aC rfl) (by decide +kernel) (of_eq cM ?_))
  exact aA (lV (x := css) (e := e1 + 2) M n5 (by kernel_rfl!) (by kernel_rfl!) (by kernel_rfl!) (by rw [Ne, sEq]; decide) (by walk_at "up") (by walk_at "up") hx ha (rV c2) ⟨_, false, by walk_at "core", x7 (rV c2), hK⟩)
 ·rw [wH, if_neg (fun q => by rw [q.2, decide_eq_true q.1] at hc; cases hc)] at hK
  refine aA (cK M (decide (e1 = e0)) ?_ (fun hz => ?_) (fun hz => ?_))
  ·exact hW (a := .int e1) (b := .int e0) M (aN (by kernel_rfl!) (by walk_at "up")) (aN (by kernel_rfl!) (by walk_at "up")) ⟨rfl, decide_eq_decide.mpr Int.ofNat_inj, rfl⟩
  ·rw [if_pos (of_decide_eq_true hz)] at hK
   exact aA (aR M (yW none) (b8 M (aB M (aC rfl) (aB M (aC rfl) aH))) ⟨_, v7 _ _, hK⟩)
  ·rw [if_neg (of_decide_eq_false hz)] at hK
   exact ⟨e1, true, by walk_at "core", b1, hK⟩
 rintro ⟨ρ2, σ2⟩ ⟨e2, pl, h1, b2, hK⟩
 rw [show ρ2 = aV _ ρ2 from aP _ h1]
 clear h1
 rw [zcu] at hK
 refine eS M (fun s => ∃ (e3 : Nat) (pl3 : Bool), kD [("end", .int e3), ("plain", .bool pl3)] s.ρ /\ K (yW (some (e3, pl3))))
  (cK M (decide (css[e2]? = some 101 \/ css[e2]? = some 69)) (qD M (by kernel_rfl!) (by kernel_rfl!) (by walk_at "up") (by walk_at "up") (lt b2) (b8 M (aB M (aC rfl) (aB M (aC rfl) aH))) ⟨[[101], [69]], by decide +kernel, rfl, pL css e2 101 69, rfl⟩) (fun hc => ?_) (fun hc => ?_)) ?_
 ·have hc := of_decide_eq_true hc
  rw [if_pos hc] at hK
  have b4 : e2 + 1 <= css.length := hc.elim xM xM
  refine aA (aL M (.int (e2 + 1 : Nat)) (eO (i := e2) (j := 1) M (aN (by kernel_rfl!) (by walk_at "up")) (aC rfl)) (by decide +kernel) ?_)
  refine eS M (fun s => ∃ pw : Nat, kD [("css", .str css), ("end", .int e2), ("plain", .bool pl), ("power", .int pw)] s.ρ /\ pw <= css.length /\ K (yW (some (if c7 css pw = true then (pw + bX (css.drop pw), false) else (e2, pl)))))
   (cK M (decide (css[e2 + 1]? = some 45 \/ css[e2 + 1]? = some 43)) (qD M (by kernel_rfl!) (by kernel_rfl!) (by walk_at "up") (by walk_at "up") (lt b4) (b8 M (aB M (aC rfl) (aB M (aC rfl) aH))) ⟨[[45], [43]], by decide +kernel, rfl, pL css (e2 + 1) 45 43, rfl⟩) (fun hs => ?_) (fun hs => ?_)) ?_
  ·have hs : bF (css.drop (e2 + 1)) = 1 := by rw [e9, if_pos (of_decide_eq_true hs)]
   have hl := oO b4
   rw [hs] at hK hl
   exact aA (dP M (.int (e2 + 1 : Nat)) (.int 1) (by walk_at "up") (aC rfl) (by decide +kernel) (of_eq cM ⟨e2 + 1 + 1, by walk_at "core", hl, hK⟩))
  ·have hs : bF (css.drop (e2 + 1)) = 0 := by rw [e9, if_neg (of_decide_eq_false hs)]
   rw [hs] at hK
   exact ⟨e2 + 1, by walk_at "core", b4, hK⟩
  rintro ⟨ρ4, σ4⟩ ⟨pw, h1, b5, hK⟩
  rw [show ρ4 = aV _ ρ4 from aP _ h1]
  clear h1
  refine aA (cK M (c7 css pw) (qE M n5 (by kernel_rfl!) (by kernel_rfl!) (by kernel_rfl!) (by walk_at "up") (by walk_at "up") hx ha b5) (fun hd => ?_) (fun hd => ?_))
  ·rw [if_pos hd] at hK
   refine aA (aL M (.bool false) (aC rfl) (by decide +kernel) ?_)
   refine aA (aL M (.int pw) (aN (by kernel_rfl!) (by walk_at "up")) (by decide +kernel) ?_)
   exact aA (lV (x := css) (e := pw) M n5 (by kernel_rfl!) (by kernel_rfl!) (by kernel_rfl!) (by rw [Ne, sEq]; decide) (by walk_at "up") (by walk_at "up") hx ha b5 ⟨_, false, by walk_at "core", hK⟩)
  ·rw [if_neg (by rw [hd]; decide)] at hK
   exact ⟨e2, pl, by walk_at "core", hK⟩
 ·rw [if_neg (of_decide_eq_false hc)] at hK
  exact ⟨e2, pl, by walk_at "core", hK⟩
 rintro ⟨ρ3, σ3⟩ ⟨e3, pl3, h1, hK⟩
 rw [show ρ3 = aV _ ρ3 from aP _ h1]
 exact aA (aR M (yW (some (e3, pl3))) (b8 M (aB M (aN (by kernel_rfl!) (by walk_at "up")) (aB M (aN (by kernel_rfl!) (by walk_at "up")) aH))) ⟨_, v7 _ _, hK⟩)
noncomputable def zaX : Fn := fun ps K => ∃ (css : List Nat) (pos : Nat), ps = [.str css, .int pos] /\ css.length < 1000000 /\ Al css /\ pos <= css.length /\
 K (yW (zcO css pos))
theorem uK : bB zaX := fun ps K K' h ⟨css, pos, h1, h2, h3, h5, h4⟩ => ⟨css, pos, h1, h2, h3, h5, h _ h4⟩
theorem zcg (p : Params) : ∃ u, mgK p (Str.ofString "_DIGITS") = some u /\ tA (HK p) u hJ = true := by
 have h : (match mgK p (Str.ofString "_DIGITS") with
  | some u => tA (HK p) u hJ
  | none => false) = true := by kernel_rfl
 split at h
 ·rename_i u e; exact ⟨u, e, h⟩
 ·cases h
theorem wX (hB : BsOk (bs w.params h mb)) (hmb : HMb mb) : Meets prog w (bs w.params h mb) 1 (.ref 613) zaX := by
 have hC : CtxOk prog w (bs w.params h mb) cN 0 := dH hmb (by simp) (by simp) (fun e he => by
  simp only [List.mem_singleton] at he; subst he
  obtain ⟨u, h1, h2⟩ := zcg w.params
  exact ⟨u, h1, qR hB.kin _ h2⟩) (by simp) (by simp) (by simp)
 refine bA (k := 2) (params := ["css", "pos"]) (dv := []) (dp := []) hB hC (by kernel_rfl) (by kernel_rfl) (by kernel_rfl) rfl (fun _ => .nil) (fun S vals hl => ?_) fun ps K ⟨css, pos, h1, h2, h3, h5, h4⟩ => ?_
 ·obtain ⟨a, b, rfl⟩ := iZ hl
  kernel_rfl
 ·subst h1
  exact ⟨rfl, z8 _ css pos K h2 h3 h5 h4⟩
noncomputable def nQ : List Nat -> Bool
 | d :: _ => bK d || d == 45
 | [] => false
noncomputable def aK : List Nat -> Bool
 | [] => false
 | c :: r => bK c || (c == 45 && nQ r)
theorem zcP {x : List Nat} (ha : Al x) {k : Nat} (hk : dN k = false) (q : List Nat) (i : Nat) : (k :: q).isPrefixOf (x.drop i) = false := by
 cases h : x.drop i with
 | nil => rfl
 | cons c r =>
  have hc := (ha.drop i) c (by rw [h]; exact List.mem_cons_self)
  show ((k == c) && _) = false
  rw [beq_eq_false_iff_ne.mpr (fun e => by rw [<- e, hk] at hc; cases hc)]; rfl
theorem iQ {c : Nat} (h : dN c = true) (k : Nat) (hk : dN k = false) : c ≠ k := fun e => by rw [e, hk] at h; cases h
theorem k8 {C : Ctx} {κ : Kn} {o i : Expr} {q : Str} {n : Nat} {p p1 p2 : Pos} {st : St} {x : List Nat} {e k : Nat} (M : CtxMono C) (h : ev C κ o st (.str x)) (hi : ev C κ i st (.int e)) (he : e <= x.length) (hx : x.length < 2000000) (hc : csE i = none) (ha : Al x) (hq : q.cps.toList.head? = some k) (hk : dN k = false) :
  ev C κ (.Call (.Attribute o (Str.ofString "startswith") p) [.Constant (.str q) n p1, i] [] p2) st (.bool false) := by
 have := zaB (q := q) (k := n) (p := p) (p1 := p1) (p2 := p2) M h hi he hx hc
 cases e : q.cps.toList with
 | nil => rw [e] at hq; cases hq
 | cons a r => rw [e] at hq this; cases hq; rwa [zcP ha hk] at this
noncomputable def cI : Ctx := mkC [("_is_name_start", zdE)] [] false [] []
theorem mJ : CtxMono cI := bO (by simp [oC]) (by simp)
theorem zc9 {κ : Kn} {st : St} {css : List Nat} {i c : Nat} {p1 p2 p3 p4 : Pos} (k1 : κ "_is_name_start" = some .globalImplicit) (k2 : κ "css" = some .local) (k3 : κ "pos" = some .local) (h1 : st.ρ "css" = some (.str css)) (h2 : st.ρ "pos" = some (.int i)) (hc : css[i]? = some c) (ha : Al css) :
  ev cI κ (.Call (.Name (Str.ofString "_is_name_start") p1) [.Name (Str.ofString "css") p2, .Name (Str.ofString "pos") p3] [] p4) st (.bool (bK c)) :=
 bM (F := zdE) mJ k1 rfl (aB mJ (aN k2 h1) (aB mJ (aN k3 h2) aH)) ⟨css, i, c, rfl, hc, ha.at hc, .inl rfl, rfl⟩
theorem zbY (p : Params) (css : List Nat) (pos c : Nat) (K : PV -> Prop) (hx : css.length < 1000000) (ha : Al css) (hc : css[pos]? = some c) (hK : K (.bool (aK (css.drop pos)))) :
  wSs cI (bV (aJ (HK p) 642)) (aQ (HK p) 642) (jA K) ⟨aV [("css", .str css), ("pos", .int pos)] (fun _ => none), fun _ => none⟩ := by
 have M := mJ
 obtain ⟨hl, hcc⟩ := List.getElem?_eq_some_iff.mp hc
 have hd : css.drop pos = c :: css.drop (pos + 1) := by rw [List.drop_eq_getElem_cons hl, hcc]
 rw [hd, aK] at hK
 clear hd hcc
 conv in (aQ _ _) => whnf
 refine aA (cK M (bK c) (cJ M (zc9 (by kernel_rfl!) (by kernel_rfl!) (by kernel_rfl!) (by kernel_rfl!) (by kernel_rfl!) hc ha)) (fun hn => ?_) (fun hn => ?_))
 ·rw [hn] at hK
  exact aA (aR M (.bool true) (aC rfl) ⟨_, bC _ _, hK⟩)
 rw [hn, Bool.false_or] at hK
 refine aA (cK M (decide (c = 45)) (cJ M (iD M (gO M rfl (by walk_at "nm") (by walk_at "nm") hc) (by kernel_rfl))) (fun h1 => ?_) (fun h1 => ?_))
 ·rw [of_decide_eq_true h1, show ((45 : Nat) == 45) = true from rfl, Bool.true_and] at hK
  refine aA (dP M (.int pos) (.int 1) (by walk_at "up") (aC rfl) (by kernel_rfl) (of_eq cM ?_))
  by_cases hq : pos + 1 < css.length
  ·have hg : css[pos + 1]? = some css[pos + 1] := List.getElem?_eq_getElem hq
   rw [List.drop_eq_getElem_cons hq, nQ] at hK
   refine aA (aR M (.bool ((decide (pos + 1 < css.length) && (bK css[pos + 1] || decide (css[pos + 1] = 45))) || (false && false))) (eQ M (dZ M (t7 M (by walk_at "nm") (nX M (by kernel_rfl!) rfl rfl (by kernel_rfl) (by walk_at "nm"))) fun _ => b6 (eQ M (zc9 (by kernel_rfl!) (by kernel_rfl!) (by kernel_rfl!) (by kernel_rfl!) (by kernel_rfl!) hg ha) fun _ => b6 (iD M (gO M rfl (by walk_at "nm") (by walk_at "nm") hg) (by kernel_rfl)))) fun _ => b6 (dZ M (k8 M (by walk_at "nm") (by walk_at "nm") hl (Nat.lt_trans hx (by decide)) rfl ha (k := 92) (by kernel_rfl) (by decide)) fun h => by cases h)) ⟨_, bC _ _, ?_⟩)
   rw [decide_eq_true hq, Bool.true_and, Bool.and_false, Bool.or_false]; exact hK
  ·rw [List.drop_of_length_le (Nat.le_of_not_lt hq)] at hK
   refine aA (aR M (.bool ((decide (pos + 1 < css.length) && false) || (false && false))) (eQ M (dZ M (t7 M (by walk_at "nm") (nX M (by kernel_rfl!) rfl rfl (by kernel_rfl) (by walk_at "nm"))) fun h => absurd (of_decide_eq_true h) hq) fun _ => b6 (dZ M (k8 M (by walk_at "nm") (by walk_at "nm") hl (Nat.lt_trans hx (by decide)) rfl ha (k := 92) (by kernel_rfl) (by decide)) fun h => by cases h)) ⟨_, bC _ _, ?_⟩)
   rw [Bool.and_false]; exact hK
 ·have h1 := of_decide_eq_false h1
  rw [show (c == 45) = false from beq_eq_false_iff_ne.mpr h1, Bool.false_and] at hK
  refine aA (cK M (decide (c = 92)) (cJ M (iD M (gO M rfl (by walk_at "nm") (by walk_at "nm") hc) (by kernel_rfl))) (fun h2 => absurd (of_decide_eq_true h2) (iQ (ha.at hc) 92 (by decide))) (fun h2 => ?_))
  exact aA (aR M (.bool false) (aC rfl) ⟨_, bC _ _, hK⟩)
noncomputable def zdF : Fn := fun ps K => ∃ (css : List Nat) (pos c : Nat), ps = [.str css, .int pos] /\ css.length < 1000000 /\ Al css /\ css[pos]? = some c /\ K (.bool (aK (css.drop pos)))
theorem yU : bB zdF := fun ps K K' h ⟨css, pos, c, h1, h2, h3, h5, h4⟩ => ⟨css, pos, c, h1, h2, h3, h5, h _ h4⟩
theorem zag (hB : BsOk (bs w.params h mb)) (hmb : HMb mb) : Meets prog w (bs w.params h mb) 2 (.ref 642) zdF := by
 have hC : CtxOk prog w (bs w.params h mb) cI 1 := dH hmb (by simp [oC]) (by simp) (by simp) (fun e he => by
  simp only [List.mem_singleton] at he; subst he
  exact ⟨.ref 635, by kernel_rfl, zaf hB hmb⟩) (by simp) (by simp)
 refine bA (k := 2) (params := ["css", "pos"]) (dv := []) (dp := []) hB hC (by kernel_rfl) (by kernel_rfl) (by kernel_rfl) rfl (fun _ => .nil) (fun S vals hl => ?_) fun ps K ⟨css, pos, c, h1, h2, h3, h5, h4⟩ => ?_
 ·obtain ⟨a, b, rfl⟩ := iZ hl
  kernel_rfl
 ·subst h1
  exact ⟨rfl, zbY _ css pos c K h2 h3 h5 h4⟩
noncomputable def bE (c : Nat) : Bool := c == 32 || c == 10 || c == 9
noncomputable def a8 (c : Nat) : Bool := bK c || c == 45 || g8 c
theorem zae {c : Nat} (h : dN c = true) : (decide (c ∈ (Str.ofString "abcdefghijklmnopqrstuvwxyz-_0123456789ABCDEFGHIJKLMNOPQRSTUVWXYZ").cps.toList) || decide (127 < c)) = a8 c :=
 fG (f := fun c => decide (c ∈ (Str.ofString "abcdefghijklmnopqrstuvwxyz-_0123456789ABCDEFGHIJKLMNOPQRSTUVWXYZ").cps.toList) || decide (127 < c)) (by decide +kernel) h
theorem wT (c : Nat) : decide (c ∈ (Str.ofString " \n\t").cps.toList) = bE c := by
 rw [show (Str.ofString " \n\t").cps.toList = [32, 10, 9] by decide +kernel, Bool.eq_iff_iff]
 simp only [bE, List.mem_cons, List.not_mem_nil, or_false, decide_eq_true_eq, Bool.or_eq_true, beq_iff_eq, or_assoc]
noncomputable def aW (x : List Nat) : List Nat × Nat := (x.takeWhile a8, (x.takeWhile a8).length)
theorem dW (c : Nat) (r : List Nat) : aW (c :: r) = if a8 c then (c :: (aW r).1, (aW r).2 + 1) else ([], 0) := by
 unfold aW
 rw [List.takeWhile_cons]
 split <;> rfl
theorem eA (x : List Nat) : (aW x).2 <= x.length := (List.takeWhile_sublist _).length_le
theorem jE (x : List Nat) : (aW x).1.length <= (aW x).2 := Nat.le_refl _
noncomputable def cR : Ctx := mkC [] [] false [] []
theorem yL : CtxMono cR := bO (by simp) (by simp)
noncomputable def cD : Ctx := mkC [] [] false [] [272, 274, 327, 363, 370, 377, 437, 458, 507]
theorem zcm : CtxMono cD := bO (by simp) (by simp)
theorem vC (p : Nat -> Bool) (x : List Nat) : x.take (x.takeWhile p).length = x.takeWhile p := (List.prefix_iff_eq_take.mp (List.takeWhile_prefix p)).symm
theorem wN {x : List Nat} {i : Nat} (hl : i < x.length) : (aW (x.drop i)).2 = if a8 x[i] = true then (aW (x.drop (i + 1))).2 + 1 else 0 := by
 rw [List.drop_eq_getElem_cons hl, dW]
 split <;> rfl
theorem t0 (p : Params) (css : List Nat) (pos : Nat) (K : PV -> Prop) (hx : css.length < 1000000) (ha : Al css) (hp : pos <= css.length) (hK : K (.tup [.str (aW (css.drop pos)).1, .int ((pos + (aW (css.drop pos)).2 : Nat))])) :
  wSs cD (bV (aJ (HK p) 649)) (aQ (HK p) 649) (jA K) ⟨aV [("css", .str css), ("pos", .int pos)] (fun _ => none), fun _ => none⟩ := by
 have M := zcm
 conv in (aQ _ _) => whnf
 refine aA (qM (by kernel_rfl) (by kernel_rfl) fun a _ => ?_)
 refine aA (aL M (.int css.length) (nX M (by kernel_rfl!) rfl rfl (by kernel_rfl) (by walk_at "nm")) (by kernel_rfl) ?_)
 refine aA (aL M (.int pos) (by walk_at "nm") (by kernel_rfl) ?_)
 rw [show (aW (css.drop pos)).1 = (css.drop pos).take (pos + (aW (css.drop pos)).2 - pos) by rw [Nat.add_sub_cancel_left]; exact (vC _ _).symm] at hK
 have hT : pos + (aW (css.drop pos)).2 <= css.length := eD hp (eA _)
 have hT0 := Nat.le_add_right pos (aW (css.drop pos)).2
 generalize e0 : pos + (aW (css.drop pos)).2 = T at hK hT hT0
 refine eS M (fun st => kD [("css", .str css), ("start_pos", .int pos), ("pos", .int T), ("chunks", .ptr a)] st.ρ /\ st.σ a = some (.lst []))
  (lU M (fun n st => ∃ e : Nat, n = css.length - e /\ kD [("css", .str css), ("length", .int css.length), ("start_pos", .int pos), ("pos", .int e), ("chunks", .ptr a)] st.ρ /\ st.σ a = some (.lst []) /\ e <= css.length /\ e + (aW (css.drop e)).2 = T) ?_ (css.length - pos) _
   ⟨pos, rfl, by walk_at "core", aS _ _ _, hp, e0⟩) ?_
 ·rintro n ⟨ρ, σ⟩ ⟨e, rfl, h1, h6, h8, h12⟩
  rw [show ρ = aV _ ρ from aP _ h1]
  clear h1
  refine ⟨decide (e < css.length), cJ M (t7 M (by walk_at "nm") (by walk_at "nm")), fun hc => ?_, fun hc => ?_⟩
  ·have hc := of_decide_eq_true hc
   rw [wN hc] at h12
   refine aA (aL M (.str [css[e]]) (gO M rfl (by walk_at "nm") (by walk_at "nm") (List.getElem?_eq_getElem hc)) (by kernel_rfl) ?_)
   refine aA (cK M (a8 css[e]) (zae (ha.get hc) ▸ cJ M (eQ M (jQ M (by walk_at "nm")) fun _ => b6 (x0 M (by kernel_rfl!) rfl rfl (by kernel_rfl) (by walk_at "nm")))) (fun hn => ?_) (fun hn => ?_))
   ·rw [if_pos hn] at h12
    exact aA (dP M (.int e) (.int 1) (by walk_at "up") (aC rfl) (by kernel_rfl) (of_eq cM ⟨css.length - (e + 1), Nat.sub_lt_sub_left hc (Nat.lt_succ_self e), e + 1, rfl, by walk_at "core", h6, hc, by rw [<- h12, Nat.add_right_comm]; rfl⟩))
   ·rw [if_neg (by rw [hn]; decide)] at h12
    refine aA (cK M (decide (css[e] = 92) && false) (fM M (cJ M (iD M (by walk_at "nm") (by kernel_rfl))) fun h => absurd (of_decide_eq_true h) (iQ (ha.get hc) 92 (by decide))) (fun hb => by rw [Bool.and_false] at hb; cases hb) (fun hb => ?_))
    subst h12
    exact aA (v3 ⟨by walk_at "core", h6⟩)
  ·rw [List.drop_of_length_le (Nat.le_of_not_lt (of_decide_eq_false hc))] at h12
   subst h12
   exact ⟨by walk_at "core", h6⟩
 ·rintro ⟨ρ, σ⟩ ⟨h1, h5⟩
  rw [show ρ = aV _ ρ from aP _ h1]
  clear h1
  have hs : ((css.drop pos).take (T - pos)).length <= a0 := Nat.le_trans (List.length_take_le' ..) (by rw [List.length_drop]; exact Nat.le_trans (Nat.sub_le ..) (Nat.le_trans (Nat.le_of_lt hx) (by decide)))
  refine aA (gE M (.str ((css.drop pos).take (T - pos))) (by kernel_rfl) (by walk_at "up") h5 (zaC M (by walk_at "nm") (by walk_at "nm") (by walk_at "nm") hT0 (Nat.lt_of_le_of_lt hT (Nat.lt_trans hx (by decide)))) rfl (by decide) ?_)
  refine aA (aR M (.tup [.str ((css.drop pos).take (T - pos)), .int T]) (b8 M (aB M (zca (a := a) [(css.drop pos).take (T - pos)] (by kernel_rfl) (by walk_at "up") (aS _ _ _) (List.append_nil _) hs) (aB M (by walk_at "nm") aH))) ⟨_, a5 _ _ rfl, hK⟩)
noncomputable def zdG : Fn := fun ps K => ∃ (css : List Nat) (pos : Nat), ps = [.str css, .int pos] /\ css.length < 1000000 /\ Al css /\ pos <= css.length /\ K (.tup [.str (aW (css.drop pos)).1, .int ((pos + (aW (css.drop pos)).2 : Nat))])
theorem yV : bB zdG := fun ps K K' h ⟨css, pos, h1, h2, h3, h5, h4⟩ => ⟨css, pos, h1, h2, h3, h5, h _ h4⟩
theorem zah (hB : BsOk (bs w.params h mb)) (hmb : HMb mb) : Meets prog w (bs w.params h mb) 1 (.ref 649) zdG := by
 have hC : CtxOk prog w (bs w.params h mb) cD 0 := dH hmb (by simp) (by simp) (by simp) (by simp) (by simp) (by simp)
 refine bA (k := 2) (params := ["css", "pos"]) (dv := []) (dp := []) hB hC (by kernel_rfl) (by kernel_rfl) (by kernel_rfl) rfl (fun _ => .nil) (fun S vals hl => ?_) fun ps K ⟨css, pos, h1, h2, h3, h5, h4⟩ => ?_
 ·obtain ⟨a, b, rfl⟩ := iZ hl
  kernel_rfl
 ·subst h1
  exact ⟨rfl, t0 _ css pos K h2 h3 h5 h4⟩
noncomputable def bQ (x : List Nat) : Nat := (x.takeWhile bE).length
theorem j3 (x : List Nat) : bQ x <= x.length := (List.takeWhile_sublist _).length_le
section
variable {C : Ctx} {κ : Kn}
theorem zad {σ : Nat -> Option Cell} {x : List Nat} {p : PV} {i : Int} {K : PV -> (Nat -> Option Cell) -> Prop} : fY σ "startswith" (.str x) [p, .int i] K = okI i (swP x p i fun b => K (.bool b) σ) := by kernel_rfl
theorem zco : eM [.str (Str.ofString " ").cps.toList, .str (Str.ofString "\n").cps.toList, .str (Str.ofString "\t").cps.toList] = some [[32], [10], [9]] := by decide +kernel
theorem zdl (y : List Nat) : (([[32], [10], [9]] : List (List Nat)).any fun p => p.isPrefixOf y) = (y[0]?).any bE := by
 cases y with
 | nil => rfl
 | cons c r =>
  show (((32 == c) && true) || (((10 == c) && true) || (((9 == c) && true) || false))) = _
  rw [Bool.and_true, Bool.and_true, Bool.and_true, Bool.or_false, <- Bool.or_assoc]
  show _ = (c == 32 || c == 10 || c == 9)
  rw [BEq.comm (a := 32), BEq.comm (a := 10), BEq.comm (a := 9)]
theorem j0 {x : List Nat} {i : Nat} (h : (x[i]?).any bE = true) : i < x.length /\ bQ (x.drop i) = bQ (x.drop (i + 1)) + 1 := by
 by_cases hl : i < x.length
 ·rw [List.getElem?_eq_getElem hl] at h
  refine ⟨hl, ?_⟩
  rw [List.drop_eq_getElem_cons hl, bQ, List.takeWhile_cons_of_pos (p := bE) h]; rfl
 ·rw [List.getElem?_eq_none (Nat.le_of_not_lt hl)] at h; cases h
theorem jZ {x : List Nat} {i : Nat} (h : (x[i]?).any bE = false) : bQ (x.drop i) = 0 := by
 by_cases hl : i < x.length
 ·rw [List.getElem?_eq_getElem hl] at h
  rw [List.drop_eq_getElem_cons hl, bQ, List.takeWhile_cons_of_neg (fun q => by rw [Option.any_some, q] at h; cases h)]; rfl
 ·rw [List.drop_of_length_le (Nat.le_of_not_lt hl)]; rfl
theorem zY {a i : Str} {p1 p2 p3 p4 p5 p6 p7 p8 q1 q2 q3 q4 : Pos} {k1 k2 k3 k4 k' : Nat} {st : St} {x : List Nat} {e : Nat} {Q : Fl -> St -> Prop} (M : CtxMono C) (k2' : κ a = some .local) (k3' : κ i = some .local) (hai : a ≠ i)
  (h1 : st.ρ a = some (.str x)) (h2 : st.ρ i = some (.int e)) (hx : x.length < 1000000) (he : e <= x.length)
  (hQ : Q .next ⟨upd st.ρ i (.int ((e + bQ (x.drop e) : Nat))), st.σ⟩) :
  wS C κ (.While (.Call (.Attribute (.Name a p1) (Str.ofString "startswith") p2) [.Tuple [.Constant (.str (Str.ofString " ")) k1 p3, .Constant (.str (Str.ofString "\n")) k2 p4, .Constant (.str (Str.ofString "\t")) k3 p5] k4 p6, .Name i p7] [] p8)
   [.AugAssign (.Name i q1) .Add (.Constant (.int 1) k' q2) q3] [] q4) Q st := by
 refine lU M (fun n s => ∃ f : Nat, s = ⟨upd st.ρ i (.int f), st.σ⟩ /\ f <= x.length /\ n = x.length - f /\ f + bQ (x.drop f) = e + bQ (x.drop e)) ?_ (x.length - e) st ⟨e, by rw [qA h2], he, rfl, rfl⟩
 rintro n s ⟨f, rfl, hf, rfl, hs⟩
 have g1 : (upd st.ρ i (.int f)) a = some (.str x) := by rw [uV _ hai]; exact h1
 have g2 : (upd st.ρ i (.int f)) i = some (.int f) := mX _ _ _
 refine ⟨(x[f]?).any bE, ?_, fun hc => ?_, fun hc => ?_⟩
 ·refine ⟨rfl, aT M (aN k2' g1) ⟨by kernel_rfl, aT M (b8 M (aB M (aC rfl) (aB M (aC rfl) (aB M (aC rfl) aH)))) (aT M (aN k3' g2) ?_)⟩⟩
  rw [lJ]
  dsimp only
  rw [zad]
  refine ⟨Int.natCast_nonneg f, t4 (by omega), _, zco, ?_, rfl⟩
  rw [decide_eq_true (Int.ofNat_le.mpr hf), Bool.true_and]
  exact (zdl _).trans (by rw [dY]; rfl)
 ·obtain ⟨hl, hd⟩ := j0 hc
  refine aA (dP M (.int f) (.int 1) (mX _ _ _) (aC rfl) (by unfold c3; rw [k3']; decide) (of_eq cM ?_))
  exact ⟨x.length - (f + 1), Nat.sub_lt_sub_left hl (Nat.lt_succ_self f), f + 1, congrArg (St.mk · st.σ) (uU _ _ _ _), hl, rfl, by rw [<- hs, hd, Nat.add_right_comm]; rfl⟩
 ·rw [jZ hc] at hs
  rw [<- hs] at hQ
  exact hQ
end
noncomputable def kF (c : Nat) : Nat := if 65 <= c /\ c <= 90 then c + 32 else c
theorem rO (f : Nat -> Nat) (x : List Nat) : (x.map fun c => [f c]).flatten = x.map f := by
 induction x with
 | nil => rfl
 | cons c r ih => simp [ih]
theorem tG {σ : Nat -> Option Cell} {xs : List PV} {K : PV -> (Nat -> Option Cell) -> Prop} : fY σ "join" (.str (Str.ofString "").cps.toList) [.list xs] K = (([] : List Nat) = [] /\ ∃ zs, eM xs = some zs /\ zs.flatten.length <= a0 /\ K (.str zs.flatten) σ) := by kernel_rfl
theorem leS1 (a c : Nat) : leS [a] [c] = decide (a <= c) := by
 show (if a = c then true else decide (a < c)) = _
 split
 ·rename_i h; rw [h, decide_eq_true (Nat.le_refl c)]
 ·rename_i h; exact decide_eq_decide.mpr ⟨Nat.le_of_lt, fun q => Nat.lt_of_le_of_ne q h⟩
theorem zbu {C : Ctx} {κ : Kn} {l m r : Expr} {p : Pos} {st : St} {a b e : List Nat} (M : CtxMono C) (h1 : ev C κ l st (.str a)) (h2 : ev C κ m st (.str b)) (h3 : ev C κ r st (.str e)) : tv C κ (.Compare l [.LtE, .LtE] [m, r] p) st (leS a b && leS b e) := by
 refine aT (e := l) M h1 (aT (e := m) M h2 ?_)
 show if leS a b = true then wCh C [r] [.LtE] κ (.str b) _ st else _
 cases leS a b
 ·exact ⟨rfl, rfl⟩
 ·exact aT (e := r) M h3 ⟨rfl, rfl, rfl⟩
theorem zai (p : Params) (x : List Nat) (K : PV -> Prop) (hx : x.length < 1000000) (hK : K (.str (x.map kF))) :
  wSs cR (bV (aJ (HK p) 26)) (aQ (HK p) 26) (jA K) ⟨aV [("text", .str x)] (fun _ => none), fun _ => none⟩ := by
 have M := yL
 conv in (aQ _ _) => whnf
 conv in (aJ _ _) => whnf
 refine aA (aR M (.str (x.map kF)) ?_ ⟨_, a5 _ _ rfl, hK⟩)
 refine ⟨rfl, ?_⟩
 refine aT M (v := .str (Str.ofString "").cps.toList) (aC rfl) ?_
 refine ⟨by kernel_rfl, ?_⟩
 rw [pW]
 rw [uR]
 refine ⟨rfl, by decide +kernel, by decide +kernel, aT (v := .str x) M (aN (by kernel_rfl!) (by walk_at "up")) ?_⟩
 refine ⟨by rw [List.length_map]; unfold a0; omega, ?_⟩
 refine mH M (fun v => .str (((zcG v).getD []).map kF)) _ _ _ (fun v hv => ?_) ?_
 ·obtain ⟨c, hc, rfl⟩ := List.mem_map.mp hv
  refine ⟨_, rfl, ?_⟩
  refine eF (c := decide (65 <= c) && decide (c <= 90)) M ?_ (fun h => ?_) (fun h => ?_)
  ·rw [<- leS1, <- leS1]
   exact zbu M (aC rfl) (aN (by kernel_rfl!) (by walk_at "up")) (aC rfl)
  ·have h := (Bool.and_eq_true_iff.mp h)
   rw [decide_eq_true_eq, decide_eq_true_eq] at h
   rw [show PV.str (((zcG (.str [c])).getD []).map kF) = .str [c + 32] from congrArg (fun n => PV.str [n]) (if_pos h)]
   refine jR M (by kernel_rfl!) rfl rfl (by kernel_rfl) (aB M (v := .int ((c : Int) + 32)) (eO (i := c) (j := 32) M (jR M (by kernel_rfl!) rfl rfl (by kernel_rfl) (aB M (v := .str [c]) (by walk_at "nm") aH) (of_eq (B := PV.int c = .int c) (by kernel_rfl) rfl)) (aC rfl)) aH) (of_eq (B := 0 <= (c : Int) + 32 /\ (c : Int) + 32 < 0x110000 /\ PV.str [c + 32] = .str [c + 32]) (by kernel_rfl) ⟨Int.natCast_nonneg (c + 32), Int.ofNat_lt.mpr (Nat.lt_of_le_of_lt (Nat.add_le_add h.2 (Nat.le_refl 32)) (by decide)), rfl⟩)
  ·have h : ¬ (65 <= c /\ c <= 90) := fun q => by rw [decide_eq_true q.1, decide_eq_true q.2] at h; cases h
   rw [show PV.str (((zcG (.str [c])).getD []).map kF) = .str [c] from congrArg (fun n => PV.str [n]) (if_neg h)]
   exact aN (by kernel_rfl!) (by walk_at "up")
 ·unfold bD
  rw [if_neg (by decide)]
  dsimp only [lJ]
  rw [tG]
  refine ⟨rfl, x.map fun c => [kF c], ?_, ?_, ?_, rfl⟩
  ·rw [<- gV, List.map_map, List.map_map]; rfl
  ·rw [rO, List.length_map]; unfold a0; omega
  ·rw [rO]
noncomputable def uL : Fn := fun ps K => ∃ x : List Nat, ps = [.str x] /\ x.length < 1000000 /\ K (.str (x.map kF))
theorem lH : bB uL := fun ps K K' h ⟨x, h1, h2, h3⟩ => ⟨x, h1, h2, h _ h3⟩
theorem wY (hB : BsOk (bs w.params h mb)) (hmb : HMb mb) : Meets prog w (bs w.params h mb) 1 (.ref 26) uL := by
 have hC : CtxOk prog w (bs w.params h mb) cR 0 := dH hmb (by simp) (by simp) (by simp) (by simp) (by simp) (by simp)
 refine bA (k := 1) (params := ["text"]) (dv := []) (dp := []) hB hC (by kernel_rfl) (by kernel_rfl) (by kernel_rfl) rfl (fun _ => .nil) (fun S vals hl => ?_) fun ps K ⟨x, h1, h2, h3⟩ => ?_
 ·obtain ⟨a, rfl⟩ := List.length_eq_one_iff.mp hl
  kernel_rfl
 ·subst h1
  exact ⟨rfl, zai _ x K h2 h3⟩
theorem eH {n k m : Nat} {C : Ctx} {Ca fI : Addr} {params : List String} {F : Fn} (hB : BsOk (bs w.params h mb)) (hC : CtxOk prog w (bs w.params h mb) C n)
  (hm : makesIn (HK w.params) Ca = true) (hin : findIn (HK w.params) (.ref Ca) "__init__" = some (some (.ref fI))) (hty : typeIn (HK w.params) (.ref fI) = some (.type "function")) (hkp : keepIn (HK w.params) (.ref Ca) = true)
  (hf : rK (HK w.params) fI = true) (hok : mQ (aQ (HK w.params) fI) = true)
  (hpar : (params.all fun x => (aJ (HK w.params) fI).lookup (Str.ofString x) == some .local || (aJ (HK w.params) fI).lookup (Str.ofString x) == some .cell) = true)
  (hlen : params.length = k + 1)
  (hbind : ∀ S vals, vals.length = k + 1 -> (zaz (HK w.params) fI).map (fun fd => peek (HK w.params) S (bindArgs fd ⟨vals, []⟩)) = some (some ((params.map Str.ofString).zip vals)))
  (hF : ∀ ps K, F ps K -> ps.length = k /\ ∀ x : Nat, wSs C (bV (aJ (HK w.params) fI)) (aQ (HK w.params) fI) (rU fun p σ' => p = .none /\ ∃ fs : List PV, σ' x = some (.ins Ca (fs.map some)) /\ K (.inst Ca fs))
   ⟨aV ((params.map Str.ofString).zip (.ptr x :: ps)) fun _ => none, a7 (fun _ => none) x (.ins Ca (List.replicate m none))⟩) :
  Meets prog w (bs w.params h mb) (n + 2) (.ref Ca) F := by
 obtain ⟨fd, h1, h2, h3⟩ := rJ hf
 have hk : KeepsAt prog w h (.ref Ca) := by
  obtain ⟨q, _, e⟩ := looks_keep (M := model prog w) hkp (show (HK w.params).In h from hB.kin)
  exact ⟨q, e⟩
 refine (yJ (C := C) (params := params.map Str.ofString) (k := k) (m := m) hB hC hm hin hty hk h1 hok (fun x hx => ?_) (by simpa using hlen) (fun s vals X hl => ?_)).weaken fun ps K hp => ?_
 ·obtain ⟨y, hy, rfl⟩ := List.mem_map.mp hx
  have := List.all_eq_true.mp hpar y hy
  rw [h3]
  simpa using this
 ·refine kp_binds X fun S => ?_
  have := hbind S vals hl
  rw [h2] at this
  show peek (HK w.params) S _ = _
  simpa using this
 ·rw [h3]; exact hF ps K hp
theorem wJ {C : Ctx} (hB : BsOk (bs w.params h mb)) (hmb : HMb mb) (hs : C.slot = cR.slot) : sE prog w (bs w.params h mb) C 1 := by
 have hC : CtxOk prog w (bs w.params h mb) cR 0 := dH hmb (by simp) (by simp) (by simp) (by simp) (by simp) (by simp)
 obtain ⟨fd, h1, h2, h3⟩ := rJ (K := HK w.params) (a := 56) (by kernel_rfl)
 refine zbZ (Cn := 74) (f := 56) (mc := .type "type") (params := ["self", "source_line", "source_column"].map Str.ofString) hB hC (by kernel_rfl) (by kernel_rfl) (by kernel_rfl) (by kernel_rfl) h1 (by kernel_rfl) (fun x hx => ?_) rfl (fun s vals X hl => ?_) fun ad pa pb st K hK => ?_
 ·rw [h3]
  have : ∀ x ∈ ["self", "source_line", "source_column"].map Str.ofString, (aJ (HK w.params) 56).lookup x = some .local := by
   intro x hx
   simp only [List.map_cons, List.map_nil, List.mem_cons, List.not_mem_nil, or_false] at hx
   rcases hx with rfl | rfl | rfl <;> kernel_rfl
  exact .inl (this x hx)
 ·refine kp_binds X fun S => ?_
  obtain ⟨a, b, c, rfl⟩ := qH hl
  have : (zaz (HK w.params) 56).map (fun fd => peek (HK w.params) S (bindArgs fd ⟨[a, b, c], []⟩)) = some (some ((["self", "source_line", "source_column"].map Str.ofString).zip [a, b, c])) := by kernel_rfl
  rw [h2] at this
  show peek (HK w.params) S _ = _
  simpa using this
 ·rw [h3]
  obtain ⟨c, fs, i, g1, g2, g3, c', fs', j, g4, g5, g6, g7⟩ := hK
  rw [hs] at g2 g5
  conv in (aQ _ _) => whnf
  conv in (aJ _ _) => whnf
  have M := yL
  refine aA (c4 M pa ?_ (by kernel_rfl!) g1 g2 g3 ?_)
  ·exact aN (by kernel_rfl!) (by kernel_rfl!)
  dsimp only [d5]
  refine aA (c4 M pb ?_ (by kernel_rfl!) g4 g5 g6 ?_)
  ·exact aN (by kernel_rfl!) (by kernel_rfl!)
  dsimp only [d5]
  refine vG ⟨rfl, g7⟩
noncomputable def cT : Ctx := mkC [("ascii_lower", uL)] [] true [] []
theorem eJ : CtxMono cT := bO (by simp [lH]) (by simp)
theorem mI (hB : BsOk (bs w.params h mb)) (hmb : HMb mb) : CtxOk prog w (bs w.params h mb) cT 1 :=
 dH hmb (by simp [lH]) (by simp) (by simp) (fun e he => by
  simp only [List.mem_singleton] at he; subst he
  exact ⟨.ref 26, by kernel_rfl, wY hB hmb⟩) (by simp) (fun _ => wJ hB hmb rfl)
noncomputable def nR : PV -> Option Bool
 | .none => some false
 | .int _ => some true
 | _ => none
theorem pD {C : Ctx} {κ : Kn} {e : Expr} {p p2 : Pos} {k : Nat} {st : St} {v : PV} {b : Bool} (M : CtxMono C) (hb : nR v = some b) (h : ev C κ e st v) : ev C κ (.Compare e [.IsNot] [.Constant .none k p] p2) st (.bool b) := by
 refine bL M h (aC rfl) ?_
 cases v <;> cases hb <;> rfl
noncomputable def oB : Fn := fun ps K => ∃ (vl : PV) (vk : PV) (vv : PV), ps = [vl, vk, vv] /\ K (.inst 134 [vv, vk, vl])
theorem pS : bB oB := fun ps K K' h ⟨vl, vk, vv, h1, hk⟩ => ⟨vl, vk, vv, h1, h _ hk⟩
theorem vA (p : Params) (vl : PV) (vk : PV) (vv : PV) (K : PV -> Prop) (x : Nat) (hK : K (.inst 134 [vv, vk, vl])) :
  wSs cT (bV (aJ (HK p) 123)) (aQ (HK p) 123) (rU fun p σ' => p = .none /\ ∃ fs : List PV, σ' x = some (.ins 134 (fs.map some)) /\ K (.inst 134 fs))
   ⟨aV ((["self", "line", "column", "value"].map Str.ofString).zip (.ptr x :: [vl, vk, vv])) fun _ => none, a7 (fun _ => none) x (.ins 134 (List.replicate 3 none))⟩ := by
 have M := eJ
 conv in (aQ _ _) => whnf
 conv in (aJ _ _) => whnf
 refine aA (gD (a := x) (c := 134) (fs := List.replicate 3 none) (i := 2) (j := 1) M vl vk rfl (by decide +kernel) ?_ ?_ ?_ (by dsimp only; exact aS _ _ _) (by decide +kernel) (by simp) (by decide +kernel) (by simp) ?_)
 ·walk_at "ex"
 ·walk_at "ex"
 ·walk_at "ex"
 dsimp only [d5]
 refine aA (c4 (a := x) (c := 134) (i := 0) M vv ?_ (by walk_at "up") (aS _ _ _) (by decide +kernel) (by simp) ?_)
 ·walk_at "ex"
 dsimp only [d5]
 walk_at "sq"
 exact ⟨rfl, [vv, vk, vl], by dsimp only; rw [aS]; rfl, hK⟩
theorem tQ (hB : BsOk (bs w.params h mb)) (hmb : HMb mb) : Meets prog w (bs w.params h mb) 3 (.ref 134) oB := by
 refine eH (k := 3) (m := 3) (fI := 123) (params := ["self", "line", "column", "value"]) hB (mI hB hmb) (by kernel_rfl) (by kernel_rfl) (by kernel_rfl) (by kernel_rfl) (by kernel_rfl) (by kernel_rfl) (by kernel_rfl) rfl (fun S vals hl => ?_) fun ps K ⟨vl, vk, vv, h1, hk⟩ => ?_
 ·obtain ⟨a, b, c, d, rfl⟩ := zct hl
  kernel_rfl
 ·subst h1
  exact ⟨rfl, fun x => vA _ vl vk vv K x hk⟩
noncomputable def zaV : Fn := fun ps K => ∃ (vl : PV) (vk : PV) (vv : PV), ps = [vl, vk, vv] /\ K (.inst 163 [vv, vk, vl])
theorem uI : bB zaV := fun ps K K' h ⟨vl, vk, vv, h1, hk⟩ => ⟨vl, vk, vv, h1, h _ hk⟩
theorem y4 (p : Params) (vl : PV) (vk : PV) (vv : PV) (K : PV -> Prop) (x : Nat) (hK : K (.inst 163 [vv, vk, vl])) :
  wSs cT (bV (aJ (HK p) 152)) (aQ (HK p) 152) (rU fun p σ' => p = .none /\ ∃ fs : List PV, σ' x = some (.ins 163 (fs.map some)) /\ K (.inst 163 fs))
   ⟨aV ((["self", "line", "column", "value"].map Str.ofString).zip (.ptr x :: [vl, vk, vv])) fun _ => none, a7 (fun _ => none) x (.ins 163 (List.replicate 3 none))⟩ := by
 have M := eJ
 conv in (aQ _ _) => whnf
 conv in (aJ _ _) => whnf
 refine aA (gD (a := x) (c := 163) (fs := List.replicate 3 none) (i := 2) (j := 1) M vl vk rfl (by decide +kernel) ?_ ?_ ?_ (by dsimp only; exact aS _ _ _) (by decide +kernel) (by simp) (by decide +kernel) (by simp) ?_)
 ·walk_at "ex"
 ·walk_at "ex"
 ·walk_at "ex"
 dsimp only [d5]
 refine aA (c4 (a := x) (c := 163) (i := 0) M vv ?_ (by walk_at "up") (aS _ _ _) (by decide +kernel) (by simp) ?_)
 ·walk_at "ex"
 dsimp only [d5]
 walk_at "sq"
 exact ⟨rfl, [vv, vk, vl], by dsimp only; rw [aS]; rfl, hK⟩
theorem wV (hB : BsOk (bs w.params h mb)) (hmb : HMb mb) : Meets prog w (bs w.params h mb) 3 (.ref 163) zaV := by
 refine eH (k := 3) (m := 3) (fI := 152) (params := ["self", "line", "column", "value"]) hB (mI hB hmb) (by kernel_rfl) (by kernel_rfl) (by kernel_rfl) (by kernel_rfl) (by kernel_rfl) (by kernel_rfl) (by kernel_rfl) rfl (fun S vals hl => ?_) fun ps K ⟨vl, vk, vv, h1, hk⟩ => ?_
 ·obtain ⟨a, b, c, d, rfl⟩ := zct hl
  kernel_rfl
 ·subst h1
  exact ⟨rfl, fun x => y4 _ vl vk vv K x hk⟩
noncomputable def iF : Fn := fun ps K => ∃ (vl : PV) (vk : PV) (vv : PV), ps = [vl, vk, vv] /\ K (.inst 206 [vv, vk, vl])
theorem pQ : bB iF := fun ps K K' h ⟨vl, vk, vv, h1, hk⟩ => ⟨vl, vk, vv, h1, h _ hk⟩
theorem u7 (p : Params) (vl : PV) (vk : PV) (vv : PV) (K : PV -> Prop) (x : Nat) (hK : K (.inst 206 [vv, vk, vl])) :
  wSs cT (bV (aJ (HK p) 181)) (aQ (HK p) 181) (rU fun p σ' => p = .none /\ ∃ fs : List PV, σ' x = some (.ins 206 (fs.map some)) /\ K (.inst 206 fs))
   ⟨aV ((["self", "line", "column", "value"].map Str.ofString).zip (.ptr x :: [vl, vk, vv])) fun _ => none, a7 (fun _ => none) x (.ins 206 (List.replicate 3 none))⟩ := by
 have M := eJ
 conv in (aQ _ _) => whnf
 conv in (aJ _ _) => whnf
 refine aA (gD (a := x) (c := 206) (fs := List.replicate 3 none) (i := 2) (j := 1) M vl vk rfl (by decide +kernel) ?_ ?_ ?_ (by dsimp only; exact aS _ _ _) (by decide +kernel) (by simp) (by decide +kernel) (by simp) ?_)
 ·walk_at "ex"
 ·walk_at "ex"
 ·walk_at "ex"
 dsimp only [d5]
 refine aA (c4 (a := x) (c := 206) (i := 0) M vv ?_ (by walk_at "up") (aS _ _ _) (by decide +kernel) (by simp) ?_)
 ·walk_at "ex"
 dsimp only [d5]
 walk_at "sq"
 exact ⟨rfl, [vv, vk, vl], by dsimp only; rw [aS]; rfl, hK⟩
theorem tO (hB : BsOk (bs w.params h mb)) (hmb : HMb mb) : Meets prog w (bs w.params h mb) 3 (.ref 206) iF := by
 refine eH (k := 3) (m := 3) (fI := 181) (params := ["self", "line", "column", "value"]) hB (mI hB hmb) (by kernel_rfl) (by kernel_rfl) (by kernel_rfl) (by kernel_rfl) (by kernel_rfl) (by kernel_rfl) (by kernel_rfl) rfl (fun S vals hl => ?_) fun ps K ⟨vl, vk, vv, h1, hk⟩ => ?_
 ·obtain ⟨a, b, c, d, rfl⟩ := zct hl
  kernel_rfl
 ·subst h1
  exact ⟨rfl, fun x => u7 _ vl vk vv K x hk⟩
noncomputable def iX : Fn := fun ps K => ∃ (vl : PV) (vk : PV) (xvalue : List Nat), ps = [vl, vk, (.str xvalue)] /\ xvalue.length < 1000000 /\ K (.inst 235 [(.str (xvalue.map kF)), (.str xvalue), vk, vl])
theorem mM : bB iX := fun ps K K' h ⟨vl, vk, xvalue, h1, h2, hk⟩ => ⟨vl, vk, xvalue, h1, h2, h _ hk⟩
theorem oG (p : Params) (vl : PV) (vk : PV) (xvalue : List Nat) (K : PV -> Prop) (x : Nat) (h2 : xvalue.length < 1000000) (hK : K (.inst 235 [(.str (xvalue.map kF)), (.str xvalue), vk, vl])) :
  wSs cT (bV (aJ (HK p) 224)) (aQ (HK p) 224) (rU fun p σ' => p = .none /\ ∃ fs : List PV, σ' x = some (.ins 235 (fs.map some)) /\ K (.inst 235 fs))
   ⟨aV ((["self", "line", "column", "value"].map Str.ofString).zip (.ptr x :: [vl, vk, (.str xvalue)])) fun _ => none, a7 (fun _ => none) x (.ins 235 (List.replicate 4 none))⟩ := by
 have M := eJ
 conv in (aQ _ _) => whnf
 conv in (aJ _ _) => whnf
 refine aA (gD (a := x) (c := 235) (fs := List.replicate 4 none) (i := 3) (j := 2) M vl vk rfl (by decide +kernel) ?_ ?_ ?_ (by dsimp only; exact aS _ _ _) (by decide +kernel) (by simp) (by decide +kernel) (by simp) ?_)
 ·walk_at "ex"
 ·walk_at "ex"
 ·walk_at "ex"
 dsimp only [d5]
 refine aA (c4 (a := x) (c := 235) (i := 1) M (.str xvalue) ?_ (by walk_at "up") (aS _ _ _) (by decide +kernel) (by simp) ?_)
 ·walk_at "ex"
 dsimp only [d5]
 refine aA (zbG (aA (c4 (a := x) (c := 235) (i := 0) M (.str (xvalue.map kF)) ?_ (by walk_at "up") (aS _ _ _) (by decide +kernel) (by simp) ?_)))
 ·exact bM (F := uL) M (by kernel_rfl!) rfl (aB M (v := .str xvalue) (by walk_at "nm") aH) ⟨xvalue, rfl, h2, .inl rfl, rfl⟩
 walk_at "sq"
 walk_at "sq"
 exact ⟨rfl, [(.str (xvalue.map kF)), (.str xvalue), vk, vl], by dsimp only; rw [aS]; rfl, hK⟩
theorem nH (hB : BsOk (bs w.params h mb)) (hmb : HMb mb) : Meets prog w (bs w.params h mb) 3 (.ref 235) iX := by
 refine eH (k := 3) (m := 4) (fI := 224) (params := ["self", "line", "column", "value"]) hB (mI hB hmb) (by kernel_rfl) (by kernel_rfl) (by kernel_rfl) (by kernel_rfl) (by kernel_rfl) (by kernel_rfl) (by kernel_rfl) rfl (fun S vals hl => ?_) fun ps K ⟨vl, vk, xvalue, h1, h2, hk⟩ => ?_
 ·obtain ⟨a, b, c, d, rfl⟩ := zct hl
  kernel_rfl
 ·subst h1
  exact ⟨rfl, fun x => oG _ vl vk xvalue K x h2 hk⟩
noncomputable def zaW : Fn := fun ps K => ∃ (vl : PV) (vk : PV) (xvalue : List Nat), ps = [vl, vk, (.str xvalue)] /\ xvalue.length < 1000000 /\ K (.inst 265 [(.str (xvalue.map kF)), (.str xvalue), vk, vl])
theorem uJ : bB zaW := fun ps K K' h ⟨vl, vk, xvalue, h1, h2, hk⟩ => ⟨vl, vk, xvalue, h1, h2, h _ hk⟩
theorem y8 (p : Params) (vl : PV) (vk : PV) (xvalue : List Nat) (K : PV -> Prop) (x : Nat) (h2 : xvalue.length < 1000000) (hK : K (.inst 265 [(.str (xvalue.map kF)), (.str xvalue), vk, vl])) :
  wSs cT (bV (aJ (HK p) 254)) (aQ (HK p) 254) (rU fun p σ' => p = .none /\ ∃ fs : List PV, σ' x = some (.ins 265 (fs.map some)) /\ K (.inst 265 fs))
   ⟨aV ((["self", "line", "column", "value"].map Str.ofString).zip (.ptr x :: [vl, vk, (.str xvalue)])) fun _ => none, a7 (fun _ => none) x (.ins 265 (List.replicate 4 none))⟩ := by
 have M := eJ
 conv in (aQ _ _) => whnf
 conv in (aJ _ _) => whnf
 refine aA (gD (a := x) (c := 265) (fs := List.replicate 4 none) (i := 3) (j := 2) M vl vk rfl (by decide +kernel) ?_ ?_ ?_ (by dsimp only; exact aS _ _ _) (by decide +kernel) (by simp) (by decide +kernel) (by simp) ?_)
 ·walk_at "ex"
 ·walk_at "ex"
 ·walk_at "ex"
 dsimp only [d5]
 refine aA (c4 (a := x) (c := 265) (i := 1) M (.str xvalue) ?_ (by walk_at "up") (aS _ _ _) (by decide +kernel) (by simp) ?_)
 ·walk_at "ex"
 dsimp only [d5]
 refine aA (zbG (aA (c4 (a := x) (c := 265) (i := 0) M (.str (xvalue.map kF)) ?_ (by walk_at "up") (aS _ _ _) (by decide +kernel) (by simp) ?_)))
 ·exact bM (F := uL) M (by kernel_rfl!) rfl (aB M (v := .str xvalue) (by walk_at "nm") aH) ⟨xvalue, rfl, h2, .inl rfl, rfl⟩
 walk_at "sq"
 walk_at "sq"
 exact ⟨rfl, [(.str (xvalue.map kF)), (.str xvalue), vk, vl], by dsimp only; rw [aS]; rfl, hK⟩
theorem wW (hB : BsOk (bs w.params h mb)) (hmb : HMb mb) : Meets prog w (bs w.params h mb) 3 (.ref 265) zaW := by
 refine eH (k := 3) (m := 4) (fI := 254) (params := ["self", "line", "column", "value"]) hB (mI hB hmb) (by kernel_rfl) (by kernel_rfl) (by kernel_rfl) (by kernel_rfl) (by kernel_rfl) (by kernel_rfl) (by kernel_rfl) rfl (fun S vals hl => ?_) fun ps K ⟨vl, vk, xvalue, h1, h2, hk⟩ => ?_
 ·obtain ⟨a, b, c, d, rfl⟩ := zct hl
  kernel_rfl
 ·subst h1
  exact ⟨rfl, fun x => y8 _ vl vk xvalue K x h2 hk⟩
noncomputable def mN : Fn := fun ps K => ∃ (vl : PV) (vk : PV) (vv : PV) (vb : PV), ps = [vl, vk, vv, vb] /\ K (.inst 295 [vb, vv, vk, vl])
theorem oA : bB mN := fun ps K K' h ⟨vl, vk, vv, vb, h1, hk⟩ => ⟨vl, vk, vv, vb, h1, h _ hk⟩
theorem sL (p : Params) (vl : PV) (vk : PV) (vv : PV) (vb : PV) (K : PV -> Prop) (x : Nat) (hK : K (.inst 295 [vb, vv, vk, vl])) :
  wSs cT (bV (aJ (HK p) 284)) (aQ (HK p) 284) (rU fun p σ' => p = .none /\ ∃ fs : List PV, σ' x = some (.ins 295 (fs.map some)) /\ K (.inst 295 fs))
   ⟨aV ((["self", "line", "column", "value", "is_identifier"].map Str.ofString).zip (.ptr x :: [vl, vk, vv, vb])) fun _ => none, a7 (fun _ => none) x (.ins 295 (List.replicate 4 none))⟩ := by
 have M := eJ
 conv in (aQ _ _) => whnf
 conv in (aJ _ _) => whnf
 refine aA (gD (a := x) (c := 295) (fs := List.replicate 4 none) (i := 3) (j := 2) M vl vk rfl (by decide +kernel) ?_ ?_ ?_ (by dsimp only; exact aS _ _ _) (by decide +kernel) (by simp) (by decide +kernel) (by simp) ?_)
 ·walk_at "ex"
 ·walk_at "ex"
 ·walk_at "ex"
 dsimp only [d5]
 refine aA (c4 (a := x) (c := 295) (i := 1) M vv ?_ (by walk_at "up") (aS _ _ _) (by decide +kernel) (by simp) ?_)
 ·walk_at "ex"
 dsimp only [d5]
 refine aA (c4 (a := x) (c := 295) (i := 0) M vb ?_ (by walk_at "up") (aS _ _ _) (by decide +kernel) (by simp) ?_)
 ·walk_at "ex"
 dsimp only [d5]
 walk_at "sq"
 exact ⟨rfl, [vb, vv, vk, vl], by dsimp only; rw [aS]; rfl, hK⟩
theorem oZ (hB : BsOk (bs w.params h mb)) (hmb : HMb mb) : Meets prog w (bs w.params h mb) 3 (.ref 295) mN := by
 refine eH (k := 4) (m := 4) (fI := 284) (params := ["self", "line", "column", "value", "is_identifier"]) hB (mI hB hmb) (by kernel_rfl) (by kernel_rfl) (by kernel_rfl) (by kernel_rfl) (by kernel_rfl) (by kernel_rfl) (by kernel_rfl) rfl (fun S vals hl => ?_) fun ps K ⟨vl, vk, vv, vb, h1, hk⟩ => ?_
 ·obtain ⟨a, b, c, d, e, rfl⟩ := five hl
  kernel_rfl
 ·subst h1
  exact ⟨rfl, fun x => sL _ vl vk vv vb K x hk⟩
noncomputable def sH : Fn := fun ps K => ∃ (vl : PV) (vk : PV) (vv : PV) (vi : PV) (vr : PV) (b : Bool), ps = [vl, vk, vv, vi, vr] /\ nR vi = some b /\ K (.inst 415 [vi, (.bool b), vr, vv, vk, vl])
theorem pP : bB sH := fun ps K K' h ⟨vl, vk, vv, vi, vr, b, h1, h2, hk⟩ => ⟨vl, vk, vv, vi, vr, b, h1, h2, h _ hk⟩
theorem u6 (p : Params) (vl : PV) (vk : PV) (vv : PV) (vi : PV) (vr : PV) (b : Bool) (K : PV -> Prop) (x : Nat) (h2 : nR vi = some b) (hK : K (.inst 415 [vi, (.bool b), vr, vv, vk, vl])) :
  wSs cT (bV (aJ (HK p) 404)) (aQ (HK p) 404) (rU fun p σ' => p = .none /\ ∃ fs : List PV, σ' x = some (.ins 415 (fs.map some)) /\ K (.inst 415 fs))
   ⟨aV ((["self", "line", "column", "value", "int_value", "representation"].map Str.ofString).zip (.ptr x :: [vl, vk, vv, vi, vr])) fun _ => none, a7 (fun _ => none) x (.ins 415 (List.replicate 6 none))⟩ := by
 have M := eJ
 conv in (aQ _ _) => whnf
 conv in (aJ _ _) => whnf
 refine aA (gD (a := x) (c := 415) (fs := List.replicate 6 none) (i := 5) (j := 4) M vl vk rfl (by decide +kernel) ?_ ?_ ?_ (by dsimp only; exact aS _ _ _) (by decide +kernel) (by simp) (by decide +kernel) (by simp) ?_)
 ·walk_at "ex"
 ·walk_at "ex"
 ·walk_at "ex"
 dsimp only [d5]
 refine aA (c4 (a := x) (c := 415) (i := 3) M vv ?_ (by walk_at "up") (aS _ _ _) (by decide +kernel) (by simp) ?_)
 ·walk_at "ex"
 dsimp only [d5]
 refine aA (c4 (a := x) (c := 415) (i := 0) M vi ?_ (by walk_at "up") (aS _ _ _) (by decide +kernel) (by simp) ?_)
 ·walk_at "ex"
 dsimp only [d5]
 refine aA (c4 (a := x) (c := 415) (i := 1) M (.bool b) ?_ (by walk_at "up") (aS _ _ _) (by decide +kernel) (by simp) ?_)
 ·exact pD M h2 (by walk_at "nm")
 dsimp only [d5]
 refine aA (c4 (a := x) (c := 415) (i := 2) M vr ?_ (by walk_at "up") (aS _ _ _) (by decide +kernel) (by simp) ?_)
 ·walk_at "ex"
 dsimp only [d5]
 walk_at "sq"
 exact ⟨rfl, [vi, (.bool b), vr, vv, vk, vl], by dsimp only; rw [aS]; rfl, hK⟩
theorem tN (hB : BsOk (bs w.params h mb)) (hmb : HMb mb) : Meets prog w (bs w.params h mb) 3 (.ref 415) sH := by
 refine eH (k := 5) (m := 6) (fI := 404) (params := ["self", "line", "column", "value", "int_value", "representation"]) hB (mI hB hmb) (by kernel_rfl) (by kernel_rfl) (by kernel_rfl) (by kernel_rfl) (by kernel_rfl) (by kernel_rfl) (by kernel_rfl) rfl (fun S vals hl => ?_) fun ps K ⟨vl, vk, vv, vi, vr, b, h1, h2, hk⟩ => ?_
 ·obtain ⟨a, b, c, d, e, f, rfl⟩ := six hl
  kernel_rfl
 ·subst h1
  exact ⟨rfl, fun x => u6 _ vl vk vv vi vr b K x h2 hk⟩
noncomputable def sF : Fn := fun ps K => ∃ (vl : PV) (vk : PV) (vv : PV) (vi : PV) (vr : PV) (b : Bool), ps = [vl, vk, vv, vi, vr] /\ nR vi = some b /\ K (.inst 447 [vi, (.bool b), vr, vv, vk, vl])
theorem pO : bB sF := fun ps K K' h ⟨vl, vk, vv, vi, vr, b, h1, h2, hk⟩ => ⟨vl, vk, vv, vi, vr, b, h1, h2, h _ hk⟩
theorem u0 (p : Params) (vl : PV) (vk : PV) (vv : PV) (vi : PV) (vr : PV) (b : Bool) (K : PV -> Prop) (x : Nat) (h2 : nR vi = some b) (hK : K (.inst 447 [vi, (.bool b), vr, vv, vk, vl])) :
  wSs cT (bV (aJ (HK p) 436)) (aQ (HK p) 436) (rU fun p σ' => p = .none /\ ∃ fs : List PV, σ' x = some (.ins 447 (fs.map some)) /\ K (.inst 447 fs))
   ⟨aV ((["self", "line", "column", "value", "int_value", "representation"].map Str.ofString).zip (.ptr x :: [vl, vk, vv, vi, vr])) fun _ => none, a7 (fun _ => none) x (.ins 447 (List.replicate 6 none))⟩ := by
 have M := eJ
 conv in (aQ _ _) => whnf
 conv in (aJ _ _) => whnf
 refine aA (gD (a := x) (c := 447) (fs := List.replicate 6 none) (i := 5) (j := 4) M vl vk rfl (by decide +kernel) ?_ ?_ ?_ (by dsimp only; exact aS _ _ _) (by decide +kernel) (by simp) (by decide +kernel) (by simp) ?_)
 ·walk_at "ex"
 ·walk_at "ex"
 ·walk_at "ex"
 dsimp only [d5]
 refine aA (c4 (a := x) (c := 447) (i := 3) M vv ?_ (by walk_at "up") (aS _ _ _) (by decide +kernel) (by simp) ?_)
 ·walk_at "ex"
 dsimp only [d5]
 refine aA (c4 (a := x) (c := 447) (i := 0) M vi ?_ (by walk_at "up") (aS _ _ _) (by decide +kernel) (by simp) ?_)
 ·walk_at "ex"
 dsimp only [d5]
 refine aA (c4 (a := x) (c := 447) (i := 1) M (.bool b) ?_ (by walk_at "up") (aS _ _ _) (by decide +kernel) (by simp) ?_)
 ·exact pD M h2 (by walk_at "nm")
 dsimp only [d5]
 refine aA (c4 (a := x) (c := 447) (i := 2) M vr ?_ (by walk_at "up") (aS _ _ _) (by decide +kernel) (by simp) ?_)
 ·walk_at "ex"
 dsimp only [d5]
 walk_at "sq"
 exact ⟨rfl, [vi, (.bool b), vr, vv, vk, vl], by dsimp only; rw [aS]; rfl, hK⟩
theorem tL (hB : BsOk (bs w.params h mb)) (hmb : HMb mb) : Meets prog w (bs w.params h mb) 3 (.ref 447) sF := by
 refine eH (k := 5) (m := 6) (fI := 436) (params := ["self", "line", "column", "value", "int_value", "representation"]) hB (mI hB hmb) (by kernel_rfl) (by kernel_rfl) (by kernel_rfl) (by kernel_rfl) (by kernel_rfl) (by kernel_rfl) (by kernel_rfl) rfl (fun S vals hl => ?_) fun ps K ⟨vl, vk, vv, vi, vr, b, h1, h2, hk⟩ => ?_
 ·obtain ⟨a, b, c, d, e, f, rfl⟩ := six hl
  kernel_rfl
 ·subst h1
  exact ⟨rfl, fun x => u0 _ vl vk vv vi vr b K x h2 hk⟩
noncomputable def sI : Fn := fun ps K => ∃ (vl : PV) (vk : PV) (vv : PV) (vi : PV) (vr : PV) (xunit : List Nat) (b : Bool), ps = [vl, vk, vv, vi, vr, (.str xunit)] /\ xunit.length < 1000000 /\ nR vi = some b /\ K (.inst 479 [vi, (.bool b), (.str (xunit.map kF)), vr, (.str xunit), vv, vk, vl])
theorem pR : bB sI := fun ps K K' h ⟨vl, vk, vv, vi, vr, xunit, b, h1, h2, h3, hk⟩ => ⟨vl, vk, vv, vi, vr, xunit, b, h1, h2, h3, h _ hk⟩
theorem u9 (p : Params) (vl : PV) (vk : PV) (vv : PV) (vi : PV) (vr : PV) (xunit : List Nat) (b : Bool) (K : PV -> Prop) (x : Nat) (h2 : xunit.length < 1000000) (h3 : nR vi = some b) (hK : K (.inst 479 [vi, (.bool b), (.str (xunit.map kF)), vr, (.str xunit), vv, vk, vl])) :
  wSs cT (bV (aJ (HK p) 468)) (aQ (HK p) 468) (rU fun p σ' => p = .none /\ ∃ fs : List PV, σ' x = some (.ins 479 (fs.map some)) /\ K (.inst 479 fs))
   ⟨aV ((["self", "line", "column", "value", "int_value", "representation", "unit"].map Str.ofString).zip (.ptr x :: [vl, vk, vv, vi, vr, (.str xunit)])) fun _ => none, a7 (fun _ => none) x (.ins 479 (List.replicate 8 none))⟩ := by
 have M := eJ
 conv in (aQ _ _) => whnf
 conv in (aJ _ _) => whnf
 refine aA (gD (a := x) (c := 479) (fs := List.replicate 8 none) (i := 7) (j := 6) M vl vk rfl (by decide +kernel) ?_ ?_ ?_ (by dsimp only; exact aS _ _ _) (by decide +kernel) (by simp) (by decide +kernel) (by simp) ?_)
 ·walk_at "ex"
 ·walk_at "ex"
 ·walk_at "ex"
 dsimp only [d5]
 refine aA (c4 (a := x) (c := 479) (i := 5) M vv ?_ (by walk_at "up") (aS _ _ _) (by decide +kernel) (by simp) ?_)
 ·walk_at "ex"
 dsimp only [d5]
 refine aA (c4 (a := x) (c := 479) (i := 0) M vi ?_ (by walk_at "up") (aS _ _ _) (by decide +kernel) (by simp) ?_)
 ·walk_at "ex"
 dsimp only [d5]
 refine aA (c4 (a := x) (c := 479) (i := 1) M (.bool b) ?_ (by walk_at "up") (aS _ _ _) (by decide +kernel) (by simp) ?_)
 ·exact pD M h3 (by walk_at "nm")
 dsimp only [d5]
 refine aA (c4 (a := x) (c := 479) (i := 3) M vr ?_ (by walk_at "up") (aS _ _ _) (by decide +kernel) (by simp) ?_)
 ·walk_at "ex"
 dsimp only [d5]
 refine aA (c4 (a := x) (c := 479) (i := 4) M (.str xunit) ?_ (by walk_at "up") (aS _ _ _) (by decide +kernel) (by simp) ?_)
 ·walk_at "ex"
 dsimp only [d5]
 refine aA (zbG (aA (c4 (a := x) (c := 479) (i := 2) M (.str (xunit.map kF)) ?_ (by walk_at "up") (aS _ _ _) (by decide +kernel) (by simp) ?_)))
 ·exact bM (F := uL) M (by kernel_rfl!) rfl (aB M (v := .str xunit) (by walk_at "nm") aH) ⟨xunit, rfl, h2, .inl rfl, rfl⟩
 walk_at "sq"
 walk_at "sq"
 exact ⟨rfl, [vi, (.bool b), (.str (xunit.map kF)), vr, (.str xunit), vv, vk, vl], by dsimp only; rw [aS]; rfl, hK⟩
theorem tP (hB : BsOk (bs w.params h mb)) (hmb : HMb mb) : Meets prog w (bs w.params h mb) 3 (.ref 479) sI := by
 refine eH (k := 6) (m := 8) (fI := 468) (params := ["self", "line", "column", "value", "int_value", "representation", "unit"]) hB (mI hB hmb) (by kernel_rfl) (by kernel_rfl) (by kernel_rfl) (by kernel_rfl) (by kernel_rfl) (by kernel_rfl) (by kernel_rfl) rfl (fun S vals hl => ?_) fun ps K ⟨vl, vk, vv, vi, vr, xunit, b, h1, h2, h3, hk⟩ => ?_
 ·obtain ⟨a, b, c, d, e, f, g, rfl⟩ := zdK hl
  kernel_rfl
 ·subst h1
  exact ⟨rfl, fun x => u9 _ vl vk vv vi vr xunit b K x h2 h3 hk⟩
inductive Tk where
 | ws (v : List Nat) | lit (v : List Nat) | ident (v : List Nat)
 | num (iv : Option Int) (r : List Nat) | pct (iv : Option Int) (r : List Nat) | dim (iv : Option Int) (r u : List Nat)
 | atk (v : List Nat) | hash (v : List Nat) (b : Bool) | com (v : List Nat)
noncomputable def m9 : Option Int -> PV
 | none => .none
 | some i => .int i
noncomputable def lcS (s : String) : List Nat := (Str.ofString s).cps.toList
noncomputable def tkP (lc : Nat × Nat) : Tk -> PV
 | .ws v => .inst 163 [.str v, .int lc.2, .int lc.1]
 | .lit v => .inst 206 [.str v, .int lc.2, .int lc.1]
 | .ident v => .inst 235 [.str (v.map kF), .str v, .int lc.2, .int lc.1]
 | .num iv r => .inst 415 [m9 iv, .bool iv.isSome, .str r, .str r, .int lc.2, .int lc.1]
 | .pct iv r => .inst 447 [m9 iv, .bool iv.isSome, .str r, .str r, .int lc.2, .int lc.1]
 | .dim iv r u => .inst 479 [m9 iv, .bool iv.isSome, .str (u.map kF), .str r, .str u, .str r, .int lc.2, .int lc.1]
 | .atk v => .inst 265 [.str (v.map kF), .str v, .int lc.2, .int lc.1]
 | .hash v b => .inst 295 [.bool b, .str v, .int lc.2, .int lc.1]
 | .com v => .inst 134 [.str v, .int lc.2, .int lc.1]
noncomputable def adv (lc : Nat × Nat) : List Nat -> Nat × Nat
 | [] => lc
 | c :: r => adv (if c = 10 then (lc.1 + 1, 1) else (lc.1, lc.2 + 1)) r
noncomputable def iA (x : List Nat) : Nat := (fW 0 x).getD 0
noncomputable def oE : List Nat -> Int
 | [] => 0
 | c :: r => if c = 45 then -(iA r : Int) else if c = 43 then (iA r : Int) else (iA (c :: r) : Int)
noncomputable def yI : List Nat -> Option Nat
 | [] => none
 | c :: r => if [42, 47].isPrefixOf (c :: r) then some 0 else (yI r).map (· + 1)
noncomputable def xL (r : List Nat) : Bool := (r[0]?).any a8
noncomputable def eU (iv : Option Int) (r y : List Nat) : Tk × Nat :=
 if aK y then (.dim iv r (aW y).1, r.length + (aW y).2)
 else if [37].isPrefixOf y then (.pct iv r, r.length + 1)
 else (.num iv r, r.length)
noncomputable def rZ (z : List Nat) : Tk × Nat := match yI z with
 | none => (.com z, 2 + z.length)
 | some k => (.com (z.take k), 2 + k + 2)
noncomputable def bT (c : Nat) (r : List Nat) : Tk × Nat :=
 if c = 64 then (if aK r then (.atk (aW r).1, 1 + (aW r).2) else (.lit [64], 1))
 else if c = 35 then (if xL r then (.hash (aW r).1 (aK r), 1 + (aW r).2) else (.lit [35], 1))
 else if [47, 42].isPrefixOf (c :: r) then rZ (r.drop 1)
 else (.lit [c], 1)
noncomputable def step (c : Nat) (r : List Nat) : Tk × Nat :=
 if bE c then (.ws (c :: r.take (bQ r)), 1 + bQ r)
 else if [45, 45, 62].isPrefixOf (c :: r) then (.lit [45, 45, 62], 3)
 else if aK (c :: r) then (.ident (aW (c :: r)).1, (aW (c :: r)).2)
 else (iO (c :: r)).elim (bT c r) fun e => eU (if e.2 then some (oE ((c :: r).take e.1)) else none) ((c :: r).take e.1) ((c :: r).drop e.1)
theorem wO {x : List Nat} (h : aK x = true) : 1 <= (aW x).2 := by
 cases x with
 | nil => cases h
 | cons c r =>
  rw [dW, if_pos]
  ·exact Nat.le_add_left 1 _
  ·unfold a8
   rcases Bool.or_eq_true_iff.mp h with h | h
   ·rw [h]; rfl
   ·rw [(Bool.and_eq_true_iff.mp h).1, Bool.or_true]; rfl
theorem zch (x : List Nat) : bX x <= x.length := (List.takeWhile_sublist _).length_le
theorem zW (x : List Nat) : bF x <= x.length := Nat.zero_add (bF x) ▸ oO (x := x) (Nat.zero_le _)
theorem pG {x : List Nat} {i : Nat} (h : i <= x.length) : bX (x.drop i) + i <= x.length := Nat.add_comm i _ ▸ x7 h
theorem xS {x : List Nat} : (iS x).getD 0 <= x.length := by
 unfold iS
 split
 ·split
  ·rename_i h; exact pG (Nat.le_of_lt (rV h))
  ·exact Nat.zero_le _
 ·exact Nat.zero_le _
theorem rN {x : List Nat} {n : Nat} (h : c6 x = some n) : 1 <= n /\ n <= x.length := by
 unfold c6 at h
 split at h
 ·rename_i q; cases h; exact ⟨Nat.le_add_left 1 _, pG (rV q.2)⟩
 ·cases h
theorem l8 {x : List Nat} {n m : Nat} (h : n <= x.length) (h' : m <= (x.drop n).length) : m + n <= x.length := Nat.add_comm n m ▸ eD h h'
theorem oT {x : List Nat} {n : Nat} {b : Bool} (h : iO x = some (n, b)) : 1 <= n /\ n <= x.length := by
 unfold iO at h
 have h1 := pG (zW x)
 have h2 : bX (x.drop (bF x)) ≠ 0 -> 1 <= bX (x.drop (bF x)) + bF x := fun h => Nat.le_trans (Nat.pos_of_ne_zero h) (Nat.le_add_right _ _)
 generalize bX (x.drop (bF x)) + bF x = k at h h1 h2
 unfold zdw at h
 cases hf : c6 (x.drop k) with
 | some f =>
  rw [hf] at h
  cases h
  have h3 := rN hf
  exact ⟨Nat.le_trans h3.1 (Nat.le_trans (Nat.le_add_right _ _) (Nat.le_add_left _ _)), l8 (l8 h1 h3.2) xS⟩
 | none =>
  rw [hf, Option.elim_none] at h
  split at h
  ·cases h
  ·rename_i hz
   have h4 := l8 h1 xS
   cases he : iS (x.drop k) with
   | some g => rw [he] at h h4; cases h; exact ⟨Nat.le_trans (h2 hz) (Nat.le_add_left _ _), h4⟩
   | none => rw [he] at h; cases h; exact ⟨h2 hz, h1⟩
theorem pI : ∀ {x : List Nat} {n : Nat}, yI x = some n -> n + 2 <= x.length
 | [], n, h => by simp [yI] at h
 | c :: r, n, h => by
  unfold yI at h
  split at h
  ·rename_i hp
   cases h
   have := (List.isPrefixOf_iff_prefix.mp hp).length_le
   simpa using this
  ·obtain ⟨k, hk, rfl⟩ := Option.map_eq_some_iff.mp h
   have := pI hk
   simp only [List.length_cons]; omega
theorem qS {p x : List Nat} (h : p.isPrefixOf x = true) : p.length <= x.length := (List.isPrefixOf_iff_prefix.mp h).length_le
theorem oP (c : Nat) (r : List Nat) : 1 <= (bT c r).2 /\ (bT c r).2 <= r.length + 1 := by
 have h2 := eA r
 unfold bT
 split
 ·split
  ·exact ⟨Nat.le_add_right 1 _, by show 1 + (aW r).2 <= _; omega⟩
  ·exact ⟨Nat.le_refl 1, Nat.le_add_left 1 _⟩
 split
 ·split
  ·exact ⟨Nat.le_add_right 1 _, by show 1 + (aW r).2 <= _; omega⟩
  ·exact ⟨Nat.le_refl 1, Nat.le_add_left 1 _⟩
 split
 ·rename_i g
  have hp : 2 <= r.length + 1 := qS g
  unfold rZ
  split
  ·show 1 <= 2 + (r.drop 1).length /\ 2 + (r.drop 1).length <= _
   rw [List.length_drop]; omega
  ·rename_i k e
   have := pI e
   rw [List.length_drop] at this
   show 1 <= 2 + k + 2 /\ 2 + k + 2 <= _
   omega
 ·exact ⟨Nat.le_refl 1, Nat.le_add_left 1 _⟩
theorem lQ (c : Nat) (r : List Nat) : 1 <= (step c r).2 /\ (step c r).2 <= r.length + 1 := by
 unfold step
 split
 ·have := j3 r; exact ⟨Nat.le_add_right 1 _, by show 1 + bQ r <= _; omega⟩
 split
 ·rename_i h; exact ⟨by show 1 <= 3; omega, qS h⟩
 split
 ·rename_i h; exact ⟨wO h, eA (c :: r)⟩
 cases e : iO (c :: r) with
 | some nb =>
  obtain ⟨n, b⟩ := nb
  rw [Option.elim_some]
  have h1 : 1 <= n /\ n <= r.length + 1 := oT e
  have h3 : ((c :: r).take n).length = n := List.length_take_of_le h1.2
  have h4 : ((c :: r).drop n).length = r.length + 1 - n := List.length_drop
  have h2 := eA ((c :: r).drop n)
  unfold eU
  rw [h3]
  split
  ·exact ⟨by show 1 <= n + _; omega, by show n + (aW ((c :: r).drop n)).2 <= _; omega⟩
  split
  ·rename_i h
   have : 1 <= ((c :: r).drop n).length := qS h
   exact ⟨by show 1 <= n + 1; omega, by show n + 1 <= _; omega⟩
  ·exact h1
 | none => exact oP c r
noncomputable abbrev Row := List ((Nat × Nat) × Tk)
noncomputable def zdv : Nat -> Nat × Nat -> List Nat -> Row
 | 0, _, _ => []
 | _ + 1, _, [] => []
 | k + 1, lc, c :: r => (lc, (step c r).1) :: zdv k (adv lc ((c :: r).take (step c r).2)) ((c :: r).drop (step c r).2)
theorem m7 : ∀ (k k' : Nat) (lc : Nat × Nat) (x : List Nat), x.length <= k -> x.length <= k' -> zdv k lc x = zdv k' lc x
 | 0, 0, lc, x, _, _ => rfl
 | 0, k' + 1, lc, [], _, _ => rfl
 | k + 1, 0, lc, [], _, _ => rfl
 | k + 1, k' + 1, lc, [], _, _ => rfl
 | 0, k' + 1, lc, c :: r, h, _ => absurd h (Nat.not_succ_le_zero _)
 | k + 1, 0, lc, c :: r, _, h => absurd h (Nat.not_succ_le_zero _)
 | k + 1, k' + 1, lc, c :: r, h, h' => by
  have hs := lQ c r
  have hl : ((c :: r).drop (step c r).2).length = r.length + 1 - (step c r).2 := List.length_drop
  have h : r.length + 1 <= k + 1 := h
  have h' : r.length + 1 <= k' + 1 := h'
  show _ :: _ = _ :: _
  rw [m7 k k' _ ((c :: r).drop (step c r).2) (by omega) (by omega)]
noncomputable def iL (lc : Nat × Nat) (x : List Nat) : Row := zdv x.length lc x
theorem zZ (lc : Nat × Nat) : iL lc [] = [] := rfl
theorem dQ (lc : Nat × Nat) (c : Nat) (r : List Nat) : iL lc (c :: r) = (lc, (step c r).1) :: iL (adv lc ((c :: r).take (step c r).2)) ((c :: r).drop (step c r).2) := by
 have hs := lQ c r
 have hl : ((c :: r).drop (step c r).2).length = r.length + 1 - (step c r).2 := List.length_drop
 show _ :: _ = _ :: _
 unfold iL
 rw [m7 r.length _ _ ((c :: r).drop (step c r).2) (by omega) (Nat.le_refl _)]
theorem qO : ∀ (n : Nat) (lc : Nat × Nat) (x : List Nat), x.length <= n -> (iL lc x).length <= x.length
 | _, lc, [], _ => Nat.le_refl _
 | n + 1, lc, c :: r, h => by
  have hs := lQ c r
  have hl : ((c :: r).drop (step c r).2).length = r.length + 1 - (step c r).2 := List.length_drop
  have h : r.length + 1 <= n + 1 := h
  have := qO n (adv lc ((c :: r).take (step c r).2)) ((c :: r).drop (step c r).2) (by omega)
  rw [dQ]
  show _ + 1 <= r.length + 1
  omega
theorem fH (lc : Nat × Nat) : ∀ (x y : List Nat), adv lc (x ++ y) = adv (adv lc x) y
 | [], y => rfl
 | c :: x, y => fH (if c = 10 then (lc.1 + 1, 1) else (lc.1, lc.2 + 1)) x y
theorem sD (lc : Nat × Nat) : ∀ (y : List Nat), (adv lc y).1 = lc.1 + y.count 10
 | [] => rfl
 | c :: x => by
  unfold adv
  rw [sD _ x, List.count_cons]
  by_cases h : c = 10
  ·subst h; simp; omega
  ·simp [h]
theorem sC (lc : Nat × Nat) : ∀ (y : List Nat), 10 ∉ y -> adv lc y = (lc.1, lc.2 + y.length)
 | [], _ => rfl
 | c :: x, h => by
  unfold adv
  rw [if_neg (fun q => h (by rw [q]; simp)), sC _ x (fun q => h (List.mem_cons_of_mem _ q)), List.length_cons]
  simp; omega
noncomputable def f9 (x : List Nat) : Nat × Nat := adv (1, 1) x
theorem zX {x : List Nat} {i j : Nat} (h : i <= j) (hl : j < x.length) : (x.take (j + 1)).drop i = (x.take j).drop i ++ [x[j]] := by
 rw [List.take_succ_eq_append_getElem hl, List.drop_append_of_le_length]
 rw [List.length_take_of_le (Nat.le_of_lt hl)]; exact h
theorem sW {c : Nat} {x : List Nat} {i j : Nat} (h : i <= j) (hl : j < x.length) : dR c x i (j + 1) = if x[j] = c then (j : Int) else dR c x i j := by
 have hlen : ((x.take j).drop i).length = j - i := by rw [List.length_drop, List.length_take_of_le (Nat.le_of_lt hl)]
 unfold dR
 rw [zX h hl, List.reverse_append, List.reverse_singleton, List.singleton_append, List.findIdx?_cons, List.length_append, hlen]
 by_cases hc : x[j] = c
 ·rw [if_pos hc, beq_iff_eq.mpr hc]
  exact congrArg Int.ofNat (Nat.sub_add_cancel h)
 ·rw [if_neg hc, beq_eq_false_iff_ne.mpr hc]
  cases ((x.take j).drop i).reverse.findIdx? (· == c) with
  | none => rfl
  | some k => exact congrArg (fun n => ((n + i : Nat) : Int)) (by show j - i + 1 - 1 - (k + 1) = j - i - 1 - k; rw [Nat.add_sub_cancel, Nat.sub_sub (j - i), Nat.add_comm 1])
theorem zbV {x : List Nat} {j : Nat} (hl : j < x.length) : f9 (x.take (j + 1)) = if x[j] = 10 then ((f9 (x.take j)).1 + 1, 1) else ((f9 (x.take j)).1, (f9 (x.take j)).2 + 1) := by
 rw [List.take_succ_eq_append_getElem hl, f9, fH]; rfl
theorem zbW {x : List Nat} {t p : Nat} (h : t <= p) : (f9 (x.take p)).1 = (f9 (x.take t)).1 + ((x.take p).drop t).count 10 := by
 have := List.take_append_drop t (x.take p)
 rw [List.take_take, Nat.min_eq_left h] at this
 rw [<- sD, f9, f9, <- fH, this]
theorem q0 {css : List Nat} {t : Nat} : ∀ (d : Nat), t + d <= css.length ->
  (dR 10 css t (t + d) = -1 /\ (f9 (css.take (t + d))).1 = (f9 (css.take t)).1 /\ (f9 (css.take (t + d))).2 = (f9 (css.take t)).2 + d) \/
  ∃ m : Nat, dR 10 css t (t + d) = m /\ (f9 (css.take (t + d))).1 = (f9 (css.take t)).1 + (1 + ((css.take m).drop t).count 10) /\ m + (f9 (css.take (t + d))).2 = t + d
 | 0, h => .inl ⟨by unfold dR; rw [List.drop_of_length_le (show (css.take (t + 0)).length <= t from List.length_take_le ..)]; rfl, rfl, rfl⟩
 | d + 1, h => by
  rw [<- Nat.add_assoc, sW (Nat.le_add_right t d) h, zbV (show t + d < css.length from h)]
  by_cases hc : css[t + d] = 10
  ·rw [if_pos hc, if_pos hc]
   exact .inr ⟨t + d, rfl, by rw [Nat.add_comm 1, <- Nat.add_assoc, zbW (Nat.le_add_right t d)], rfl⟩
  ·rw [if_neg hc, if_neg hc]
   rcases q0 d (Nat.le_of_lt h) with ⟨h1, h2, h3⟩ | ⟨m, h1, h2, h3⟩
   ·exact .inl ⟨h1, h2, congrArg Nat.succ h3⟩
   ·exact .inr ⟨m, h1, h2, congrArg Nat.succ h3⟩
theorem zcK (σ : Nat -> Option Cell) (lc : Nat × Nat) (t : Tk) : Res σ (tkP lc t) (tkP lc t) := by
 cases t with
 | num iv r => cases iv <;> exact a5 _ _ rfl
 | pct iv r => cases iv <;> exact a5 _ _ rfl
 | dim iv r u => cases iv <;> exact a5 _ _ rfl
 | _ => exact a5 _ _ rfl
theorem iM {σ : Nat -> Option Cell} {α : Type} (f : α -> PV) (h : ∀ x, Res σ (f x) (f x)) : ∀ l : List α, n9 σ (l.map f) (l.map f)
 | [] => rfl
 | x :: r => ⟨_, _, rfl, h x, iM f h r⟩
theorem z4 (σ : Nat -> Option Cell) (R : Row) : n9 σ (R.map fun e => tkP e.1 e.2) (R.map fun e => tkP e.1 e.2) := iM _ (fun e => zcK σ e.1 e.2) R
noncomputable def cPf : List (String × Fn) := [("_is_ident_start", zdF), ("_consume_ident", zdG), ("_number_end", zaX)]
noncomputable def cPc : List (String × Fn) := [("WhitespaceToken", zaV), ("LiteralToken", iF), ("IdentToken", iX), ("DimensionToken", sI), ("PercentageToken", sF), ("NumberToken", sH), ("AtKeywordToken", zaW), ("HashToken", mN), ("Comment", oB)]
noncomputable def cP : Ctx := mkC cPf cPc false [] [272, 274, 327, 363, 370, 377, 437, 458, 507]
theorem r4 : ∀ e ∈ cPf, bB e.2 := by simp only [cPf, List.mem_cons, List.not_mem_nil, or_false]; rintro e (rfl | rfl | rfl); all_goals first | exact yU | exact yV | exact uK
theorem r3 : ∀ e ∈ cPc, bB e.2 := by
 simp only [cPc, List.mem_cons, List.not_mem_nil, or_false]; rintro e (rfl | rfl | rfl | rfl | rfl | rfl | rfl | rfl | rfl)
 all_goals first | exact uI | exact pQ | exact mM | exact pR | exact pO | exact pP | exact uJ | exact oA | exact pS
theorem a4 : CtxMono cP := bO r4 r3
noncomputable def mV : List Stmt -> List Stmt
 | (.While _ b _ _) :: _ => b
 | _ :: r => mV r
 | [] => []
noncomputable def qX : Nat -> List Stmt -> Stmt
 | 0, s :: _ => s
 | n + 1, _ :: r => qX n r
 | _, [] => .Pass ⟨0, 0, 0, 0⟩
noncomputable def yM : Nat -> Stmt -> List Stmt
 | 0, .If _ b _ _ => b
 | 0, _ => []
 | n + 1, .If _ _ o _ => match o with
  | [.If t b o p] => yM n (.If t b o p)
  | o => o
 | _ + 1, _ => []
noncomputable def knP (P : Params) : Kn := bV (aJ (HK P) 628)
noncomputable def o5 (P : Params) : List Stmt := mV (aQ (HK P) 628)
noncomputable def br1 (P : Params) (j : Nat) : List Stmt := yM j (qX 5 (o5 P))
noncomputable def br2 (P : Params) (j : Nat) : List Stmt := yM j (qX 7 (o5 P))
noncomputable def LZ (css : List Nat) (q t l : Nat) (n : Int) (a : Nat) : List (Str × PV) := [("css", .str css), ("length", .int css.length), ("skip_comments", .bool false), ("pos", .int q), ("token_start_pos", .int t), ("line", .int l), ("last_newline", .int n),
 ("root", .ptr a), ("tokens", .ptr a), ("end_char", .none)]
noncomputable def LX (css : List Nat) (p : Nat) (lc : Nat × Nat) (a c : Nat) : List (Str × PV) := ("c", .str [c]) :: ("column", .int lc.2) :: LZ css p p lc.1 ((p : Int) - lc.2) a
noncomputable def i9 (R : Row) : List PV := R.map fun e => tkP e.1 e.2
noncomputable def Inv (css : List Nat) (a : Nat) (R : List PV) (n : Nat) (st : St) : Prop :=
 ∃ p t xs, n = css.length - p /\ t <= p /\ p <= css.length /\ kD (LZ css p t (f9 (css.take t)).1 ((t : Int) - (f9 (css.take t)).2) a) st.ρ /\ st.σ a = some (.lst xs) /\ xs.length <= p /\ xs ++ i9 (iL (f9 (css.take p)) (css.drop p)) = R
noncomputable def pN (css : List Nat) (a : Nat) (R : List PV) (p : Nat) (st : St) : Prop := ∃ m, m < css.length - p /\ Inv css a R m st
noncomputable def zcy (a : Nat) (R : List PV) (st : St) : Prop := st.ρ "root" = some (.ptr a) /\ st.σ a = some (.lst R)
structure Mid (css : List Nat) (a : Nat) (R : List PV) (st : St) (p c : Nat) (r : List Nat) (lc : Nat × Nat) (xs : List PV) : Prop where
 hlen : css.length <= 600
 ha : Al css
 lt : p < css.length
 drop : css.drop p = c :: r
 at_ : css[p]? = some c
 hlc : lc = f9 (css.take p)
 core : kD (LX css p lc a c) st.ρ
 cell : st.σ a = some (.lst xs)
 len : xs.length <= p
 run : xs ++ i9 (iL lc (c :: r)) = R
section
variable {css : List Nat} {a : Nat} {R : List PV} {st st' : St} {p c : Nat} {r : List Nat} {lc : Nat × Nat} {xs : List PV}
theorem y9 {x : List Nat} (n : Nat) (hd : css.drop p = x) : f9 (css.take (p + n)) = adv (f9 (css.take p)) (x.take n) := by
 unfold f9
 rw [List.take_add, fH, hd]
theorem Mid.rlen (m : Mid css a R st p c r lc xs) : r.length + 1 = css.length - p := by
 have := congrArg List.length m.drop
 rw [List.length_drop] at this
 exact this.symm
theorem Mid.few (m : Mid css a R st p c r lc xs) : xs.length < a0 := Nat.lt_of_le_of_lt m.len (Nat.lt_trans m.lt (Nat.lt_of_le_of_lt m.hlen (by decide)))
theorem Mid.lt2 (m : Mid css a R st p c r lc xs) : css.length < 1000000 := Nat.lt_of_le_of_lt m.hlen (by decide)
theorem bH (m : Mid css a R st p c r lc xs) {t : Tk} {n : Nat} (hs : step c r = (t, n)) (hc : kD (LZ css (p + n) p lc.1 ((p : Int) - lc.2) a) st'.ρ)
  (hσ : st'.σ = a7 st.σ a (.lst (xs ++ [tkP lc t]))) : pN css a R p st' := by
 have hl := lQ c r
 have hrun := m.run
 rw [dQ] at hrun
 rw [hs] at hl hrun
 have hl : 1 <= n /\ n <= r.length + 1 := hl
 have hr := m.rlen
 have lt := m.lt
 refine ⟨css.length - (p + n), by omega, p + n, p, xs ++ [tkP lc t], rfl, by omega, by omega, ?_, ?_, ?_, ?_⟩
 ·rw [<- m.hlc]; exact hc
 ·rw [hσ]; exact aS _ _ _
 ·have := m.len; rw [List.length_append]; show xs.length + 1 <= _; omega
 ·rw [<- hrun, y9 n m.drop, <- m.hlc, <- List.drop_drop, m.drop, List.append_assoc]; rfl
theorem uX (m : Mid css a R st p c r lc xs) {t : Tk} {n : Nat} (hs : step c r = (t, n)) (hn : n = r.length + 1) (hr : st'.ρ "root" = some (.ptr a)) (hσ : st'.σ = a7 st.σ a (.lst (xs ++ [tkP lc t]))) : zcy a R st' := by
 have hrun := m.run
 rw [dQ, hs] at hrun
 refine ⟨hr, ?_⟩
 rw [hσ, aS, <- hrun]
 show some (Cell.lst _) = some (.lst (xs ++ tkP lc t :: i9 (iL _ ((c :: r).drop n))))
 rw [List.drop_of_length_le (show (c :: r).length <= n by rw [hn]; exact Nat.le_refl _)]; rfl
end
section
variable {κ : Kn} {st : St} {css : List Nat} {i c : Nat} {p0 p1 p2 p3 p4 p5 p6 : Pos}
theorem zcb (k1 : κ "_is_ident_start" = some .globalImplicit) (k2 : κ "css" = some .local) (k3 : κ "pos" = some .local) (h1 : st.ρ "css" = some (.str css)) (h2 : st.ρ "pos" = some (.int i)) (hx : css.length < 1000000) (ha : Al css) (hc : css[i]? = some c) :
  ev cP κ (.Call (.Name (Str.ofString "_is_ident_start") p1) [.Name (Str.ofString "css") p2, .Name (Str.ofString "pos") p3] [] p4) st (.bool (aK (css.drop i))) :=
 bM (F := zdF) a4 k1 rfl (aB a4 (aN k2 h1) (aB a4 (aN k3 h2) aH)) ⟨css, i, c, rfl, hx, ha, hc, .inl rfl, rfl⟩
theorem zaD (k1 : κ "_consume_ident" = some .globalImplicit) (k2 : κ "css" = some .local) (k3 : κ "pos" = some .local) (h1 : st.ρ "css" = some (.str css)) (h2 : st.ρ "pos" = some (.int i)) (hx : css.length < 1000000) (ha : Al css) (hi : i <= css.length) :
  ev cP κ (.Call (.Name (Str.ofString "_consume_ident") p1) [.Name (Str.ofString "css") p2, .Name (Str.ofString "pos") p3] [] p4) st (.tup [.str (aW (css.drop i)).1, .int (i + (aW (css.drop i)).2 : Nat)]) :=
 bM (F := zdG) a4 k1 rfl (aB a4 (aN k2 h1) (aB a4 (aN k3 h2) aH)) ⟨css, i, rfl, hx, ha, hi, .inl rfl, rfl⟩
theorem zaY (k1 : κ "_is_ident_start" = some .globalImplicit) (k2 : κ "css" = some .local) (k3 : κ "pos" = some .local) (k4 : κ "length" = some .local) (h1 : st.ρ "css" = some (.str css)) (h2 : st.ρ "pos" = some (.int i)) (h3 : st.ρ "length" = some (.int css.length)) (hx : css.length < 1000000) (ha : Al css) :
  tv cP κ (.BoolOp .And [.Compare (.Name (Str.ofString "pos") p5) [.Lt] [.Name (Str.ofString "length") p6] p0, .Call (.Name (Str.ofString "_is_ident_start") p1) [.Name (Str.ofString "css") p2, .Name (Str.ofString "pos") p3] [] p4] p) st (aK (css.drop i)) := by
 have e : aK (css.drop i) = (decide (i < css.length) && aK (css.drop i)) := by
  by_cases h : i < css.length
  ·rw [decide_eq_true h, Bool.true_and]
  ·rw [List.drop_of_length_le (Nat.le_of_not_lt h)]; exact (Bool.and_false _).symm
 rw [e]
 exact fM a4 (cJ a4 (t7 a4 (aN k3 h2) (aN k4 h3))) fun h => i0 (cJ a4 (zcb k1 k2 k3 h1 h2 hx ha (List.getElem?_eq_getElem (of_decide_eq_true h))))
end
section
variable {P : Params} {Q : Fl -> St -> Prop} {css : List Nat} {a : Nat} {R : List PV} {st st' : St} {p c : Nat} {r : List Nat} {lc : Nat × Nat} {xs : List PV}
theorem gC {κ : Kn} {e : Expr} {p1 p2 p3 p4 : Pos} {Q : Fl -> St -> Prop} {st : St} (M : CtxMono cP) (v : PV) (hk : κ "tokens" = some .local) (hx : st.ρ "tokens" = some (.ptr a)) (hc : st.σ a = some (.lst xs)) (hl : xs.length < a0) (he : ev cP κ e st v)
  (hr : cU [e] = none) (k : Q .next ⟨st.ρ, a7 st.σ a (.lst (xs ++ [v]))⟩) :
  wS cP κ (.Expr (.Call (.Attribute (.Name (Str.ofString "tokens") p1) (Str.ofString "append") p2) [e] [] p3) p4) Q st :=
 gE M v hk hx hc he hr hl k
theorem brA (m : Mid css a R st p c r lc xs) (hb : bE c = true) (hQ : ∀ st', pN css a R p st' -> Q .cont st') : wSs cP (knP P) (br1 P 0) Q st := by
 have M := a4
 obtain ⟨ρ, σ⟩ := st
 obtain ⟨hlen, ha, hlt, hd, hat, hlc, hco, hcell, hxl, hrun⟩ := id m
 have hrl := m.rlen
 have few := m.few
 have hx2 := m.lt2
 have hd1 : css.drop (p + 1) = r := by rw [<- List.drop_drop, hd]; rfl
 clear hrun hlc hxl hlen
 rw [show ρ = aV (LX css p lc a c) ρ from aP _ hco]
 clear hco
 conv in (br1 _ _) => whnf
 unfold knP
 have hbl : p + 1 + bQ r <= css.length := eD hlt (hd1 ▸ j3 r)
 have hs : step c r = (.ws (c :: r.take (bQ r)), 1 + bQ r) := by unfold step; rw [if_pos hb]
 refine aA (dP M (.int p) (.int 1) (by walk_at "up") (aC rfl) (by kernel_rfl) (of_eq cM ?_))
 refine aA (zY (x := css) (e := p + 1) M (by kernel_rfl) (by kernel_rfl) (by rw [Ne, sEq]; decide) (by walk_at "up") (by walk_at "up") hx2 hlt ?_)
 rw [hd1]
 have hsl : (css.drop p).take (p + 1 + bQ r - p) = c :: r.take (bQ r) := by rw [hd, Nat.add_assoc, Nat.add_sub_cancel_left, Nat.add_comm]; rfl
 refine aA (aL M (.str (c :: r.take (bQ r))) (hsl ▸ zaC M (by walk_at "nm") (by walk_at "nm") (by walk_at "nm") (Nat.le_trans (Nat.le_succ p) (Nat.le_add_right _ _)) (Nat.lt_of_le_of_lt hbl (Nat.lt_trans hx2 (by decide)))) (by kernel_rfl) ?_)
 refine aA (gC M (tkP lc (.ws (c :: r.take (bQ r)))) (by kernel_rfl) (by walk_at "up") hcell few (dG (F := zaV) M (by kernel_rfl!) rfl rfl (aB M (v := .int lc.1) (by walk_at "nm") (aB M (v := .int lc.2) (by walk_at "nm") (aB M (v := .str (c :: r.take (bQ r))) (by walk_at "nm") aH))) ⟨_, _, _, rfl, rfl⟩) rfl ?_)
 exact aA (gX (hQ _ (bH m hs (by walk_at "core") rfl)))
theorem brC (m : Mid css a R st p c r lc xs) (hs : step c r = (.lit [45, 45, 62], 3)) (hQ : ∀ st', pN css a R p st' -> Q .cont st') : wSs cP (knP P) (br1 P 2) Q st := by
 have M := a4
 obtain ⟨ρ, σ⟩ := st
 obtain ⟨hlen, ha, hlt, hd, hat, hlc, hco, hcell, hxl, hrun⟩ := id m
 have hrl := m.rlen
 have few := m.few
 have hx2 := m.lt2
 have hd1 : css.drop (p + 1) = r := by rw [<- List.drop_drop, hd]; rfl
 clear hrun hlc hxl hlen
 rw [show ρ = aV (LX css p lc a c) ρ from aP _ hco]
 clear hco
 conv in (br1 _ _) => whnf
 unfold knP
 refine aA (gC M (tkP lc (.lit [45, 45, 62])) (by kernel_rfl) (by walk_at "up") hcell few (dG (F := iF) M (by kernel_rfl!) rfl rfl (aB M (v := .int lc.1) (by walk_at "nm") (aB M (v := .int lc.2) (by walk_at "nm") (aB M (aC rfl) aH))) ⟨_, _, _, rfl, rfl⟩) rfl ?_)
 refine aA (dP M (.int p) (.int 3) (by walk_at "up") (aC rfl) (by kernel_rfl) (of_eq cM ?_))
 exact aA (gX (hQ _ (bH m hs (by walk_at "core") rfl)))
theorem brId (m : Mid css a R st p c r lc xs) (hs : step c r = (.ident (aW (c :: r)).1, (aW (c :: r)).2)) (hQ : ∀ st', pN css a R p st' -> Q .cont st') : wSs cP (knP P) (br1 P 3) Q st := by
 have M := a4
 obtain ⟨ρ, σ⟩ := st
 obtain ⟨hlen, ha, hlt, hd, hat, hlc, hco, hcell, hxl, hrun⟩ := id m
 have hrl := m.rlen
 have few := m.few
 have hx2 := m.lt2
 have hd1 : css.drop (p + 1) = r := by rw [<- List.drop_drop, hd]; rfl
 clear hrun hlc hxl hlen
 rw [show ρ = aV (LX css p lc a c) ρ from aP _ hco]
 clear hco
 conv in (br1 _ _) => whnf
 unfold knP
 have hnl : p + (aW (css.drop p)).2 <= css.length := eD (Nat.le_of_lt hlt) (eA _)
 have hvl : (aW (css.drop p)).1.length < 1000000 := Nat.lt_of_le_of_lt (Nat.le_trans (jE _) (Nat.le_trans (Nat.le_add_left _ p) hnl)) hx2
 rw [<- hd] at hs
 refine aA (cX M (.str (aW (css.drop p)).1) (.int (p + (aW (css.drop p)).2 : Nat)) (zaD (by kernel_rfl!) (by kernel_rfl!) (by kernel_rfl!) (by kernel_rfl!) (by kernel_rfl!) hx2 ha (Nat.le_of_lt hlt)) (by kernel_rfl) (by kernel_rfl) ?_)
 refine aA (cK M true (uW (c := false) M (cJ M (k8 M (by walk_at "nm") (by walk_at "nm") hnl (Nat.lt_trans hx2 (by decide)) rfl ha (k := 40) (by kernel_rfl) (by decide)))) (fun _ => ?_) (fun h => by cases h))
 refine aA (gC M (tkP lc (.ident (aW (css.drop p)).1)) (by kernel_rfl) (by walk_at "up") hcell few (dG (F := iX) M (by kernel_rfl!) rfl rfl (aB M (v := .int lc.1) (by walk_at "nm") (aB M (v := .int lc.2) (by walk_at "nm") (aB M (v := .str (aW (css.drop p)).1) (by walk_at "nm") aH))) ⟨_, _, _, rfl, hvl, rfl⟩) rfl ?_)
 exact aA (gX (hQ _ (bH m hs (by walk_at "core") rfl)))
end
theorem wR {c : Nat} (h : dN c = true) : (decide (c ∈ (Str.ofString "0123456789abcdefghijklmnopqrstuvwxyz-_ABCDEFGHIJKLMNOPQRSTUVWXYZ").cps.toList) || (decide (127 < c) || false)) = a8 c :=
 fG (f := fun c => decide (c ∈ (Str.ofString "0123456789abcdefghijklmnopqrstuvwxyz-_ABCDEFGHIJKLMNOPQRSTUVWXYZ").cps.toList) || (decide (127 < c) || false)) (by decide +kernel) h
theorem o9 (x : List Nat) : ∀ (n i : Nat), i + n = x.length + 1 -> jP x [42, 47] i n = (yI (x.drop i)).elim (-1) fun k => ((i + k : Nat) : Int)
 | 0, i, h => by rw [List.drop_of_length_le ((show i = x.length + 1 from h) ▸ Nat.le_succ _)]; rfl
 | n + 1, i, h => by
  unfold jP
  by_cases hl : i < x.length
  ·rw [o9 x n (i + 1) (by rw [<- h, Nat.add_assoc, Nat.add_comm 1]), List.drop_eq_getElem_cons hl]
   conv => rhs; unfold yI
   split
   ·rfl
   ·cases yI (x.drop (i + 1)) with
    | none => rfl
    | some k => exact congrArg Int.ofNat ((Nat.add_right_comm i 1 k).trans rfl)
  ·rw [List.drop_of_length_le (Nat.le_of_not_lt hl), if_neg (by decide), o9 x n (i + 1) (by rw [<- h, Nat.add_assoc, Nat.add_comm 1]), List.drop_of_length_le (Nat.le_trans (Nat.le_of_not_lt hl) (Nat.le_succ i))]; rfl
theorem zc5 (x : List Nat) (i : Nat) (h : i <= x.length) : xR x [42, 47] i = (yI (x.drop i)).elim (-1) fun k => ((i + k : Nat) : Int) := o9 x _ _ (Nat.add_sub_cancel' (Nat.le_trans h (Nat.le_succ _)))
section
variable {P : Params} {Q : Fl -> St -> Prop} {css : List Nat} {a : Nat} {R : List PV} {st st' : St} {p c : Nat} {r : List Nat} {lc : Nat × Nat} {xs : List PV}
theorem brAt (m : Mid css a R st p c r lc xs) (hs : step c r = bT c r) (hc : c = 64) (hQ : ∀ st', pN css a R p st' -> Q .next st') : wSs cP (knP P) (br2 P 1) Q st := by
 have M := a4
 obtain ⟨ρ, σ⟩ := st
 obtain ⟨hlen, ha, hlt, hd, hat, hlc, hco, hcell, hxl, hrun⟩ := id m
 have hrl := m.rlen
 have few := m.few
 have hx2 := m.lt2
 have hd1 : css.drop (p + 1) = r := by rw [<- List.drop_drop, hd]; rfl
 clear hrun hlc hxl hlen
 rw [show ρ = aV (LX css p lc a c) ρ from aP _ hco]
 clear hco
 conv in (br2 _ _) => whnf
 unfold knP
 rw [show bT c r = bT c (css.drop (p + 1)) by rw [hd1], bT, if_pos hc] at hs
 clear hd hd1
 have hvl : (aW (css.drop (p + 1))).1.length < 1000000 := Nat.lt_of_le_of_lt (Nat.le_trans (jE _) (Nat.le_trans (Nat.le_add_left _ (p + 1)) (eD hlt (eA _)))) hx2
 refine aA (dP M (.int p) (.int 1) (by walk_at "up") (aC rfl) (by kernel_rfl) (of_eq cM ?_))
 refine aA (cK M (aK (css.drop (p + 1))) (zaY (by kernel_rfl!) (by kernel_rfl!) (by kernel_rfl!) (by kernel_rfl!) (by kernel_rfl!) (by kernel_rfl!) (by kernel_rfl!) hx2 ha) (fun h => ?_) (fun h => ?_))
 ·rw [if_pos h] at hs
  refine aA (cX M (.str (aW (css.drop (p + 1))).1) (.int (p + 1 + (aW (css.drop (p + 1))).2 : Nat)) (zaD (by kernel_rfl!) (by kernel_rfl!) (by kernel_rfl!) (by kernel_rfl!) (by kernel_rfl!) hx2 ha hlt) (by kernel_rfl) (by kernel_rfl) ?_)
  refine aA (gC M (tkP lc (.atk (aW (css.drop (p + 1))).1)) (by kernel_rfl) (by walk_at "up") hcell few (dG (F := zaW) M (by kernel_rfl!) rfl rfl (aB M (v := .int lc.1) (by walk_at "nm") (aB M (v := .int lc.2) (by walk_at "nm") (aB M (v := .str (aW (css.drop (p + 1))).1) (by walk_at "nm") aH))) ⟨_, _, _, rfl, hvl, rfl⟩) rfl ?_)
  exact hQ _ (bH m hs (by walk_at "core") rfl)
 ·rw [if_neg (by rw [h]; decide)] at hs
  refine aA (gC M (tkP lc (.lit [64])) (by kernel_rfl) (by walk_at "up") hcell few (dG (F := iF) M (by kernel_rfl!) rfl rfl (aB M (v := .int lc.1) (by walk_at "nm") (aB M (v := .int lc.2) (by walk_at "nm") (aB M (aC rfl) aH))) ⟨_, _, _, rfl, rfl⟩) rfl ?_)
  exact hQ _ (bH m hs (by walk_at "core") rfl)
theorem zdi (m : Mid css a R st p c r lc xs) (hs : step c r = bT c r) (hc : c = 35) (hQ : ∀ st', pN css a R p st' -> Q .next st') : wSs cP (knP P) (br2 P 2) Q st := by
 have M := a4
 obtain ⟨ρ, σ⟩ := st
 obtain ⟨hlen, ha, hlt, hd, hat, hlc, hco, hcell, hxl, hrun⟩ := id m
 have hrl := m.rlen
 have few := m.few
 have hx2 := m.lt2
 have hd1 : css.drop (p + 1) = r := by rw [<- List.drop_drop, hd]; rfl
 clear hrun hlc hxl hlen
 rw [show ρ = aV (LX css p lc a c) ρ from aP _ hco]
 clear hco
 conv in (br2 _ _) => whnf
 unfold knP
 rw [show bT c r = bT c (css.drop (p + 1)) by rw [hd1], bT, if_neg (by rw [hc]; decide), if_pos hc] at hs
 clear hd hd1
 refine aA (dP M (.int p) (.int 1) (by walk_at "up") (aC rfl) (by kernel_rfl) (of_eq cM ?_))
 have hok : xL (css.drop (p + 1)) = (decide (p + 1 < css.length) && (css[p + 1]?).any a8) := by
  rw [xL, dY]
  by_cases hq : p + 1 < css.length
  ·rw [decide_eq_true hq, Bool.true_and]
  ·rw [List.getElem?_eq_none (Nat.le_of_not_lt hq)]; exact (Bool.and_false _).symm
 refine aA (cK M (decide (p + 1 < css.length) && (css[p + 1]?).any a8) (fM M (cJ M (t7 M (by walk_at "nm") (by walk_at "nm"))) fun h1 => i0 ?_) (fun h => ?_) (fun h => ?_))
 ·have h1 := of_decide_eq_true h1
  have hg : css[p + 1]? = some css[p + 1] := List.getElem?_eq_getElem h1
  rw [hg, Option.any_some, <- wR (ha.get h1), <- Bool.and_false (decide (css[p + 1] = 92))]
  exact zbt M (cJ M (jQ M (gO M rfl (by walk_at "nm") (by walk_at "nm") hg))) fun _ => zbt M (cJ M (x0 M (by kernel_rfl!) rfl rfl (by kernel_rfl) (gO M rfl (by walk_at "nm") (by walk_at "nm") hg))) fun _ => i0 (fM M (cJ M (iD M (gO M rfl (by walk_at "nm") (by walk_at "nm") hg) (by kernel_rfl))) fun h => absurd (of_decide_eq_true h) (iQ (ha.get h1) 92 (by decide)))
 ·rw [if_pos (hok.trans h)] at hs
  have hl := of_decide_eq_true (Bool.and_eq_true_iff.mp h).1
  refine aA (aL M (.bool (aK (css.drop (p + 1)))) (zcb (by kernel_rfl!) (by kernel_rfl!) (by kernel_rfl!) (by kernel_rfl!) (by kernel_rfl!) hx2 ha (List.getElem?_eq_getElem hl)) (by kernel_rfl) ?_)
  refine aA (cX M (.str (aW (css.drop (p + 1))).1) (.int (p + 1 + (aW (css.drop (p + 1))).2 : Nat)) (zaD (by kernel_rfl!) (by kernel_rfl!) (by kernel_rfl!) (by kernel_rfl!) (by kernel_rfl!) hx2 ha hlt) (by kernel_rfl) (by kernel_rfl) ?_)
  refine aA (gC M (tkP lc (.hash (aW (css.drop (p + 1))).1 (aK (css.drop (p + 1))))) (by kernel_rfl) (by walk_at "up") hcell few (dG (F := mN) M (by kernel_rfl!) rfl rfl (aB M (v := .int lc.1) (by walk_at "nm") (aB M (v := .int lc.2) (by walk_at "nm") (aB M (v := .str (aW (css.drop (p + 1))).1) (by walk_at "nm") (aB M (v := .bool (aK (css.drop (p + 1)))) (by walk_at "nm") aH)))) ⟨_, _, _, _, rfl, rfl⟩) rfl ?_)
  exact hQ _ (bH m hs (by walk_at "core") rfl)
 ·rw [if_neg (by rw [hok, h]; decide)] at hs
  refine aA (gC M (tkP lc (.lit [35])) (by kernel_rfl) (by walk_at "up") hcell few (dG (F := iF) M (by kernel_rfl!) rfl rfl (aB M (v := .int lc.1) (by walk_at "nm") (aB M (v := .int lc.2) (by walk_at "nm") (aB M (aC rfl) aH))) ⟨_, _, _, rfl, rfl⟩) rfl ?_)
  exact hQ _ (bH m hs (by walk_at "core") rfl)
end
theorem zdd {κ : Kn} {st : St} {css : List Nat} {p : Nat} {p1 p2 p3 p4 p5 p6 p7 : Pos} {k k' : Nat} (hp : p + 2 <= css.length) (hx : css.length < 1000000) (k1 : κ "css" = some .local) (k2 : κ "pos" = some .local) (h1 : st.ρ "css" = some (.str css)) (h2 : st.ρ "pos" = some (.int p)) :
  ev cP κ (.Call (.Attribute (.Name (Str.ofString "css") p1) (Str.ofString "find") p2) [.Constant (.str (Str.ofString "*/")) k p3, .BinOp (.Name (Str.ofString "pos") p4) .Add (.Constant (.int 2) k' p5) p6] [] p7) st (.int ((yI (css.drop (p + 2))).elim (-1) fun k => ((p + 2 + k : Nat) : Int))) :=
 mG a4 (aN k1 h1) (aB a4 (aC rfl) (aB a4 (eO (i := p) (j := 2) a4 (aN k2 h2) (aC rfl)) aH)) rfl (by kernel_rfl) (by rw [tH]; exact ⟨Int.natCast_nonneg (p + 2), t4 (n := p + 2) (Nat.lt_of_le_of_lt hp (Nat.lt_trans hx (by decide))), congrArg PV.int (zc5 css (p + 2) hp), rfl⟩)
section
variable {P : Params} {Q : Fl -> St -> Prop} {css : List Nat} {a : Nat} {R : List PV} {st st' : St} {p c : Nat} {r : List Nat} {lc : Nat × Nat} {xs : List PV}
theorem zdX (m : Mid css a R st p c r lc xs) (hs : step c r = rZ (r.drop 1)) (h2 : 1 <= r.length) (hQ : ∀ st', pN css a R p st' -> Q .next st') (hB : ∀ st', zcy a R st' -> Q .brk st') : wSs cP (knP P) (br2 P 9) Q st := by
 have M := a4
 obtain ⟨ρ, σ⟩ := st
 obtain ⟨hlen, ha, hlt, hd, hat, hlc, hco, hcell, hxl, hrun⟩ := id m
 have hrl := m.rlen
 have few := m.few
 have hx2 := m.lt2
 have hd1 : css.drop (p + 1) = r := by rw [<- List.drop_drop, hd]; rfl
 clear hrun hlc hxl hlen
 rw [show ρ = aV (LX css p lc a c) ρ from aP _ hco]
 clear hco
 conv in (br2 _ _) => whnf
 unfold knP
 have hd2 : css.drop (p + 2) = r.drop 1 := by rw [<- hd1, List.drop_drop]
 have hp2 : p + 2 <= css.length := eD (Nat.le_of_lt hlt) (hd ▸ Nat.succ_le_succ h2)
 have he := fun {κ st p1 p2 p3 p4 p5 p6 p7 k k'} => @zdd κ st css p p1 p2 p3 p4 p5 p6 p7 k k' hp2 hx2
 rw [hd2] at he
 unfold rZ at hs
 clear hd hd1
 cases hk : yI (r.drop 1) with
 | none =>
  rw [hk] at hs he
  refine aA (aL M (.int (-1)) (he (by kernel_rfl!) (by kernel_rfl!) (by kernel_rfl!) (by kernel_rfl!)) (by kernel_rfl) ?_)
  refine aA (cK M true (cJ M (bL (a := .int (-1)) (b := .int (-1)) M (by walk_at "nm") (rR M (aC rfl)) rfl)) (fun _ => ?_) (fun h => by cases h))
  refine aA (cK M true (uW (c := false) M (cJ M (by walk_at "nm"))) (fun _ => ?_) (fun h => by cases h))
  refine aA (gC M (tkP lc (.com (r.drop 1))) (by kernel_rfl) (by walk_at "up") hcell few (dG (F := oB) M (by kernel_rfl!) rfl rfl (aB M (v := .int lc.1) (by walk_at "nm") (aB M (v := .int lc.2) (by walk_at "nm") (aB M (hd2 ▸ zcc (x := css) (i := p + 2) M (by walk_at "nm") (eO (i := p) (j := 2) M (by walk_at "nm") (aC rfl)) hp2 (Nat.lt_trans hx2 (by decide))) aH))) ⟨_, _, _, rfl, rfl⟩) rfl ?_)
  exact aA (v3 (hB _ (uX m hs (by rw [List.length_drop, Nat.add_comm, <- Nat.sub_add_comm h2]; rfl) (by walk_at "up") rfl)))
 | some k =>
  rw [hk] at hs he
  have hkl := pI hk
  have hk2 : p + 2 + k <= css.length := eD hp2 (hd2 ▸ Nat.le_trans (Nat.le_add_right k 2) hkl)
  refine aA (aL M (.int (p + 2 + k : Nat)) (he (by kernel_rfl!) (by kernel_rfl!) (by kernel_rfl!) (by kernel_rfl!)) (by kernel_rfl) ?_)
  refine aA (cK M false (cJ M (bL (a := .int (p + 2 + k : Nat)) (b := .int (-1)) M (by walk_at "nm") (rR M (aC rfl)) (decide_eq_false (by omega)))) (fun h => by cases h) (fun _ => ?_))
  refine aA (cK M true (uW (c := false) M (cJ M (by walk_at "nm"))) (fun _ => ?_) (fun h => by cases h))
  have hv : (css.drop (p + 2)).take (p + 2 + k - (p + 2)) = (r.drop 1).take k := by rw [hd2, Nat.add_sub_cancel_left]
  refine aA (gC M (tkP lc (.com ((r.drop 1).take k))) (by kernel_rfl) (by walk_at "up") hcell few (dG (F := oB) M (by kernel_rfl!) rfl rfl (aB M (v := .int lc.1) (by walk_at "nm") (aB M (v := .int lc.2) (by walk_at "nm") (aB M (hv ▸ zaC (x := css) (i := p + 2) (j := p + 2 + k) M (by walk_at "nm") (eO (i := p) (j := 2) M (by walk_at "nm") (aC rfl)) (by walk_at "nm") (Nat.le_add_right _ k) (Nat.lt_of_le_of_lt hk2 (Nat.lt_trans hx2 (by decide)))) aH))) ⟨_, _, _, rfl, rfl⟩) rfl ?_)
  refine aA (dP M (.int (p + 2 + k : Nat)) (.int 2) (by walk_at "up") (aC rfl) (by kernel_rfl) (of_eq cM ?_))
  exact hQ _ (bH m hs (by walk_at "core") rfl)
theorem zdV (m : Mid css a R st p c r lc xs) (hs : step c r = (.lit [c], 1)) (hQ : ∀ st', pN css a R p st' -> Q .next st') : wSs cP (knP P) (br2 P 12) Q st := by
 have M := a4
 obtain ⟨ρ, σ⟩ := st
 obtain ⟨hlen, ha, hlt, hd, hat, hlc, hco, hcell, hxl, hrun⟩ := id m
 have hrl := m.rlen
 have few := m.few
 have hx2 := m.lt2
 have hd1 : css.drop (p + 1) = r := by rw [<- List.drop_drop, hd]; rfl
 clear hrun hlc hxl hlen
 rw [show ρ = aV (LX css p lc a c) ρ from aP _ hco]
 clear hco
 conv in (br2 _ _) => whnf
 unfold knP
 refine aA (dP M (.int p) (.int 1) (by walk_at "up") (aC rfl) (by kernel_rfl) (of_eq cM ?_))
 refine aA (cK M false (cJ M (k8 M (by walk_at "nm") (by walk_at "nm") hlt (Nat.lt_trans hx2 (by decide)) rfl ha (k := 61) (by kernel_rfl) (by decide))) (fun h => by cases h) (fun h => ?_))
 refine aA (gC M (tkP lc (.lit [c])) (by kernel_rfl) (by walk_at "up") hcell few (dG (F := iF) M (by kernel_rfl!) rfl rfl (aB M (v := .int lc.1) (by walk_at "nm") (aB M (v := .int lc.2) (by walk_at "nm") (aB M (v := .str [c]) (by walk_at "nm") aH))) ⟨_, _, _, rfl, rfl⟩) rfl ?_)
 exact hQ _ (bH m hs (by walk_at "core") rfl)
theorem zdj (m : Mid css a R st p c r lc xs) (hs : step c r = (.lit [c], 1)) (hQ : ∀ st', pN css a R p st' -> Q .next st') : wSs cP (knP P) (br2 P 13) Q st := by
 have M := a4
 obtain ⟨ρ, σ⟩ := st
 obtain ⟨hlen, ha, hlt, hd, hat, hlc, hco, hcell, hxl, hrun⟩ := id m
 have hrl := m.rlen
 have few := m.few
 have hx2 := m.lt2
 have hd1 : css.drop (p + 1) = r := by rw [<- List.drop_drop, hd]; rfl
 clear hrun hlc hxl hlen
 rw [show ρ = aV (LX css p lc a c) ρ from aP _ hco]
 clear hco
 conv in (br2 _ _) => whnf
 unfold knP
 refine aA (gC M (tkP lc (.lit [c])) (by kernel_rfl) (by walk_at "up") hcell few (dG (F := iF) M (by kernel_rfl!) rfl rfl (aB M (v := .int lc.1) (by walk_at "nm") (aB M (v := .int lc.2) (by walk_at "nm") (aB M (v := .str [c]) (by walk_at "nm") aH))) ⟨_, _, _, rfl, rfl⟩) rfl ?_)
 refine aA (dP M (.int p) (.int 1) (by walk_at "up") (aC rfl) (by kernel_rfl) (of_eq cM ?_))
 exact hQ _ (bH m hs (by walk_at "core") rfl)
end
theorem wG : ∀ (x : List Nat) (a : Nat), (∀ c ∈ x, g8 c = true) -> ∃ n, fW a x = some n
 | [], a, _ => ⟨a, rfl⟩
 | c :: r, a, h => by
  have hc : (decide (48 <= c) && decide (c <= 57)) = true := h c List.mem_cons_self
  have hf : pA c = some (c - 48) := if_pos (by rw [<- decide_eq_true_iff (p := _ /\ _), Bool.decide_and]; exact hc)
  show ∃ n, (pA c).bind _ = some n
  rw [hf]
  exact wG r _ fun c hc => h c (List.mem_cons_of_mem _ hc)
theorem nC {x : List Nat} (h : ∀ c ∈ x, g8 c = true) : fW 0 x = some (iA x) := by
 obtain ⟨n, hn⟩ := wG x 0 h
 unfold iA; rw [hn]; rfl
theorem hX (x : List Nat) : ∀ c ∈ x.take (bX x), g8 c = true := fun c hc => by
 rw [bX, vC] at hc
 induction x with
 | nil => cases hc
 | cons a r ih =>
  rw [List.takeWhile_cons] at hc
  cases q : g8 a with
  | false => rw [q] at hc; cases hc
  | true =>
   rw [q] at hc
   exact (List.mem_cons.mp hc).elim (fun e => e ▸ q) ih
theorem zcZ {x : List Nat} {n : Nat} (h : iO x = some (n, true)) : ∃ c y, x.take n = c :: y /\ ((c = 45 /\ y ≠ [] /\ fW 0 y = some (iA y)) \/ (c = 43 /\ y ≠ [] /\ fW 0 y = some (iA y)) \/ (c ≠ 45 /\ c ≠ 43 /\ fW 0 (c :: y) = some (iA (c :: y)))) := by
 have hn : n = bX (x.drop (bF x)) + bF x /\ bX (x.drop (bF x)) ≠ 0 := by
  unfold iO zdw at h
  cases hf : c6 (x.drop (bX (x.drop (bF x)) + bF x)) with
  | some f => rw [hf] at h; cases h
  | none =>
   rw [hf, Option.elim_none] at h
   split at h
   ·cases h
   ·rename_i hd
    cases he : iS (x.drop (bX (x.drop (bF x)) + bF x)) with
    | some g => rw [he] at h; cases h
    | none => rw [he] at h; cases h; exact ⟨rfl, hd⟩
 obtain ⟨rfl, h0⟩ := hn
 cases x with
 | nil => exact absurd rfl h0
 | cons c r =>
  by_cases hs : c = 45 \/ c = 43
  ·have e : bF (c :: r) = 1 := if_pos (hs.imp (congrArg some) (congrArg some))
   rw [e] at h0 ⊢
   have e2 : (c :: r).drop 1 = r := rfl
   rw [e2] at h0 ⊢
   refine ⟨c, r.take (bX r), rfl, ?_⟩
   have hne : r.take (bX r) ≠ [] := fun q => by
    have q1 := congrArg List.length q
    rw [List.length_take] at q1
    have q2 := zch r
    simp only [List.length_nil] at q1; omega
   have hv := nC (hX r)
   rcases hs with q | q
   ·exact .inl ⟨q, hne, hv⟩
   ·exact .inr (.inl ⟨q, hne, hv⟩)
  ·have e : bF (c :: r) = 0 := if_neg fun q => hs (q.imp Option.some.inj Option.some.inj)
   rw [e] at h0 ⊢
   rw [List.drop_zero, Nat.add_zero] at *
   obtain ⟨k, hk⟩ : ∃ k, bX (c :: r) = k + 1 := ⟨bX (c :: r) - 1, by omega⟩
   have hv := nC (hX (c :: r))
   rw [hk, List.take_succ_cons] at *
   exact ⟨c, _, rfl, .inr (.inr ⟨fun q => hs (.inl q), fun q => hs (.inr q), hv⟩)⟩
theorem zb4 (iv : Option Int) : nR (m9 iv) = some iv.isSome := by cases iv <;> rfl
theorem zc0 {x : List Nat} {n : Nat} (h : iO x = some (n, true)) (hl : n <= 600) : zdx (x.take n) fun r => r = .int (oE (x.take n)) := by
 obtain ⟨c, y, e, hz⟩ := zcZ h
 have hy : y.length < 640 := by
  have h1 := congrArg List.length e
  have h2 : (x.take n).length <= n := List.length_take_le ..
  rw [h1] at h2
  exact Nat.lt_of_lt_of_le h2 (Nat.le_trans hl (by decide))
 rw [e]
 refine ⟨hy, ?_⟩
 rcases hz with ⟨rfl, h1, h2⟩ | ⟨rfl, h1, h2⟩ | ⟨h0, h0', h2⟩
 ·exact .inl ⟨rfl, h1, _, h2, rfl⟩
 ·exact .inr (.inl ⟨rfl, h1, _, h2, rfl⟩)
 ·exact .inr (.inr ⟨_, h2, by rw [oE, if_neg h0, if_neg h0']⟩)
section
variable {P : Params} {Q : Fl -> St -> Prop} {css : List Nat} {a : Nat} {R : List PV} {st st' : St} {p c : Nat} {r : List Nat} {lc : Nat × Nat} {xs : List PV}
theorem zdW {n : Nat} {b : Bool} (m : Mid css a R st p c r lc xs) (hn : iO (c :: r) = some (n, b)) (hs : step c r = eU (if b then some (oE ((c :: r).take n)) else none) ((c :: r).take n) ((c :: r).drop n))
  (vend : st.ρ "end" = some (.int ((p + n : Nat)))) (vpl : st.ρ "plain" = some (.bool b)) (hQ : ∀ st', pN css a R p st' -> Q .next st') : wSs cP (knP P) (br2 P 0) Q st := by
 have M := a4
 obtain ⟨ρ, σ⟩ := st
 obtain ⟨hlen, ha, hlt, hd, hat, hlc, hco, hcell, hxl, hrun⟩ := id m
 have hrl := m.rlen
 have few := m.few
 have hx2 := m.lt2
 have hd1 : css.drop (p + 1) = r := by rw [<- List.drop_drop, hd]; rfl
 clear hrun hlc hxl hlen
 rw [show ρ = aV (LX css p lc a c) ρ from aP _ hco]
 clear hco
 conv in (br2 _ _) => whnf
 unfold knP
 rw [show ρ = aV [("end", .int ((p + n : Nat))), ("plain", .bool b)] ρ from aP _ (aF vend (aF vpl rfl))]
 have hlen := m.hlen
 have hnl := (oT hn).2
 have hint : b = true -> zdx ((c :: r).take n) fun r' => r' = .int (oE ((c :: r).take n)) := fun e => zc0 (e ▸ hn) (Nat.le_trans hnl (Nat.le_trans (Nat.le_of_eq hrl) (Nat.le_trans (Nat.sub_le ..) hlen)))
 have hle : p + n <= css.length := eD (Nat.le_of_lt hlt) (hd ▸ hnl)
 have hrp : ((c :: r).take n).length = n := List.length_take_of_le hnl
 have htk : (css.drop p).take (p + n - p) = (c :: r).take n := by rw [hd, Nat.add_sub_cancel_left]
 rw [show (c :: r).drop n = css.drop (p + n) by rw [<- List.drop_drop, hd]] at hs
 clear hn hlen hnl hd hd1
 generalize (c :: r).take n = rp at hs hint hrp htk
 unfold eU at hs
 rw [hrp] at hs
 clear hrp
 refine aA (aL M (.int (p + n : Nat)) (by walk_at "nm") (by kernel_rfl) ?_)
 refine aA (aL M (.str rp) (htk ▸ zaC M (by walk_at "nm") (by walk_at "nm") (by walk_at "nm") (Nat.le_add_right p n) (Nat.lt_of_le_of_lt hle (Nat.lt_trans hx2 (by decide)))) (by kernel_rfl) ?_)
 refine aA (aL M (.str rp) (by walk_at "nm") (by kernel_rfl) ?_)
 generalize hI : (if b then some (oE rp) else none) = iv at hs
 refine aA (aL M (m9 iv) (eF (c := b) M (cJ M (by walk_at "nm")) (fun h => ?_) (fun h => ?_)) (by kernel_rfl) ?_)
 ·rw [<- hI, if_pos h]
  exact jR M (by kernel_rfl!) rfl rfl (by kernel_rfl) (aB M (v := .str rp) (by walk_at "nm") aH) (of_eq (B := zdx rp fun r => r = .int (oE rp)) (by kernel_rfl) (hint h))
 ·rw [<- hI, if_neg (by rw [h]; decide)]
  exact aC rfl
 clear hint hI htk
 refine aA (cK M (aK (css.drop (p + n))) (zaY (by kernel_rfl!) (by kernel_rfl!) (by kernel_rfl!) (by kernel_rfl!) (by kernel_rfl!) (by kernel_rfl!) (by kernel_rfl!) hx2 ha) (fun h => ?_) (fun h => ?_))
 ·rw [if_pos h] at hs
  have hvl : (aW (css.drop (p + n))).1.length < 1000000 := Nat.lt_of_le_of_lt (Nat.le_trans (jE _) (Nat.le_trans (Nat.le_add_left _ (p + n)) (eD hle (eA _)))) hx2
  refine aA (cX M (.str (aW (css.drop (p + n))).1) (.int (p + n + (aW (css.drop (p + n))).2 : Nat)) (zaD (by kernel_rfl!) (by kernel_rfl!) (by kernel_rfl!) (by kernel_rfl!) (by kernel_rfl!) hx2 ha hle) (by kernel_rfl) (by kernel_rfl) ?_)
  refine aA (gC M (tkP lc (.dim iv rp (aW (css.drop (p + n))).1)) (by kernel_rfl) (by walk_at "up") hcell few (dG (F := sI) M (by kernel_rfl!) rfl rfl (aB M (v := .int lc.1) (by walk_at "nm") (aB M (v := .int lc.2) (by walk_at "nm") (aB M (v := .str rp) (by walk_at "nm") (aB M (v := m9 iv) (by walk_at "nm") (aB M (v := .str rp) (by walk_at "nm") (aB M (v := .str (aW (css.drop (p + n))).1) (by walk_at "nm") aH)))))) ⟨_, _, _, _, _, _, iv.isSome, rfl, hvl, zb4 iv, rfl⟩) rfl ?_)
  exact hQ _ (bH m hs (by walk_at "core") rfl)
 rw [if_neg (by rw [h]; decide)] at hs
 refine aA (cK M ([37].isPrefixOf (css.drop (p + n))) (cJ M (zaB (q := Str.ofString "%") M (by walk_at "nm") (by walk_at "nm") hle (Nat.lt_trans hx2 (by decide)) rfl)) (fun h => ?_) (fun h => ?_))
 ·rw [if_pos h] at hs
  refine aA (dP M (.int (p + n : Nat)) (.int 1) (by walk_at "up") (aC rfl) (by kernel_rfl) (of_eq cM ?_))
  refine aA (gC M (tkP lc (.pct iv rp)) (by kernel_rfl) (by walk_at "up") hcell few (dG (F := sF) M (by kernel_rfl!) rfl rfl (aB M (v := .int lc.1) (by walk_at "nm") (aB M (v := .int lc.2) (by walk_at "nm") (aB M (v := .str rp) (by walk_at "nm") (aB M (v := m9 iv) (by walk_at "nm") (aB M (v := .str rp) (by walk_at "nm") aH))))) ⟨_, _, _, _, _, iv.isSome, rfl, zb4 iv, rfl⟩) rfl ?_)
  exact hQ _ (bH m hs (by walk_at "core") rfl)
 ·rw [if_neg (by rw [h]; decide)] at hs
  refine aA (gC M (tkP lc (.num iv rp)) (by kernel_rfl) (by walk_at "up") hcell few (dG (F := sH) M (by kernel_rfl!) rfl rfl (aB M (v := .int lc.1) (by walk_at "nm") (aB M (v := .int lc.2) (by walk_at "nm") (aB M (v := .str rp) (by walk_at "nm") (aB M (v := m9 iv) (by walk_at "nm") (aB M (v := .str rp) (by walk_at "nm") aH))))) ⟨_, _, _, _, _, iv.isSome, rfl, zb4 iv, rfl⟩) rfl ?_)
  exact hQ _ (bH m hs (by walk_at "core") rfl)
end
theorem za7 {c : Nat} (h : dN c = true) {S : List Nat} (hS : (alphaL.all fun c => decide (c ∈ S) == false) = true) : decide (c ∈ S) = false := fG (f := fun c => decide (c ∈ S)) (g := fun _ => false) hS h
theorem x3 {C : Ctx} {κ : Kn} {l : Expr} {q : Str} {k : Nat} {p p' : Pos} {st : St} {c d : Nat} (M : CtxMono C) (ha : dN c = true) (h : ev C κ l st (.str [c])) (hq : q.cps.toList = [d]) (hd : dN d = false) : ev C κ (.Compare l [.Eq] [.Constant (.str q) k p] p') st (.bool false) :=
 decide_eq_false (iQ ha d hd) ▸ iD M h hq
section
variable {P : Params} {Q : Fl -> St -> Prop} {css : List Nat} {a : Nat} {R : List PV} {st st' : St} {p c : Nat} {r : List Nat} {lc : Nat × Nat} {xs : List PV}
theorem zdh (m : Mid css a R st p c r lc xs) (hQ : ∀ st', pN css a R p st' -> Q .cont st')
  (hn : bE c = false -> [45, 45, 62].isPrefixOf (c :: r) = false -> aK (c :: r) = false -> Q .next st) :
  wS cP (knP P) (qX 5 (o5 P)) Q st := by
 have M := a4
 obtain ⟨ρ, σ⟩ := st
 obtain ⟨_, ha, hlt, hd, hat, _, hco, _, _, _⟩ := id m
 have hx2 := m.lt2
 have e : ρ = aV (LX css p lc a c) ρ := aP _ hco
 clear hco
 rw [e] at m hn ⊢
 clear e
 have hac := ha.at hat
 conv in (qX _ _) => whnf
 unfold knP
 refine cK M (bE c) (wT c ▸ cJ M (jQ M (by walk_at "nm"))) (fun h1 => brA (P := P) m h1 hQ) (fun h1 => ?_)
 refine aA (cK M (false && false) (fM M (cJ M (za7 hac (S := (Str.ofString "Uu").cps.toList) (by decide +kernel) ▸ jQ M (by walk_at "nm"))) fun h => by cases h) (fun h2 => by cases h2) (fun h2 => ?_))
 refine aA (cK M ([45, 45, 62].isPrefixOf (c :: r)) (hd ▸ cJ M (zaB (q := Str.ofString "-->") M (by walk_at "nm") (by walk_at "nm") (Nat.le_of_lt hlt) (Nat.lt_trans hx2 (by decide)) rfl)) (fun h3 => ?_) (fun h3 => ?_))
 ·exact brC (P := P) m (by unfold step; rw [if_neg (by rw [h1]; decide), if_pos h3]) hQ
 refine aA (cK M (aK (c :: r)) (hd ▸ cJ M (zcb (by kernel_rfl!) (by kernel_rfl!) (by kernel_rfl!) (by kernel_rfl!) (by kernel_rfl!) hx2 ha hat)) (fun h4 => ?_) (fun h4 => ?_))
 ·exact brId (P := P) m (by unfold step; rw [if_neg (by rw [h1]; decide), if_neg (by rw [h3]; decide), if_pos h4]) hQ
 ·exact hn h1 h3 h4
theorem zdf (m : Mid css a R st p c r lc xs) (hst : step c r = bT c r) (he : st.ρ "end" = some .none) (hQ : ∀ st', pN css a R p st' -> Q .next st') (hB : ∀ st', zcy a R st' -> Q .brk st') : wS cP (knP P) (qX 7 (o5 P)) Q st := by
 have M := a4
 obtain ⟨ρ, σ⟩ := st
 obtain ⟨_, ha, hlt, hd, hat, _, hco, _, _, _⟩ := id m
 have hx2 := Nat.lt_trans m.lt2 (by decide : 1000000 < 2000000)
 have e : ρ = aV (("end", .none) :: LX css p lc a c) ρ := aP _ (aF he hco)
 clear hco he
 rw [e] at m ⊢
 clear e
 have hac := ha.at hat
 conv in (qX _ _) => whnf
 unfold knP
 refine cK M false (cJ M (bL (a := .none) (b := .none) M (by walk_at "nm") (aC rfl) rfl)) (fun h => by cases h) (fun _ => ?_)
 refine aA (cK M (decide (c = 64)) (cJ M (iD M (by walk_at "nm") (by kernel_rfl))) (fun g => brAt (P := P) m hst (of_decide_eq_true g) hQ) (fun g => ?_))
 refine aA (cK M (decide (c = 35)) (cJ M (iD M (by walk_at "nm") (by kernel_rfl))) (fun g' => zdi (P := P) m hst (of_decide_eq_true g') hQ) (fun g' => ?_))
 rw [bT, if_neg (of_decide_eq_false g), if_neg (of_decide_eq_false g')] at hst
 clear g g'
 refine aA (cK M false (cJ M (x3 (d := 123) M hac (by walk_at "nm") (by kernel_rfl) (by decide))) (fun g => by cases g) (fun _ => ?_))
 refine aA (cK M false (cJ M (x3 (d := 91) M hac (by walk_at "nm") (by kernel_rfl) (by decide))) (fun g => by cases g) (fun _ => ?_))
 refine aA (cK M false (cJ M (x3 (d := 40) M hac (by walk_at "nm") (by kernel_rfl) (by decide))) (fun g => by cases g) (fun _ => ?_))
 refine aA (cK M false (cJ M (bL (a := .str [c]) (b := .none) M (by walk_at "nm") (by walk_at "nm") rfl)) (fun g => by cases g) (fun _ => ?_))
 refine aA (cK M false (cJ M (za7 hac (S := (Str.ofString "}])").cps.toList) (by decide +kernel) ▸ jQ M (by walk_at "nm"))) (fun g => by cases g) (fun _ => ?_))
 refine aA (cK M false (cJ M (bL (a := .str [c]) M (by walk_at "nm") (b8 M (aB M (aC rfl) (aB M (aC rfl) aH))) ⟨[[34], [39]], by decide +kernel, fG (f := fun c => decide ([c] ∈ ([[34], [39]] : List (List Nat)))) (g := fun _ => false) (by decide +kernel) hac⟩)) (fun g => by cases g) (fun _ => ?_))
 refine aA (cK M ([47, 42].isPrefixOf (c :: r)) (hd ▸ cJ M (zaB (q := Str.ofString "/*") M (by walk_at "nm") (by walk_at "nm") (Nat.le_of_lt hlt) hx2 rfl)) (fun g => ?_) (fun g => ?_))
 ·rw [if_pos g] at hst
  exact zdX (P := P) m hst (Nat.le_of_succ_le_succ (show 2 <= r.length + 1 from qS g)) hQ hB
 rw [if_neg (by rw [g]; decide)] at hst
 clear g
 refine aA (cK M false (cJ M (k8 M (by walk_at "nm") (by walk_at "nm") (Nat.le_of_lt hlt) hx2 rfl ha (k := 60) (by kernel_rfl) (by decide))) (fun g => by cases g) (fun _ => ?_))
 refine aA (cK M false (cJ M (k8 M (by walk_at "nm") (by walk_at "nm") (Nat.le_of_lt hlt) hx2 rfl ha (k := 124) (by kernel_rfl) (by decide))) (fun g => by cases g) (fun _ => ?_))
 refine aA (cK M (decide (c ∈ (Str.ofString "~|^$*").cps.toList)) (cJ M (jQ M (by walk_at "nm"))) (fun g => ?_) (fun g => ?_))
 ·exact zdV (P := P) m hst hQ
 ·exact zdj (P := P) m hst hQ
theorem zdg (m : Mid css a R st p c r lc xs) (h1 : bE c = false) (h3 : [45, 45, 62].isPrefixOf (c :: r) = false) (h4 : aK (c :: r) = false) (hp : kD [("end", ((iO (c :: r)).elim .none fun e => .int (p + e.1 : Nat))), ("plain", ((iO (c :: r)).elim (.bool false) fun e => .bool e.2))] st.ρ)
  (hQ : ∀ st', pN css a R p st' -> Q .next st') (hB : ∀ st', zcy a R st' -> Q .brk st') : wS cP (knP P) (qX 7 (o5 P)) Q st := by
 have hst : step c r = (iO (c :: r)).elim (bT c r) fun e => eU (if e.2 then some (oE ((c :: r).take e.1)) else none) ((c :: r).take e.1) ((c :: r).drop e.1) := by
  unfold step; rw [if_neg (by rw [h1]; decide), if_neg (by rw [h3]; decide), if_neg (by rw [h4]; decide)]
 obtain ⟨hp, hp2⟩ := List.cons.inj hp
 have hp2 := (List.cons.inj hp2).1
 cases hn : iO (c :: r) with
 | none =>
  rw [hn] at hst hp
  exact zdf m hst hp hQ hB
 | some nb =>
  obtain ⟨n, b⟩ := nb
  rw [hn] at hst hp hp2
  have M := a4
  have br := @zdW P Q css a R st p c r lc xs n b m hn hst hp hp2 hQ
  obtain ⟨ρ, σ⟩ := st
  have e : ρ = aV [("end", .int (p + n : Nat))] ρ := aP _ (aF hp rfl)
  clear m hp hp2 hst
  rw [e] at br ⊢
  clear e
  conv in (qX _ _) => whnf
  exact cK M true (cJ M (bL (a := .int (p + n : Nat)) (b := .none) M (by walk_at "nm") (aC rfl) rfl)) (fun _ => br) (fun h => by cases h)
end
theorem mF {C : Ctx} {κ : Kn} {o : Expr} {p q : Str} {x : List Nat} {k1 k2 : Nat} {p1 p2 p3 p4 : Pos} {st : St} (M : CtxMono C) (h : ev C κ o st (.str x)) (hl : x.length <= 1000000) (hp : ∃ k r, p.cps.toList = k :: r /\ k ∉ x) (hq : q.cps.toList.length = 1) (hpq : p ≠ q) :
  ev C κ (.Call (.Attribute o (Str.ofString "replace") p1) [.Constant (.str p) k1 p2, .Constant (.str q) k2 p3] [] p4) st (.str x) :=
 ⟨rfl, aT (e := o) M h ⟨rfl, hl, hp, hq, hpq, rfl, rfl⟩⟩
theorem iP {x : List Nat} (h : Al x) {k : Nat} (hk : dN k = false) : k ∉ x := fun q => by rw [h k q] at hk; cases hk
theorem oW {σ : Nat -> Option Cell} {x : List Nat} {c : Nat} {i j : Int} {K : PV -> (Nat -> Option Cell) -> Prop} : fY σ "rfind" (.str x) [.str [c], .int i, .int j] K = okI i (okI j (K (.int (dR c x i.toNat j.toNat)) σ)) := by kernel_rfl
theorem oX {σ : Nat -> Option Cell} {x : List Nat} {c : Nat} {i j : Int} {K : PV -> (Nat -> Option Cell) -> Prop} : fY σ "count" (.str x) [.str [c], .int i, .int j] K = okI i (okI j (K (.int ((((x.take j.toNat).drop i.toNat).count c : Nat) : Int)) σ)) := by kernel_rfl
section
variable {P : Params} {Q : Fl -> St -> Prop} {css : List Nat} {R : List PV} {st st' : St} {p t a : Nat} {xs : List PV}
theorem uY (hlen : css.length <= 600) (ha : Al css) (htp : t <= p) (hlt : p < css.length) (hcore : kD (LZ css p t (f9 (css.take t)).1 ((t : Int) - (f9 (css.take t)).2) a) st.ρ) (hcell : st.σ a = some (.lst xs)) (hxl : xs.length <= p)
  (hrun : xs ++ i9 (iL (f9 (css.take p)) (css.drop p)) = R) (hN : ∀ st', pN css a R p st' -> Q .next st') (hC : ∀ st', pN css a R p st' -> Q .cont st') (hB : ∀ st', zcy a R st' -> Q .brk st') :
  wSs cP (knP P) (o5 P) Q st := by
 have M := a4
 have hx2 : css.length < 1000000 := Nat.lt_of_le_of_lt hlen (by decide)
 have lt62 : ∀ {i}, i <= css.length -> i < 2000000 := fun h => Nat.lt_of_le_of_lt h (Nat.lt_trans hx2 (by decide))
 obtain ⟨ρ, σ⟩ := st
 rw [show ρ = aV (LZ css p t (f9 (css.take t)).1 ((t : Int) - (f9 (css.take t)).2) a) ρ from aP _ hcore]
 clear hcore
 have hg : css[p]? = some css[p] := List.getElem?_eq_getElem hlt
 have hd : css.drop p = css[p] :: css.drop (p + 1) := List.drop_eq_getElem_cons hlt
 have hnl := q0 (css := css) (t := t) (p - t) (by rw [Nat.add_sub_cancel' htp]; exact Nat.le_of_lt hlt)
 rw [Nat.add_sub_cancel' htp] at hnl
 generalize f9 (css.take t) = lt at hnl ⊢
 generalize hLp : f9 (css.take p) = lp at hrun hnl
 conv in (o5 _) => whnf
 unfold knP
 refine aA (aL M (.int (dR 10 css t p)) (mG M (by walk_at "nm") (aB M (v := .str [10]) (aC rfl) (aB M (v := .int t) (by walk_at "nm") (aB M (v := .int p) (by walk_at "nm") aH))) rfl (by kernel_rfl) (of_eq oW ⟨Int.natCast_nonneg t, t4 (lt62 (Nat.le_trans htp (Nat.le_of_lt hlt))), Int.natCast_nonneg p, t4 (lt62 (Nat.le_of_lt hlt)), rfl, rfl⟩)) (by kernel_rfl) ?_)
 refine eS M (fun st1 => st1.σ = σ /\ kD (LZ css p t lp.1 ((p : Int) - lp.2) a) st1.ρ)
  (cK M (!decide (dR 10 css t p = -1)) (cJ M (bL (a := .int (dR 10 css t p)) (b := .int (-1)) M (by walk_at "nm") (rR M (aC rfl)) rfl)) (fun h => ?_) (fun h => ?_)) ?_
 ·rcases hnl with ⟨h1, _⟩ | ⟨k, h1, h2, h3⟩
  ·rw [h1] at h; cases h
  ·have hk : k <= css.length := Nat.le_trans (h3 ▸ Nat.le_add_right k lp.2) (Nat.le_of_lt hlt)
   rw [h1, h2, show (p : Int) - lp.2 = k by rw [<- h3]; show ((k : Int) + (lp.2 : Int)) - lp.2 = k; exact Int.add_sub_cancel _ _]
   refine aA (dP M (.int lt.1) (.int (1 + (((css.take k).drop t).count 10 : Nat))) (by walk_at "up") (eO (i := 1) M (aC rfl) (mG M (by walk_at "nm") (aB M (v := .str [10]) (aC rfl) (aB M (v := .int t) (by walk_at "nm") (aB M (v := .int k) (by walk_at "nm") aH))) rfl (by kernel_rfl) (of_eq oX ⟨Int.natCast_nonneg t, t4 (lt62 (Nat.le_trans htp (Nat.le_of_lt hlt))), Int.natCast_nonneg k, t4 (lt62 hk), rfl, rfl⟩))) (by kernel_rfl) (of_eq cM ?_))
   exact aA (aL M (.int k) (by walk_at "nm") (by kernel_rfl) ⟨rfl, by walk_at "core"⟩)
 ·rcases hnl with ⟨h1, h2, h3⟩ | ⟨k, h1, h2, h3⟩
  ·rw [h2, h3, show (p : Int) - ((lt.2 + (p - t) : Nat) : Int) = (t : Int) - lt.2 by omega]
   exact ⟨rfl, by walk_at "core"⟩
  ·rw [h1] at h; cases h
 ·clear hnl
  rintro ⟨ρ1, σ1⟩ ⟨hσ, hco⟩
  cases hσ
  rw [show ρ1 = aV (LZ css p t lp.1 ((p : Int) - lp.2) a) ρ1 from aP _ hco]
  clear hco
  refine aA (aL M (.int ((p : Int) - ((p : Int) - lp.2))) (xV (i := p) (j := (p : Int) - lp.2) M (by walk_at "nm") (by walk_at "nm")) (by kernel_rfl) ?_)
  rw [show (p : Int) - ((p : Int) - lp.2) = lp.2 from Int.sub_sub_self _ _]
  refine aA (aL M (.int p) (by walk_at "nm") (by kernel_rfl) ?_)
  refine aA (aL M (.str [css[p]]) (gO M rfl (by walk_at "nm") (by walk_at "nm") hg) (by kernel_rfl) ?_)
  rw [hd] at hrun
  have mid : ∀ st2 : St, st2.σ = σ1 -> kD (LX css p lp a css[p]) st2.ρ -> Mid css a R st2 p css[p] (css.drop (p + 1)) lp xs :=
   fun st2 g1 g2 => ⟨hlen, ha, hlt, hd, hg, hLp.symm, g2, by rw [g1]; exact hcell, hxl, hrun⟩
  refine aA (zdh (P := P) (mid _ rfl (by walk_at "core")) (fun st' h => hC _ h) fun h1 h3 h4 => ?_)
  refine aA (cX M ((iO (css.drop p)).elim .none fun e => .int (p + e.1 : Nat)) ((iO (css.drop p)).elim (.bool false) fun e => .bool e.2) (bM (F := zaX) M (by kernel_rfl!) rfl (aB M (v := .str css) (by walk_at "nm") (aB M (v := .int p) (by walk_at "nm") aH)) ⟨css, p, rfl, hx2, ha, Nat.le_of_lt hlt, .inl rfl, ?_⟩) (by kernel_rfl) (by kernel_rfl) ?_)
  ·rw [zcN]
   cases iO (css.drop p) <;> rfl
  rw [hd]
  exact aA (zdg (P := P) (mid _ rfl (by walk_at "core")) h1 h3 h4 (by walk_at "core") (fun st' h => hN _ h) (fun st' h => hB _ h))
end
theorem tB (P : Params) (x : List Nat) (K : PV -> Prop) (hx : x.length <= 600) (ha : Al x) (hK : K (.list (i9 (iL (1, 1) x)))) :
  wSs cP (bV (aJ (HK P) 628)) (aQ (HK P) 628) (jA K) ⟨aV [("css", .str x), ("skip_comments", .bool false)] (fun _ => none), fun _ => none⟩ := by
 have M := a4
 conv in (aQ _ _) => whnf
 refine aA (aL M (.str x) ?_ (by kernel_rfl) ?_)
 ·have h6 : x.length <= 1000000 := Nat.le_trans hx (by decide)
  exact mF M (mF M (mF M (mF M (aN (by kernel_rfl!) (by kernel_rfl!)) h6 ⟨0, [], by kernel_rfl, iP ha (by decide)⟩ (by kernel_rfl) (by decide +kernel)) h6 ⟨13, [10], by kernel_rfl, iP ha (by decide)⟩ (by kernel_rfl) (by decide +kernel)) h6 ⟨13, [], by kernel_rfl, iP ha (by decide)⟩ (by kernel_rfl) (by decide +kernel)) h6 ⟨12, [], by kernel_rfl, iP ha (by decide)⟩ (by kernel_rfl) (by decide +kernel)
 refine aA (aL M (.int x.length) (nX M (by kernel_rfl!) rfl rfl (by kernel_rfl) (by walk_at "nm")) (by kernel_rfl) ?_)
 refine aA (lW M (.int ((0 : Nat) : Int)) (aC rfl) (by kernel_rfl) (by kernel_rfl) ?_)
 refine aA (aL M (.int ((1 : Nat) : Int)) (aC rfl) (by kernel_rfl) ?_)
 refine aA (aL M (.int (-1)) (rR M (aC rfl)) (by kernel_rfl) ?_)
 refine aA (zbH (by rfl) (by kernel_rfl) (by kernel_rfl) fun a hna => ?_)
 refine aA (aL M .none (aC rfl) (by kernel_rfl) ?_)
 refine aA (qM (by rfl) (by kernel_rfl) fun b hb => ?_)
 have hab : b ≠ a := fun q => by
  subst q
  dsimp only at hb
  rw [aS] at hb; cases hb
 refine eS M (fun st => zcy a (i9 (iL (1, 1) x)) st)
  (lU M (fun n st => Inv x a (i9 (iL (1, 1) x)) n st) ?_ (x.length - 0) _
   ⟨0, 0, [], rfl, Nat.le_refl _, Nat.zero_le _, by walk_at "core", ?_, Nat.le_refl _, rfl⟩) ?_
 ·rintro n ⟨ρ, σ⟩ ⟨p, t, xs, rfl, htp, hp, hcore, hcell, hxl, hrun⟩
  refine ⟨decide (p < x.length), ?_, fun hc => ?_, fun hc => ?_⟩
  ·rw [show ρ = aV _ ρ from aP _ hcore]
   exact cJ M (t7 M (by walk_at "nm") (by walk_at "nm"))
  ·exact uY (P := P) hx ha htp (of_decide_eq_true hc) hcore hcell hxl hrun (fun st' h => h) (fun st' h => h) (fun st' h => h)
  ·rw [List.drop_of_length_le (Nat.le_of_not_lt (of_decide_eq_false hc)), zZ, show i9 [] = [] from rfl, List.append_nil] at hrun
   rw [<- hrun]
   exact ⟨by rw [show ρ = aV _ ρ from aP _ hcore]; kernel_rfl!, hcell⟩
 ·dsimp only
  rw [zcB _ (Ne.symm hab), aS]
 ·rintro ⟨ρ, σ⟩ ⟨h1, h2⟩
  rw [show ρ = aV [("root", .ptr a)] ρ from aP _ (aF h1 rfl)]
  exact aA (aR M (.ptr a) (by walk_at "nm") ⟨.list (i9 (iL (1, 1) x)), .inr ⟨a, _, rfl, h2, z4 σ _⟩, hK⟩)
noncomputable def mO : Fn := fun ps K => ∃ x : List Nat, ps = [.str x] /\ x.length <= 600 /\ Al x /\ K (.list (i9 (iL (1, 1) x)))
theorem iH : bB mO := fun ps K K' h ⟨x, h1, h2, h3, h4⟩ => ⟨x, h1, h2, h3, h _ h4⟩
theorem zdT (hB : BsOk (bs w.params h mb)) (hmb : HMb mb) : CtxOk prog w (bs w.params h mb) cP 4 := by
 refine dH hmb r4 r3 (by simp) (fun e he => ?_) (fun e he => ?_) (by simp)
 ·simp only [cPf, List.mem_cons, List.not_mem_nil, or_false] at he
  rcases he with rfl | rfl | rfl
  ·exact ⟨.ref 642, by kernel_rfl, (zag hB hmb).le (by decide)⟩
  ·exact ⟨.ref 649, by kernel_rfl, (zah hB hmb).le (by decide)⟩
  ·exact ⟨.ref 613, by kernel_rfl, (wX hB hmb).le (by decide)⟩
 ·simp only [cPc, List.mem_cons, List.not_mem_nil, or_false] at he
  rcases he with rfl | rfl | rfl | rfl | rfl | rfl | rfl | rfl | rfl
  ·exact ⟨.ref 163, by kernel_rfl, (wV hB hmb).le (by decide)⟩
  ·exact ⟨.ref 206, by kernel_rfl, (tO hB hmb).le (by decide)⟩
  ·exact ⟨.ref 235, by kernel_rfl, (nH hB hmb).le (by decide)⟩
  ·exact ⟨.ref 479, by kernel_rfl, (tP hB hmb).le (by decide)⟩
  ·exact ⟨.ref 447, by kernel_rfl, (tL hB hmb).le (by decide)⟩
  ·exact ⟨.ref 415, by kernel_rfl, (tN hB hmb).le (by decide)⟩
  ·exact ⟨.ref 265, by kernel_rfl, (wW hB hmb).le (by decide)⟩
  ·exact ⟨.ref 295, by kernel_rfl, (oZ hB hmb).le (by decide)⟩
  ·exact ⟨.ref 134, by kernel_rfl, (tQ hB hmb).le (by decide)⟩
theorem o3 (hB : BsOk (bs w.params h mb)) (hmb : HMb mb) : Meets prog w (bs w.params h mb) 5 (.ref 628) mO := by
 refine bA (k := 1) (params := ["css", "skip_comments"]) (dv := [.bool false]) (dp := [.bool false]) hB (zdT hB hmb) (by kernel_rfl) (by kernel_rfl) (by kernel_rfl) rfl (fun _ => .one (by simp [VRel])) (fun S vals hl => ?_) fun ps K ⟨x, h1, h2, h3, h4⟩ => ?_
 ·obtain ⟨a, rfl⟩ := List.length_eq_one_iff.mp hl
  kernel_rfl
 ·subst h1
  exact ⟨rfl, tB _ x K h2 h3 h4⟩
inductive It where
 | num (p : List Nat) (iv : Option Int)
 | pct (p : List Nat) (iv : Option Int)
 | dim (p : List Nat) (iv : Option Int) (u : List Nat)
 | lit (c : Nat)
 | ws (c : Nat)
 | name (v : List Nat)
 | hash (v : List Nat) (b : Bool)
 | atk (v : List Nat)
 deriving DecidableEq, Inhabited
noncomputable def iB : It -> List Nat
 | .num _ _ => lcS "number"
 | .pct _ _ => lcS "percentage"
 | .dim _ _ _ => lcS "dimension"
 | .lit _ => lcS "literal"
 | .ws _ => lcS "whitespace"
 | .name _ => lcS "ident"
 | .hash _ _ => lcS "hash"
 | .atk _ => lcS "at-keyword"
noncomputable def aM : It -> List Nat
 | .num p _ => p
 | .pct p _ => p ++ [37]
 | .dim p _ u => p ++ u
 | .lit c => [c]
 | .ws c => [c]
 | .name v => v
 | .hash v _ => 35 :: v
 | .atk v => 64 :: v
noncomputable def mU (b : Bool) : List Nat := if b then lcS "yes" else lcS "no"
noncomputable def xI : It -> PV
 | .num p iv => .tup [m9 iv, .str p]
 | .pct p iv => .tup [m9 iv, .str p]
 | .dim p iv u => .tup [m9 iv, .str p, .str u]
 | .lit c => .str [c]
 | .ws c => .str [c]
 | .name v => .str v
 | .hash v b => .tup [.str v, .str (mU b)]
 | .atk v => .str v
noncomputable def itP (i : It) : PV := .tup [.str (iB i), .str (aM i), xI i]
noncomputable def mS : It -> Tk
 | .num p iv => .num iv p
 | .pct p iv => .pct iv p
 | .dim p iv u => .dim iv p u
 | .lit c => .lit [c]
 | .ws c => .ws [c]
 | .name v => .ident v
 | .hash v b => .hash v b
 | .atk v => .atk v
noncomputable def numbersT : List (List Nat × Option Int) := [([53], some 5), ([45, 48, 55], some (-7)), ([43, 46, 53], none), ([49, 46, 53, 48], none), ([50, 101, 51], none), ([43, 52, 69, 45, 49], none), ([46, 50, 53], none), ([43, 54, 48], some 60), ([45, 48, 46, 48, 101, 43, 48, 48], none)]
noncomputable def tailsT : List (List Nat) := [[], [37], [120], [], [101], [45, 121], [], [45, 45], [69, 45], [37], [233, 95]]
noncomputable def signsT : List It := [.lit 45, .lit 43, .lit 46, .lit 35, .lit 64, .lit 37, .lit 62, .ws 32, .lit 44, .name [120], .name [101], .name [45, 45], .name [45, 121], .hash [53] false, .hash [45] false, .hash [120, 57] true, .atk [120], .atk [45, 45], .name [45, 45, 122], .name [233], .ws 10, .hash [45, 45] true, .name [95, 101, 51]]
noncomputable def z9 (p : List Nat × Option Int) (t : List Nat) : It := if t = [] then .num p.1 p.2 else if t = [37] then .pct p.1 p.2 else .dim p.1 p.2 t
noncomputable def nM (n : Int) : It := if n % 2 = 1 then signsT.getD (n % 23).toNat default else z9 (numbersT.getD (n % 9).toNat default) (tailsT.getD (n % 11).toNat default)
noncomputable def allIt : List It := signsT ++ (numbersT.map fun p => tailsT.map fun t => z9 p t).flatten
theorem kU (n : Int) (k : Nat) (h : 0 < k) : (n % (k : Int)).toNat < k := (Int.toNat_lt (Int.emod_nonneg n (Int.ne_of_gt (Int.ofNat_lt.mpr h)))).mpr (Int.emod_lt_of_pos n (Int.ofNat_lt.mpr h))
theorem xH (n : Int) : nM n ∈ allIt := by
 unfold nM allIt
 have g : ∀ {α : Type} (l : List α) (d : α) (k : Nat), k < l.length -> l.getD k d ∈ l := fun l d k h => by rw [List.getD_eq_getElem?_getD, List.getElem?_eq_getElem h]; exact List.getElem_mem h
 have h23 : (n % 23).toNat < signsT.length := kU n 23 (by decide)
 have h9 : (n % 9).toNat < numbersT.length := kU n 9 (by decide)
 have h11 : (n % 11).toNat < tailsT.length := kU n 11 (by decide)
 split
 ·exact List.mem_append_left _ (g _ _ _ h23)
 ·exact List.mem_append_right _ (List.mem_flatten.mpr ⟨_, List.mem_map.mpr ⟨_, g numbersT _ _ h9, rfl⟩, List.mem_map.mpr ⟨_, g tailsT _ _ h11, rfl⟩⟩)
noncomputable def cN0 : Ctx := mkC [] [] false [] []
theorem fF : CtxMono cN0 := bO (by simp) (by simp)
noncomputable def e7 (v : PV) : Fn := fun ps K => ps = [] /\ K v
theorem iI (v : PV) : bB (e7 v) := fun ps K K' h ⟨h1, h2⟩ => ⟨h1, h _ h2⟩
noncomputable def d8 : PV := .list (numbersT.map fun e => .tup [.str e.1, m9 e.2])
noncomputable def i6 : PV := .list (tailsT.map fun e => .str e)
noncomputable def i7 : PV := .list (signsT.map itP)
theorem nB (p : Params) (K : PV -> Prop) (hK : K d8) : wSs cN0 (bV (aJ (HK p) 684)) (aQ (HK p) 684) (jA K) ⟨aV [] (fun _ => none), fun _ => none⟩ := by
 have M := fF
 conv in (aQ _ _) => whnf
 refine aA (aR M d8 (of_eq (B := d8 = d8 /\ (⟨aV [] (fun _ => none), fun _ => none⟩ : St) = ⟨aV [] (fun _ => none), fun _ => none⟩) (by kernel_rfl) ⟨rfl, rfl⟩) ⟨d8, a5 _ _ (by kernel_rfl), hK⟩)
theorem sN (p : Params) (K : PV -> Prop) (hK : K i6) : wSs cN0 (bV (aJ (HK p) 691)) (aQ (HK p) 691) (jA K) ⟨aV [] (fun _ => none), fun _ => none⟩ := by
 have M := fF
 conv in (aQ _ _) => whnf
 refine aA (aR M i6 (of_eq (B := i6 = i6 /\ (⟨aV [] (fun _ => none), fun _ => none⟩ : St) = ⟨aV [] (fun _ => none), fun _ => none⟩) (by kernel_rfl) ⟨rfl, rfl⟩) ⟨i6, a5 _ _ (by kernel_rfl), hK⟩)
theorem sV (p : Params) (K : PV -> Prop) (hK : K i7) : wSs cN0 (bV (aJ (HK p) 698)) (aQ (HK p) 698) (jA K) ⟨aV [] (fun _ => none), fun _ => none⟩ := by
 have M := fF
 conv in (aQ _ _) => whnf
 refine aA (aR M i7 (of_eq (B := i7 = i7 /\ (⟨aV [] (fun _ => none), fun _ => none⟩ : St) = ⟨aV [] (fun _ => none), fun _ => none⟩) (by kernel_rfl) ⟨rfl, rfl⟩) ⟨i7, a5 _ _ (by kernel_rfl), hK⟩)
section
theorem lF (hmb : HMb mb) : CtxOk prog w (bs w.params h mb) cN0 0 := dH hmb (by simp) (by simp) (by simp) (by simp) (by simp) (by simp)
theorem l6 (hB : BsOk (bs w.params h mb)) (hmb : HMb mb) : Meets prog w (bs w.params h mb) 1 (.ref 684) (e7 d8) := by
 refine bA (k := 0) (params := []) (dv := []) (dp := []) hB (lF hmb) (by kernel_rfl) (by kernel_rfl) (by kernel_rfl) rfl (fun _ => .nil) (fun S vals hl => ?_) fun ps K ⟨h1, h2⟩ => ?_
 ·rw [List.length_eq_zero_iff.mp hl]; kernel_rfl
 ·subst h1; exact ⟨rfl, nB _ K h2⟩
theorem o0 (hB : BsOk (bs w.params h mb)) (hmb : HMb mb) : Meets prog w (bs w.params h mb) 1 (.ref 691) (e7 i6) := by
 refine bA (k := 0) (params := []) (dv := []) (dp := []) hB (lF hmb) (by kernel_rfl) (by kernel_rfl) (by kernel_rfl) rfl (fun _ => .nil) (fun S vals hl => ?_) fun ps K ⟨h1, h2⟩ => ?_
 ·rw [List.length_eq_zero_iff.mp hl]; kernel_rfl
 ·subst h1; exact ⟨rfl, sN _ K h2⟩
theorem o1 (hB : BsOk (bs w.params h mb)) (hmb : HMb mb) : Meets prog w (bs w.params h mb) 1 (.ref 698) (e7 i7) := by
 refine bA (k := 0) (params := []) (dv := []) (dp := []) hB (lF hmb) (by kernel_rfl) (by kernel_rfl) (by kernel_rfl) rfl (fun _ => .nil) (fun S vals hl => ?_) fun ps K ⟨h1, h2⟩ => ?_
 ·rw [List.length_eq_zero_iff.mp hl]; kernel_rfl
 ·subst h1; exact ⟨rfl, sV _ K h2⟩
end
noncomputable def cN1 : Ctx := mkC [("_law_SIGNS", e7 i7), ("_law_NUMBERS", e7 d8), ("_law_TAILS", e7 i6)] [] false [] []
theorem iU : CtxMono cN1 := bO (by simp [iI]) (by simp)
theorem zaw {α β : Type} {l : List α} {f : α -> β} {i : Int} {d : α} (h0 : 0 <= i) (h : i.toNat < l.length) : mD (l.map f) i = some (f (l.getD i.toNat d)) := by
 unfold mD
 rw [if_neg (by omega), List.getElem?_map, List.getD_eq_getElem?_getD, List.getElem?_eq_getElem h]; rfl
theorem zb2 {α : Type} {l : List α} {f : α -> PV} {i : Int} {d : α} {K : PV -> Prop} (h0 : 0 <= i) (h : i.toNat < l.length) : zbc (.list (l.map f)) (.int i) K = K (f (l.getD i.toNat d)) := by
 show opt (mD (l.map f) i) K = _
 rw [zaw h0 h]; rfl
theorem qQ (σ : Nat -> Option Cell) (i : It) : Res σ (itP i) (itP i) := by
 cases i with
 | num p iv => cases iv <;> exact a5 _ _ rfl
 | pct p iv => cases iv <;> exact a5 _ _ rfl
 | dim p iv u => cases iv <;> exact a5 _ _ rfl
 | _ => exact a5 _ _ rfl
theorem wD {p : List Nat × Option Int} {t : List Nat} (hp : p ∈ numbersT) (ht : t ∈ tailsT) : p.1.length + t.length <= a0 :=
 Nat.le_trans (Nat.add_le_add (of_decide_eq_true (List.all_eq_true.mp (show (numbersT.all fun e => decide (e.1.length <= 10)) = true by decide +kernel) p hp)) (of_decide_eq_true (List.all_eq_true.mp (show (tailsT.all fun e => decide (e.length <= 10)) = true by decide +kernel) t ht))) (by decide)
theorem rH {α : Type} {l : List α} {d : α} {k : Nat} (h : k < l.length) : l.getD k d ∈ l := by rw [List.getD_eq_getElem?_getD, List.getElem?_eq_getElem h]; exact List.getElem_mem h
theorem x4 {C : Ctx} {κ : Kn} {l r : Expr} {p : Pos} {st : St} {x y : List Nat} (M : CtxMono C) (h : ev C κ l st (.str x)) (h' : ev C κ r st (.str y)) (hl : x.length + y.length <= a0) : ev C κ (.BinOp l .Add r p) st (.str (x ++ y)) :=
 aT (e := l) M h (aT (e := r) M h' ⟨hl, rfl, rfl⟩)
theorem pC {α : Type} {κ : Kn} {st : St} {f : String} {l : List α} {g : α -> PV} {d : α} {n : Int} {k i : Nat} {p1 p2 p3 p4 p5 p6 : Pos} (k1 : κ f = some .globalImplicit) (k2 : κ "n" = some .local) (hf : cN1.fn f = some (e7 (.list (l.map g)))) (hn : st.ρ "n" = some (.int n)) (hk : 0 < k) (hl : (n % (k : Int)).toNat < l.length) :
  ev cN1 κ (.Subscript (.Call (.Name (Str.ofString f) p1) [] [] p2) (.BinOp (.Name (Str.ofString "n") p3) .Mod (.Constant (.int k) i p4) p5) p6) st (g (l.getD (n % (k : Int)).toNat d)) :=
 gN iU rfl (bM iU k1 hf aH ⟨rfl, .inl rfl, rfl⟩) (xY iU (aN k2 hn) (aC rfl) (Int.ofNat_lt.mpr hk)) (of_eq (zb2 (Int.emod_nonneg n (Int.ne_of_gt (Int.ofNat_lt.mpr hk))) hl) rfl)
theorem xG (p : Params) (n : Int) (K : PV -> Prop) (hK : K (itP (nM n))) : wSs cN1 (bV (aJ (HK p) 705)) (aQ (HK p) 705) (jA K) ⟨aV [("n", .int n)] (fun _ => none), fun _ => none⟩ := by
 have M := iU
 conv in (aQ _ _) => whnf
 unfold nM at hK
 refine aA (cK M (decide (n % 2 = 1)) (cJ M (bL (a := .int (n % 2)) (b := .int 1) M (xY M (by walk_at "nm") (aC rfl) (by decide)) (aC rfl) rfl)) (fun h => ?_) (fun h => ?_))
 ·rw [if_pos (of_decide_eq_true h)] at hK
  exact aA (aR M _ (pC (l := signsT) (g := itP) (d := default) (k := 23) (by kernel_rfl!) (by kernel_rfl!) rfl (by walk_at "up") (by decide) (kU n 23 (by decide))) ⟨_, qQ _ _, hK⟩)
 rw [if_neg (of_decide_eq_false h)] at hK
 clear h
 have h9 : (n % 9).toNat < numbersT.length := kU n 9 (by decide)
 have h11 : (n % 11).toNat < tailsT.length := kU n 11 (by decide)
 have hs := wD (rH (d := default) h9) (rH (d := default) h11)
 refine aA (cX M (.str (numbersT.getD (n % 9).toNat default).1) (m9 (numbersT.getD (n % 9).toNat default).2) (pC (l := numbersT) (g := fun e => .tup [.str e.1, m9 e.2]) (d := default) (k := 9) (by kernel_rfl!) (by kernel_rfl!) rfl (by walk_at "up") (by decide) h9) (by kernel_rfl) (by kernel_rfl) ?_)
 refine aA (aL M (.str (tailsT.getD (n % 11).toNat default)) (pC (l := tailsT) (g := fun e => .str e) (d := default) (k := 11) (by kernel_rfl!) (by kernel_rfl!) rfl (by walk_at "up") (by decide) h11) (by kernel_rfl) ?_)
 clear h9 h11
 generalize numbersT.getD (n % 9).toNat default = e at hK hs
 generalize tailsT.getD (n % 11).toNat default = t at hK hs
 unfold z9 at hK
 refine aA (cK M (decide (t = [])) (cJ M (nY (q := "") M (by walk_at "nm"))) (fun h => ?_) (fun h => ?_))
 ·rw [if_pos (of_decide_eq_true h)] at hK
  exact aA (aR M (itP (.num e.1 e.2)) (b8 M (aB M (aC rfl) (aB M (by walk_at "nm") (aB M (b8 M (aB M (by walk_at "nm") (aB M (by walk_at "nm") aH))) aH)))) ⟨_, qQ _ _, hK⟩)
 rw [if_neg (of_decide_eq_false h)] at hK
 refine aA (cK M (decide (t = [37])) (cJ M (nY (q := "%") M (by walk_at "nm"))) (fun h => ?_) (fun h => ?_))
 ·have h := of_decide_eq_true h
  rw [if_pos h] at hK
  rw [h] at hs ⊢
  exact aA (aR M (itP (.pct e.1 e.2)) (b8 M (aB M (aC rfl) (aB M (x4 M (by walk_at "nm") (by walk_at "nm") hs) (aB M (b8 M (aB M (by walk_at "nm") (aB M (by walk_at "nm") aH))) aH)))) ⟨_, qQ _ _, hK⟩)
 rw [if_neg (of_decide_eq_false h)] at hK
 exact aA (aR M (itP (.dim e.1 e.2 t)) (b8 M (aB M (aC rfl) (aB M (x4 M (by walk_at "nm") (by walk_at "nm") hs) (aB M (b8 M (aB M (by walk_at "nm") (aB M (by walk_at "nm") (aB M (by walk_at "nm") aH)))) aH)))) ⟨_, qQ _ _, hK⟩)
noncomputable def sK : Fn := fun ps K => ∃ n : Int, ps = [.int n] /\ K (itP (nM n))
theorem kB : bB sK := fun ps K K' h ⟨n, h1, h2⟩ => ⟨n, h1, h _ h2⟩
theorem tT (hB : BsOk (bs w.params h mb)) (hmb : HMb mb) : Meets prog w (bs w.params h mb) 2 (.ref 705) sK := by
 have hC : CtxOk prog w (bs w.params h mb) cN1 1 := dH hmb (by simp [iI]) (by simp) (by simp) (fun e he => by
  simp only [List.mem_cons, List.not_mem_nil, or_false] at he
  rcases he with rfl | rfl | rfl
  ·exact ⟨.ref 698, by kernel_rfl, o1 hB hmb⟩
  ·exact ⟨.ref 684, by kernel_rfl, l6 hB hmb⟩
  ·exact ⟨.ref 691, by kernel_rfl, o0 hB hmb⟩) (by simp) (by simp)
 refine bA (k := 1) (params := ["n"]) (dv := []) (dp := []) hB hC (by kernel_rfl) (by kernel_rfl) (by kernel_rfl) rfl (fun _ => .nil) (fun S vals hl => ?_) fun ps K ⟨n, h1, h2⟩ => ?_
 ·obtain ⟨a, rfl⟩ := List.length_eq_one_iff.mp hl
  kernel_rfl
 ·subst h1
  exact ⟨rfl, xG _ n K h2⟩
noncomputable def mkF {D : Type} (A : D -> List PV) (P : D -> Prop) (R : D -> PV) : Fn := fun ps K => ∃ d, ps = A d /\ P d /\ K (R d)
theorem zac {D : Type} (A : D -> List PV) (P : D -> Prop) (R : D -> PV) : bB (mkF A P R) := fun ps K K' h x => by obtain ⟨d, h1, h2, h3⟩ := x; exact ⟨d, h1, h2, h _ h3⟩
theorem zdc {C : Ctx} {κ : Kn} {r : Expr} {q : String} {k : Nat} {p p' : Pos} {st : St} {x : List Nat} (M : CtxMono C) (h : ev C κ r st (.str x)) : ev C κ (.Compare (.Constant (.str (Str.ofString q)) k p) [.In] [r] p') st (.bool (kZ (lcS q) x)) := bL M (aC rfl) h rfl
theorem xW {C : Ctx} {κ : Kn} {r : Expr} {q : String} {k : Nat} {p p' : Pos} {st : St} {x : List Nat} (M : CtxMono C) (h : ev C κ r st (.str x)) : ev C κ (.Compare (.Constant (.str (Str.ofString q)) k p) [.NotIn] [r] p') st (.bool (!kZ (lcS q) x)) := bL M (aC rfl) h rfl
theorem t9 {C : Ctx} {κ : Kn} {o : Expr} {i : Int} {k : Nat} {p p' : Pos} {st : St} {xs : List PV} {v : PV} (M : CtxMono C) (h : ev C κ o st (.tup xs)) (hv : mD xs i = some v) : ev C κ (.Subscript o (.Constant (.int i) k p) p') st v :=
 gN M rfl h (aC rfl) (by show opt (mD xs i) _; rw [hv]; rfl)
noncomputable def uN (x : List Nat) : Bool := !decide (x = lcS "") && kZ x (lcS "0123456789")
noncomputable def zak (x : List Nat) : Bool := !decide (x = lcS "") && kZ x (lcS "exyzE_é")
noncomputable def iG (f : List Nat -> Bool) : Fn := fun ps K => one ps fun v => asS v fun x => K (.bool (f x))
theorem j8 (f : List Nat -> Bool) : bB (iG f) := fun ps K K' h => cG fun v => bR fun x => h _
theorem zay (p : Params) (x : List Nat) (K : PV -> Prop) (hK : K (.bool (uN x))) : wSs cN0 (bV (aJ (HK p) 712)) (aQ (HK p) 712) (jA K) ⟨aV [("c", .str x)] (fun _ => none), fun _ => none⟩ := by
 have M := fF
 conv in (aQ _ _) => whnf
 exact aA (aR M _ (dZ M (xX (q := "") (x := x) M (by walk_at "ex")) fun _ => b6 (bL (a := .str x) (b := .str (lcS "0123456789")) M (by walk_at "ex") (aC rfl) rfl)) ⟨_, bC _ _, hK⟩)
theorem zaj (p : Params) (x : List Nat) (K : PV -> Prop) (hK : K (.bool (zak x))) : wSs cN0 (bV (aJ (HK p) 719)) (aQ (HK p) 719) (jA K) ⟨aV [("c", .str x)] (fun _ => none), fun _ => none⟩ := by
 have M := fF
 conv in (aQ _ _) => whnf
 exact aA (aR M _ (dZ M (xX (q := "") (x := x) M (by walk_at "ex")) fun _ => b6 (bL (a := .str x) (b := .str (lcS "exyzE_é")) M (by walk_at "ex") (aC rfl) rfl)) ⟨_, bC _ _, hK⟩)
theorem u8 {f : List Nat -> Bool} {ps : List PV} {K : PV -> Prop} (h : iG f ps K) : ∃ x, ps = [.str x] /\ K (.bool (f x)) := by
 obtain ⟨v, rfl, h⟩ := dT h
 obtain ⟨x, rfl, h⟩ := c8 h
 exact ⟨x, rfl, h⟩
section
theorem w0 (hB : BsOk (bs w.params h mb)) (hmb : HMb mb) : Meets prog w (bs w.params h mb) 1 (.ref 712) (iG uN) := by
 refine bA (k := 1) (params := ["c"]) (dv := []) (dp := []) hB (lF hmb) (by kernel_rfl) (by kernel_rfl) (by kernel_rfl) rfl (fun _ => .nil) (fun S vals hl => ?_) fun ps K h => ?_
 ·obtain ⟨a, rfl⟩ := wC hl
  kernel_rfl
 ·obtain ⟨x, rfl, h⟩ := u8 h; exact ⟨rfl, zay _ x K h⟩
theorem wZ (hB : BsOk (bs w.params h mb)) (hmb : HMb mb) : Meets prog w (bs w.params h mb) 1 (.ref 719) (iG zak) := by
 refine bA (k := 1) (params := ["c"]) (dv := []) (dp := []) hB (lF hmb) (by kernel_rfl) (by kernel_rfl) (by kernel_rfl) rfl (fun _ => .nil) (fun S vals hl => ?_) fun ps K h => ?_
 ·obtain ⟨a, rfl⟩ := wC hl
  kernel_rfl
 ·obtain ⟨x, rfl, h⟩ := u8 h; exact ⟨rfl, zaj _ x K h⟩
end
noncomputable def cN2 : Ctx := mkC [("_law_figure", iG uN), ("_law_letter", iG zak)] [] false [] []
theorem dJ : CtxMono cN2 := bO (by simp [j8]) (by simp)
noncomputable def zdD (f s : List Nat) : Bool := zak f || (decide (f = lcS "-") && (decide (s = lcS "-") || zak s))
noncomputable def zdB (f : List Nat) : Bool := zak f || (uN f || decide (f = lcS "-"))
noncomputable def zdA (f s : List Nat) : Bool := uN f || (decide (f = lcS ".") && uN s)
noncomputable def zbR (tx : List Nat) (bg cr cu : Bool) (f : List Nat) : Bool :=
 if decide (tx = lcS "-") = true then cu || (zak f || decide (f = lcS "-"))
 else if decide (tx = lcS "+") = true then cu
 else if decide (tx = lcS ".") = true then uN f
 else if decide (tx = lcS "#") = true then cr
 else decide (tx = lcS "@") && bg
noncomputable def zbT (kd tx d1 d2 : List Nat) (bg cr cu : Bool) (f s kd2 : List Nat) : Bool :=
 if decide (kd = lcS "number") = true then uN f || (bg || (decide (f = lcS "%") || (cu && !(kZ (lcS ".") tx || (kZ (lcS "e") tx || kZ (lcS "E") tx)))))
 else if (decide (kd = lcS "dimension") && (decide (f = lcS "+") && uN s)) = true then decide (d2 = lcS "e") && (!kZ (lcS "e") d1 && !kZ (lcS "E") d1)
 else if decide (kd = lcS "whitespace") = true then decide (kd2 = lcS "whitespace")
 else if decide (kd = lcS "percentage") = true then false
 else if (!decide (kd = lcS "literal")) = true then cr || (decide (tx = lcS "--") && decide (f = lcS ">"))
 else zbR tx bg cr cu f
noncomputable def zbS (kd tx d1 d2 f s kd2 : List Nat) : Bool := zbT kd tx d1 d2 (zdD f s) (zdB f) (zdA f s) f s kd2
section
variable {κ : Kn} {st : St} {x : Str} {a : List Nat} {p q : Pos}
theorem zde (k1 : κ "_law_figure" = some .globalImplicit) (k2 : κ x = some .local) (h : st.ρ x = some (.str a)) : ev cN2 κ (.Call (.Name "_law_figure" q) [.Name x p] [] r) st (.bool (uN a)) := bM (F := iG uN) dJ k1 rfl (aB dJ (aN k2 h) aH) ⟨.inl rfl, rfl⟩
theorem zdb (k1 : κ "_law_letter" = some .globalImplicit) (k2 : κ x = some .local) (h : st.ρ x = some (.str a)) : ev cN2 κ (.Call (.Name "_law_letter" q) [.Name x p] [] r) st (.bool (zak a)) := bM (F := iG zak) dJ k1 rfl (aB dJ (aN k2 h) aH) ⟨.inl rfl, rfl⟩
end
local macro_rules | `(tactic| walk_at "fl") => `(tactic| first | exact zde (by kernel_rfl!) (by kernel_rfl!) (by kernel_rfl!) | exact zdb (by kernel_rfl!) (by kernel_rfl!) (by kernel_rfl!) | exact nY dJ (aN (by kernel_rfl!) (by kernel_rfl!)) | exact zdc dJ (aN (by kernel_rfl!) (by kernel_rfl!)) | exact aN (by kernel_rfl!) (by kernel_rfl!))
theorem tI (P : Params) {tx f : List Nat} {bg cr cu : Bool} {ρ : dD} {σ : Nat -> Option Cell} {K : PV -> Prop} (h : kD [("text", .str tx), ("first", .str f), ("begins", .bool bg), ("carries", .bool cr), ("counts", .bool cu)] ρ) (hK : K (.bool (zbR tx bg cr cu f))) :
  wSs cN2 (bV (aJ (HK P) 726)) ((aQ (HK P) 726).drop 11) (jA K) ⟨ρ, σ⟩ := by
 have M := dJ
 rw [show ρ = aV _ ρ from aP _ h]
 clear h
 conv in ((aQ _ _).drop _) => whnf
 unfold zbR at hK
 refine aA (cK M (decide (tx = lcS "-")) (cJ M (by walk_at "fl")) (fun h => ?_) (fun h => ?_))
 ·rw [h, if_pos rfl] at hK
  exact aA (aR M _ (eQ M (by walk_at "fl") fun _ => eQ M (by walk_at "fl") fun _ => b6 (by walk_at "fl")) ⟨_, bC _ _, hK⟩)
 rw [h, if_neg (by decide)] at hK
 refine aA (cK M (decide (tx = lcS "+")) (cJ M (by walk_at "fl")) (fun h => ?_) (fun h => ?_))
 ·rw [h, if_pos rfl] at hK
  exact aA (aR M _ (by walk_at "fl") ⟨_, bC _ _, hK⟩)
 rw [h, if_neg (by decide)] at hK
 refine aA (cK M (decide (tx = lcS ".")) (cJ M (by walk_at "fl")) (fun h => ?_) (fun h => ?_))
 ·rw [h, if_pos rfl] at hK
  exact aA (aR M _ (by walk_at "fl") ⟨_, bC _ _, hK⟩)
 rw [h, if_neg (by decide)] at hK
 refine aA (cK M (decide (tx = lcS "#")) (cJ M (by walk_at "fl")) (fun h => ?_) (fun h => ?_))
 ·rw [h, if_pos rfl] at hK
  exact aA (aR M _ (by walk_at "fl") ⟨_, bC _ _, hK⟩)
 rw [h, if_neg (by decide)] at hK
 exact aA (aR M _ (dZ M (by walk_at "fl") fun _ => b6 (by walk_at "fl")) ⟨_, bC _ _, hK⟩)
theorem tJ (P : Params) (kd tx d1 d2 : List Nat) (dt : PV) (kd2 x : List Nat) (dt2 : PV) (K : PV -> Prop) (hx : x ≠ []) (hdt : kd = lcS "dimension" -> ∃ v, dt = .tup [v, .str d1, .str d2])
  (hK : K (.bool (zbS kd tx d1 d2 (x.take 1) ((x.drop 1).take 1) kd2))) :
  wSs cN2 (bV (aJ (HK P) 726)) (aQ (HK P) 726) (jA K) ⟨aV [("one", .tup [.str kd, .str tx, dt]), ("two", .tup [.str kd2, .str x, dt2])] (fun _ => none), fun _ => none⟩ := by
 have M := dJ
 have tail := @tI P
 conv in (aQ _ _) => whnf
 obtain ⟨f0, s0, rfl⟩ : ∃ f s', x = f :: s' := by cases x with | nil => exact absurd rfl hx | cons f s' => exact ⟨f, s', rfl⟩
 refine aA (m6 M (.str kd) (.str tx) dt (by walk_at "nm") (by kernel_rfl) (by kernel_rfl) (by kernel_rfl) ?_)
 refine aA (aL M (.str [f0]) (gN (a := .str (f0 :: s0)) (b := .int 0) M rfl (t9 (xs := [.str kd2, .str (f0 :: s0), dt2]) M (by walk_at "nm") rfl) (aC rfl) rfl) (by kernel_rfl) ?_)
 refine aA (aL M (.str (s0.take 1)) (oN (f0 :: s0) 1 2 (by decide) ▸ nW (x := f0 :: s0) (i := 1) (j := 2) M (t9 (xs := [.str kd2, .str (f0 :: s0), dt2]) M (by walk_at "nm") rfl) (aC rfl) (aC rfl) (by decide)) (by kernel_rfl) ?_)
 unfold zbS at hK
 change K (.bool (zbT kd tx d1 d2 (zdD [f0] (s0.take 1)) (zdB [f0]) (zdA [f0] (s0.take 1)) [f0] (s0.take 1) kd2)) at hK
 generalize [f0] = f at hK
 generalize s0.take 1 = s at hK
 refine aA (aL M (.bool (zdD f s)) (eQ M (by walk_at "fl") fun _ => b6 (dZ M (by walk_at "fl") fun _ => b6 (eQ M (by walk_at "fl") fun _ => b6 (by walk_at "fl")))) (by kernel_rfl) ?_)
 refine aA (aL M (.bool (zdB f)) (eQ M (by walk_at "fl") fun _ => eQ M (by walk_at "fl") fun _ => b6 (by walk_at "fl")) (by kernel_rfl) ?_)
 refine aA (aL M (.bool (zdA f s)) (eQ M (by walk_at "fl") fun _ => b6 (dZ M (by walk_at "fl") fun _ => b6 (by walk_at "fl"))) (by kernel_rfl) ?_)
 generalize zdD f s = bg at hK
 generalize zdB f = cr at hK
 generalize zdA f s = cu at hK
 unfold zbT at hK
 refine aA (cK M (decide (kd = lcS "number")) (cJ M (by walk_at "fl")) (fun h => ?_) (fun h => ?_))
 ·rw [h, if_pos rfl] at hK
  refine aA (aL M (.bool (kZ (lcS ".") tx || (kZ (lcS "e") tx || kZ (lcS "E") tx))) (eQ M (by walk_at "fl") fun _ => eQ M (by walk_at "fl") fun _ => b6 (by walk_at "fl")) (by kernel_rfl) ?_)
  exact aA (aR M _ (eQ M (by walk_at "fl") fun _ => eQ M (by walk_at "fl") fun _ => eQ M (by walk_at "fl") fun _ => b6 (dZ M (by walk_at "fl") fun _ => b6 (zda M (by walk_at "fl")))) ⟨_, bC _ _, hK⟩)
 rw [h, if_neg (by decide)] at hK
 refine aA (cK M (decide (kd = lcS "dimension") && (decide (f = lcS "+") && uN s)) (fM M (cJ M (by walk_at "fl")) fun _ => fM M (cJ M (by walk_at "fl")) fun _ => i0 (cJ M (by walk_at "fl"))) (fun h => ?_) (fun h => ?_))
 ·rw [h, if_pos rfl] at hK
  obtain ⟨v, rfl⟩ := hdt (of_decide_eq_true (Bool.and_eq_true_iff.mp h).1)
  exact aA (aR M _ (dZ M (nY M (t9 (xs := [v, .str d1, .str d2]) M (by walk_at "nm") rfl)) fun _ => dZ M (xW M (t9 (xs := [v, .str d1, .str d2]) M (by walk_at "nm") rfl)) fun _ => b6 (xW M (t9 (xs := [v, .str d1, .str d2]) M (by walk_at "nm") rfl))) ⟨_, bC _ _, hK⟩)
 rw [h, if_neg (by decide)] at hK
 clear hdt
 refine aA (cK M (decide (kd = lcS "whitespace")) (cJ M (by walk_at "fl")) (fun h => ?_) (fun h => ?_))
 ·rw [h, if_pos rfl] at hK
  exact aA (aR M _ (nY M (t9 (xs := [.str kd2, .str (f0 :: s0), dt2]) M (by walk_at "nm") rfl)) ⟨_, bC _ _, hK⟩)
 rw [h, if_neg (by decide)] at hK
 refine aA (cK M (decide (kd = lcS "percentage")) (cJ M (by walk_at "fl")) (fun h => ?_) (fun h => ?_))
 ·rw [h, if_pos rfl] at hK
  exact aA (aR M _ (aC rfl) ⟨_, bC _ _, hK⟩)
 rw [h, if_neg (by decide)] at hK
 refine aA (cK M (!decide (kd = lcS "literal")) (cJ M (xX M (by walk_at "nm"))) (fun h => ?_) (fun h => ?_))
 ·rw [h, if_pos rfl] at hK
  exact aA (aR M _ (eQ M (by walk_at "fl") fun _ => b6 (dZ M (by walk_at "fl") fun _ => b6 (by walk_at "fl"))) ⟨_, bC _ _, hK⟩)
 rw [h, if_neg (by decide)] at hK
 refine vG ?_
 refine tail (tx := tx) (f := f) (bg := bg) (cr := cr) (cu := cu) ?_ hK
 walk_at "core"
noncomputable def itD1 : It -> List Nat
 | .dim p _ _ => p
 | _ => []
noncomputable def itD2 : It -> List Nat
 | .dim _ _ u => u
 | _ => []
noncomputable def nG (a b : It) : Bool := zbS (iB a) (aM a) (itD1 a) (itD2 a) ((aM b).take 1) (((aM b).drop 1).take 1) (iB b)
noncomputable def f8 : Fn := mkF (fun d : It × It => [itP d.1, itP d.2]) (fun d => aM d.2 ≠ []) fun d => .bool (nG d.1 d.2)
theorem dK : bB f8 := zac _ _ _
theorem zcY (a : It) (h : iB a = lcS "dimension") : ∃ v, xI a = .tup [v, .str (itD1 a), .str (itD2 a)] := by
 cases a with
 | dim p iv u => exact ⟨_, rfl⟩
 | _ => exact absurd h (by simp only [iB]; decide +kernel)
theorem jF (hB : BsOk (bs w.params h mb)) (hmb : HMb mb) : Meets prog w (bs w.params h mb) 2 (.ref 726) f8 := by
 have hC : CtxOk prog w (bs w.params h mb) cN2 1 := dH hmb (by simp [j8]) (by simp) (by simp) (fun e he => by
  simp only [List.mem_cons, List.not_mem_nil, or_false] at he
  rcases he with rfl | rfl
  ·exact ⟨.ref 712, by kernel_rfl, w0 hB hmb⟩
  ·exact ⟨.ref 719, by kernel_rfl, wZ hB hmb⟩) (by simp) (by simp)
 refine bA (k := 2) (params := ["one", "two"]) (dv := []) (dp := []) hB hC (by kernel_rfl) (by kernel_rfl) (by kernel_rfl) rfl (fun _ => .nil) (fun S vals hl => ?_) fun ps K ⟨⟨a, b⟩, h1, h2, h3⟩ => ?_
 ·obtain ⟨a, b, rfl⟩ := iZ hl
  kernel_rfl
 ·subst h1
  exact ⟨rfl, tJ _ _ _ _ _ _ _ _ _ K h2 (zcY a) h3⟩
section
variable {C : Ctx} {κ : Kn}
theorem zb8 {x name : Str} {p1 p2 : Pos} {st : St} {c i : Nat} {fs : List PV} {v : PV} (hx : st.ρ x = some (.inst c fs)) (hk : κ x = some .local) (hs : C.slot c name = some i) (hv : fs[i]? = some v) : ev C κ (.Attribute (.Name x p1) name p2) st v := by
 show (if κ x = some .globalImplicit then opt (C.val x) _ else opt (st.ρ x) _)
 rw [hk, jI, hx]
 show mP (C.slot c name) _ fun i => opt fs[i]? _
 rw [hs, wB, hv]
 exact ⟨rfl, rfl⟩
theorem zcd {x name : Str} {p1 p2 : Pos} {st : St} {c : Nat} {fs : List PV} {v : PV} (hx : st.ρ x = some (.inst c fs)) (hk : κ x = some .local) (hs : C.slot c name = none) (hv : C.cval c name = some v) : ev C κ (.Attribute (.Name x p1) name p2) st v := by
 show (if κ x = some .globalImplicit then opt (C.val x) _ else opt (st.ρ x) _)
 rw [hk, jI, hx]
 show mP (C.slot c name) _ _
 rw [hs, gI, hv]
 exact ⟨rfl, rfl⟩
end
noncomputable def sJ : Fn := fun ps K => ∃ b : Bool, ps = [.bool b] /\ K (.str (mU b))
theorem j9 : bB sJ := fun ps K K' h ⟨b, h1, h2⟩ => ⟨b, h1, h _ h2⟩
theorem w2 (p : Params) (b : Bool) (K : PV -> Prop) (hK : K (.str (mU b))) : wSs cN0 (bV (aJ (HK p) 740)) (aQ (HK p) 740) (jA K) ⟨aV [("flag", .bool b)] (fun _ => none), fun _ => none⟩ := by
 have M := fF
 conv in (aQ _ _) => whnf
 conv in (aJ _ _) => whnf
 cases b
 ·exact aA (aR M (.str (mU false)) (eF (c := false) M (cJ M (bL (a := .bool false) (b := .bool true) M (by walk_at "nm") (aC rfl) rfl)) (fun h => by cases h) (fun _ => eF (c := true) M (cJ M (bL (a := .bool false) (b := .bool false) M (by walk_at "nm") (aC rfl) rfl)) (fun _ => aC rfl) (fun h => by cases h))) ⟨_, a5 _ _ rfl, hK⟩)
 ·exact aA (aR M (.str (mU true)) (eF (c := true) M (cJ M (bL (a := .bool true) (b := .bool true) M (by walk_at "nm") (aC rfl) rfl)) (fun _ => aC rfl) (fun h => by cases h)) ⟨_, a5 _ _ rfl, hK⟩)
theorem tR (hB : BsOk (bs w.params h mb)) (hmb : HMb mb) : Meets prog w (bs w.params h mb) 1 (.ref 740) sJ := by
 refine bA (k := 1) (params := ["flag"]) (dv := []) (dp := []) hB (lF hmb) (by kernel_rfl) (by kernel_rfl) (by kernel_rfl) rfl (fun _ => .nil) (fun S vals hl => ?_) fun ps K ⟨b, h1, h2⟩ => ?_
 ·obtain ⟨a, rfl⟩ := List.length_eq_one_iff.mp hl
  kernel_rfl
 ·subst h1; exact ⟨rfl, w2 _ b K h2⟩
noncomputable def qG : Tk -> List Nat
 | .ws _ => lcS "whitespace"
 | .lit _ => lcS "literal"
 | .ident _ => lcS "ident"
 | .num _ _ => lcS "number"
 | .pct _ _ => lcS "percentage"
 | .dim _ _ _ => lcS "dimension"
 | .atk _ => lcS "at-keyword"
 | .hash _ _ => lcS "hash"
 | .com _ => lcS "comment"
noncomputable def gU : Tk -> PV
 | .ws v => .str v
 | .lit v => .str v
 | .ident v => .str v
 | .num iv r => .tup [m9 iv, .str r]
 | .pct iv r => .tup [m9 iv, .str r]
 | .dim iv r u => .tup [m9 iv, .str r, .str u]
 | .atk v => .str v
 | .hash v b => .tup [.str v, .str (mU b)]
 | .com v => .str v
noncomputable def iJ (lc : Nat × Nat) (t : Tk) : PV := .tup [.str (qG t), .int lc.1, .int lc.2, gU t]
theorem zby (lc : Nat × Nat) (i : It) : iJ lc (mS i) = .tup [.str (iB i), .int lc.1, .int lc.2, xI i] := by cases i <;> rfl
theorem qP (σ : Nat -> Option Cell) (lc : Nat × Nat) (t : Tk) : Res σ (iJ lc t) (iJ lc t) := by
 cases t with
 | num iv r => cases iv <;> exact a5 _ _ rfl
 | pct iv r => cases iv <;> exact a5 _ _ rfl
 | dim iv r u => cases iv <;> exact a5 _ _ rfl
 | _ => exact a5 _ _ rfl
noncomputable def cN3 : Ctx := mkC [("_law_mark", sJ)] [] false [] [644]
theorem r6 : CtxMono cN3 := bO (by simp [j9]) (by simp)
noncomputable def zbx (P : Params) : List Stmt := match qX 1 (aQ (HK P) 747) with
 | .For _ _ b _ _ => b
 | _ => []
section
variable {P : Params} {st : St} {a : Nat} {vs : List PV} {lc : Nat × Nat} {Q : Fl -> St -> Prop}
noncomputable def Att (v : PV) (name : String) (u : PV) : Prop := ∀ (st : St) (p1 p2 : Pos), st.ρ "node" = some v -> ev cN3 (bV (aJ (HK P) 747)) (.Attribute (.Name (Str.ofString "node") p1) (Str.ofString name) p2) st u
theorem aU {c : Nat} {fs : List PV} {name : String} {u : PV} (hv : (cN3.slot c (Str.ofString name)).bind (fun i => fs[i]?) = some u) : Att (P := P) (.inst c fs) name u := fun st p1 p2 h => by
 obtain ⟨i, hs, hv⟩ := Option.bind_eq_some_iff.mp hv
 exact zb8 h (by kernel_rfl) hs hv
theorem dA {c : Nat} {fs : List PV} {name : String} {u : PV} (hs : cN3.slot c (Str.ofString name) = none) (hv : cN3.cval c (Str.ofString name) = some u) : Att (P := P) (.inst c fs) name u := fun st p1 p2 h => zcd h (by kernel_rfl) hs hv
theorem cF (v : PV) (kd : List Nat) (dt : PV) (hn : st.ρ "node" = some v) (ht : st.ρ "told" = some (.ptr a)) (hc : st.σ a = some (.lst vs)) (hl : vs.length <= 1000) (h1 : Att (P := P) v "type" (.str kd)) (h2 : Att (P := P) v "source_line" (.int lc.1)) (h3 : Att (P := P) v "source_column" (.int lc.2))
  (h4 : (kd = lcS "number" \/ kd = lcS "percentage") -> ∃ x y, dt = .tup [x, y] /\ Att (P := P) v "int_value" x /\ Att (P := P) v "representation" y)
  (h5 : kd = lcS "dimension" -> ∃ x y z, dt = .tup [x, y, z] /\ Att (P := P) v "int_value" x /\ Att (P := P) v "representation" y /\ Att (P := P) v "unit" z)
  (h6 : kd = lcS "hash" -> ∃ x b, dt = .tup [x, .str (mU b)] /\ Att (P := P) v "value" x /\ Att (P := P) v "is_identifier" (.bool b))
  (h7 : ¬ (kd = lcS "number" \/ kd = lcS "percentage") -> kd ≠ lcS "dimension" -> kd ≠ lcS "hash" -> Att (P := P) v "value" dt)
  (hQ : ∀ ρ', ρ' "told" = some (.ptr a) -> Q .next ⟨ρ', a7 st.σ a (.lst (vs ++ [.tup [.str kd, .int lc.1, .int lc.2, dt]]))⟩) : wSs cN3 (bV (aJ (HK P) 747)) (zbx P) Q st := by
 have M := r6
 conv in (zbx _) => whnf
 have k0 : c3 (bV (aJ (HK P) 747)) (Str.ofString "kind") = true /\ c3 (bV (aJ (HK P) 747)) (Str.ofString "detail") = true /\ bV (aJ (HK P) 747) (Str.ofString "kind") = some .local /\ bV (aJ (HK P) 747) (Str.ofString "detail") = some .local /\ bV (aJ (HK P) 747) (Str.ofString "told") = some .local /\ bV (aJ (HK P) 747) (Str.ofString "_law_mark") = some .globalImplicit := ⟨by kernel_rfl, by kernel_rfl, by kernel_rfl, by kernel_rfl, by kernel_rfl, by kernel_rfl⟩
 obtain ⟨k1, k2, k3, k4, k5, k6⟩ := k0
 have tst : ∀ (s1 : St) (x : String) (p1 p2 p3 : Pos) (k : Nat), s1.ρ "kind" = some (.str kd) -> tv cN3 (bV (aJ (HK P) 747)) (.Compare (.Name (Str.ofString "kind") p1) [.Eq] [.Constant (.str (Str.ofString x)) k p2] p3) s1 (decide (kd = lcS x)) := fun s1 x p1 p2 p3 k h => by
  exact hW M (aN k3 h) (aC rfl) ⟨rfl, rfl, rfl⟩
 refine aA (aL M (.str kd) (h1 _ _ _ hn) k1 ?_)
 dsimp only [d5]
 have hn' : upd st.ρ (Str.ofString "kind") (.str kd) "node" = some v := by simp [bS, hn]
 refine eS M (fun s1 => s1.σ = st.σ /\ s1.ρ "told" = some (.ptr a) /\ s1.ρ "node" = some v /\ s1.ρ "kind" = some (.str kd) /\ s1.ρ "detail" = some dt)
  (cK M (decide (kd = lcS "number") || decide (kd = lcS "percentage")) (zbt M (tst _ _ _ _ _ _ (by simp [bS])) fun _ => i0 (tst _ _ _ _ _ _ (by simp [bS]))) (fun h => ?_) (fun h => ?_)) ?_
 ·obtain ⟨x, y, rfl, q1, q2⟩ := h4 (by simpa using h)
  refine aA (aL M _ (b8 M (aB M (q1 _ _ _ hn') (aB M (q2 _ _ _ hn') aH))) k2 ?_)
  walk_at "sq"
  exact ⟨rfl, by simp [bS, ht], by simp [bS, hn], by simp [bS], by simp [bS]⟩
 ·refine aA (cK M (decide (kd = lcS "dimension")) (tst _ _ _ _ _ _ (by simp [bS])) (fun g => ?_) (fun g => ?_))
  ·obtain ⟨x, y, z, rfl, q1, q2, q3⟩ := h5 (of_decide_eq_true g)
   refine aA (aL M _ (b8 M (aB M (q1 _ _ _ hn') (aB M (q2 _ _ _ hn') (aB M (q3 _ _ _ hn') aH)))) k2 ?_)
   walk_at "sq"
   exact ⟨rfl, by simp [bS, ht], by simp [bS, hn], by simp [bS], by simp [bS]⟩
  ·refine aA (cK M (decide (kd = lcS "hash")) (tst _ _ _ _ _ _ (by simp [bS])) (fun f => ?_) (fun f => ?_))
   ·obtain ⟨x, b, rfl, q1, q2⟩ := h6 (of_decide_eq_true f)
    refine aA (aL M _ (b8 M (aB M (q1 _ _ _ hn') (aB M (v := .str (mU b)) ?_ aH))) k2 ?_)
    ·exact bM M k6 (F := sJ) rfl (aB M (q2 _ _ _ hn') aH) ⟨b, rfl, .inl rfl, rfl⟩
    walk_at "sq"
    exact ⟨rfl, by simp [bS, ht], by simp [bS, hn], by simp [bS], by simp [bS]⟩
   ·refine aA (aL M _ (h7 (by simpa using h) (of_decide_eq_false g) (of_decide_eq_false f) _ _ _ hn') k2 ?_)
    walk_at "sq"
    exact ⟨rfl, by simp [bS, ht], by simp [bS, hn], by simp [bS], by simp [bS]⟩
 ·rintro s1 ⟨g1, g2, g3, g4, g5⟩
  refine aA (gE M (.tup [.str kd, .int lc.1, .int lc.2, dt]) k5 g2 (by rw [g1]; exact hc) (b8 M (aB M ?_ (aB M (h2 _ _ _ g3) (aB M (h3 _ _ _ g3) (aB M ?_ aH))))) rfl (by unfold a0; omega) ?_)
  ·exact aN k3 g4
  ·exact aN k4 g5
  walk_at "sq"
  rw [g1]
  exact hQ _ g2
theorem y6 (t : Tk) (hn : st.ρ "node" = some (tkP lc t)) (ht : st.ρ "told" = some (.ptr a)) (hc : st.σ a = some (.lst vs)) (hl : vs.length <= 1000)
  (hQ : ∀ ρ', ρ' "told" = some (.ptr a) -> Q .next ⟨ρ', a7 st.σ a (.lst (vs ++ [iJ lc t]))⟩) : wSs cN3 (bV (aJ (HK P) 747)) (zbx P) Q st := by
 cases t with
 | ws v => exact cF _ (lcS "whitespace") (gU (.ws v)) hn ht hc hl (dA (by decide +kernel) (by kernel_rfl)) (aU (by kernel_rfl)) (aU (by kernel_rfl)) (fun h => absurd h (by decide +kernel)) (fun h => absurd h (by decide +kernel)) (fun h => absurd h (by decide +kernel)) (fun _ _ _ => aU (by kernel_rfl)) hQ
 | lit v => exact cF _ (lcS "literal") (gU (.lit v)) hn ht hc hl (dA (by decide +kernel) (by kernel_rfl)) (aU (by kernel_rfl)) (aU (by kernel_rfl)) (fun h => absurd h (by decide +kernel)) (fun h => absurd h (by decide +kernel)) (fun h => absurd h (by decide +kernel)) (fun _ _ _ => aU (by kernel_rfl)) hQ
 | ident v => exact cF _ (lcS "ident") (gU (.ident v)) hn ht hc hl (dA (by decide +kernel) (by kernel_rfl)) (aU (by kernel_rfl)) (aU (by kernel_rfl)) (fun h => absurd h (by decide +kernel)) (fun h => absurd h (by decide +kernel)) (fun h => absurd h (by decide +kernel)) (fun _ _ _ => aU (by kernel_rfl)) hQ
 | num iv r => exact cF _ (lcS "number") (gU (.num iv r)) hn ht hc hl (dA (by decide +kernel) (by kernel_rfl)) (aU (by kernel_rfl)) (aU (by kernel_rfl)) (fun _ => ⟨_, _, rfl, aU (by kernel_rfl), aU (by kernel_rfl)⟩) (fun h => absurd h (by decide +kernel)) (fun h => absurd h (by decide +kernel)) (fun h => absurd (by decide +kernel) h) hQ
 | pct iv r => exact cF _ (lcS "percentage") (gU (.pct iv r)) hn ht hc hl (dA (by decide +kernel) (by kernel_rfl)) (aU (by kernel_rfl)) (aU (by kernel_rfl)) (fun _ => ⟨_, _, rfl, aU (by kernel_rfl), aU (by kernel_rfl)⟩) (fun h => absurd h (by decide +kernel)) (fun h => absurd h (by decide +kernel)) (fun h => absurd (by decide +kernel) h) hQ
 | dim iv r u => exact cF _ (lcS "dimension") (gU (.dim iv r u)) hn ht hc hl (dA (by decide +kernel) (by kernel_rfl)) (aU (by kernel_rfl)) (aU (by kernel_rfl)) (fun h => absurd h (by decide +kernel)) (fun _ => ⟨_, _, _, rfl, aU (by kernel_rfl), aU (by kernel_rfl), aU (by kernel_rfl)⟩) (fun h => absurd h (by decide +kernel)) (fun _ h => absurd rfl h) hQ
 | atk v => exact cF _ (lcS "at-keyword") (gU (.atk v)) hn ht hc hl (dA (by decide +kernel) (by kernel_rfl)) (aU (by kernel_rfl)) (aU (by kernel_rfl)) (fun h => absurd h (by decide +kernel)) (fun h => absurd h (by decide +kernel)) (fun h => absurd h (by decide +kernel)) (fun _ _ _ => aU (by kernel_rfl)) hQ
 | hash v b => exact cF _ (lcS "hash") (gU (.hash v b)) hn ht hc hl (dA (by decide +kernel) (by kernel_rfl)) (aU (by kernel_rfl)) (aU (by kernel_rfl)) (fun h => absurd h (by decide +kernel)) (fun h => absurd h (by decide +kernel)) (fun _ => ⟨_, _, rfl, aU (by kernel_rfl), aU (by kernel_rfl)⟩) (fun _ _ h => absurd rfl h) hQ
 | com v => exact cF _ (lcS "comment") (gU (.com v)) hn ht hc hl (dA (by decide +kernel) (by kernel_rfl)) (aU (by kernel_rfl)) (aU (by kernel_rfl)) (fun h => absurd h (by decide +kernel)) (fun h => absurd h (by decide +kernel)) (fun h => absurd h (by decide +kernel)) (fun _ _ _ => aU (by kernel_rfl)) hQ
end
noncomputable def qZ (L : Row) : PV := .list (i9 L)
noncomputable def uM (L : Row) : PV := .list (L.map fun e => iJ e.1 e.2)
noncomputable def kE (L : Row) : List PV := L.map fun e => iJ e.1 e.2
theorem lY (σ : Nat -> Option Cell) (L : Row) : n9 σ (kE L) (kE L) := iM _ (fun e => qP _ _ _) L
theorem u5 (p : Params) (L : Row) (K : PV -> Prop) (hl : L.length <= 900) (hK : K (uM L)) : wSs cN3 (bV (aJ (HK p) 747)) (aQ (HK p) 747) (jA K) ⟨aV [("nodes", qZ L)] (fun _ => none), fun _ => none⟩ := by
 have M := r6
 conv in (aQ _ _) => whnf
 have hl' : (L.map fun e => tkP e.1 e.2).length = L.length := List.length_map _
 refine aA (qM (by rfl) (by kernel_rfl) fun a ha => ?_)
 refine eS M (fun st => kD [("told", .ptr a)] st.ρ /\ st.σ a = some (.lst (kE L)))
  (zcJ M (qZ L) (L.map fun e => tkP e.1 e.2) rfl (hl' ▸ Nat.le_trans hl (by decide)) (by kernel_rfl) (aN (by kernel_rfl!) (by kernel_rfl!))
   (fun i st => kD [("told", .ptr a)] st.ρ /\ st.σ a = some (.lst (kE (L.take i)))) (fun i hi st ⟨h1, h2⟩ => ?_) (fun st ⟨h1, h2⟩ => ?_) ⟨by walk_at "core", aS _ _ _⟩) ?_
 ·have hi : i < L.length := hl' ▸ hi
  refine ⟨_, rfl, y6 (P := p) (vs := kE (L.take i)) (lc := L[i].1) L[i].2 (by rw [List.getElem_map]; kernel_rfl!) (show upd st.ρ "node" (tkP L[i].1 L[i].2) "told" = some (.ptr a) from (uV _ (by rw [Ne, sEq]; decide) _).trans (List.cons.inj h1).1) h2 ?_ fun ρ' h => ?_⟩
  ·rw [kE, List.length_map, List.length_take]; exact Nat.le_trans (Nat.min_le_right _ _) (Nat.le_trans hl (by decide))
  ·refine ⟨aF h rfl, (aS _ _ _).trans ?_⟩
   rw [kE, kE, List.take_succ_eq_append_getElem hi, List.map_append]; rfl
 ·rw [hl', List.take_length] at h2
  exact ⟨h1, h2⟩
 ·rintro ⟨ρ, σ⟩ ⟨h1, h2⟩
  rw [show ρ = aV _ ρ from aP _ h1]
  exact aA (aR M (.ptr a) (aN (by kernel_rfl!) (by kernel_rfl!)) ⟨uM L, .inr ⟨a, _, rfl, h2, lY _ L⟩, hK⟩)
noncomputable def sG : Fn := fun ps K => ∃ L : Row, ps = [qZ L] /\ L.length <= 900 /\ K (uM L)
theorem j7 : bB sG := fun ps K K' h ⟨L, h1, h2, h3⟩ => ⟨L, h1, h2, h _ h3⟩
theorem tM (hB : BsOk (bs w.params h mb)) (hmb : HMb mb) : Meets prog w (bs w.params h mb) 2 (.ref 747) sG := by
 have hC : CtxOk prog w (bs w.params h mb) cN3 1 := dH hmb (by simp [j9]) (by simp) (by simp) (fun e he => by
  simp only [List.mem_singleton] at he; subst he
  exact ⟨.ref 740, by kernel_rfl, tR hB hmb⟩) (by simp) (by simp)
 refine bA (k := 1) (params := ["nodes"]) (dv := []) (dp := []) hB hC (by kernel_rfl) (by kernel_rfl) (by kernel_rfl) rfl (fun _ => .nil) (fun S vals hl => ?_) fun ps K ⟨L, h1, h2, h3⟩ => ?_
 ·obtain ⟨a, rfl⟩ := List.length_eq_one_iff.mp hl
  kernel_rfl
 ·subst h1; exact ⟨rfl, u5 _ L K h2 h3⟩
noncomputable def lay (g : Bool) : Option It -> Nat × Nat -> List It -> List (List Nat × (Nat × Nat) × Tk)
 | _, _, [] => []
 | prev, lc, i :: r => if (g && prev.any fun a => nG a i) = true then
   ([47, 42, 42, 47], lc, .com []) :: (aM i, (lc.1, lc.2 + 4), mS i) :: lay g (some i) (adv (lc.1, lc.2 + 4) (aM i)) r
  else (aM i, lc, mS i) :: lay g (some i) (adv lc (aM i)) r
theorem zbX (g : Bool) (prev : Option It) (lc : Nat × Nat) : lay g prev lc [] = [] := rfl
theorem iR (g : Bool) (prev : Option It) (lc : Nat × Nat) (i : It) (r : List It) : lay g prev lc (i :: r) = if (g && prev.any fun a => nG a i) = true then
   ([47, 42, 42, 47], lc, .com []) :: (aM i, (lc.1, lc.2 + 4), mS i) :: lay g (some i) (adv (lc.1, lc.2 + 4) (aM i)) r
  else (aM i, lc, mS i) :: lay g (some i) (adv lc (aM i)) r := rfl
theorem xN {α : Type} (l : List α) (i : Nat) : mD l (i : Int) = l[i]? := by unfold mD; rw [if_neg (by omega)]; simp
noncomputable abbrev yT := List (List Nat × (Nat × Nat) × Tk)
noncomputable def eW (L : yT) : List Nat := (L.map (·.1)).flatten
noncomputable def mR (L : yT) : Row := L.map (·.2)
theorem mA (a b : yT) : eW (a ++ b) = eW a ++ eW b := by rw [eW, List.map_append, List.flatten_append]; rfl
theorem zal (e : List Nat × (Nat × Nat) × Tk) : eW [e] = e.1 := List.append_nil _
theorem rB (a b : yT) : kE (mR (a ++ b)) = kE (mR a) ++ kE (mR b) := by rw [mR, List.map_append, kE, List.map_append]; rfl
noncomputable def Few (W : yT) : Prop := W.length <= 900 /\ (eW W).length <= 900
theorem zbf {W d r : yT} {e : List Nat × (Nat × Nat) × Tk} (h : W = d ++ e :: r) (hf : Few W) : (kE (mR d)).length < a0 /\ (eW d).length + e.1.length <= a0 := by
 subst h
 obtain ⟨h1, h2⟩ := hf
 rw [List.length_append] at h1
 rw [mA, List.length_append, show eW (e :: r) = e.1 ++ eW r from rfl, List.length_append] at h2
 have h3 : (kE (mR d)).length = d.length := by rw [kE, List.length_map, mR, List.length_map]
 rw [h3]
 unfold a0; omega
noncomputable def cN4 : Ctx := mkC [("_law_melts", f8)] [] false [] [627]
theorem r5 : CtxMono cN4 := bO (by simp [dK]) (by simp)
noncomputable def yX (i : It) : Bool := decide (1 <= (aM i).length) && decide ((aM i).length <= 20) && (decide (aM i = [10]) || !decide (10 ∈ aM i))
theorem zbo : (allIt.all yX) = true := by decide +kernel
theorem zdo (lc : Nat × Nat) {i : It} (h : yX i = true) : adv lc (aM i) = (lc.1 + (if aM i = [10] then 1 else 0), if aM i = [10] then 1 else lc.2 + (aM i).length) := by
 unfold yX at h
 simp only [Bool.and_eq_true, Bool.or_eq_true, decide_eq_true_eq, Bool.not_eq_true', decide_eq_false_iff_not] at h
 by_cases h1 : aM i = [10]
 ·rw [if_pos h1, if_pos h1, h1]; rfl
 ·rw [if_neg h1, if_neg h1, sC _ _ (h.2.resolve_left h1)]; rfl
theorem kX {a b : It} (hb : yX b = true) {K : PV -> Prop} (hK : K (.bool (nG a b))) : f8 [itP a, itP b] K :=
 ⟨(a, b), rfl, (fun q => by unfold yX at hb; rw [q] at hb; cases hb), hK⟩
noncomputable def jC (is : List It) (i : Nat) : Option It := if i = 0 then none else is[i - 1]?
theorem z7 (is : List It) (i : Nat) (f : It -> Bool) : (decide (0 < i) && (jC is i).any f) = (jC is i).any f := by cases i <;> rfl
theorem nO {is : List It} {n : Nat} {y : It} (h : is[n]? = some y) {K : PV -> Prop} (k : K (itP y)) : zbc (.list (is.map itP)) (.int n) K := by
 show opt (mD (is.map itP) (n : Int)) K
 rw [xN, List.getElem?_map, h]; exact k
noncomputable def LW (is : List It) (g : Bool) (a : Nat) (t : List Nat) (lc : Nat × Nat) : List (Str × PV) := [("items", .list (is.map itP)), ("gaps", .bool g), ("text", .str t), ("row", .ptr a), ("line", .int lc.1), ("column", .int lc.2)]
noncomputable def LX2 (x : It) (L : List (Str × PV)) : List (Str × PV) := ("kind", .str (iB x)) :: ("piece", .str (aM x)) :: ("detail", xI x) :: L
noncomputable def LayI (is : List It) (g : Bool) (a : Nat) (W : yT) (i : Nat) (st : St) : Prop := ∃ (d : yT) (lc : Nat × Nat), W = d ++ lay g (jC is i) lc (is.drop i) /\ kD (LW is g a (eW d) lc) st.ρ /\ st.σ a = some (.lst (kE (mR d)))
noncomputable def zcS (P : Params) : List Stmt := match qX 4 (aQ (HK P) 733) with
 | .For _ _ b _ _ => b
 | _ => []
theorem w9 (p : Params) {is : List It} {g : Bool} {a : Nat} {W : yT} {Q : Fl -> St -> Prop} {ρ : dD} {σ : Nat -> Option Cell} {i : Nat} {x : It} {d : yT} {lc : Nat × Nat} (hf : Few W) (hx : yX x = true) (hg : is[i]? = some x) (hi : i <= is.length)
  (h1 : W = d ++ lay g (jC is i) lc (x :: is.drop (i + 1))) (h2 : kD (("at", .int i) :: LW is g a (eW d) lc) ρ) (h3 : σ a = some (.lst (kE (mR d)))) (hQ : ∀ st, LayI is g a W (i + 1) st -> Q .next st) : wSs cN4 (bV (aJ (HK p) 733)) (zcS p) Q ⟨ρ, σ⟩ := by
 have M := r5
 rw [show ρ = aV _ ρ from aP _ h2]
 clear h2
 conv in (zcS _) => whnf
 conv in (aJ _ _) => whnf
 refine aA (m6 M (.str (iB x)) (.str (aM x)) (xI x) (gN (a := .list (is.map itP)) (b := .int i) M rfl (by walk_at "ex") (by walk_at "ex") (nO (K := fun r => r = itP x) hg rfl)) (by decide +kernel) (by decide +kernel) (by decide +kernel) ?_)
 rw [iR, <- z7] at h1
 refine eS M (fun s1 => ∃ (d : yT) (lc : Nat × Nat), W = d ++ (aM x, lc, mS x) :: lay g (some x) (adv lc (aM x)) (is.drop (i + 1)) /\ kD (LX2 x (LW is g a (eW d) lc)) s1.ρ /\ s1.σ a = some (.lst (kE (mR d))))
  (cK M (g && (decide (0 < i) && (jC is i).any fun a => nG a x)) (fM M (y5 (v := .bool g) M (by walk_at "ex") rfl) fun _ => fM M (hW (a := .int i) (b := .int 0) M (by walk_at "ex") (by walk_at "ex") ⟨rfl, decide_eq_decide.mpr Int.natCast_pos, rfl⟩) fun hp => i0 ?_) (fun h => ?_) (fun h => ?_)) ?_
 ·have hp := of_decide_eq_true hp
  have hl : i - 1 < is.length := Nat.lt_of_lt_of_le (Nat.sub_lt hp Nat.one_pos) hi
  have hy : is[i - 1]? = some is[i - 1] := List.getElem?_eq_getElem hl
  rw [jC, if_neg (Nat.ne_of_gt hp), hy]
  exact y5 M (bM (F := f8) M (by kernel_rfl!) rfl (aB M (v := itP is[i - 1]) (gN (a := .list (is.map itP)) (b := .int ((i : Int) - 1)) M rfl (by walk_at "ex") (xV (i := i) (j := 1) M (by walk_at "ex") (aC rfl)) (by rw [show (i : Int) - 1 = ((i - 1 : Nat) : Int) from (Int.ofNat_sub hp).symm]; exact nO (K := fun r => r = itP is[i - 1]) hy rfl)) (aB M (v := itP x) (gN (a := .list (is.map itP)) (b := .int i) M rfl (by walk_at "ex") (by walk_at "ex") (nO (K := fun r => r = itP x) hg rfl)) aH)) (kX hx ⟨.inl rfl, rfl⟩)) rfl
 ·rw [if_pos h] at h1
  obtain ⟨f1, f2⟩ := zbf h1 hf
  refine aA (gE M (iJ lc (.com [])) (by decide +kernel) (by walk_at "up") h3 (b8 M (aB M (v := .str (lcS "comment")) (aC rfl) (aB M (v := .int lc.1) (by walk_at "ex") (aB M (v := .int lc.2) (by walk_at "ex") (aB M (v := .str []) (aC rfl) aH))))) rfl f1 ?_)
  refine aA (dP M (.str (eW d)) (.str (lcS "/**/")) (by walk_at "up") (aC rfl) (by decide +kernel) (of_eq zbb ⟨f2, ?_⟩))
  refine aA (dP M (.int lc.2) (.int 4) (by walk_at "up") (aC rfl) (by decide +kernel) (of_eq cM ?_))
  exact ⟨d ++ [([47, 42, 42, 47], lc, .com [])], (lc.1, lc.2 + 4), by rw [h1, List.append_assoc]; rfl, by rw [mA]; walk_at "core", by rw [rB]; exact aS _ _ _⟩
 ·rw [if_neg (by rw [h]; decide)] at h1
  exact ⟨d, lc, h1, by walk_at "core", h3⟩
 ·clear h1 h3 d lc
  rintro ⟨ρ1, σ1⟩ ⟨d, lc, h1, h2, h3⟩
  obtain ⟨f1, f2⟩ := zbf h1 hf
  rw [show ρ1 = aV _ ρ1 from aP _ h2]
  clear h2
  have hnl : ∀ {st : St} {p1 p2 p3 : Pos} {k : Nat} {κ : Kn}, κ "piece" = some .local -> st.ρ "piece" = some (.str (aM x)) -> tv cN4 κ (.Compare (.Name (Str.ofString "piece") p1) [.Eq] [.Constant (.str (Str.ofString "\n")) k p2] p3) st (decide (aM x = [10])) := fun k1 k2 => hW M (aN k1 k2) (aC rfl) ⟨rfl, by kernel_rfl, rfl⟩
  refine aA (gE M (iJ lc (mS x)) (by decide +kernel) (by walk_at "up") h3 (by rw [zby]; exact b8 M (aB M (by walk_at "ex") (aB M (by walk_at "ex") (aB M (by walk_at "ex") (aB M (by walk_at "ex") aH))))) rfl f1 ?_)
  refine aA (dP M (.str (eW d)) (.str (aM x)) (by walk_at "up") (by walk_at "ex") (by decide +kernel) (of_eq zbb ⟨f2, ?_⟩))
  refine aA (dP M (.int lc.1) (.int ((if aM x = [10] then 1 else 0 : Nat) : Int)) (by walk_at "up") (eF M (hnl (by kernel_rfl!) (by walk_at "up")) (fun q => ?_) (fun q => ?_)) (by decide +kernel) (of_eq cM ?_))
  ·rw [if_pos (of_decide_eq_true q)]
   exact aC rfl
  ·rw [if_neg (of_decide_eq_false q)]
   exact aC rfl
  refine aA (aL M (.int ((if aM x = [10] then 1 else lc.2 + (aM x).length : Nat) : Int)) (eF M (hnl (by kernel_rfl!) (by walk_at "up")) (fun q => ?_) (fun q => ?_)) (by decide +kernel) ?_)
  ·rw [show (if aM x = [10] then 1 else lc.2 + (aM x).length : Nat) = 1 from if_pos (of_decide_eq_true q)]
   exact aC rfl
  ·rw [show (if aM x = [10] then 1 else lc.2 + (aM x).length : Nat) = lc.2 + (aM x).length from if_neg (of_decide_eq_false q)]
   exact eO (i := lc.2) (j := (aM x).length) M (by walk_at "nm") (nX M (by kernel_rfl!) rfl rfl (by kernel_rfl) (by walk_at "nm"))
  refine hQ _ ⟨d ++ [(aM x, lc, mS x)], adv lc (aM x), ?_, ?_, ?_⟩
  ·rw [h1, jC, if_neg (Nat.succ_ne_zero i), Nat.add_sub_cancel, hg, List.append_assoc]; rfl
  ·rw [mA, zal, zdo lc hx]; walk_at "core"
  ·rw [rB]; exact aS _ _ _
theorem z5 {σ : Nat -> Option Cell} {t : List Nat} {a : Nat} {L : Row} (h : σ a = some (.lst (kE L))) : Res σ (.tup [.str t, .ptr a]) (.tup [.str t, uM L]) := by
 simp only [Res, n9, uM]
 exact ⟨_, rfl, _, _, rfl, rfl, _, _, rfl, .inr ⟨a, _, rfl, h, lY _ _⟩, rfl⟩
theorem xA (p : Params) (is : List It) (g : Bool) (K : PV -> Prop) (hf : Few (lay g none (1, 1) is)) (hl : is.length <= 100) (hok : ∀ i ∈ is, yX i = true) (hK : K (.tup [.str (eW (lay g none (1, 1) is)), uM (mR (lay g none (1, 1) is))])) :
  wSs cN4 (bV (aJ (HK p) 733)) (aQ (HK p) 733) (jA K) ⟨aV [("items", .list (is.map itP)), ("gaps", .bool g)] (fun _ => none), fun _ => none⟩ := by
 have M := r5
 conv in (aQ _ _) => whnf
 refine aA (aL M (.str []) (aC rfl) (by kernel_rfl) ?_)
 refine aA (qM (by rfl) (by kernel_rfl) fun a ha => ?_)
 refine aA (aL M (.int ((1 : Nat) : Int)) (aC rfl) (by kernel_rfl) ?_)
 refine aA (aL M (.int ((1 : Nat) : Int)) (aC rfl) (by kernel_rfl) ?_)
 have hlen : ((List.range ((is.length : Int) - 0).toNat).map fun (k : Nat) => PV.int (0 + k)).length = is.length := by rw [List.length_map, List.length_range, Int.sub_zero]; rfl
 refine eS M (fun st => kD [("text", .str (eW (lay g none (1, 1) is))), ("row", .ptr a)] st.ρ /\ st.σ a = some (.lst (kE (mR (lay g none (1, 1) is)))))
  (zcJ M (.rng 0 is.length) ((List.range ((is.length : Int) - 0).toNat).map fun (k : Nat) => .int (0 + k)) rfl (Nat.le_trans (Nat.le_of_eq hlen) (Nat.le_trans hl (by decide))) (by kernel_rfl) ?_
   (LayI is g a (lay g none (1, 1) is)) (fun i hi st ⟨d, lc, h1, h2, h3⟩ => ?_) (fun st ⟨d, lc, h1, h2, h3⟩ => ?_) ⟨[], (1, 1), rfl, by walk_at "core", aS _ _ _⟩) ?_
 ·exact jR M (by kernel_rfl!) rfl rfl (by kernel_rfl) (aB M (v := .int is.length) (jR M (by kernel_rfl!) rfl rfl (by kernel_rfl) (aB M (v := .list (is.map itP)) (by walk_at "nm") aH) (of_eq (B := PV.int ((is.map itP).length : Nat) = PV.int is.length) (by kernel_rfl) (by rw [List.length_map]))) aH) (of_eq (B := zcr 0 is.length fun r => r = .rng 0 is.length) (by kernel_rfl) ⟨by decide, by decide, Int.natCast_nonneg _, Int.ofNat_le.mpr (Nat.le_trans hl (by decide)), rfl⟩)
 ·have hi : i < is.length := Nat.lt_of_lt_of_eq hi hlen
  have hg : is[i]? = some is[i] := List.getElem?_eq_getElem hi
  refine ⟨_, rfl, ?_⟩
  rw [List.getElem_map, List.getElem_range, Int.zero_add]
  rw [List.drop_eq_getElem_cons hi] at h1
  refine w9 p hf (hok _ (List.getElem_mem hi)) hg (Nat.le_of_lt hi) h1 (aF (mX _ _ _) ?_) h3 fun st h => h
  rw [show st.ρ = aV _ st.ρ from aP _ h2]
  walk_at "core"
 ·rw [hlen, List.drop_length, zbX, List.append_nil] at h1
  rw [h1]
  exact ⟨by rw [show st.ρ = aV _ st.ρ from aP _ h2]; walk_at "core", h3⟩
 ·rintro ⟨ρ, σ⟩ ⟨h1, h3⟩
  rw [show ρ = aV _ ρ from aP _ h1]
  exact aA (aR M (.tup [.str (eW (lay g none (1, 1) is)), .ptr a]) (b8 M (aB M (by walk_at "ex") (aB M (by walk_at "ex") aH))) ⟨_, z5 h3, hK⟩)
noncomputable def oD : Fn := fun ps K => ∃ (is : List It) (g : Bool), ps = [.list (is.map itP), .bool g] /\ Few (lay g none (1, 1) is) /\ is.length <= 100 /\ (∀ i ∈ is, yX i = true) /\ K (.tup [.str (eW (lay g none (1, 1) is)), uM (mR (lay g none (1, 1) is))])
theorem kA : bB oD := fun ps K K' h ⟨is, g, h1, h0, h2, h3, h4⟩ => ⟨is, g, h1, h0, h2, h3, h _ h4⟩
theorem tS (hB : BsOk (bs w.params h mb)) (hmb : HMb mb) : Meets prog w (bs w.params h mb) 3 (.ref 733) oD := by
 have hC : CtxOk prog w (bs w.params h mb) cN4 2 := dH hmb (by simp [dK]) (by simp) (by simp) (fun e he => by
  simp only [List.mem_singleton] at he; subst he
  exact ⟨.ref 726, by kernel_rfl, jF hB hmb⟩) (by simp) (by simp)
 refine bA (k := 2) (params := ["items", "gaps"]) (dv := []) (dp := []) hB hC (by kernel_rfl) (by kernel_rfl) (by kernel_rfl) rfl (fun _ => .nil) (fun S vals hl => ?_) fun ps K ⟨is, g, h1, h0, h2, h3, h4⟩ => ?_
 ·obtain ⟨a, b, rfl⟩ := iZ hl
  kernel_rfl
 ·subst h1; exact ⟨rfl, xA _ is g K h0 h2 h3 h4⟩
noncomputable def kI (o : Option Nat) : Bool := o.any g8
noncomputable def nsH (o : Option Nat) : Bool := o.any bK
noncomputable def nmH (o : Option Nat) : Bool := o.any a8
noncomputable def blH (o : Option Nat) : Bool := o.any bE
noncomputable def idH (h1 h2 : Option Nat) : Bool := nsH h1 || (h1 == some 45 && (nsH h2 || h2 == some 45))
noncomputable def noE (p : List Nat) : Bool := !(decide (101 ∈ p) || decide (69 ∈ p))
noncomputable def dC (p : List Nat) : Bool := !(decide (46 ∈ p)) && noE p
noncomputable def fJ : It -> Option Nat -> Option Nat -> Bool
 | .num p _, h1, h2 => !kI h1 && !idH h1 h2 && h1 != some 37 && !(dC p && (h1 == some 46 && kI h2))
 | .pct _ _, _, _ => true
 | .dim p _ u, h1, h2 => !nmH h1 && !(noE p && (u == [101] && h1 == some 43 && kI h2))
 | .lit c, h1, h2 => if c = 45 then !nsH h1 && h1 != some 45 && !kI h1 && !(h1 == some 46 && kI h2)
   else if c = 43 then !kI h1 && !(h1 == some 46 && kI h2)
   else if c = 46 then !kI h1
   else if c = 35 then !nmH h1
   else if c = 64 then !idH h1 h2
   else true
 | .ws _, h1, _ => !blH h1
 | .name v, h1, _ => !nmH h1 && !(v == [45, 45] && h1 == some 62)
 | .hash _ _, h1, _ => !nmH h1
 | .atk _, h1, _ => !nmH h1
theorem mC (y : List Nat) : aK y = idH y[0]? y[1]? := by
 cases y with
 | nil => rfl
 | cons c r => cases r <;> rfl
theorem x8 (y : List Nat) : (bX y = 0) ↔ kI y[0]? = false := by
 refine ⟨fun h => Bool.eq_false_iff.mpr fun q => ?_, fun h => nZ (x := y) (i := 0) h⟩
 have := (jU (x := y) (i := 0) q).2
 rw [List.drop_zero, h] at this; cases this
theorem mE (y : List Nat) : (c6 y = none) ↔ (y[0]? == some 46 && kI y[1]?) = false := by
 unfold c6
 split
 ·rename_i q
  refine ⟨fun h => (nomatch h), fun h => ?_⟩
  rw [q.1, show kI y[1]? = true from q.2] at h; cases h
 ·rename_i q
  exact ⟨fun _ => Bool.eq_false_iff.mpr fun e => q ⟨beq_iff_eq.mp (Bool.and_eq_true_iff.mp e).1, (Bool.and_eq_true_iff.mp e).2⟩, fun _ => rfl⟩
theorem wM {y : List Nat} (hm : nmH y[0]? = false) : aW y = ([], 0) := by
 cases y with
 | nil => rfl
 | cons c r => rw [dW, if_neg (fun q => by rw [show nmH (c :: r)[0]? = a8 c from rfl, q] at hm; cases hm)]
theorem zbO {y : List Nat} (hm : nmH y[0]? = true) : (aW y).1 ≠ [] := by
 cases y with
 | nil => cases hm
 | cons c r => rw [dW, if_pos (show a8 c = true from hm)]; exact List.cons_ne_nil _ _
theorem q8 : ∀ {u : List Nat} (y : List Nat), (∀ c ∈ u, a8 c = true) -> aW (u ++ y) = (u ++ (aW y).1, (aW y).2 + u.length)
 | [], y, _ => rfl
 | c :: u, y, h => by
  rw [List.cons_append, dW, if_pos (h c List.mem_cons_self), q8 y fun d hd => h d (List.mem_cons_of_mem _ hd)]; rfl
noncomputable def nA : List (List Nat) := numbersT.map (·.1)
theorem zaA {y : List Nat} (h : nsH y[0]? = false) : iS y = none := if_neg (by rintro (q | q) <;> (rw [q] at h; cases h))
theorem rP (y : List Nat) : (iS y).getD 0 = 0 ↔ iS y = none := by
 unfold iS
 split
 ·split
  ·exact ⟨fun h => Nat.noConfusion h, fun h => (by cases h)⟩
  ·exact ⟨fun _ => rfl, fun _ => rfl⟩
 ·exact ⟨fun _ => rfl, fun _ => rfl⟩
noncomputable def zc7 (y : List Nat) : Nat := (c6 (y.drop (bX y))).elim ((iS (y.drop (bX y))).getD 0 + bX y) fun f => (iS (y.drop (f + bX y))).getD 0 + (f + bX y)
noncomputable def uO (p y : List Nat) : Nat := if dC p = true then zc7 y else if noE p = true then (iS (y.drop (bX y))).getD 0 + bX y else bX y
noncomputable def bP (p y : List Nat) : Bool := dC p && ((c6 (y.drop (bX y))).isNone && (iS (y.drop (bX y))).isNone)
theorem zbM (y : List Nat) (k : Nat) : (c6 (y.drop (bX y))).elim (some ((iS (y.drop (bX y))).elim (bX y + k, true) fun g => (g + (bX y + k), false))) (fun f => some ((iS (y.drop (f + bX y))).getD 0 + (f + (bX y + k)), false)) =
  some (zc7 y + k, (c6 (y.drop (bX y))).isNone && (iS (y.drop (bX y))).isNone) := by
 unfold zc7
 cases c6 (y.drop (bX y)) with
 | some f => simp only [Option.elim_some, <- Nat.add_assoc]; rfl
 | none =>
  cases iS (y.drop (bX y)) with
  | none => simp only [Option.elim_none, Option.getD_none, Nat.zero_add]; rfl
  | some g => simp only [Option.elim_none, Option.elim_some, Option.getD_some, <- Nat.add_assoc]; rfl
theorem zbL {p : List Nat} (hp : p ∈ nA) (y : List Nat) : iO (p ++ y) = some (uO p y + p.length, bP p y) := by
 simp only [nA, numbersT, List.map_cons, List.map_nil, List.mem_cons, List.not_mem_nil, or_false] at hp
 rcases hp with rfl | rfl | rfl | rfl | rfl | rfl | rfl | rfl | rfl
 ·exact Eq.trans (by kernel_rfl) (zbM y 1)
 ·exact Eq.trans (by kernel_rfl) (zbM y 3)
 ·kernel_rfl
 ·kernel_rfl
 ·kernel_rfl
 ·kernel_rfl
 ·kernel_rfl
 ·exact Eq.trans (by kernel_rfl) (zbM y 3)
 ·kernel_rfl
theorem zc6 (p y : List Nat) : bX y <= uO p y := by
 unfold uO
 split
 ·unfold zc7
  cases c6 (y.drop (bX y)) with
  | none => exact Nat.le_add_left _ _
  | some f => exact Nat.le_trans (Nat.le_add_left _ f) (Nat.le_add_left _ _)
 split
 ·exact Nat.le_add_left _ _
 ·exact Nat.le_refl _
theorem hH (p y : List Nat) : uO p y = 0 ↔ bX y = 0 /\ (dC p = true -> c6 y = none) /\ (noE p = true -> iS y = none) := by
 by_cases hd : bX y = 0
 ·unfold uO zc7
  rw [hd, List.drop_zero]
  split
  ·rename_i hp
   have he := (Bool.and_eq_true_iff.mp hp).2
   cases hf : c6 y with
   | none => exact (rP y).trans ⟨fun h => ⟨rfl, fun _ => rfl, fun _ => h⟩, fun h => h.2.2 he⟩
   | some f => exact ⟨fun h => absurd ((Nat.add_eq_zero_iff.mp h).2) (Nat.ne_of_gt (rN hf).1), fun h => nomatch h.2.1 hp⟩
  ·rename_i hp
   split
   ·rename_i he
    exact (rP y).trans ⟨fun h => ⟨rfl, fun q => absurd q hp, fun _ => h⟩, fun h => h.2.2 he⟩
   ·rename_i he
    exact ⟨fun _ => ⟨rfl, fun q => absurd q hp, fun q => absurd q he⟩, fun _ => rfl⟩
 ·exact ⟨fun h => absurd (Nat.le_zero.mp (h ▸ zc6 p y)) hd, fun h => absurd h.1 hd⟩
noncomputable def yB (a : It) (y : List Nat) : Prop := ∃ c r, aM a ++ y = c :: r /\ ((fJ a y[0]? y[1]? = true /\ step c r = (mS a, (aM a).length)) \/ (fJ a y[0]? y[1]? = false /\ ∃ t n, step c r = (t, n) /\ t ≠ mS a))
noncomputable def zcL : Tk -> Option (List Nat)
 | .num _ r => some r
 | .pct _ r => some r
 | .dim _ r _ => some r
 | _ => none
theorem kS (iv : Option Int) (r y : List Nat) : ∃ t k, eU iv r y = (t, k) /\ zcL t = some r := by
 unfold eU
 split
 ·exact ⟨_, _, rfl, rfl⟩
 ·split <;> exact ⟨_, _, rfl, rfl⟩
theorem zcM (d : Nat) (y : List Nat) : [d].isPrefixOf y = (y[0]? == some d) := by
 cases y with
 | nil => rfl
 | cons c r => show ((d == c) && true) = (c == d); rw [Bool.and_true, BEq.comm]
theorem m3 {c : Nat} {r : List Nat} {n : Nat} {b : Bool} (h1 : bE c = false) (h4 : [45, 45, 62].isPrefixOf (c :: r) = false) (h5 : aK (c :: r) = false) (h6 : iO (c :: r) = some (n, b)) :
  step c r = eU (if b then some (oE ((c :: r).take n)) else none) ((c :: r).take n) ((c :: r).drop n) := by
 unfold step
 rw [if_neg (by rw [h1]; decide), if_neg (by rw [h4]; decide), if_neg (by rw [h5]; decide), h6]; rfl
theorem vE {c : Nat} {r : List Nat} (h1 : bE c = false) (h4 : [45, 45, 62].isPrefixOf (c :: r) = false) (h5 : aK (c :: r) = false) (h6 : iO (c :: r) = none) : step c r = bT c r := by
 unfold step
 rw [if_neg (by rw [h1]; decide), if_neg (by rw [h4]; decide), if_neg (by rw [h5]; decide), h6]; rfl
theorem vF {c : Nat} {r : List Nat} (h1 : bE c = false) (h4 : [45, 45, 62].isPrefixOf (c :: r) = false) (h5 : aK (c :: r) = true) : step c r = (.ident (aW (c :: r)).1, (aW (c :: r)).2) := by
 unfold step
 rw [if_neg (by rw [h1]; decide), if_neg (by rw [h4]; decide), if_pos h5]
theorem l5 {p : List Nat} (hp : p ∈ nA) (y : List Nat) : ∃ c r, p ++ y = c :: r /\ (uO p y = 0 -> step c r = eU (if dC p then some (oE p) else none) p y) /\ (uO p y ≠ 0 -> ∃ t n, step c r = (t, n) /\ zcL t ≠ some p) := by
 obtain ⟨c, r, e, h1, h4, h5⟩ : ∃ c r, p ++ y = c :: r /\ bE c = false /\ [45, 45, 62].isPrefixOf (c :: r) = false /\ aK (c :: r) = false := by
  have hp := hp
  simp only [nA, numbersT, List.map_cons, List.map_nil, List.mem_cons, List.not_mem_nil, or_false] at hp
  rcases hp with rfl | rfl | rfl | rfl | rfl | rfl | rfl | rfl | rfl <;> exact ⟨_, _, rfl, rfl, rfl, rfl⟩
 have hn := zbL hp y
 have hl := oT hn
 have hs := m3 h1 h4 h5 (e ▸ hn)
 rw [<- e] at hs
 refine ⟨c, r, e, fun h => ?_, fun h => ?_⟩
 ·obtain ⟨d0, f0, e0⟩ := (hH p y).mp h
  have hb : bP p y = dC p := by
   unfold bP
   rw [d0, List.drop_zero]
   cases q : dC p with
   | false => rfl
   | true => rw [f0 q, e0 (Bool.and_eq_true_iff.mp q).2]; rfl
  rw [hs, h, hb, Nat.zero_add, List.take_left, List.drop_left]
 ·obtain ⟨t, k, g1, g2⟩ := kS (if bP p y then some (oE ((p ++ y).take (uO p y + p.length))) else none) ((p ++ y).take (uO p y + p.length)) ((p ++ y).drop (uO p y + p.length))
  refine ⟨t, k, hs.trans g1, fun q => ?_⟩
  have := congrArg List.length (Option.some.inj (g2.symm.trans q))
  rw [List.length_take_of_le hl.2, Nat.add_eq_right] at this
  exact h this
theorem zaH {p : List Nat} {iv : Option Int} (hp : p ∈ nA) (hiv : iv = if dC p then some (oE p) else none) {y : List Nat} : yB (.num p iv) y := by
 obtain ⟨c, r, e, h0, h1⟩ := l5 hp y
 refine ⟨c, r, e, ?_⟩
 by_cases hx : uO p y = 0
 ·obtain ⟨d0, f0, _⟩ := (hH p y).mp hx
  have s1 := (x8 y).mp d0
  have s4 : (dC p && (y[0]? == some 46 && kI y[1]?)) = false := by
   cases q : dC p with
   | false => rfl
   | true => exact (mE y).mp (f0 q)
  have hs : fJ (.num p iv) y[0]? y[1]? = (!idH y[0]? y[1]? && !(y[0]? == some 37)) := by
   show (!kI y[0]? && !idH y[0]? y[1]? && !(y[0]? == some 37) && !(dC p && (y[0]? == some 46 && kI y[1]?))) = _
   rw [s1, s4, Bool.not_false, Bool.and_true, Bool.true_and]
  have h0 := h0 hx
  rw [<- hiv, eU, mC, zcM] at h0
  rw [hs]
  cases hi : idH y[0]? y[1]? with
  | true => rw [hi, if_pos rfl] at h0; exact .inr ⟨rfl, _, _, h0, fun q => nomatch q⟩
  | false =>
   rw [hi, if_neg (by decide)] at h0
   cases h7 : y[0]? == some 37 with
   | true => rw [h7, if_pos rfl] at h0; exact .inr ⟨rfl, _, _, h0, fun q => nomatch q⟩
   | false => rw [h7, if_neg (by decide)] at h0; exact .inl ⟨rfl, h0⟩
 ·obtain ⟨t, n, g1, g2⟩ := h1 hx
  refine .inr ⟨Bool.eq_false_iff.mpr fun q => hx ((hH p y).mpr ?_), t, n, g1, fun q => g2 (q ▸ rfl)⟩
  have q : (!kI y[0]? && !idH y[0]? y[1]? && !(y[0]? == some 37) && !(dC p && (y[0]? == some 46 && kI y[1]?))) = true := q
  simp only [Bool.and_eq_true, Bool.not_eq_true'] at q
  obtain ⟨⟨⟨q1, q2⟩, _⟩, q4⟩ := q
  exact ⟨(x8 y).mpr q1, fun hp => (mE y).mpr (by rwa [hp] at q4), fun _ => zaA (Bool.or_eq_false_iff.mp q2).1⟩
theorem zaG {p : List Nat} {iv : Option Int} (hp : p ∈ nA) (hiv : iv = if dC p then some (oE p) else none) {y : List Nat} : yB (.pct p iv) y := by
 obtain ⟨c, r, e, h0, _⟩ := l5 hp (37 :: y)
 refine ⟨c, r, (List.append_assoc p [37] y).trans e, .inl ⟨rfl, ?_⟩⟩
 rw [h0 ((hH p (37 :: y)).mpr ⟨rfl, fun _ => rfl, fun _ => rfl⟩), <- hiv]
 exact congrArg (Prod.mk _) (List.length_append (as := p) (bs := [37])).symm
theorem fE {a : It} {pre v y : List Nat} {c : Nat} {r : List Nat} (mk : List Nat -> Tk) (hi : ∀ x, mk x = mS a -> x = v) (ht : aM a = pre ++ v) (hm : ∀ d ∈ v, a8 d = true) (e : aM a ++ y = c :: r) (hs : step c r = (mk (aW (v ++ y)).1, (aW (v ++ y)).2 + pre.length))
  (h0 : nmH y[0]? = false -> fJ a y[0]? y[1]? = true /\ mk v = mS a) (h1 : nmH y[0]? = true -> fJ a y[0]? y[1]? = false) : yB a y := by
 refine ⟨c, r, e, ?_⟩
 rw [q8 y hm] at hs
 cases q : nmH y[0]? with
 | false =>
  obtain ⟨g1, g2⟩ := h0 q
  rw [wM q, List.append_nil, Nat.zero_add, g2] at hs
  exact .inl ⟨g1, by rw [hs, ht, List.length_append, Nat.add_comm]⟩
 | true => exact .inr ⟨h1 q, _, _, hs, fun h => zbO q (List.append_cancel_left ((hi _ h).trans (List.append_nil v).symm))⟩
noncomputable def mY : List (List Nat) := [[120], [101], [45, 121], [45, 45], [69, 45], [233, 95]]
theorem rQ {u y : List Nat} (hu : u ∈ mY) (hm : nmH y[0]? = false) : iS (u ++ y) = none ↔ (u == [101] && y[0]? == some 43 && kI y[1]?) = false := by
 have hd : ∀ {d}, y[0]? = some d -> g8 d = false /\ d ≠ 45 := fun h => by
  rw [h] at hm
  obtain ⟨h1, h2⟩ := Bool.or_eq_false_iff.mp (show (bK _ || _ == 45 || g8 _) = false from hm)
  exact ⟨h2, beq_eq_false_iff_ne.mp (Bool.or_eq_false_iff.mp h1).2⟩
 simp only [mY, List.mem_cons, List.not_mem_nil, or_false] at hu
 rcases hu with rfl | rfl | rfl | rfl | rfl | rfl
 ·exact ⟨fun _ => rfl, fun _ => rfl⟩
 ·show (if c7 y (bF y) = true then _ else _) = none ↔ (true && y[0]? == some 43 && kI y[1]?) = false
  rw [Bool.true_and]
  by_cases h : y[0]? = some 43
  ·have h1 : bF y = 1 := if_pos (.inr h)
   rw [h1, h]
   show (if kI y[1]? = true then some _ else none) = none ↔ kI y[1]? = false
   cases kI y[1]?
   ·exact ⟨fun _ => rfl, fun _ => rfl⟩
   ·exact ⟨fun h => (nomatch h), fun h => (nomatch h)⟩
  ·have h0 : bF y = 0 := if_neg fun q => q.elim (fun q => (hd q).2 rfl) h
   rw [h0, if_neg (fun q => by
    cases g : y[0]? with
    | none => rw [c7, g] at q; cases q
    | some d => rw [c7, g, Option.any_some, (hd g).1] at q; cases q), beq_eq_false_iff_ne.mpr h]
   exact ⟨fun _ => rfl, fun _ => rfl⟩
 ·exact ⟨fun _ => rfl, fun _ => rfl⟩
 ·exact ⟨fun _ => rfl, fun _ => rfl⟩
 ·show (if kI y[0]? = true then _ else _) = none ↔ _
  refine ⟨fun _ => rfl, fun _ => if_neg fun q => ?_⟩
  cases g : y[0]? with
  | none => rw [g] at q; cases q
  | some d => rw [g, kI, Option.any_some, (hd g).1] at q; cases q
 ·exact ⟨fun _ => rfl, fun _ => rfl⟩
theorem zaJ {p u : List Nat} {iv : Option Int} (hp : p ∈ nA) (hu : u ∈ mY) (hiv : iv = if dC p then some (oE p) else none) {y : List Nat} : yB (.dim p iv u) y := by
 obtain ⟨u1, u2, u3, u4⟩ : (∀ c ∈ u, a8 c = true) /\ aK (u ++ y) = true /\ bX (u ++ y) = 0 /\ c6 (u ++ y) = none := by
  have hu := hu
  simp only [mY, List.mem_cons, List.not_mem_nil, or_false] at hu
  rcases hu with rfl | rfl | rfl | rfl | rfl | rfl <;> exact ⟨by decide, rfl, rfl, rfl⟩
 obtain ⟨c, r, e, h0, h1⟩ := l5 hp (u ++ y)
 have e' : aM (.dim p iv u) ++ y = c :: r := (List.append_assoc p u y).trans e
 have hst : ∀ {m}, nmH y[0]? = m -> fJ (.dim p iv u) y[0]? y[1]? = (!m && !(noE p && (u == [101] && y[0]? == some 43 && kI y[1]?))) := fun h => by rw [<- h]; rfl
 by_cases hx : uO p (u ++ y) = 0
 ·have h0 := h0 hx
  rw [<- hiv, eU, if_pos u2, Nat.add_comm] at h0
  refine fE (.dim iv p) (fun x h => by injection h) rfl u1 e' h0 (fun q => ⟨?_, rfl⟩) fun q => hst q
  rw [hst q]
  cases hE : noE p with
  | false => rfl
  | true => rw [(rQ hu q).mp (((hH p (u ++ y)).mp hx).2.2 hE)]; rfl
 ·obtain ⟨t, n, g1, g2⟩ := h1 hx
  refine ⟨c, r, e', .inr ⟨?_, t, n, g1, fun q => g2 (q ▸ rfl)⟩⟩
  cases q : nmH y[0]? with
  | true => exact hst q
  | false =>
   rw [hst q]
   refine Bool.eq_false_iff.mpr fun g => hx ((hH p (u ++ y)).mpr ⟨u3, fun _ => u4, fun hE => (rQ hu q).mpr ?_⟩)
   rw [hE] at g
   exact (Bool.not_eq_true' _).mp g
noncomputable def za8 : List (List Nat) := [[120], [101], [45, 45], [45, 121], [45, 45, 122], [233], [95, 101, 51]]
theorem x9 {v : List Nat} (hv : v ∈ za8) {y : List Nat} : yB (.name v) y := by
 obtain ⟨c, r, e, h1, h4, h5, h6⟩ : ∃ c r, v ++ y = c :: r /\ bE c = false /\ ([45, 45, 62].isPrefixOf (c :: r) = (v == [45, 45] && y[0]? == some 62)) /\ aK (c :: r) = true /\ (∀ d ∈ v, a8 d = true) := by
  simp only [za8, List.mem_cons, List.not_mem_nil, or_false] at hv
  rcases hv with rfl | rfl | rfl | rfl | rfl | rfl | rfl
  ·exact ⟨_, _, rfl, rfl, rfl, rfl, by decide⟩
  ·exact ⟨_, _, rfl, rfl, rfl, rfl, by decide⟩
  ·exact ⟨_, _, rfl, rfl, zcM 62 y, rfl, by decide⟩
  ·exact ⟨_, _, rfl, rfl, rfl, rfl, by decide⟩
  ·exact ⟨_, _, rfl, rfl, rfl, rfl, by decide⟩
  ·exact ⟨_, _, rfl, rfl, rfl, rfl, by decide⟩
  ·exact ⟨_, _, rfl, rfl, rfl, rfl, by decide⟩
 have hst : ∀ {m k}, nmH y[0]? = m -> (v == [45, 45] && y[0]? == some 62) = k -> fJ (.name v) y[0]? y[1]? = (!m && !k) := fun h h' => by rw [<- h, <- h']; rfl
 cases hk : v == [45, 45] && y[0]? == some 62 with
 | true => exact ⟨c, r, e, .inr ⟨by rw [hst rfl hk]; exact Bool.and_false _, .lit [45, 45, 62], 3, by unfold step; rw [if_neg (by rw [h1]; decide), if_pos (h4.trans hk)], fun q => nomatch q⟩⟩
 | false => exact fE (pre := []) .ident (fun x h => by injection h) rfl h6 e (e ▸ vF h1 (h4.trans hk) h5) (fun q => ⟨hst q hk, rfl⟩) fun q => hst q hk
theorem zci {c : Nat} (hc : bE c = true) {y : List Nat} : yB (.ws c) y := by
 have hs : step c y = (.ws (c :: y.take (bQ y)), 1 + bQ y) := by unfold step; rw [if_pos hc]
 refine ⟨c, y, rfl, ?_⟩
 show ((!blH y[0]?) = true /\ _) \/ ((!blH y[0]?) = false /\ _)
 cases q : blH y[0]? with
 | false =>
  rw [show bQ y = 0 from jZ (x := y) (i := 0) q] at hs
  exact .inl ⟨rfl, hs⟩
 | true =>
  obtain ⟨h1, h2⟩ := j0 (x := y) (i := 0) q
  refine .inr ⟨rfl, _, _, hs, fun h => ?_⟩
  injection h with h
  have h := congrArg List.length (List.cons.inj h).2
  rw [show bQ y = _ from h2, List.length_take_of_le (h2 ▸ j3 y)] at h
  cases h
theorem za6 {c : Nat} {y : List Nat} (h : c = 45 \/ c = 43) : iO (c :: y) = none ↔ bX y = 0 /\ c6 y = none := by
 rw [iO, show bF (c :: y) = 1 from if_pos (h.imp (congrArg some) (congrArg some))]
 show (c6 (y.drop (bX y))).elim (if bX y = 0 then none else some _) _ = none ↔ _
 cases hf : c6 (y.drop (bX y)) with
 | some f => exact ⟨fun h => (nomatch h), fun h => by rw [h.1, List.drop_zero, h.2] at hf; cases hf⟩
 | none =>
  rw [Option.elim_none]
  split
  ·rename_i q
   rw [q] at hf
   exact ⟨fun _ => ⟨q, hf⟩, fun _ => rfl⟩
  ·rename_i q
   exact ⟨fun h => (nomatch h), fun h => absurd h.1 q⟩
theorem jV {c : Nat} {y : List Nat} (h1 : bE c = false) (h4 : [45, 45, 62].isPrefixOf (c :: y) = false) (h5 : aK (c :: y) = false) (hl : bT c y = (.lit [c], 1)) (hn : iO (c :: y) = none ↔ fJ (.lit c) y[0]? y[1]? = true) : yB (.lit c) y := by
 refine ⟨c, y, rfl, ?_⟩
 cases h6 : iO (c :: y) with
 | none => exact .inl ⟨hn.mp h6, (vE h1 h4 h5 h6).trans hl⟩
 | some nb =>
  obtain ⟨n, b⟩ := nb
  obtain ⟨t, k, g1, g2⟩ := kS (if b then some (oE ((c :: y).take n)) else none) ((c :: y).take n) ((c :: y).drop n)
  refine .inr ⟨Bool.eq_false_iff.mpr fun q => ?_, t, k, (m3 h1 h4 h5 h6).trans g1, fun q => by rw [q] at g2; cases g2⟩
  rw [hn.mpr q] at h6; cases h6
theorem zaI {c : Nat} (hc : c ∈ ([45, 43, 46, 35, 64, 37, 62, 44] : List Nat)) {y : List Nat} : yB (.lit c) y := by
 have hnum : bX y = 0 /\ c6 y = none ↔ (!kI y[0]? && !(y[0]? == some 46 && kI y[1]?)) = true := by
  rw [x8, mE, Bool.and_eq_true, Bool.not_eq_true', Bool.not_eq_true']
 simp only [List.mem_cons, List.not_mem_nil, or_false] at hc
 rcases hc with rfl | rfl | rfl | rfl | rfl | rfl | rfl | rfl
 ·-- minus
  have hst : fJ (.lit 45) y[0]? y[1]? = (!nsH y[0]? && !(y[0]? == some 45) && !kI y[0]? && !(y[0]? == some 46 && kI y[1]?)) := rfl
  have hid : aK (45 :: y) = (nsH y[0]? || y[0]? == some 45) := by rw [mC]; rfl
  cases hi : nsH y[0]? || y[0]? == some 45 with
  | false =>
   obtain ⟨i1, i2⟩ := Bool.or_eq_false_iff.mp hi
   refine jV rfl ?_ (hid.trans hi) rfl ?_
   ·show ([45, 62].isPrefixOf y) = false
    cases y with
    | nil => rfl
    | cons d z => show ((45 == d) && _) = false; rw [BEq.comm]; exact Bool.and_eq_false_imp.mpr fun h => absurd h (by rw [show (d == 45) = _ from i2]; decide)
   ·rw [za6 (.inl rfl), hnum, hst, i1, i2]; rfl
  | true =>
   have hs0 : fJ (.lit 45) y[0]? y[1]? = false := by
    rw [hst, <- Bool.not_or, hi]; rfl
   cases h4 : [45, 45, 62].isPrefixOf (45 :: y) with
   | true => exact ⟨45, y, rfl, .inr ⟨hs0, .lit [45, 45, 62], 3, by unfold step; rw [if_neg (by decide), if_pos h4], fun q => by injection q with q; cases q⟩⟩
   | false => exact ⟨45, y, rfl, .inr ⟨hs0, _, _, vF rfl h4 (hid.trans hi), fun q => nomatch q⟩⟩
 ·exact jV rfl rfl rfl rfl ((za6 (.inr rfl)).trans hnum)
 ·-- point
  refine jV rfl rfl rfl rfl ?_
  show (c6 (46 :: y)).elim none _ = none ↔ (!kI y[0]?) = true
  have hf : c6 (46 :: y) = none ↔ kI y[0]? = false := mE (46 :: y)
  rw [Bool.not_eq_true', <- hf]
  cases c6 (46 :: y) with
  | none => exact ⟨fun _ => rfl, fun _ => rfl⟩
  | some f => exact ⟨fun h => (nomatch h), fun h => (nomatch h)⟩
 ·have hs : step 35 y = if nmH y[0]? = true then (.hash (aW y).1 (aK y), 1 + (aW y).2) else (.lit [35], 1) := by kernel_rfl
  refine ⟨35, y, rfl, ?_⟩
  show ((!nmH y[0]?) = true /\ _) \/ ((!nmH y[0]?) = false /\ _)
  cases q : nmH y[0]? with
  | false => rw [q] at hs; exact .inl ⟨rfl, hs⟩
  | true => rw [q] at hs; exact .inr ⟨rfl, _, _, hs, fun q => nomatch q⟩
 ·have hs : step 64 y = if aK y = true then (.atk (aW y).1, 1 + (aW y).2) else (.lit [64], 1) := by kernel_rfl
  rw [mC] at hs
  refine ⟨64, y, rfl, ?_⟩
  show ((!idH y[0]? y[1]?) = true /\ _) \/ ((!idH y[0]? y[1]?) = false /\ _)
  cases q : idH y[0]? y[1]? with
  | false => rw [q] at hs; exact .inl ⟨rfl, hs⟩
  | true => rw [q] at hs; exact .inr ⟨rfl, _, _, hs, fun q => nomatch q⟩
 ·exact ⟨_, y, rfl, .inl ⟨rfl, by kernel_rfl⟩⟩
 ·exact ⟨_, y, rfl, .inl ⟨rfl, by kernel_rfl⟩⟩
 ·exact ⟨_, y, rfl, .inl ⟨rfl, by kernel_rfl⟩⟩
noncomputable def zc3 : List (List Nat × Bool) := [([53], false), ([45], false), ([120, 57], true), ([45, 45], true)]
theorem yA {v : List Nat} {b : Bool} (hv : (v, b) ∈ zc3) {y : List Nat} : yB (.hash v b) y := by
 obtain ⟨h1, hs, h3⟩ : (∀ d ∈ v, a8 d = true) /\ step 35 (v ++ y) = (.hash (aW (v ++ y)).1 (aK (v ++ y)), 1 + (aW (v ++ y)).2) /\ (nmH y[0]? = false -> aK (v ++ y) = b) := by
  simp only [zc3, List.mem_cons, List.not_mem_nil, or_false, Prod.mk.injEq] at hv
  rcases hv with ⟨rfl, rfl⟩ | ⟨rfl, rfl⟩ | ⟨rfl, rfl⟩ | ⟨rfl, rfl⟩
  ·exact ⟨by decide, by kernel_rfl, fun _ => rfl⟩
  ·refine ⟨by decide, by kernel_rfl, fun h => ?_⟩
   show aK (45 :: y) = false
   rw [mC]
   show (nsH y[0]? || y[0]? == some 45) = false
   cases hy : y[0]? with
   | none => rfl
   | some d => rw [hy] at h; exact (Bool.or_eq_false_iff.mp (show (bK d || d == 45 || g8 d) = false from h)).1
  ·exact ⟨by decide, by kernel_rfl, fun _ => rfl⟩
  ·exact ⟨by decide, by kernel_rfl, fun _ => rfl⟩
 rw [Nat.add_comm] at hs
 exact fE (pre := [35]) (fun x => .hash x (aK (v ++ y))) (fun x h => by injection h) rfl h1 rfl hs (fun q => ⟨congrArg (!·) q, congrArg (Tk.hash v) (h3 q)⟩) fun q => congrArg (!·) q
theorem zaK {v : List Nat} (hv : v = [120] \/ v = [45, 45]) {y : List Nat} : yB (.atk v) y := by
 obtain ⟨h1, hs⟩ : (∀ d ∈ v, a8 d = true) /\ step 64 (v ++ y) = (.atk (aW (v ++ y)).1, 1 + (aW (v ++ y)).2) := by
  rcases hv with rfl | rfl <;> exact ⟨by decide, by kernel_rfl⟩
 rw [Nat.add_comm] at hs
 exact fE (pre := [64]) .atk (fun x h => by injection h) rfl h1 rfl hs (fun q => ⟨congrArg (!·) q, rfl⟩) fun q => congrArg (!·) q
theorem rW {a : It} (ha : a ∈ allIt) (y : List Nat) : yB a y := by
 rcases List.mem_append.mp ha with h | h
 ·simp only [signsT, List.mem_cons, List.not_mem_nil, or_false] at h
  rcases h with rfl | rfl | rfl | rfl | rfl | rfl | rfl | rfl | rfl | rfl | rfl | rfl | rfl | rfl | rfl | rfl | rfl | rfl | rfl | rfl | rfl | rfl | rfl
  all_goals first
   | exact zaI (by decide)
   | exact zci (by rfl)
   | exact x9 (by decide)
   | exact yA (by decide)
   | exact zaK (by decide)
 ·obtain ⟨l, hl, hi⟩ := List.mem_flatten.mp h
  obtain ⟨⟨p, iv⟩, hp, rfl⟩ := List.mem_map.mp hl
  obtain ⟨t, ht, rfl⟩ := List.mem_map.mp hi
  have h1 : p ∈ nA := List.mem_map.mpr ⟨(p, iv), hp, rfl⟩
  have h2 : ∀ e ∈ numbersT, e.2 = if dC e.1 then some (oE e.1) else none := by decide +kernel
  have h3 : ∀ t ∈ tailsT, t ≠ [] -> t ≠ [37] -> t ∈ mY := by decide +kernel
  unfold z9
  split
  ·exact zaH h1 (h2 _ hp)
  split
  ·exact zaG h1 (h2 _ hp)
  ·rename_i q1 q2
   exact zaJ h1 (h3 t ht q1 q2) (h2 _ hp)
noncomputable def zab (b : It) : List (Option Nat) := none :: some 47 :: (allIt.filter fun c => !nG b c).map fun c => (aM c)[0]?
noncomputable def oQ (b : It) : List (Option Nat) := if (aM b).length = 1 then zab b else [(aM b)[1]?]
set_option maxHeartbeats 40000000 in
theorem v9 : (allIt.all fun b => (oQ b).eraseDups.all fun h => allIt.all fun a => fJ a (aM b)[0]? h == !nG a b) = true := by decide +kernel
theorem rT : (allIt.all fun a => fJ a none none && fJ a (some 47) (some 42)) = true := by decide +kernel
theorem zcW {b : It} (hb : b ∈ allIt) : 0 < (aM b).length := of_decide_eq_true (Bool.and_eq_true_iff.mp (Bool.and_eq_true_iff.mp (List.all_eq_true.mp zbo b hb)).1).1
theorem m0 {a b : It} (ha : a ∈ allIt) (hb : b ∈ allIt) {z : List Nat} (hz : z[0]? ∈ zab b) : fJ a (aM b ++ z)[0]? (aM b ++ z)[1]? = !nG a b := by
 have hl := zcW hb
 have hp := fun {h} (hh : h ∈ oQ b) => beq_iff_eq.mp (List.all_eq_true.mp (List.all_eq_true.mp (List.all_eq_true.mp v9 b hb) h (List.mem_eraseDups.mpr hh)) a ha)
 rw [List.getElem?_append_left hl]
 unfold oQ at hp
 by_cases h1 : (aM b).length = 1
 ·rw [if_pos h1] at hp
  rw [List.getElem?_append_right (Nat.le_of_eq h1), h1]
  exact hp hz
 ·rw [if_neg h1] at hp
  rw [List.getElem?_append_left (Nat.lt_of_le_of_ne hl (Ne.symm h1))]
  exact hp List.mem_cons_self
noncomputable def txt (is : List It) : List Nat := (is.map aM).flatten
noncomputable def zdy (lc : Nat × Nat) : List It -> Row
 | [] => []
 | i :: r => (lc, mS i) :: zdy (adv lc (aM i)) r
noncomputable def d9 : List It -> Bool
 | [] => true
 | a :: r => !((r[0]?).any fun b => nG a b) && d9 r
theorem dX : ∀ (is : List It) (p : Option It) (lc : Nat × Nat), eW (lay false p lc is) = txt is /\ mR (lay false p lc is) = zdy lc is
 | [], p, lc => ⟨rfl, rfl⟩
 | i :: r, p, lc => by
  obtain ⟨h1, h2⟩ := dX r (some i) (adv lc (aM i))
  exact ⟨congrArg (aM i ++ ·) h1, congrArg ((lc, mS i) :: ·) h2⟩
theorem oH : (allIt.all fun i => (aM i).all dN) = true := by decide +kernel
theorem zar {i : It} (h : i ∈ allIt) : Al (aM i) := List.all_eq_true.mp (List.all_eq_true.mp oH i h)
theorem zcV {i : It} (h : i ∈ allIt) : yX i = true := List.all_eq_true.mp zbo i h
theorem zcX {i : It} (h : i ∈ allIt) : (aM i).length <= 20 := of_decide_eq_true (Bool.and_eq_true_iff.mp (Bool.and_eq_true_iff.mp (zcV h)).1).2
theorem q9 {b c : It} {lc : Nat × Nat} {r : List It} (h : nG b c = true) : lay true (some b) lc (c :: r) = ([47, 42, 42, 47], lc, .com []) :: (aM c, (lc.1, lc.2 + 4), mS c) :: lay true (some c) (adv (lc.1, lc.2 + 4) (aM c)) r := if_pos h
theorem rA {b c : It} {lc : Nat × Nat} {r : List It} (h : nG b c = false) : lay true (some b) lc (c :: r) = (aM c, lc, mS c) :: lay true (some c) (adv lc (aM c)) r := if_neg (by rw [show (true && (some b).any fun a => nG a c) = nG b c from rfl, h]; decide)
theorem q7 {b : It} {lc : Nat × Nat} : ∀ {r : List It}, (∀ i ∈ r, i ∈ allIt) -> (eW (lay true (some b) lc r))[0]? ∈ zab b
 | [], _ => List.mem_cons_self
 | c :: r, h => by
  have hc := h c List.mem_cons_self
  cases hm : nG b c with
  | true => rw [q9 hm]; exact List.mem_cons_of_mem _ List.mem_cons_self
  | false =>
   rw [rA hm]
   show (aM c ++ eW _)[0]? ∈ _
   rw [List.getElem?_append_left (zcW hc)]
   exact List.mem_cons_of_mem _ (List.mem_cons_of_mem _ (List.mem_map_of_mem (List.mem_filter.mpr ⟨hc, by rw [hm]; rfl⟩)))
theorem zC {a : It} {lc : Nat × Nat} (ha : a ∈ allIt) : ∀ {r : List It}, (∀ i ∈ r, i ∈ allIt) -> fJ a (eW (lay true (some a) lc r))[0]? (eW (lay true (some a) lc r))[1]? = true
 | [], _ => (Bool.and_eq_true_iff.mp (List.all_eq_true.mp rT a ha)).1
 | c :: r, h => by
  cases hm : nG a c with
  | true => rw [q9 hm]; exact (Bool.and_eq_true_iff.mp (List.all_eq_true.mp rT a ha)).2
  | false =>
   rw [rA hm]
   exact (m0 ha (h c List.mem_cons_self) (q7 fun i hi => h i (List.mem_cons_of_mem _ hi))).trans (by rw [hm]; rfl)
theorem za3 {a : It} (ha : a ∈ allIt) {y : List Nat} (h : fJ a y[0]? y[1]? = true) (lc : Nat × Nat) : iL lc (aM a ++ y) = (lc, mS a) :: iL (adv lc (aM a)) y := by
 obtain ⟨c, t, e, ⟨_, h2⟩ | ⟨h1, _⟩⟩ := rW ha y
 ·rw [e, dQ, h2, <- e, List.take_left, List.drop_left]
 ·rw [h] at h1; cases h1
theorem lX : ∀ {is : List It} (p : Option It) (lc : Nat × Nat), (∀ i ∈ is, i ∈ allIt) -> iL lc (eW (lay true p lc is)) = mR (lay true p lc is)
 | [], p, lc, _ => rfl
 | i :: r, p, lc, h => by
  have hi := h i List.mem_cons_self
  have hr := fun j hj => h j (List.mem_cons_of_mem _ hj)
  have main : ∀ lc' : Nat × Nat, iL lc' (aM i ++ eW (lay true (some i) (adv lc' (aM i)) r)) = (lc', mS i) :: mR (lay true (some i) (adv lc' (aM i)) r) := fun lc' => by
   rw [za3 hi (zC hi hr), lX (some i) _ hr]
  rw [iR]
  split
  ·show iL lc (47 :: 42 :: 42 :: 47 :: (aM i ++ eW _)) = _
   rw [dQ]
   exact congrArg ((lc, Tk.com []) :: ·) (main (lc.1, lc.2 + 4))
  ·exact main lc
theorem l9 : ∀ {is : List It} (p : Option It) (lc : Nat × Nat), (p.any fun a => (is[0]?).any fun b => nG a b) = false -> d9 is = true -> lay true p lc is = lay false p lc is
 | [], p, lc, _, _ => rfl
 | i :: r, p, lc, h, h' => by
  obtain ⟨h1, h2⟩ := Bool.and_eq_true_iff.mp h'
  rw [iR, if_neg (fun q => by rw [Bool.true_and, show (p.any fun a => nG a i) = (p.any fun a => ((i :: r)[0]?).any fun b => nG a b) from rfl, h] at q; cases q)]
  exact congrArg (_ :: ·) (l9 (some i) _ ((Bool.not_eq_true' _).mp h1) h2)
theorem zbI {is : List It} (lc : Nat × Nat) (h : ∀ i ∈ is, i ∈ allIt) (hn : d9 is = true) : iL lc (txt is) = zdy lc is := by
 rw [<- (dX is none lc).1, <- (dX is none lc).2, <- l9 none lc rfl hn]
 exact lX none lc h
theorem v4 : ∀ {is : List It} (lc : Nat × Nat), (∀ i ∈ is, i ∈ allIt) -> (iL lc (txt is) = zdy lc is ↔ d9 is = true)
 | [], lc, _ => ⟨fun _ => rfl, fun _ => rfl⟩
 | i :: r, lc, h => by
  have hi := h i List.mem_cons_self
  have hr := fun j hj => h j (List.mem_cons_of_mem _ hj)
  refine ⟨fun q => ?_, zbI lc h⟩
  obtain ⟨c, t, e, ⟨h1, h2⟩ | ⟨_, k, n, h2, h3⟩⟩ := rW hi (txt r)
  ·rw [show txt (i :: r) = aM i ++ txt r from rfl, za3 hi h1] at q
   have hn := (v4 _ hr).mp (List.cons.inj q).2
   refine Bool.and_eq_true_iff.mpr ⟨?_, hn⟩
   cases r with
   | nil => rfl
   | cons b r =>
    have hr' := fun j hj => hr j (List.mem_cons_of_mem _ hj)
    have hz : (txt r)[0]? ∈ zab b := by
     obtain ⟨n1, n2⟩ := Bool.and_eq_true_iff.mp hn
     rw [<- (dX r (some b) lc).1, <- l9 (some b) lc ((Bool.not_eq_true' _).mp n1) n2]
     exact q7 hr'
    exact (m0 hi (hr b List.mem_cons_self) hz).symm.trans h1
  ·rw [show txt (i :: r) = c :: t from e, dQ, h2] at q
   exact absurd (congrArg Prod.snd (List.cons.inj q).1) h3
theorem w4 {g : Bool} : ∀ {is : List It} (p : Option It) (lc : Nat × Nat), (∀ i ∈ is, i ∈ allIt) -> Al (eW (lay g p lc is)) /\ (lay g p lc is).length <= 2 * is.length /\ (eW (lay g p lc is)).length <= 24 * is.length
 | [], p, lc, _ => ⟨fun c h => (nomatch h), Nat.le_refl _, Nat.le_refl _⟩
 | i :: r, p, lc, h => by
  have hi := h i List.mem_cons_self
  have hl := zcX hi
  have main : ∀ lc', Al (aM i ++ eW (lay g (some i) lc' r)) /\ (lay g (some i) lc' r).length <= 2 * r.length /\ (aM i ++ eW (lay g (some i) lc' r)).length <= 24 * r.length + 20 := fun lc' => by
   obtain ⟨h1, h2, h3⟩ := w4 (g := g) (some i) lc' fun j hj => h j (List.mem_cons_of_mem _ hj)
   refine ⟨fun c hc => (List.mem_append.mp hc).elim (zar hi c) (h1 c), h2, ?_⟩
   rw [List.length_append, Nat.add_comm]
   exact Nat.add_le_add h3 hl
  rw [iR, List.length_cons]
  split
  ·obtain ⟨h1, h2, h3⟩ := main (adv (lc.1, lc.2 + 4) (aM i))
   exact ⟨fun c hc => (List.mem_append.mp (show c ∈ [47, 42, 42, 47] ++ _ from hc)).elim (fun q => List.all_eq_true.mp (show ([47, 42, 42, 47] : List Nat).all dN = true by decide +kernel) c q) (h1 c), show (lay g (some i) (adv (lc.1, lc.2 + 4) (aM i)) r).length + 2 <= 2 * r.length + 2 from Nat.add_le_add h2 (Nat.le_refl 2),
    show (aM i ++ eW (lay g (some i) (adv (lc.1, lc.2 + 4) (aM i)) r)).length + 4 <= 24 * r.length + 20 + 4 from Nat.add_le_add h3 (Nat.le_refl 4)⟩
  ·obtain ⟨h1, h2, h3⟩ := main (adv lc (aM i))
   exact ⟨h1, Nat.le_trans (Nat.add_le_add h2 (Nat.le_refl 1)) (Nat.le_succ _), Nat.le_trans h3 (Nat.le_add_right _ 4)⟩
noncomputable def sOf (v : PV) : List Nat := (zcG v).getD []
noncomputable def aOf (v : PV) (i : Nat) : PV := ((pvc [] [] (fun _ => []) (fun _ => []) (fun _ => []) id (fun _ => []) (fun _ => []) v : List PV)[i]?).getD .none
noncomputable def tkOf (k : List Nat) (d : PV) : Tk :=
 if k = lcS "whitespace" then .ws (sOf d) else if k = lcS "literal" then .lit (sOf d) else if k = lcS "ident" then .ident (sOf d) else if k = lcS "number" then .num (zas (aOf d 0)) (sOf (aOf d 1)) else if k = lcS "percentage" then .pct (zas (aOf d 0)) (sOf (aOf d 1))
 else if k = lcS "dimension" then .dim (zas (aOf d 0)) (sOf (aOf d 1)) (sOf (aOf d 2)) else if k = lcS "at-keyword" then .atk (sOf d) else if k = lcS "hash" then .hash (sOf (aOf d 0)) (decide (sOf (aOf d 1) = lcS "yes")) else .com (sOf d)
theorem zcC (t : Tk) : tkOf (qG t) (gU t) = t := by
 cases t with
 | num iv r => cases iv <;> kernel_rfl
 | pct iv r => cases iv <;> kernel_rfl
 | dim iv r u => cases iv <;> kernel_rfl
 | hash v b => cases b <;> kernel_rfl
 | _ => kernel_rfl
theorem y7 {lc lc' : Nat × Nat} {t t' : Tk} (e : iJ lc t = iJ lc' t') : (lc, t) = (lc', t') := by
 have e : [PV.str (qG t), .int lc.1, .int lc.2, gU t] = [.str (qG t'), .int lc'.1, .int lc'.2, gU t'] := PV.tup.inj e
 obtain ⟨e1, e⟩ := List.cons.inj e
 obtain ⟨e2, e⟩ := List.cons.inj e
 obtain ⟨e3, e⟩ := List.cons.inj e
 have h := zcC t
 rw [PV.str.inj e1, (List.cons.inj e).1, zcC] at h
 rw [h, show lc = lc' from Prod.ext (Int.ofNat.inj (PV.int.inj e2)) (Int.ofNat.inj (PV.int.inj e3))]
theorem qN : ∀ {L M : Row}, kE L = kE M -> L = M
 | [], [], _ => rfl
 | [], _ :: _, h => (nomatch h)
 | _ :: _, [], h => (nomatch h)
 | a :: L, b :: M, h => by
  obtain ⟨h1, h2⟩ := List.cons.inj h
  rw [qN h2, show a = b from y7 h1]
noncomputable def cL : Ctx := mkC [("_law_item", sK), ("_law_melts", f8), ("_law_laid", oD), ("_law_told", sG), ("parse_component_value_list", mO)] [] false [] []
theorem dM : CtxMono cL := bO (by
 simp only [List.mem_cons, List.not_mem_nil, or_false]; rintro e (rfl | rfl | rfl | rfl | rfl)
 all_goals first | exact kB | exact dK | exact kA | exact j7 | exact iH) (by simp)
theorem yD {n : Nat} : ∀ {xs : List PV}, (∀ x ∈ xs, dep x <= n) -> zcv xs <= n
 | [], _ => Nat.zero_le n
 | x :: xs, h => Nat.max_le.mpr ⟨h x List.mem_cons_self, yD fun y hy => h y (List.mem_cons_of_mem _ hy)⟩
theorem gZ : ∀ {xs : List PV}, (∀ x ∈ xs, plain x = true) -> eN xs = true
 | [], _ => rfl
 | x :: xs, h => Bool.and_eq_true_iff.mpr ⟨h x List.mem_cons_self, gZ fun y hy => h y (List.mem_cons_of_mem _ hy)⟩
theorem kL (lc : Nat × Nat) (t : Tk) : plain (iJ lc t) = true /\ dep (iJ lc t) <= 5 := by
 cases t with
 | num iv r => cases iv <;> exact ⟨rfl, Nat.le_of_ble_eq_true (by kernel_rfl)⟩
 | pct iv r => cases iv <;> exact ⟨rfl, Nat.le_of_ble_eq_true (by kernel_rfl)⟩
 | dim iv r u => cases iv <;> exact ⟨rfl, Nat.le_of_ble_eq_true (by kernel_rfl)⟩
 | _ => exact ⟨rfl, Nat.le_of_ble_eq_true (by kernel_rfl)⟩
open Classical in
theorem x6 {σ : Nat -> Option Cell} {α : Type} {f : α -> PV} {l : List α} {m : List PV} {b : Bool} (hr : ∀ x, Res σ (f x) (f x)) (hp : ∀ x, plain (f x) = true /\ dep (f x) <= 5) (hm : n9 σ m m) (hm' : eN m = true) (h : l.map f = m ↔ b = true) : eqW σ (.list (l.map f)) (.list m) fun c => c = b := by
 refine ⟨.list (l.map f), .list m, .inl ⟨_, rfl, iM f hr l⟩, .inl ⟨_, rfl, hm⟩, gZ fun x hx => ?_, hm', Nat.le_trans (Nat.succ_le_succ (yD fun x hx => ?_)) (show 5 + 1 <= 4000 by decide), ?_⟩
 ·obtain ⟨e, _, rfl⟩ := List.mem_map.mp hx; exact (hp e).1
 ·obtain ⟨e, _, rfl⟩ := List.mem_map.mp hx; exact (hp e).2
 ·show decide _ = b
  rw [Bool.eq_iff_iff, decide_eq_true_iff, <- h]
  exact ⟨fun h => PV.list.inj h, congrArg _⟩
theorem x5 {σ : Nat -> Option Cell} {L M : Row} {b : Bool} (h : L = M ↔ b = true) : eqW σ (uM L) (uM M) fun c => c = b :=
 x6 (fun e => qP _ _ _) (fun e => kL _ _) (lY σ M) (gZ fun x hx => by obtain ⟨e, _, rfl⟩ := List.mem_map.mp hx; exact (kL _ _).1) (Iff.trans ⟨qN, congrArg _⟩ h)
noncomputable def fR (is : List It) (k : Nat) : Bool := (is[k]?).any fun a => (is[k + 1]?).any fun b => nG a b
theorem fX : ∀ (is : List It), d9 is = true ↔ ∀ k, fR is k = false
 | [] => ⟨fun _ _ => rfl, fun _ => rfl⟩
 | a :: r => by
  refine ⟨fun h k => ?_, fun h => Bool.and_eq_true_iff.mpr ⟨(Bool.not_eq_true' _).mpr (h 0), (fX r).mpr fun k => h (k + 1)⟩⟩
  obtain ⟨h1, h2⟩ := Bool.and_eq_true_iff.mp h
  cases k with
  | zero => exact (Bool.not_eq_true' _).mp h1
  | succ k => exact (fX r).mp h2 k
theorem qJ {α : Type} (xs : List α) (k : Nat) : slc xs none (some (k : Int)) = xs.take k := by
 show xs.take ((if (k : Int) < 0 then ((k : Int) + xs.length).toNat else min k xs.length) - 0) = _
 rw [if_neg (Int.not_lt.mpr (Int.natCast_nonneg k)), Nat.sub_zero, <- List.take_eq_take_min]
theorem rE : ∀ l : List Int, jK (l.map .int) = some l
 | [] => rfl
 | i :: r => by show (jK (r.map .int)).map (i :: ·) = _; rw [rE r]; rfl
theorem xU {κ : Kn} {p1 p2 p3 p4 p5 : Pos} {st : St} {x : List Nat} (k1 : κ "_law_told" = some .globalImplicit) (k2 : κ "parse_component_value_list" = some .globalImplicit) (k3 : κ "text" = some .local) (ht : st.ρ "text" = some (.str x)) (ha : Al x) (hl : x.length <= 600) :
  ev cL κ (.Call (.Name (Str.ofString "_law_told") p1) [.Call (.Name (Str.ofString "parse_component_value_list") p2) [.Name (Str.ofString "text") p3] [] p4] [] p5) st (uM (iL (1, 1) x)) :=
 bM (F := sG) dM k1 rfl (aB dM (bM (v := qZ (iL (1, 1) x)) (F := mO) dM k2 rfl (aB dM (aN k3 ht) aH) ⟨x, rfl, hl, ha, .inl rfl, rfl⟩) aH) ⟨iL (1, 1) x, rfl, Nat.le_trans (qO _ (1, 1) x (Nat.le_refl _)) (Nat.le_trans hl (by decide)), .inl rfl, rfl⟩
noncomputable def eP (is : List Int) : List Int := is.take 6 ++ [(is.length : Int)]
noncomputable def nI (is : List Int) : Nat := (2 + (eP is).sum % 6).toNat
theorem o4 (is : List Int) : (2 + (eP is).sum % 6) = (nI is : Int) /\ nI is < 8 := by unfold nI; omega
noncomputable def kY (is : List Int) : List It := ((eP is).take (nI is)).map nM
theorem xE (is : List Int) : ∀ i ∈ kY is, i ∈ allIt := fun i hi => by
 obtain ⟨n, _, rfl⟩ := List.mem_map.mp hi
 exact xH n
theorem xF (is : List Int) : (kY is).length <= 7 := by
 rw [kY, List.length_map, List.length_take]
 exact Nat.le_trans (Nat.min_le_left _ _) (Nat.le_of_lt_succ (o4 is).2)
theorem nV {is : List It} (h : ∀ i ∈ is, i ∈ allIt) (hl : is.length <= 7) (g : Bool) : Al (eW (lay g none (1, 1) is)) /\ Few (lay g none (1, 1) is) /\ (eW (lay g none (1, 1) is)).length <= 600 := by
 obtain ⟨h1, h2, h3⟩ := w4 (g := g) none (1, 1) h
 exact ⟨h1, ⟨Nat.le_trans h2 (Nat.le_trans (Nat.mul_le_mul_left 2 hl) (by decide)), Nat.le_trans h3 (Nat.le_trans (Nat.mul_le_mul_left 24 hl) (by decide))⟩, Nat.le_trans h3 (Nat.le_trans (Nat.mul_le_mul_left 24 hl) (by decide))⟩
theorem tK {is : List It} {k : Nat} (h : is.length <= k + 1) : fR is k = false := by
 unfold fR
 rw [List.getElem?_eq_none h]
 cases is[k]? <;> rfl
noncomputable def upI (k : Nat) : PV := .int (1 + (k : Int))
noncomputable def nF (is : List It) : List Nat := (List.range ((is.length : Int) - 1).toNat).filter fun k => fR is k
theorem wU (is : List It) : (nF is).map upI = [] ↔ d9 is = true := by
 rw [List.map_eq_nil_iff, nF, List.filter_eq_nil_iff, fX]
 refine ⟨fun h k => ?_, fun h k _ q => by rw [h k] at q; cases q⟩
 by_cases hk : k < ((is.length : Int) - 1).toNat
 ·exact Bool.eq_false_iff.mpr (h k (List.mem_range.mpr hk))
 ·exact tK (by omega)
theorem zaF {σ : Nat -> Option Cell} (is : List It) : eqW σ (.list ((nF is).map upI)) (.list []) fun c => c = d9 is :=
 x6 (fun _ => a5 _ _ rfl) (fun _ => ⟨rfl, Nat.le_of_ble_eq_true rfl⟩) rfl rfl (wU is)
section
variable {κ : Kn} {st : St}
theorem zaE {is : List Int} {p1 p2 p3 p4 p5 p6 p7 p8 p9 : Pos} {k : Nat} (hl : is.length <= 63) (k1 : κ "script" = some .local) (k2 : κ "len" = some .globalImplicit) (h : st.ρ "script" = some (.list (is.map .int))) :
  ev cL κ (.BinOp (.Subscript (.Name (Str.ofString "script") p1) (.Slice none (some (.Constant (.int 6) k p2)) none p3) p4) .Add (.List [.Call (.Name (Str.ofString "len") p5) [.Name (Str.ofString "script") p6] [] p7] p8) p9) st (.list ((eP is).map .int)) := by
 have M := dM
 have h6 : slc (is.map PV.int) none (some 6) = (is.map PV.int).take 6 := qJ _ 6
 rw [eP, List.map_append, List.map_take, <- h6]
 refine zce M (xT M (aN k1 h) (aC rfl) (by decide) (by decide)) (xZ M rfl (aB M (jR M k2 rfl rfl rfl (aB M (aN k1 h) aH) (of_eq (B := PV.int ((is.map PV.int).length : Nat) = PV.int is.length) (by kernel_rfl) (by rw [List.length_map]))) aH)) ?_
 rw [h6, List.length_take, List.length_map]
 exact Nat.le_trans (Nat.add_le_add (Nat.min_le_left _ _) (Nat.le_refl 1)) (by decide)
theorem zc8 {is : List Int} {p1 p2 p3 p4 p5 p6 p7 : Pos} {i j : Nat} (k1 : κ "drawn" = some .local) (k2 : κ "sum" = some .globalImplicit) (h : st.ρ "drawn" = some (.list ((eP is).map .int))) :
  ev cL κ (.BinOp (.Constant (.int 2) i p1) .Add (.BinOp (.Call (.Name (Str.ofString "sum") p2) [.Name (Str.ofString "drawn") p3] [] p4) .Mod (.Constant (.int 6) j p5) p6) p7) st (.int (nI is)) :=
 (o4 is).1 ▸ eO dM (aC rfl) (xY dM (jR dM k2 rfl rfl rfl (aB dM (aN k1 h) aH) (of_eq (B := ∃ l, jK ((eP is).map .int) = some l /\ PV.int l.sum = PV.int (eP is).sum) (by kernel_rfl) ⟨_, rE _, rfl⟩)) (aC rfl) (by decide))
end
theorem zam (p : Params) (is : List Int) (K : PV -> Prop) (hl : is.length <= 63) (hK : K (.bool true)) : wSs cL (bV (aJ (HK p) 752)) (aQ (HK p) 752) (jA K) ⟨aV [("script", .list (is.map .int))] (fun _ => none), fun _ => none⟩ := by
 have M := dM
 conv in (aQ _ _) => whnf
 conv in (aJ _ _) => whnf
 refine aA (aL M (.list ((eP is).map .int)) (zaE hl (by kernel_rfl!) (by kernel_rfl!) (by walk_at "up")) (by decide +kernel) ?_)
 have hm8 := (o4 is).2
 refine aA (aL M (.list ((((eP is).take (nI is)).map .int).map fun v => itP (nM ((zas v).getD 0)))) (zb9 (v := .list (((eP is).take (nI is)).map .int)) M _ (by decide +kernel) (by decide +kernel) ?_ rfl ?_ rfl fun v hv => ?_) (by decide +kernel) ?_)
 ·rw [List.map_take, <- qJ]
  exact xT M (by walk_at "ex") (zc8 (by kernel_rfl!) (by kernel_rfl!) (by walk_at "up")) (zcs _) (t4 (Nat.lt_trans hm8 (by decide)))
 ·rw [List.length_map, List.length_take]
  exact Nat.le_trans (Nat.min_le_left _ _) (Nat.le_trans (Nat.le_of_lt hm8) (by decide))
 ·obtain ⟨n, _, rfl⟩ := List.mem_map.mp hv
  exact ⟨_, rfl, bM (F := sK) M (by kernel_rfl!) rfl (aB M (v := .int n) (aN (by kernel_rfl!) (by kernel_rfl!)) aH) ⟨n, rfl, .inl rfl, rfl⟩⟩
 rw [List.map_map]
 have him := xE is
 have hil := xF is
 rw [show ((eP is).take (nI is)).map ((fun v => itP (nM ((zas v).getD 0))) ∘ PV.int) = (kY is).map itP from by rw [kY, List.map_map]; rfl]
 clear hm8
 generalize kY is = its at hil him
 have hok : ∀ i ∈ its, yX i = true := fun i hi => zcV (him i hi)
 refine aA (aL M (.list ((nF its).map upI)) ?_ (by decide +kernel) ?_)
 ·have hms : (((List.range ((its.length : Int) - 1).toNat).map upI).filter fun v => fR its ((zas v).getD 0 - 1).toNat).map (fun v => v) = (nF its).map upI := by
   rw [List.map_id', List.filter_map]
   exact congrArg (List.map upI) (List.filter_congr fun k _ => by show fR its ((1 : Int) + k - 1).toNat = _; rw [Int.add_comm, Int.add_sub_cancel]; rfl)
  rw [<- hms]
  refine t8 (v := .rng 1 its.length) M (fun v => v) _ (by decide +kernel) (by decide +kernel) (jR M (by kernel_rfl!) rfl rfl rfl (aB M (v := .int 1) (aC rfl) (aB M (v := .int its.length) (jR M (by kernel_rfl!) rfl rfl rfl (aB M (v := .list (its.map itP)) (pE (by kernel_rfl!) (by kernel_rfl!)) aH) (of_eq (B := PV.int ((its.map itP).length : Nat) = PV.int its.length) (by kernel_rfl) (by rw [List.length_map]))) aH)) (of_eq (B := zcr 1 its.length fun r => r = .rng 1 its.length) (by kernel_rfl) ⟨by decide, by decide, Int.natCast_nonneg _, Int.ofNat_le.mpr (Nat.le_trans hil (by decide)), rfl⟩)) rfl ?_ rfl fun v hv => ?_
  ·rw [List.length_map, List.length_range]
   exact Nat.le_trans (show ((its.length : Int) - 1).toNat <= 7 by omega) (by decide)
  ·obtain ⟨k, hk, rfl⟩ := List.mem_map.mp hv
   have hk2 : k + 1 < its.length := by rw [List.mem_range] at hk; omega
   have g1 : its[k]? = some its[k] := List.getElem?_eq_getElem (Nat.lt_of_succ_lt hk2)
   have g2 : its[k + 1]? = some its[k + 1] := List.getElem?_eq_getElem hk2
   have e1 : (1 : Int) + k - 1 = k := by rw [Int.add_comm, Int.add_sub_cancel]
   have e2 : (1 : Int) + k = ((k + 1 : Nat) : Int) := Int.add_comm _ _
   refine ⟨_, rfl, ?_, fun _ => aN (by kernel_rfl!) (by kernel_rfl!)⟩
   rw [show fR its ((zas (upI k)).getD 0 - 1).toNat = nG its[k] its[k + 1] from by show fR its ((1 : Int) + k - 1).toNat = _; rw [e1]; show fR its k = _; rw [fR, g1, g2]; rfl]
   exact y5 M (bM (F := f8) M (by kernel_rfl!) rfl (aB M (v := itP its[k]) (gN (a := .list (its.map itP)) (b := .int (1 + (k : Int) - 1)) M rfl (x2 (by kernel_rfl!) (by kernel_rfl!)) (xV (i := 1 + (k : Int)) (j := 1) M (aN (by kernel_rfl!) (by kernel_rfl!)) (aC rfl)) (by rw [e1]; exact nO (K := fun r => r = itP its[k]) g1 rfl))
    (aB M (v := itP its[k + 1]) (gN (a := .list (its.map itP)) (b := .int (1 + (k : Int))) M rfl (x2 (by kernel_rfl!) (by kernel_rfl!)) (aN (by kernel_rfl!) (by kernel_rfl!)) (by rw [e2]; exact nO (K := fun r => r = itP its[k + 1]) g2 rfl)) aH)) (kX (hok _ (List.getElem_mem hk2)) ⟨.inl rfl, rfl⟩)) rfl
 obtain ⟨a1, a2, a3⟩ := nV him hil false
 refine aA (cX M (.str (eW (lay false none (1, 1) its))) (uM (mR (lay false none (1, 1) its))) (bM (F := oD) M (by kernel_rfl!) rfl (aB M (v := .list (its.map itP)) (pE (by kernel_rfl!) (by kernel_rfl!)) (aB M (v := .bool false) (aC rfl) aH)) ⟨its, false, rfl, a2, Nat.le_trans hil (by decide), hok, .inl rfl, rfl⟩) (by decide +kernel) (by decide +kernel) ?_)
 have hri := v4 (1, 1) him
 rw [<- (dX its none (1, 1)).1, <- (dX its none (1, 1)).2] at hri
 refine aA (cK M false (hW (a := .bool (d9 its)) (b := .bool (d9 its)) M (bL M (xU (by kernel_rfl!) (by kernel_rfl!) (by kernel_rfl!) (by walk_at "up") a1 a3) (by walk_at "ex") (x5 hri)) (bL M (by walk_at "ex") (xZ M rfl aH) (zaF its)) ⟨rfl, by rw [decide_eq_true rfl]; rfl, rfl⟩) (fun h => by cases h) (fun _ => ?_))
 obtain ⟨b1, b2, b3⟩ := nV him hil true
 refine aA (cX M (.str (eW (lay true none (1, 1) its))) (uM (mR (lay true none (1, 1) its))) (bM (F := oD) M (by kernel_rfl!) rfl (aB M (v := .list (its.map itP)) (pE (by kernel_rfl!) (by kernel_rfl!)) (aB M (v := .bool true) (aC rfl) aH)) ⟨its, true, rfl, b2, Nat.le_trans hil (by decide), hok, .inl rfl, rfl⟩) (by decide +kernel) (by decide +kernel) ?_)
 exact aA (aR M (.bool true) (bL M (xU (by kernel_rfl!) (by kernel_rfl!) (by kernel_rfl!) (by walk_at "up") b1 b3) (by walk_at "ex") (x5 ⟨fun _ => rfl, fun _ => lX none (1, 1) him⟩)) ⟨_, bC _ _, hK⟩)
theorem wI {h : Heap} {a : Addr} {m m' : Str -> Option Value} (x : h.Ns a m) (y : h.Ns a m') : m = m' := by
 obtain ⟨o, es, ep, h1, h2, _, h4⟩ := x
 obtain ⟨o', es', ep', g1, g2, _, g4⟩ := y
 rw [h1] at g1; cases g1
 rw [h2] at g2; cases g2
 funext name
 rw [<- h4, <- g4]
theorem tU (hB : BsOk (bs w.params h mb)) (hmb : HMb mb) :
  zbq prog w (bs w.params h mb) 6 (.ref 752) (fun ps K => ∃ is : List Int, ps = [.list (is.map .int)] /\ is.length <= 63 /\ K (.bool true)) := by
 have hC : CtxOk prog w (bs w.params h mb) cL 5 := by
  refine dH hmb (by
   simp only [List.mem_cons, List.not_mem_nil, or_false]; rintro e (rfl | rfl | rfl | rfl | rfl)
   all_goals first | exact kB | exact dK | exact kA | exact j7 | exact iH) (by simp) (by simp) (fun e he => ?_) (by simp) (by simp)
  simp only [List.mem_cons, List.not_mem_nil, or_false] at he
  rcases he with rfl | rfl | rfl | rfl | rfl
  ·exact ⟨.ref 705, by kernel_rfl, (tT hB hmb).le (by decide)⟩
  ·exact ⟨.ref 726, by kernel_rfl, (jF hB hmb).le (by decide)⟩
  ·exact ⟨.ref 733, by kernel_rfl, (tS hB hmb).le (by decide)⟩
  ·exact ⟨.ref 747, by kernel_rfl, (tM hB hmb).le (by decide)⟩
  ·exact ⟨.ref 628, by kernel_rfl, o3 hB hmb⟩
 obtain ⟨fd, h1, h2, h3⟩ := rJ (K := HK w.params) (a := 752) (by kernel_rfl)
 have hs1 : zaS prog w (bs w.params h mb) cL 5 (Str.ofString "script") (qX 0 (aQ (HK w.params) 752)) := by
  conv in (qX _ _) => whnf
  exact m5 (zR (vX (by decide +kernel)) (snd hB hC (by kernel_rfl))) rfl rfl
 have hm := t6 (loc := Str.ofString "script") (s1 := qX 0 (aQ (HK w.params) 752)) (ss := (aQ (HK w.params) 752).tail) (params := ["script"].map Str.ofString) (k := 1) (dv := []) (dp := []) hB hC h1 (by kernel_rfl) hs1 (by rw [h3]; kernel_rfl) (by kernel_rfl)
  (fun x hx => by
   simp only [List.map_cons, List.map_nil, List.mem_singleton] at hx; subst hx
   rw [h3]; left; kernel_rfl) rfl (fun _ => .nil) (fun s vals X hl => by
   refine kp_binds X fun S => ?_
   obtain ⟨a, rfl⟩ := List.length_eq_one_iff.mp hl
   have : (zaz (HK w.params) 752).map (fun fd => peek (HK w.params) S (bindArgs fd ⟨[a], []⟩)) = some (some ((["script"].map Str.ofString).zip ([a] ++ []))) := by kernel_rfl
   rw [h2] at this
   show peek (HK w.params) S _ = _
   simpa using this)
 refine ⟨hm.1, fun A E G s args ps K hA hi ho hv ⟨is, hps, hlen, hK⟩ => hm.2 A E G s args ps K hA hi ho hv ?_⟩
 subst hps
 refine ⟨rfl, ?_⟩
 rw [h3]
 exact zam _ is K hlen hK
theorem mW {P : Params} {h : Heap} : ∀ {nums : List Int} {vs : List Value}, WellAll P h vs (ofPys (nums.map PyData.int)) -> VRels P (fun a => h.get? a) vs (nums.map PV.int)
 | [], vs, x => by
  rw [show ofPys (([] : List Int).map PyData.int) = [] from rfl] at x
  cases x; exact .nil
 | i :: r, vs, x => by
  rw [show ofPys ((i :: r).map PyData.int) = WData.int i :: ofPys (r.map PyData.int) from rfl] at x
  cases x with
  | cons h1 h2 =>
   cases h1 with
   | int _ t => exact .cons (by simp [VRel]) (mW h2)
theorem pT {P : Params} {h : Heap} : ∀ {ds : List WData} {vs : List Value}, WellAll P h vs ds -> vs.length = ds.length
 | [], vs, x => by cases x; rfl
 | d :: ds, vs, x => by cases x with | cons h1 h2 => simp [pT h2]
theorem zbw {prog : Program} {w : World} {s₁ : Shared} {mg mb : Str -> Option Value} {fa l : Addr} {nums : List Int} {Q : Value -> Shared -> Prop} {E : Value -> Shared -> Prop} (KX : (HK w.params).In s₁.heap) (hT : s₁.heap.Ns mainGlobals mg) (hb : s₁.heap.Ns builtinsNs mb) (hl : s₁.heap.NoLimit)
  (hmb : HMb mb) (hmg : mg (Str.ofString "law") = some (.ref fa)) (hg : s₁.gens = #[]) (hw : Well w.params s₁.heap (.ref l) (ofPy (PyData.list (nums.map PyData.int)))) (hlen : nums.length <= 63)
  (hQ : ∀ s', (∀ b o, s₁.heap.get? b = some o -> s'.heap.get? b = some o) -> s'.os = s₁.os -> AllBare s'.gens -> Q (.bool true) s') : wpAny (model prog w) callerA (call (.ref fa) [.ref l]) Q E s₁ := by
 have hB : BsOk (bs w.params s₁.heap mb) := zdU KX hb hl
 have e1 : mg = mgK w.params := wI hT hB.g
 have e2 : fa = 752 := by
  rw [e1] at hmg
  have h2 : mgK w.params (Str.ofString "law") = some (.ref 752) := by kernel_rfl
  rw [h2] at hmg
  cases hmg; rfl
 subst e2
 have hm := tU (prog := prog) hB hmb
 have hv : VRels w.params (fun a => s₁.heap.get? a) [.ref l] [.list (nums.map PV.int)] := by
  refine .one ?_
  rw [show ofPy (PyData.list (nums.map PyData.int)) = WData.list (ofPys (nums.map PyData.int)) from rfl] at hw
  cases hw with
  | list h1 h2 =>
   rename_i vs
   have hln := pT h2
   rw [ofPys_eq, List.length_map, List.length_map] at hln
   simp only [VRel]
   exact ⟨l, _, _, _, rfl, h1, rfl, rfl, rfl, by simp; unfold a0; omega, by simpa using mW h2⟩
 have hA : Room 6 callerA := ⟨rfl, by decide +kernel, by decide +kernel⟩
 refine wpAny_mono (hm.2 callerA E (fun a => s₁.heap.get? a) s₁ [.ref l] [.list (nums.map PV.int)] (fun r => r = .bool true) hA (fun a o e => e) (fun a o e => e) hv ⟨nums, rfl, hlen, rfl⟩) (fun v s' ⟨r, G', hr, gs, hvr⟩ => ?_) fun _ _ e => e
 subst hr
 simp only [VRel] at hvr
 subst hvr
 exact hQ s' gs.keep gs.os (gs.gens (.of_eq hg))
theorem top2 : PySem.Challenge.rw_te0060_02.Holds := MH.hd (by
 intro w s₀ s₁ mg mb G Y fa o pm cd doc dV kV ho hd hcd hD hmg hg args vals as hpre hlay hrd hwl hlo
 have KX : (HK w.params).In s₁.heap := Y
 refine Ground.open G ?_
 intro T B D TE TW
 try (refine guard_noD D (by decide +kernel) ?_; clear D)
 wrow_args hpre hlay hrd hwl hlo
 rename_i nums hs hlay0 hL1 hr1 hl2 la1 la2 l vs la3 hL ra w1 r0 hI hr hc1 hc2
 refine zbw (mg := mg) (mb := mb) KX T.g T.b T.nolimit T.builtins hmg hg w1 (by omega) fun s' h1 h2 h3 => ?_
 refine ⟨.inl ⟨.bool true, .bool true, [], rfl, fun _ => rfl, ReadsW.bool true, ?_, fun _ => ⟨List.nodup_nil, by simp⟩⟩, .of_keep h1, h2, h3⟩
 first | rfl | kernel_rfl | (trace_state; simp [PySem.Challenge.rw_te0060_02]))
end Mine
end
theorem PySem.Challenge.cw_te0060_02_holds : PySem.Challenge.rw_te0060_02.Holds := by
  exact Mine.top2
