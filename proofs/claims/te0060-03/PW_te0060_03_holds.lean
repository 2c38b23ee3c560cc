import PyProof.Rows.All
import Wide.All
import OpenK.AllK
import Wide.FinOn
import PySem.Challenge.RW_te0060_03
set_option Elab.async false
section
open PySem PySem.W PyProof.Rows
set_option Elab.async false
set_option autoImplicit false
namespace Mine
/-! eliminations in one step: they keep the proofs' terms small -/
theorem x1 {A : Type} {P : A -> Prop} {Q : Prop} (k : ∀ a, P a -> Q) : (∃ a, P a) -> Q := fun ⟨a, h⟩ => k a h
theorem x2 {A B : Type} {P : A -> B -> Prop} {Q : Prop} (k : ∀ a b, P a b -> Q) : (∃ a b, P a b) -> Q := fun ⟨a, b, h⟩ => k a b h
theorem x3 {A B C : Type} {P : A -> B -> C -> Prop} {Q : Prop} (k : ∀ a b c, P a b c -> Q) : (∃ a b c, P a b c) -> Q := fun ⟨a, b, c, h⟩ => k a b c h
theorem x4 {A B C D : Type} {P : A -> B -> C -> D -> Prop} {Q : Prop} (k : ∀ a b c d, P a b c d -> Q) : (∃ a b c d, P a b c d) -> Q := fun ⟨a, b, c, d, h⟩ => k a b c d h
theorem x5 {A B C D E : Type} {P : A -> B -> C -> D -> E -> Prop} {Q : Prop} (k : ∀ a b c d e, P a b c d e -> Q) : (∃ a b c d e, P a b c d e) -> Q := fun ⟨a, b, c, d, e, h⟩ => k a b c d e h
theorem x6 {A B C D E F : Type} {P : A -> B -> C -> D -> E -> F -> Prop} {Q : Prop} (k : ∀ a b c d e f, P a b c d e f -> Q) : (∃ a b c d e f, P a b c d e f) -> Q := fun ⟨a, b, c, d, e, f, h⟩ => k a b c d e f h
theorem a2 {A B Z : Prop} (k : A -> B -> Z) : A /\ B -> Z := fun h => k h.1 h.2
theorem a3 {A B C Z : Prop} (k : A -> B -> C -> Z) : A /\ B /\ C -> Z := fun h => k h.1 h.2.1 h.2.2
theorem a4 {A B C D Z : Prop} (k : A -> B -> C -> D -> Z) : A /\ B /\ C /\ D -> Z := fun h => k h.1 h.2.1 h.2.2.1 h.2.2.2
theorem a5 {A B C D E Z : Prop} (k : A -> B -> C -> D -> E -> Z) : A /\ B /\ C /\ D /\ E -> Z := fun h => k h.1 h.2.1 h.2.2.1 h.2.2.2.1 h.2.2.2.2
theorem a6 {A B C D E F Z : Prop} (k : A -> B -> C -> D -> E -> F -> Z) : A /\ B /\ C /\ D /\ E /\ F -> Z := fun h => k h.1 h.2.1 h.2.2.1 h.2.2.2.1 h.2.2.2.2.1 h.2.2.2.2.2
theorem a7 {A B C D E F G Z : Prop} (k : A -> B -> C -> D -> E -> F -> G -> Z) : A /\ B /\ C /\ D /\ E /\ F /\ G -> Z := fun h => k h.1 h.2.1 h.2.2.1 h.2.2.2.1 h.2.2.2.2.1 h.2.2.2.2.2.1 h.2.2.2.2.2.2
theorem a8 {A B C D E F G H Z : Prop} (k : A -> B -> C -> D -> E -> F -> G -> H -> Z) : A /\ B /\ C /\ D /\ E /\ F /\ G /\ H -> Z := fun h => k h.1 h.2.1 h.2.2.1 h.2.2.2.1 h.2.2.2.2.1 h.2.2.2.2.2.1 h.2.2.2.2.2.2.1 h.2.2.2.2.2.2.2
theorem a9 {A B C D E F G H I Z : Prop} (k : A -> B -> C -> D -> E -> F -> G -> H -> I -> Z) : A /\ B /\ C /\ D /\ E /\ F /\ G /\ H /\ I -> Z := fun h => k h.1 h.2.1 h.2.2.1 h.2.2.2.1 h.2.2.2.2.1 h.2.2.2.2.2.1 h.2.2.2.2.2.2.1 h.2.2.2.2.2.2.2.1 h.2.2.2.2.2.2.2.2
theorem a13 {A B C D E F G H I J K L M Z : Prop} (k : A -> B -> C -> D -> E -> F -> G -> H -> I -> J -> K -> L -> M -> Z) : A /\ B /\ C /\ D /\ E /\ F /\ G /\ H /\ I /\ J /\ K /\ L /\ M -> Z := fun h => k h.1 h.2.1 h.2.2.1 h.2.2.2.1 h.2.2.2.2.1 h.2.2.2.2.2.1 h.2.2.2.2.2.2.1 h.2.2.2.2.2.2.2.1 h.2.2.2.2.2.2.2.2.1 h.2.2.2.2.2.2.2.2.2.1 h.2.2.2.2.2.2.2.2.2.2.1 h.2.2.2.2.2.2.2.2.2.2.2.1 h.2.2.2.2.2.2.2.2.2.2.2.2
theorem e1 {A : Type} {P P' : A -> Prop} (k : ∀ a, P a -> P' a) : (∃ a, P a) -> ∃ a, P' a := fun ⟨a, h⟩ => ⟨a, k a h⟩
theorem e2 {A B : Type} {P P' : A -> B -> Prop} (k : ∀ a b, P a b -> P' a b) : (∃ a b, P a b) -> ∃ a b, P' a b := fun ⟨a, b, h⟩ => ⟨a, b, k a b h⟩
theorem e3 {A B C : Type} {P P' : A -> B -> C -> Prop} (k : ∀ a b c, P a b c -> P' a b c) : (∃ a b c, P a b c) -> ∃ a b c, P' a b c := fun ⟨a, b, c, h⟩ => ⟨a, b, c, k a b c h⟩
theorem e4 {A B C D : Type} {P P' : A -> B -> C -> D -> Prop} (k : ∀ a b c d, P a b c d -> P' a b c d) : (∃ a b c d, P a b c d) -> ∃ a b c d, P' a b c d := fun ⟨a, b, c, d, h⟩ => ⟨a, b, c, d, k a b c d h⟩
theorem e5 {A B C D E : Type} {P P' : A -> B -> C -> D -> E -> Prop} (k : ∀ a b c d e, P a b c d e -> P' a b c d e) : (∃ a b c d e, P a b c d e) -> ∃ a b c d e, P' a b c d e := fun ⟨a, b, c, d, e, h⟩ => ⟨a, b, c, d, e, k a b c d e h⟩
theorem e6 {A B C D E F : Type} {P P' : A -> B -> C -> D -> E -> F -> Prop} (k : ∀ a b c d e f, P a b c d e f -> P' a b c d e f) : (∃ a b c d e f, P a b c d e f) -> ∃ a b c d e f, P' a b c d e f := fun ⟨a, b, c, d, e, f, h⟩ => ⟨a, b, c, d, e, f, k a b c d e f h⟩
theorem e7 {A B C D E F G : Type} {P P' : A -> B -> C -> D -> E -> F -> G -> Prop} (k : ∀ a b c d e f g, P a b c d e f g -> P' a b c d e f g) : (∃ a b c d e f g, P a b c d e f g) -> ∃ a b c d e f g, P' a b c d e f g := fun ⟨a, b, c, d, e, f, g, h⟩ => ⟨a, b, c, d, e, f, g, k a b c d e f g h⟩
theorem c1 {A Z Z' : Prop} (k : Z -> Z') (h : A /\ Z) : A /\ Z' := ⟨h.1, k h.2⟩
theorem c2 {A B Z Z' : Prop} (k : Z -> Z') (h : A /\ B /\ Z) : A /\ B /\ Z' := ⟨h.1, h.2.1, k h.2.2⟩
theorem c3 {A B C Z Z' : Prop} (k : Z -> Z') (h : A /\ B /\ C /\ Z) : A /\ B /\ C /\ Z' := ⟨h.1, h.2.1, h.2.2.1, k h.2.2.2⟩
theorem c4 {A B C D Z Z' : Prop} (k : Z -> Z') (h : A /\ B /\ C /\ D /\ Z) : A /\ B /\ C /\ D /\ Z' := ⟨h.1, h.2.1, h.2.2.1, h.2.2.2.1, k h.2.2.2.2⟩
theorem c5 {A B C D E Z Z' : Prop} (k : Z -> Z') (h : A /\ B /\ C /\ D /\ E /\ Z) : A /\ B /\ C /\ D /\ E /\ Z' := ⟨h.1, h.2.1, h.2.2.1, h.2.2.2.1, h.2.2.2.2.1, k h.2.2.2.2.2⟩
theorem c6 {A B C D E F Z Z' : Prop} (k : Z -> Z') (h : A /\ B /\ C /\ D /\ E /\ F /\ Z) : A /\ B /\ C /\ D /\ E /\ F /\ Z' := ⟨h.1, h.2.1, h.2.2.1, h.2.2.2.1, h.2.2.2.2.1, h.2.2.2.2.2.1, k h.2.2.2.2.2.2⟩
theorem yQ {a b : Bool} (h : a = true) (k : b = true) : (a && b) = true := Bool.and_eq_true_iff.mpr ⟨h, k⟩
theorem via {P : Prop} (h : let G := P; G) : P := h
inductive PV where
 | none | bool (b : Bool) | int (i : Int) | str (x : List Nat)
 | tup (xs : List PV) | list (xs : List PV) | inst (c : Nat) (fs : List PV)
 | rng (lo hi : Int) | ptr (a : Nat) | dict (es : List (List Nat × List Nat))
 deriving Inhabited
inductive Fl where
 | next | brk | cont | ret (v : PV)
inductive Cell where
 | lst (xs : List PV) | ins (c : Nat) (fs : List (Option PV))
noncomputable abbrev d9 := Str -> Option PV
noncomputable abbrev Kn := Str -> Option NameKind
structure St where
 ρ : d9
 σ : Nat -> Option Cell
noncomputable section
noncomputable def upd (ρ : d9) (x : Str) (v : PV) : d9 := fun y => if y = x then some v else ρ y
noncomputable def bD (σ : Nat -> Option Cell) (a : Nat) (c : Cell) : Nat -> Option Cell := fun b => if b = a then some c else σ b
noncomputable abbrev Fn := List PV -> (PV -> Prop) -> Prop
structure Ctx where
 val : Str -> Option PV
 fn : Str -> Option Fn
 bi : Str -> Bool
 slot : Nat -> Str -> Option Nat
 cval : Nat -> Str -> Option PV
 mutL : Nat -> Bool
 cls : Str -> Option Fn
 ini : Bool
/-! what a value is, as a step -/
noncomputable def nV {α : Type} (o : Option α) (d : Prop) (K : α -> Prop) : Prop := Option.casesOn (motive := fun _ => Prop) o d K
noncomputable def opt {α : Type} (o : Option α) (K : α -> Prop) : Prop := nV o False K
noncomputable def pvc {α : Sort _} (d : α) (n : α) (b : Bool -> α) (i : Int -> α) (s : List Nat -> α) (t l : List PV -> α) (p : Nat -> α) (v : PV) : α := PV.casesOn (motive_1 := fun _ => α) v n b i s t l (fun _ _ => d) (fun _ _ => d) p fun _ => d
noncomputable def asI (v : PV) (K : Int -> Prop) : Prop := pvc False False (fun _ => False) K (fun _ => False) (fun _ => False) (fun _ => False) (fun _ => False) v
noncomputable def asS (v : PV) (K : List Nat -> Prop) : Prop := pvc False False (fun _ => False) (fun _ => False) K (fun _ => False) (fun _ => False) (fun _ => False) v
noncomputable def asT (v : PV) (K : List PV -> Prop) : Prop := pvc False False (fun _ => False) (fun _ => False) (fun _ => False) K (fun _ => False) (fun _ => False) v
noncomputable def asL (v : PV) (K : List PV -> Prop) : Prop := pvc False False (fun _ => False) (fun _ => False) (fun _ => False) (fun _ => False) K (fun _ => False) v
noncomputable def asP (v : PV) (K : Nat -> Prop) : Prop := pvc False False (fun _ => False) (fun _ => False) (fun _ => False) (fun _ => False) (fun _ => False) K v
noncomputable def one {α : Type} (xs : List α) (K : α -> Prop) : Prop := List.casesOn (motive := fun _ => Prop) xs False fun a r => List.casesOn (motive := fun _ => Prop) r (K a) fun _ _ => False
noncomputable def two {α : Type} (xs : List α) (K : α -> α -> Prop) : Prop := List.casesOn (motive := fun _ => Prop) xs False fun a r => one r (K a)
noncomputable def mD {α : Type} (xs : List α) (K : α -> α -> α -> Prop) : Prop := List.casesOn (motive := fun _ => Prop) xs False fun a r => two r (K a)
noncomputable def asD (v : PV) (K : List (List Nat × List Nat) -> Prop) : Prop := PV.casesOn (motive_1 := fun _ => Prop) v False (fun _ => False) (fun _ => False) (fun _ => False) (fun _ => False) (fun _ => False) (fun _ _ => False) (fun _ _ => False) (fun _ => False) K
theorem zbB {v : PV} {K : List (List Nat × List Nat) -> Prop} (h : asD v K) : ∃ i, v = .dict i /\ K i := by cases v <;> first | exact ⟨_, rfl, h⟩ | exact False.elim h
theorem za3 {v : PV} {K K' : List (List Nat × List Nat) -> Prop} (k : ∀ i, K i -> K' i) (h : asD v K) : asD v K' := by obtain ⟨i, rfl, h⟩ := zbB h; exact k i h
theorem eP {α : Type} {o : Option α} {A A' : Prop} {K K' : α -> Prop} (h : A -> A') (k : ∀ a, K a -> K' a) (x : nV o A K) : nV o A' K' := by cases o; exact h x; exact k _ x
theorem fN {α : Type} {A : Prop} {K : α -> Prop} : nV none A K = A := rfl
theorem gB {α : Type} {a : α} {K : α -> Prop} : opt (some a) K = K a := rfl
theorem bQ {α : Type} {o : Option α} {K : α -> Prop} (h : opt o K) : ∃ a, o = some a /\ K a := by cases o; exact h.elim; exact ⟨_, rfl, h⟩
theorem aY {α : Type} {o : Option α} {K K' : α -> Prop} (k : ∀ a, K a -> K' a) (h : opt o K) : opt o K' := by cases o; exact h; exact k _ h
theorem bP {v : PV} {K : Int -> Prop} (h : asI v K) : ∃ i, v = .int i /\ K i := by cases v <;> first | exact ⟨_, rfl, h⟩ | exact False.elim h
theorem cZ {v : PV} {K : List Nat -> Prop} (h : asS v K) : ∃ i, v = .str i /\ K i := by cases v <;> first | exact ⟨_, rfl, h⟩ | exact False.elim h
theorem pN {v : PV} {K : List PV -> Prop} (h : asL v K) : ∃ i, v = .list i /\ K i := by cases v <;> first | exact ⟨_, rfl, h⟩ | exact False.elim h
theorem pL {v : PV} {K : Nat -> Prop} (h : asP v K) : ∃ i, v = .ptr i /\ K i := by cases v <;> first | exact ⟨_, rfl, h⟩ | exact False.elim h
theorem fD {α : Type} {xs : List α} {K : α -> Prop} (h : one xs K) : ∃ a, xs = [a] /\ K a := by
 cases xs with
 | nil => exact False.elim h
 | cons a r => cases r; exact ⟨_, rfl, h⟩; exact False.elim h
theorem n3 {α : Type} {xs : List α} {K : α -> α -> Prop} (h : two xs K) : ∃ a b, xs = [a, b] /\ K a b := by
 cases xs with
 | nil => exact False.elim h
 | cons a r => obtain ⟨b, e, k⟩ := fD h; exact ⟨a, b, by rw [e], k⟩
theorem mC {α : Type} {xs : List α} {K : α -> α -> α -> Prop} (h : mD xs K) : ∃ a b c, xs = [a, b, c] /\ K a b c := by
 cases xs with
 | nil => exact False.elim h
 | cons a r => obtain ⟨b, c, e, k⟩ := n3 h; exact ⟨a, b, c, by rw [e], k⟩
theorem aU {v : PV} {K K' : Int -> Prop} (k : ∀ i, K i -> K' i) (h : asI v K) : asI v K' := by obtain ⟨i, rfl, h⟩ := bP h; exact k i h
theorem bM {v : PV} {K K' : List Nat -> Prop} (k : ∀ i, K i -> K' i) (h : asS v K) : asS v K' := by obtain ⟨i, rfl, h⟩ := cZ h; exact k i h
theorem jT {v : PV} {K K' : List PV -> Prop} (k : ∀ i, K i -> K' i) (h : asL v K) : asL v K' := by obtain ⟨i, rfl, h⟩ := pN h; exact k i h
theorem jS {v : PV} {K K' : Nat -> Prop} (k : ∀ i, K i -> K' i) (h : asP v K) : asP v K' := by obtain ⟨i, rfl, h⟩ := pL h; exact k i h
theorem dA {α : Type} {xs : List α} {K K' : α -> Prop} (k : ∀ a, K a -> K' a) (h : one xs K) : one xs K' := by obtain ⟨a, rfl, h⟩ := fD h; exact k a h
theorem mA {α : Type} {xs : List α} {K K' : α -> α -> Prop} (k : ∀ a b, K a b -> K' a b) (h : two xs K) : two xs K' := by obtain ⟨a, b, rfl, h⟩ := n3 h; exact k a b h
theorem lD {α : Type} {xs : List α} {K K' : α -> α -> α -> Prop} (k : ∀ a b c, K a b c -> K' a b c) (h : mD xs K) : mD xs K' := by obtain ⟨a, b, c, rfl, h⟩ := mC h; exact k a b c h
noncomputable def fA (c : Option Cell) : Option (List PV) := Option.casesOn (motive := fun _ => Option (List PV)) c none fun c => Cell.casesOn (motive := fun _ => Option (List PV)) c some fun _ _ => none
noncomputable def der (σ : Nat -> Option Cell) (v : PV) : PV := pvc v v (fun _ => v) (fun _ => v) (fun _ => v) (fun _ => v) (fun _ => v) (fun a => Option.casesOn (motive := fun _ => PV) (fA (σ a)) v .list) v
noncomputable def rP (v : PV) : Option Bool := pvc none (some false) some (fun i => some (decide (i ≠ 0))) (fun x => some (!x.isEmpty)) (fun xs => some (!xs.isEmpty)) (fun xs => some (!xs.isEmpty)) (fun _ => none) v
noncomputable def gK (n : Nat) (i : Int) : Nat := if i < 0 then (i + n).toNat else min i.toNat n
noncomputable def slc {α : Type} (xs : List α) (lo hi : Option Int) : List α :=
 (xs.drop ((lo.map (gK xs.length)).getD 0)).take ((hi.map (gK xs.length)).getD xs.length - (lo.map (gK xs.length)).getD 0)
noncomputable def sI {α : Type} (xs : List α) (i : Int) : Option α :=
 if i < 0 then (if 0 <= i + xs.length then xs[(i + xs.length).toNat]? else none) else xs[i.toNat]?
noncomputable def w9 (x : List Nat) : List Nat -> Bool
 | [] => x.isEmpty
 | c :: y => x.isPrefixOf (c :: y) || w9 x y
noncomputable def zd4 (v : PV) : Option (List Nat) := pvc none none (fun _ => none) (fun _ => none) some (fun _ => none) (fun _ => none) (fun _ => none) v
noncomputable def intP (v : PV) : Option Int := pvc none none (fun _ => none) some (fun _ => none) (fun _ => none) (fun _ => none) (fun _ => none) v
noncomputable def eA : List PV -> Option (List (List Nat))
 | [] => some []
 | v :: r => (zd4 v).bind fun x => (eA r).map (x :: ·)
noncomputable def sC : List PV -> Option (List Int)
 | [] => some []
 | v :: r => (intP v).bind fun x => (sC r).map (x :: ·)
noncomputable def aQ : Nat := 16777216
noncomputable def zdY (a b : PV) (K : PV -> Prop) : Prop :=
 pvc False False (fun _ => False) (fun x => asI b fun y => K (.int (x + y))) (fun x => asS b fun y => x.length + y.length <= aQ /\ K (.str (x ++ y))) (fun _ => False) (fun _ => False) (fun _ => False) a
noncomputable def addL (a b : PV) (K : PV -> Prop) : Prop := asL a fun x => asL b fun y => x.length + y.length <= aQ /\ K (.list (x ++ y))
noncomputable def zd3 (a b : PV) (K : PV -> Prop) : Prop := asI a fun x => asI b fun y => K (.int (x - y))
noncomputable def modP (a b : PV) (K : PV -> Prop) : Prop := asI a fun x => asI b fun y => 0 < y /\ K (.int (x % y))
noncomputable def mulI (a b : PV) (K : PV -> Prop) : Prop := asI a fun x => asI b fun y => Builtin.Int.intBits y <= 64 /\ K (.int (x * y))
noncomputable def powI (a b : PV) (K : PV -> Prop) : Prop := asI a fun x => asI b fun y => x = 16 /\ 1 <= y /\ y <= 6 /\ K (.int (16 ^ y.toNat))
noncomputable def fdvP (a b : PV) (K : PV -> Prop) : Prop := asI a fun x => asI b fun y => 0 < y /\ y < 4294967296 /\ K (.int (x / y))
noncomputable def opK {α : Sort _} (add sub mul mod pow fdv d : α) (op : Operator) : α := Operator.casesOn (motive := fun _ => α) op add sub mul d d mod pow d d d d d fdv
noncomputable def isL (v : PV) : Bool := pvc false false (fun _ => false) (fun _ => false) (fun _ => false) (fun _ => false) (fun _ => true) (fun _ => false) v
noncomputable def zd9 (op : Operator) (a b : PV) (K : PV -> Prop) : Prop := opK (if isL a = true then addL a b K else zdY a b K) (zd3 a b K) (mulI a b K) (modP a b K) (powI a b K) (fdvP a b K) False op
noncomputable def inP (op : Operator) (a b : PV) (K : PV -> Prop) : Prop := opK (zdY a b K) (zd3 a b K) False False False False False op
mutual
noncomputable def Res (σ : Nat -> Option Cell) (v : PV) : PV -> Prop
 | .tup ts => ∃ xs, v = .tup xs /\ u4 σ xs ts
 | .list ts => (∃ xs, v = .list xs /\ u4 σ xs ts) \/ (∃ a xs, v = .ptr a /\ σ a = some (.lst xs) /\ u4 σ xs ts)
 | .inst c ts => ∃ xs, v = .inst c xs /\ u4 σ xs ts
 | .none => v = .none
 | .bool b => v = .bool b
 | .int i => v = .int i
 | .str x => v = .str x
 | .rng a b => v = .rng a b
 | .dict es => v = .dict es
 | .ptr _ => False
noncomputable def u4 (σ : Nat -> Option Cell) (xs : List PV) : List PV -> Prop
 | [] => xs = []
 | t :: ts => ∃ y ys, xs = y :: ys /\ Res σ y t /\ u4 σ ys ts
end
mutual
noncomputable def plain : PV -> Bool
 | .none => true
 | .int _ => true
 | .str _ => true
 | .tup xs => fC xs
 | .list xs => fC xs
 | .bool _ => false
 | .inst _ _ => false
 | .rng _ _ => false
 | .ptr _ => false
 | .dict _ => false
noncomputable def fC : List PV -> Bool
 | [] => true
 | x :: xs => plain x && fC xs
end
mutual
noncomputable def dep : PV -> Nat
 | .tup xs => zaT xs + 1
 | .list xs => zaT xs + 1
 | .none => 0
 | .int _ => 0
 | .str _ => 0
 | .bool _ => 0
 | .inst _ _ => 0
 | .rng _ _ => 0
 | .ptr _ => 0
 | .dict _ => 0
noncomputable def zaT : List PV -> Nat
 | [] => 0
 | x :: xs => max (dep x) (zaT xs)
end
noncomputable def eqS (a b : PV) : Option Bool :=
 pvc none none (fun x => PV.casesOn (motive_1 := fun _ => Option Bool) b none (fun y => some (decide (x = y))) (fun _ => none) (fun _ => none) (fun _ => none) (fun _ => none) (fun _ _ => none) (fun _ _ => none) (fun _ => none) (fun _ => none))
  (fun x => (intP b).map fun y => decide (x = y)) (fun x => pvc none (some false) (fun _ => none) (fun _ => none) (fun y => some (decide (x = y))) (fun _ => none) (fun _ => none) (fun _ => none) b) (fun _ => none) (fun _ => none) (fun _ => none) a
open Classical in
noncomputable def eqW (σ : Nat -> Option Cell) (a b : PV) (K : Bool -> Prop) : Prop :=
 nV (eqS a b) (∃ ta tb, Res σ a ta /\ Res σ b tb /\ plain ta = true /\ plain tb = true /\ dep ta <= 4000 /\ K (decide (ta = tb))) K
noncomputable def leS : List Nat -> List Nat -> Bool
 | [], _ => true
 | a :: x, y => List.casesOn (motive := fun _ => Bool) y false fun b y => if a = b then leS x y else decide (a < b)
noncomputable def isW (a b : PV) (K : Bool -> Prop) : Prop :=
 pvc False (pvc False (K true) (fun _ => False) (fun _ => K false) (fun _ => K false) (fun _ => K false) (fun _ => False) (fun _ => False) a)
  (fun y => pvc False False (fun x => K (decide (x = y))) (fun _ => False) (fun _ => False) (fun _ => False) (fun _ => False) (fun _ => False) a) (fun _ => False) (fun _ => False) (fun _ => False) (fun _ => False) (fun _ => False) b
noncomputable def inW (a b : PV) (K : Bool -> Prop) : Prop := asS a fun x =>
 pvc False False (fun _ => False) (fun _ => False) (fun y => K (w9 x y)) (fun ys => ∃ zs, eA ys = some zs /\ K (decide (x ∈ zs))) (fun ys => ∃ zs, eA ys = some zs /\ K (decide (x ∈ zs))) (fun _ => False) b
noncomputable def ltP (a b : PV) (K : Bool -> Prop) : Prop := asI a fun x => asI b fun y => K (decide (x < y))
noncomputable def gtP (a b : PV) (K : Bool -> Prop) : Prop := asI a fun x => asI b fun y => K (decide (y < x))
noncomputable def geP (a b : PV) (K : Bool -> Prop) : Prop := asI a fun x => asI b fun y => K (decide (y <= x))
noncomputable def leP (a b : PV) (K : Bool -> Prop) : Prop :=
 pvc False False (fun _ => False) (fun x => asI b fun y => K (decide (x <= y))) (fun x => asS b fun y => K (leS x y)) (fun _ => False) (fun _ => False) (fun _ => False) a
noncomputable def zbv (σ : Nat -> Option Cell) (op : CmpOp) (a b : PV) (K : Bool -> Prop) : Prop :=
 CmpOp.casesOn (motive := fun _ => Prop) op (eqW σ a b K) (eqW σ a b fun r => K (!r)) (ltP a b K) (leP a b K) (gtP a b K) (geP a b K) (isW a b K) (isW a b fun r => K (!r)) (inW a b K) (inW a b fun r => K (!r))
noncomputable def gS (v : PV) : Option (List PV) := PV.casesOn (motive_1 := fun _ => Option (List PV)) v none (fun _ => none) (fun _ => none) (fun x => some (x.map fun c => .str [c])) (fun _ => none) some (fun _ _ => none)
 (fun lo hi => some ((List.range (hi - lo).toNat).map fun (k : Nat) => .int (lo + k))) (fun _ => none) (fun _ => none)
/-! what an expression is -/
noncomputable def exc {α : Sort _} (d : α) (c : Const -> α) (nm : Str -> α) (tup : List Expr -> α) (att : Expr -> Str -> Pos -> α) (sl : Option Expr -> Option Expr -> α) (lc : Expr -> List Comprehension -> α) (e : Expr) : α :=
 Expr.casesOn (motive_1 := fun _ => α) e (fun _ _ _ => d) (fun _ _ _ => d) (fun _ _ _ _ => d) (fun _ _ _ => d) (fun _ _ _ _ => d) (fun _ _ _ _ => d) (fun _ _ _ => d) (fun _ _ _ => d) (fun e g _ _ => lc e g) (fun _ _ _ _ => d)
  (fun _ _ _ _ _ => d) (fun _ _ _ _ => d) (fun _ _ => d) (fun _ _ => d) (fun _ _ => d) (fun _ _ _ _ => d) (fun _ _ _ _ => d) (fun _ _ _ _ => d) (fun _ _ => d) (fun x _ _ => c x) (fun o n p => att o n p) (fun _ _ _ => d) (fun _ _ => d) (fun x _ => nm x) (fun _ _ => d) (fun es _ _ => tup es) (fun l u _ _ => sl l u)
noncomputable def b9 (e : Expr) : Bool :=
 Expr.casesOn (motive_1 := fun _ => Bool) e (fun _ _ _ => true) (fun _ _ _ => true) (fun _ _ _ _ => true) (fun _ _ _ => true) (fun _ _ _ _ => true) (fun _ _ _ _ => true) (fun _ _ _ => true) (fun _ _ _ => true) (fun _ _ _ _ => true) (fun _ _ _ _ => true)
  (fun _ _ _ _ _ => true) (fun _ _ _ _ => true) (fun _ _ => true) (fun _ _ => true) (fun _ _ => true) (fun _ _ _ _ => true) (fun _ _ _ _ => true) (fun _ _ _ _ => true) (fun _ _ => true) (fun _ _ _ => true) (fun _ _ _ => true) (fun _ _ _ => true) (fun _ _ => false) (fun _ _ => true) (fun _ _ => true) (fun _ _ _ => true) (fun _ _ _ _ => true)
noncomputable def nmE (e : Expr) : Option Str := exc none (fun _ => none) some (fun _ => none) (fun _ _ _ => none) (fun _ _ => none) (fun _ _ => none) e
noncomputable def zc2 (e : Expr) : Option (List Expr) := exc none (fun _ => none) (fun _ => none) some (fun _ _ _ => none) (fun _ _ => none) (fun _ _ => none) e
noncomputable def atN (e : Expr) : Option Str := exc none (fun _ => none) (fun _ => none) (fun _ => none) (fun _ n _ => some n) (fun _ _ => none) (fun _ _ => none) e
noncomputable def y0 (e : Expr) : Bool := exc false (fun _ => false) (fun _ => false) (fun _ => false) (fun _ _ _ => false) (fun _ _ => true) (fun _ _ => false) e
noncomputable def strC (c : Const) : Option Str := match c with
 | .str p => some p
 | _ => none
noncomputable def csE (e : Expr) : Option Str := exc none strC (fun _ => none) (fun _ => none) (fun _ _ _ => none) (fun _ _ => none) (fun _ _ => none) e
noncomputable def dI : List Expr -> List PV -> d9 -> Option d9
 | [], vs, ρ => if vs.isEmpty = true then some ρ else none
 | e :: es, vs, ρ => (nmE e).bind fun x => vs.head?.bind fun v => dI es vs.tail (upd ρ x v)
noncomputable def gM (e : Expr) (v : PV) (ρ : d9) : Option d9 := match nmE e with
 | some x => some (upd ρ x v)
 | none => (zc2 e).bind fun es => pvc none none (fun _ => none) (fun _ => none) (fun _ => none) (fun vs => dI es vs ρ) (fun _ => none) (fun _ => none) v
noncomputable def nQ : List Expr -> PV -> d9 -> Option d9
 | [], _, ρ => some ρ
 | t :: ts, v, ρ => (gM t v ρ).bind (nQ ts v)
noncomputable def iR (b c : Nat) : Option Nat :=
 if 48 <= c /\ c <= 57 /\ c - 48 < b then some (c - 48)
 else if 97 <= c /\ c <= 102 /\ c - 87 < b then some (c - 87)
 else if 65 <= c /\ c <= 70 /\ c - 55 < b then some (c - 55)
 else none
noncomputable def dM (b : Nat) : Nat -> List Nat -> Option Nat
 | acc, [] => some acc
 | acc, c :: r => match iR b c with
  | some d => dM b (acc * b + d) r
  | none => none
noncomputable def lenP (v : PV) (K : PV -> Prop) : Prop := pvc False False (fun _ => False) (fun _ => False) (fun x => K (.int x.length)) (fun _ => False) (fun x => K (.int x.length)) (fun _ => False) v
noncomputable def intW (x : List Nat) (K : PV -> Prop) : Prop := List.casesOn (motive := fun _ => Prop) x False fun c x =>
 x.length < 640 /\ ((c = 45 /\ x ≠ [] /\ ∃ n, dM 10 0 x = some n /\ K (.int (-(n : Int)))) \/
   (c = 43 /\ x ≠ [] /\ ∃ n, dM 10 0 x = some n /\ K (.int n)) \/
   (∃ n, dM 10 0 (c :: x) = some n /\ K (.int n)))
noncomputable def zd5 (lo hi : Int) (K : PV -> Prop) : Prop := 0 <= lo /\ lo <= 16777216 /\ 0 <= hi /\ hi <= 16777216 /\ K (.rng lo hi)
noncomputable def biP (name : Str) (args : List PV) (K : PV -> Prop) : Prop :=
 if name = "len" then one args fun v => lenP v K
 else if name = "ord" then one args fun v => asS v fun x => one x fun c => K (.int c)
 else if name = "chr" then one args fun v => asI v fun i => 0 <= i /\ i < 0x110000 /\ K (.str [i.toNat])
 else if name = "int" then List.casesOn (motive := fun _ => Prop) args False fun v r => asS v fun x => List.casesOn (motive := fun _ => Prop) r (intW x K) fun b r => one (b :: r) fun b => asI b fun b => b = 16 /\ x ≠ [] /\ x.length <= 640 /\ ∃ n, dM 16 0 x = some n /\ K (.int n)
 else if name = "sum" then one args fun v => asL v fun xs => ∃ is, sC xs = some is /\ K (.int is.sum)
 else if name = "range" then List.casesOn (motive := fun _ => Prop) args False fun a r => asI a fun lo => List.casesOn (motive := fun _ => Prop) r (zd5 0 lo K) fun b r => one (b :: r) fun b => asI b fun hi => zd5 lo hi K
 else False
noncomputable def sO (x p : List Nat) : Nat -> Nat -> Int
 | _, 0 => -1
 | i, n + 1 => if p.isPrefixOf (x.drop i) then i else sO x p (i + 1) n
noncomputable def zct (x p : List Nat) (i : Nat) : Int := sO x p i (x.length + 1 - i)
noncomputable def bS : List Nat -> List Nat -> Nat -> List Nat -> List Nat
 | _, _, 0, x => x
 | _, _, _ + 1, [] => []
 | p, q, n + 1, c :: x => if p.isPrefixOf (c :: x) then q ++ bS p q n ((c :: x).drop p.length) else c :: bS p q n x
noncomputable def iI (p q x : List Nat) : List Nat := bS p q (x.length + 1) x
noncomputable def oU (c : Nat) (x : List Nat) : Nat -> Nat -> Option Nat -> Option Nat
 | 0, _, st => st
 | n + 1, i, st => oU c x n (i + 1) (if x[i]? = some c then some i else st)
noncomputable def eO (c : Nat) (x : List Nat) (i j : Nat) : Int := (oU c x (min j x.length - i) i none).elim (-1) fun k => (k : Int)
noncomputable def okI (i : Int) (K : Prop) : Prop := 0 <= i /\ i < 4611686018427387904 /\ K
noncomputable def swP (x : List Nat) (p : PV) (i : Int) (K : Bool -> Prop) : Prop :=
 pvc False False (fun _ => False) (fun _ => False) (fun p => K (decide (i <= x.length) && p.isPrefixOf (x.drop i.toNat)))
  (fun ps => ∃ zs, eA ps = some zs /\ K (decide (i <= x.length) && zs.any fun p => p.isPrefixOf (x.drop i.toNat))) (fun _ => False) (fun _ => False) p
noncomputable def zdl (args : List PV) (K : Nat -> Int -> Int -> Prop) : Prop := mD args fun p i j => asS p fun p => one p fun c => asI i fun i => asI j fun j => okI i (okI j (K c i j))
noncomputable def iN (σ : Nat -> Option Cell) (name : Str) (o : PV) (args : List PV) (K : PV -> (Nat -> Option Cell) -> Prop) : Prop :=
 if name = "append" then asP o fun a => one args fun v => ∃ xs, σ a = some (.lst xs) /\ xs.length < aQ /\ K .none (bD σ a (.lst (xs ++ [v])))
 else if name = "startswith" then asS o fun x => two args fun p i => asI i fun i => okI i (swP x p i fun b => K (.bool b) σ)
 else if name = "find" then asS o fun x => two args fun p i => asS p fun p => asI i fun i => okI i (K (.int (zct x p i.toNat)) σ)
 else if name = "rfind" then asS o fun x => zdl args fun c i j => K (.int (eO c x i.toNat j.toNat)) σ
 else if name = "count" then asS o fun x => zdl args fun c i j => K (.int ((((x.take j.toNat).drop i.toNat).count c : Nat) : Int)) σ
 else if name = "join" then asS o fun x => x = [] /\ one args fun l => asL (der σ l) fun xs => ∃ zs, eA xs = some zs /\ zs.flatten.length <= aQ /\ K (.str zs.flatten) σ
 else if name = "pop" then asP o fun a => args = [] /\ ∃ xs v, σ a = some (.lst (xs ++ [v])) /\ K v (bD σ a (.lst xs))
 else if name = "get" then asD o fun es => two args fun k d => asS k fun k => K (((es.lookup k).map .str).getD d) σ
 else False
noncomputable def kJ : Const -> Option PV
 | .none => some .none
 | .bool b => some (.bool b)
 | .int i => some (.int i)
 | .str s => some (.str s.cps.toList)
 | _ => none
noncomputable def tst (K : Bool -> St -> Prop) (v : PV) (st : St) : Prop := opt (rP (der st.σ v)) fun b => K b st
noncomputable def bX (I : (Bool -> St -> Prop) -> St -> Prop) (El : (PV -> St -> Prop) -> St -> Prop) (tgt : Expr) (ρ0 : d9) (Q : List PV -> (Nat -> Option Cell) -> Prop) : List PV -> List PV -> (Nat -> Option Cell) -> Prop
 | [], acc, σ => Q acc σ
 | v :: vs, acc, σ => opt (gM tgt v ρ0) fun ρ1 => I (fun ok st1 => if ok = true then El (fun r st2 => bX I El tgt ρ0 Q vs (acc ++ [r]) st2.σ) st1 else bX I El tgt ρ0 Q vs acc st1.σ) ⟨ρ1, σ⟩
noncomputable def cF (ns : List (Str × NameKind)) : Kn := fun y => List.lookup y ns
noncomputable def oV (v : PV) : Bool := pvc false false (fun _ => false) (fun _ => false) (fun _ => false) (fun _ => false) (fun _ => false) (fun _ => true) v
noncomputable def iY (v : PV) : Bool := pvc false true (fun _ => true) (fun _ => true) (fun _ => true) (fun _ => false) (fun _ => false) (fun _ => false) v
noncomputable def fS (ns : List (Str × NameKind)) (ρ : d9) : d9 := fun y => if List.lookup y ns = some .free then ρ y else none
noncomputable def bH (C : Ctx) (pos : Pos) (vs : List PV) (Q : PV -> St -> Prop) (st : St) : Prop :=
 if C.mutL pos.line then ∀ a, st.σ a = none -> Q (.ptr a) ⟨st.ρ, bD st.σ a (.lst vs)⟩ else Q (.list vs) st
noncomputable def unP (op : UnaryOp) (v : PV) (K : PV -> Prop) : Prop :=
 UnaryOp.casesOn (motive := fun _ => Prop) op False (opt (rP v) fun b => K (.bool (!b))) False (asI v fun i => K (.int (-i)))
noncomputable def cK (as : List Expr) : Option (Str × Str) := match as with
 | [a, b] => (csE a).bind fun p => (csE b).map fun q => (p, q)
 | _ => none
noncomputable def zae (name p q : Str) (o : PV) (K : PV -> Prop) : Prop :=
 asS o fun x => name = "replace" /\ x.length <= 1000000 /\ p.cps.toList ≠ [] /\ q.cps.toList.length = 1 /\ p ≠ q /\ K (.str (iI p.cps.toList q.cps.toList x))
noncomputable def za1 (C : Ctx) (name : Str) (o : PV) (K : PV -> Prop) : Prop :=
 PV.casesOn (motive_1 := fun _ => Prop) o False (fun _ => False) (fun _ => False) (fun _ => False) (fun _ => False) (fun _ => False)
  (fun c fs => nV (C.slot c name) (opt (C.cval c name) K) fun i => opt fs[i]? K) (fun _ _ => False) (fun _ => False) (fun _ => False)
noncomputable def zc3 (o : PV) (lo hi : Option Int) (K : PV -> Prop) : Prop :=
 pvc False False (fun _ => False) (fun _ => False) (fun x => K (.str (slc x lo hi))) (fun _ => False) (fun xs => K (.list (slc xs lo hi))) (fun _ => False) o
noncomputable def zc5 (o i : PV) (K : PV -> Prop) : Prop := asI i fun k =>
 pvc False False (fun _ => False) (fun _ => False) (fun x => opt (sI x k) fun c => K (.str [c])) (fun xs => opt (sI xs k) K) (fun xs => opt (sI xs k) K) (fun _ => False) o
noncomputable def qP (C : Ctx) (f : Str) : Bool := (C.fn f).isSome || (C.cls f).isSome || C.bi f
noncomputable def fX (C : Ctx) (f : Str) (vs : List PV) (st : St) (K : PV -> Prop) : Prop :=
 nV (C.fn f) (nV (C.cls f) (C.bi f = true /\ biP f (vs.map (der st.σ)) K) fun F => F vs K)
  fun F => F (vs.map (der st.σ)) fun r => (vs.any oV = false \/ iY r = true) /\ K r
noncomputable def cW (κ : Kn) (sc : Scope) : Bool :=
 sc.kind == .function && sc.names.all fun n => match n.2 with
  | .free => κ n.1 == some .cell || κ n.1 == some .free
  | .local => sc.names.lookup n.1 == some .local
  | .cell => false
  | _ => true
noncomputable def bY (e : Expr) : List Str := match nmE e with
 | some x => [x]
 | none => ((zc2 e).getD []).filterMap nmE
noncomputable def setCell (C : Ctx) (a : Nat) (name : Str) (v : PV) (st : St) (K : St -> Prop) : Prop :=
 ∃ c fs i, st.σ a = some (.ins c fs) /\ C.slot c name = some i /\ i < fs.length /\ K ⟨st.ρ, bD st.σ a (.ins c (fs.set i (some v)))⟩
noncomputable def isD (v : PV) : Bool := PV.casesOn (motive_1 := fun _ => Bool) v false (fun _ => false) (fun _ => false) (fun _ => false) (fun _ => false) (fun _ => false) (fun _ _ => false) (fun _ _ => false) (fun _ => false) fun _ => true
noncomputable def xY : List (Option Expr) -> List Expr -> Option (List (Str × Str))
 | [], vs => if vs.isEmpty = true then some [] else none
 | k :: ks, vs => k.bind fun k => (csE k).bind fun a => vs.head?.bind fun v => (csE v).bind fun b => (xY ks vs.tail).map ((a, b) :: ·)
noncomputable def dlP (l : List (Str × Str)) : List (List Nat × List Nat) := l.map fun e => (e.1.cps.toList, e.2.cps.toList)
noncomputable def mOk (σ : Nat -> Option Cell) (name : Str) (v : PV) : Bool :=
 (isD v && name == "get") || pvc false false (fun _ => false) (fun _ => false) (fun _ => name == "startswith" || name == "find" || name == "rfind" || name == "count" || name == "join") (fun _ => false) (fun _ => false)
  (fun a => (name == "append" || name == "pop") && (fA (σ a)).isSome) v
mutual
noncomputable def wE (C : Ctx) : Expr -> Kn -> (PV -> St -> Prop) -> St -> Prop
 | .Constant c _ _, _, Q, st => opt (kJ c) fun v => Q v st
 | .Name id _, κ, Q, st => if κ id = some .globalImplicit then opt (C.val id) (fun v => Q v st) else opt (st.ρ id) fun v => Q v st
 | .BoolOp op vs _, κ, Q, st => wBo C op vs κ Q st
 | .BinOp l op r _, κ, Q, st => wE C l κ (fun a st1 => wE C r κ (fun b st2 => zd9 op (der st2.σ a) (der st2.σ b) fun v => Q v st2) st1) st
 | .UnaryOp op x _, κ, Q, st => wE C x κ (fun v st1 => unP op (der st1.σ v) fun r => Q r st1) st
 | .IfExp t b o _, κ, Q, st => wE C t κ (tst fun c st1 => if c = true then wE C b κ Q st1 else wE C o κ Q st1) st
 | .Compare l ops cs _, κ, Q, st => wE C l κ (fun a st1 => wCh C cs ops κ a Q st1) st
 | .Call f args kws _, κ, Q, st => kws.isEmpty = true /\ nV (atN f)
   (opt (nmE f) fun id => κ id = some .globalImplicit /\ qP C id = true /\ wEs C args κ (fun vs st2 => fX C id vs st2 fun r => Q r st2) st)
   fun name => nV (cK args) (wA C f κ (fun ov st1 => mOk st1.σ name ov = true /\ wEs C args κ (fun vs st2 => iN st2.σ name ov vs fun r σ' => Q r ⟨st2.ρ, σ'⟩) st1) st)
    fun pq => wA C f κ (fun ov st1 => zae name pq.1 pq.2 ov fun r => Q r st1) st
 | .Attribute o name _, κ, Q, st => wE C o κ (fun ov st1 => za1 C name ov fun r => Q r st1) st
 | .Subscript o i _, κ, Q, st => wE C o κ (fun ov st1 => if y0 i = true then wSl C i κ (fun lo hi st3 => zc3 (der st3.σ ov) lo hi fun r => Q r st3) st1 else wE C i κ (fun iv st2 => zc5 (der st2.σ ov) iv fun r => Q r st2) st1) st
 | .List es pos, κ, Q, st => wEs C es κ (fun vs st1 => bH C pos vs Q st1) st
 | .Tuple es _ _, κ, Q, st => wEs C es κ (fun vs st1 => Q (.tup vs) st1) st
 | .Dict ks vs _, _, Q, st => opt (xY ks vs) fun l => Q (.dict (dlP l)) st
 | .FormattedValue e conv sp _, κ, Q, st => conv = -1 /\ sp.isNone = true /\ wE C e κ (fun v st1 => asS v fun y => Q (.str y) st1) st
 | .JoinedStr vs _, κ, Q, st => 2 <= vs.length /\ wJ C vs κ [] Q st
 | .ListComp elt gens sc pos, κ, Q, st => (match gens with
  | [⟨tgt, iter, ifs, asy⟩] => asy = 0 /\ cW κ sc = true /\ (bY tgt).all (fun x => sc.names.lookup x == some .local) = true /\ wE C iter κ (fun v st1 => opt (gS v) fun items =>
    items.length <= aQ /\ bX (fun K s' => wIf C ifs (cF sc.names) K s') (fun K s' => wE C elt (cF sc.names) K s') tgt (fS sc.names st1.ρ) (fun vs σ' => bH C pos vs Q ⟨st1.ρ, σ'⟩) items [] st1.σ) st
  | _ => False)
 | _, _, _, _ => False
noncomputable def wEs (C : Ctx) : List Expr -> Kn -> (List PV -> St -> Prop) -> St -> Prop
 | [], _, Q, st => Q [] st
 | e :: es, κ, Q, st => wE C e κ (fun v st1 => wEs C es κ (fun vs st2 => Q (v :: vs) st2) st1) st
noncomputable def wJ (C : Ctx) : List Expr -> Kn -> List Nat -> (PV -> St -> Prop) -> St -> Prop
 | [], _, acc, Q, st => Q (.str acc) st
 | e :: es, κ, acc, Q, st => wE C e κ (fun v st1 => asS v fun y => (acc ++ y).length <= aQ /\ wJ C es κ (acc ++ y) Q st1) st
noncomputable def wOp (C : Ctx) : Option Expr -> Kn -> (Option Int -> St -> Prop) -> St -> Prop
 | none, _, Q, st => Q none st
 | some e, κ, Q, st => wE C e κ (fun v st1 => asI v fun i => -4611686018427387904 < i /\ i < 4611686018427387904 /\ Q (some i) st1) st
noncomputable def wA (C : Ctx) : Expr -> Kn -> (PV -> St -> Prop) -> St -> Prop
 | .Attribute o _ _, κ, Q, st => wE C o κ Q st
 | _, _, _, _ => False
noncomputable def wSl (C : Ctx) : Expr -> Kn -> (Option Int -> Option Int -> St -> Prop) -> St -> Prop
 | .Slice l u sp _, κ, Q, st => sp.isNone = true /\ wOp C l κ (fun lo st1 => wOp C u κ (fun hi st2 => Q lo hi st2) st1) st
 | _, _, _, _ => False
noncomputable def wBo (C : Ctx) (op : BoolOp) : List Expr -> Kn -> (PV -> St -> Prop) -> St -> Prop
 | [], _, _, _ => False
 | e :: es, κ, Q, st => if es.isEmpty = true then wE C e κ Q st else wE C e κ (fun v st1 => opt (rP (der st1.σ v)) fun b => if b = (op == .Or) then Q v st1 else wBo C op es κ Q st1) st
noncomputable def wCh (C : Ctx) : List Expr -> List CmpOp -> Kn -> PV -> (PV -> St -> Prop) -> St -> Prop
 | [], _, _, _, _, _ => False
 | r :: rs, ops, κ, a, Q, st => opt ops.head? fun op => wE C r κ (fun b st1 => zbv st1.σ op a b fun c => if rs.isEmpty = true then ops.tail.isEmpty = true /\ Q (.bool c) st1 else if c = true then wCh C rs ops.tail κ b Q st1 else Q (.bool false) st1) st
noncomputable def wIf (C : Ctx) : List Expr -> Kn -> (Bool -> St -> Prop) -> St -> Prop
 | [], _, Q, st => Q true st
 | e :: es, κ, Q, st => wE C e κ (tst fun b st1 => if b = true then wIf C es κ Q st1 else Q false st1) st
end
end
section
variable {C : Ctx} {κ : Kn} {Q : PV -> St -> Prop} {st : St} {p q : Pos} {e l r t b o i elt iter : Expr} {es : List Expr}
theorem y7 {c : Const} {k : Nat} : wE C (.Constant c k p) κ Q st = opt (kJ c) fun v => Q v st := rfl
theorem gW {x : Str} : wE C (.Name x p) κ Q st = if κ x = some .globalImplicit then opt (C.val x) (fun v => Q v st) else opt (st.ρ x) fun v => Q v st := rfl
theorem zde {ops : List CmpOp} : wE C (.Compare l ops es p) κ Q st = wE C l κ (fun a st1 => wCh C es ops κ a Q st1) st := rfl
theorem iW {name : Str} {kws : List Keyword} : wE C (.Call (.Attribute o name q) es kws p) κ Q st = (kws.isEmpty = true /\ nV (cK es) (wE C o κ (fun ov st1 => mOk st1.σ name ov = true /\ wEs C es κ (fun vs st2 => iN st2.σ name ov vs fun r σ' => Q r ⟨st2.ρ, σ'⟩) st1) st)
    fun pq => wE C o κ (fun ov st1 => zae name pq.1 pq.2 ov fun r => Q r st1) st) := rfl
theorem l8 {x : Str} {kws : List Keyword} : wE C (.Call (.Name x q) es kws p) κ Q st = (kws.isEmpty = true /\ κ x = some .globalImplicit /\ qP C x = true /\ wEs C es κ (fun vs st2 => fX C x vs st2 fun r => Q r st2) st) := rfl
theorem zdd {l u sp : Option Expr} : wE C (.Subscript o (.Slice l u sp q) p) κ Q st = wE C o κ (fun ov st1 => sp.isNone = true /\ wOp C l κ (fun lo st2 => wOp C u κ (fun hi st3 => zc3 (der st3.σ ov) lo hi fun r => Q r st3) st2) st1) st := rfl
theorem zdc : wE C (.Subscript o i p) κ Q st = wE C o κ (fun ov st1 => if y0 i = true then wSl C i κ (fun lo hi st3 => zc3 (der st3.σ ov) lo hi fun r => Q r st3) st1 else wE C i κ (fun iv st2 => zc5 (der st2.σ ov) iv fun r => Q r st2) st1) st := rfl
theorem u8 {tgt : Expr} {asy : Int} {sc : Scope} : wE C (.ListComp elt [⟨tgt, iter, es, asy⟩] sc p) κ Q st = (asy = 0 /\ cW κ sc = true /\ (bY tgt).all (fun x => sc.names.lookup x == some .local) = true /\ wE C iter κ (fun v st1 => opt (gS v) fun items =>
    items.length <= aQ /\ bX (fun K s' => wIf C es (cF sc.names) K s') (fun K s' => wE C elt (cF sc.names) K s') tgt (fS sc.names st1.ρ) (fun vs σ' => bH C p vs Q ⟨st1.ρ, σ'⟩) items [] st1.σ) st) := rfl
theorem iV {Q : List PV -> St -> Prop} : wEs C [] κ Q st = Q [] st := rfl
theorem f9 {Q : List PV -> St -> Prop} : wEs C (e :: es) κ Q st = wE C e κ (fun v st1 => wEs C es κ (fun vs st2 => Q (v :: vs) st2) st1) st := rfl
theorem zbD {op : CmpOp} {a : PV} : wCh C [r] [op] κ a Q st = wE C r κ (fun b st1 => zbv st1.σ op a b fun c => true = true /\ Q (.bool c) st1) st := rfl
variable {K : PV -> Prop} {J : Bool -> Prop} {R : PV -> (Nat -> Option Cell) -> Prop} {σ : Nat -> Option Cell} {x y : Int} {u v : List Nat} {s t : List PV} {a : Nat} {bo : Bool} {α : Type} {z z' z'' : α}
theorem oF {A : Prop} {F : α -> Prop} : nV (some z) A F = F z := rfl
theorem dP : inP .Add (.int x) (.int y) K = K (.int (x + y)) := rfl
end
noncomputable def zcL {α : Sort _} (d : α) (k : Expr -> List Expr -> List Keyword -> α) (b : α) (e : Expr) : α :=
 Expr.casesOn (motive_1 := fun _ => α) e (fun _ _ _ => d) (fun _ _ _ => d) (fun _ _ _ _ => d) (fun _ _ _ => d) (fun _ _ _ _ => d) (fun _ _ _ _ => d) (fun _ _ _ => d) (fun _ _ _ => d) (fun _ _ _ _ => d) (fun _ _ _ _ => d)
  (fun _ _ _ _ _ => d) (fun _ _ _ _ => d) (fun _ _ => d) (fun _ _ => d) (fun _ _ => d) (fun _ _ _ _ => d) (fun f as ks _ => k f as ks) (fun _ _ _ _ => d) (fun _ _ => d) (fun _ _ _ => d) (fun _ _ _ => d) (fun _ _ _ => b) (fun _ _ => d) (fun _ _ => d) (fun _ _ => d) (fun _ _ _ => d) (fun _ _ _ _ => d)
theorem dF {P : Expr -> Prop} (hc : ∀ c k p, P (.Constant c k p)) (hn : ∀ x p, P (.Name x p)) (ht : ∀ es k p, P (.Tuple es k p)) (ha : ∀ o n p, P (.Attribute o n p)) (hs : ∀ l u s p, P (.Slice l u s p)) (hl : ∀ e g sc p, P (.ListComp e g sc p)) (hk : ∀ f as ks p, P (.Call f as ks p)) (hb : ∀ o i p, P (.Subscript o i p))
  (hd : ∀ e, (∀ (α : Type) (d : α) c n t a s l, exc d c n t a s l e = d) -> (∀ (α : Type) (d : α) k b, zcL d k b e = d) -> P e) : ∀ e, P e := by
 intro e
 cases e <;> first | exact hc _ _ _ | exact hn _ _ | exact ht _ _ _ | exact ha _ _ _ | exact hs _ _ _ _ | exact hl _ _ _ _ | exact hk _ _ _ _ | exact hb _ _ _ | exact hd _ (fun _ _ _ _ _ _ _ _ => rfl) (fun _ _ _ _ => rfl)
theorem eY {e : Expr} {x : Str} : nmE e = some x -> ∃ p, e = .Name x p := by
 refine dF (P := fun e => nmE e = some x -> ∃ p, e = .Name x p) ?_ ?_ ?_ ?_ ?_ ?_ ?_ ?_ (fun e he _ h => by rw [nmE, he] at h; cases h) e
 ·intro c k p h; cases h
 ·intro y p h; cases h; exact ⟨p, rfl⟩
 all_goals (intros; rename_i h; cases h)
theorem vG {e : Expr} {es : List Expr} : zc2 e = some es -> ∃ k p, e = .Tuple es k p := by
 refine dF (P := fun e => zc2 e = some es -> ∃ k p, e = .Tuple es k p) ?_ ?_ ?_ ?_ ?_ ?_ ?_ ?_ (fun e he _ h => by rw [zc2, he] at h; cases h) e
 ·intro c k p h; cases h
 ·intro y p h; cases h
 ·intro es k p h; cases h; exact ⟨k, p, rfl⟩
 all_goals (intros; rename_i h; cases h)
theorem jQ {e : Expr} {x : Str} : csE e = some x -> ∃ k p, e = .Constant (.str x) k p := by
 refine dF (P := fun e => csE e = some x -> ∃ k p, e = .Constant (.str x) k p) ?_ ?_ ?_ ?_ ?_ ?_ ?_ ?_ (fun e he _ h => by rw [csE, he] at h; cases h) e
 ·intro c k p h
  have h : strC c = some x := h
  cases c <;> cases h
  exact ⟨k, p, rfl⟩
 all_goals (intros; rename_i h; cases h)
theorem nR {e : Expr} {n : Str} : atN e = some n -> ∃ o p, e = .Attribute o n p := by
 refine dF (P := fun e => atN e = some n -> ∃ o p, e = .Attribute o n p) ?_ ?_ ?_ ?_ ?_ ?_ ?_ ?_ (fun e he _ h => by rw [atN, he] at h; cases h) e
 ·intro c k p h; cases h
 ·intro y p h; cases h
 ·intro es k p h; cases h
 ·intro o n p h; cases h; exact ⟨o, p, rfl⟩
 all_goals (intros; rename_i h; cases h)
noncomputable abbrev GM := Nat -> Option Obj
noncomputable def okStr (x : List Nat) : Prop := (∀ c ∈ x, c < 1114112) /\ x.length <= aQ
noncomputable def InstRel (G : GM) (v : Value) (c : Nat) (vs : List Value) : Prop :=
 ∃ x dx, v = .ref x /\ G x = some { cls := .ref c, dict := some dx, data := .plain, slots := (vs.map some).toArray } /\ G dx = some { cls := .type "dict", data := .dict #[] }
noncomputable def rJ (P : Params) (vs : List DictEntry) : List (List Nat × List Nat) -> Prop
 | [] => vs = []
 | (k, x) :: xs => ∃ e r t t', vs = e :: r /\ e.key = .str ⟨k.toArray⟩ t /\ e.hash = PyData.keyHash P ⟨k.toArray⟩ /\ e.val = .str ⟨x.toArray⟩ t' /\ okStr x /\ rJ P r xs
mutual
noncomputable def VRel (P : Params) (G : GM) (v : Value) : PV -> Prop
 | .none => v = .none
 | .bool b => v = .bool b
 | .int i => ∃ t, v = .int i t
 | .str x => ∃ t, v = .str ⟨x.toArray⟩ t /\ okStr x
 | .tup xs => ∃ a o vs n, v = .ref a /\ G a = some o /\ o.cls = .type "tuple" /\ o.data = .seq vs n /\ vs.size <= aQ /\ VRels P G vs.toList xs
 | .list xs => ∃ a o vs n, v = .ref a /\ G a = some o /\ o.cls = .type "list" /\ o.dict = none /\ o.data = .seq vs n /\ vs.size <= aQ /\ VRels P G vs.toList xs
 | .inst c fs => ∃ vs, InstRel G v c vs /\ VRels P G vs fs
 | .rng lo hi => ∃ a t u w, v = .ref a /\ G a = some { cls := .type "range", data := .fields #[.int lo t, .int hi u, .int 1 w] } /\ 0 <= lo /\ lo <= 16777216 /\ 0 <= hi /\ hi <= 16777216
 | .dict es => ∃ a es' n, v = .ref a /\ a ≠ sysModules /\ G a = some { cls := .type "dict", data := .dict es' n } /\ rJ P es'.toList es
 | .ptr a => v = .ref a
noncomputable def VRels (P : Params) (G : GM) (vs : List Value) : List PV -> Prop
 | [] => vs = []
 | x :: xs => ∃ v r, vs = v :: r /\ VRel P G v x /\ VRels P G r xs
end
noncomputable def Sub (G G' : GM) : Prop := ∀ a o, G a = some o -> G' a = some o
noncomputable def PX : Nat := 36
noncomputable def TabX (h : Heap) : Prop := ∃ o ps, h.get? PX = some o /\ o.data = .fields ps /\ TriplesOk ps.toList /\ o = { cls := .none, data := .fields ps }
theorem Heap.none_size (h : Heap) : h.get? h.objs.size = none := by
 cases e : h.get? h.objs.size with
 | none => rfl
 | some o => exact absurd (Heap.lt_size e) (Nat.lt_irrefl _)
theorem TabX.keeps {h h' : Heap} (x : TabX h) (k : ∀ o, h.get? PX = some o -> h'.get? PX = some o) : TabX h' := let ⟨o, ps, e, r⟩ := x; ⟨o, ps, k o e, r⟩
structure InH (G : GM) (h : Heap) : Prop where
 at_ : ∀ a o, G a = some o -> h.get? a = some o
 px : G PX = none
 tab : TabX h
theorem TabX.ne {h : Heap} (x : TabX h) {a : Nat} (e : h.get? a = none) : a ≠ PX := fun q => by obtain ⟨o, ps, h1, _⟩ := x; rw [q, h1] at e; cases e
theorem InH.keeps {G : GM} {h h' : Heap} (x : InH G h) (k : ∀ a o, h.get? a = some o -> h'.get? a = some o) : InH G h' := ⟨fun a o e => k a o (x.at_ a o e), x.px, x.tab.keeps (k PX)⟩
theorem InH.but {G : GM} {h h' : Heap} {a : Nat} (x : InH G h) (k : ∀ b o, b ≠ a -> h.get? b = some o -> h'.get? b = some o) (ha : G a = none) (hx : a ≠ PX) : InH G h' :=
 ⟨fun b o e => k b o (fun q => by rw [q, ha] at e; cases e) (x.at_ b o e), x.px, x.tab.keeps fun o => k PX o (Ne.symm hx)⟩
theorem Sub.refl (G : GM) : Sub G G := fun _ _ e => e
theorem Sub.trans {G G' G'' : GM} (h : Sub G G') (h' : Sub G' G'') : Sub G G'' := fun a o e => h' a o (h a o e)
theorem InH.sub {G G' : GM} {h : Heap} (x : InH G' h) (s : Sub G G') : InH G h :=
 ⟨fun a o e => x.at_ a o (s a o e), (Option.eq_none_iff_forall_ne_some.mpr fun o e => by have := s PX o e; rw [x.px] at this; cases this), x.tab⟩
theorem InstRel.mono {G G' : GM} (h : Sub G G') {v c vs} (r : InstRel G v c vs) : InstRel G' v c vs := by
 obtain ⟨x, dx, h1, h2, h3⟩ := r; exact ⟨x, dx, h1, h _ _ h2, h _ _ h3⟩
mutual
theorem VRel.mono {P : Params} {G G' : GM} (h : Sub G G') {v : Value} : ∀ {p : PV}, VRel P G v p -> VRel P G' v p
 | .none, r => r
 | .bool _, r => r
 | .int _, r => r
 | .str _, r => r
 | .tup xs, r => by
  simp only [VRel] at r ⊢
  obtain ⟨a, o, vs, n, h1, h2, h3, h4, h5, h6⟩ := r
  exact ⟨a, o, vs, n, h1, h _ _ h2, h3, h4, h5, VRels.mono h h6⟩
 | .list xs, r => by
  simp only [VRel] at r ⊢
  obtain ⟨a, o, vs, n, h1, h2, h3, h3', h4, h5, h6⟩ := r
  exact ⟨a, o, vs, n, h1, h _ _ h2, h3, h3', h4, h5, VRels.mono h h6⟩
 | .inst c fs, r => by
  simp only [VRel] at r ⊢
  obtain ⟨vs, h1, h2⟩ := r
  exact ⟨vs, h1.mono h, VRels.mono h h2⟩
 | .rng lo hi, r => by
  simp only [VRel] at r ⊢
  obtain ⟨a, t, u, w, h1, h2, h3⟩ := r
  exact ⟨a, t, u, w, h1, h _ _ h2, h3⟩
 | .dict es, r => by
  simp only [VRel] at r ⊢
  obtain ⟨a, es', n, h1, h2, h3, h4⟩ := r
  exact ⟨a, es', n, h1, h2, h _ _ h3, h4⟩
 | .ptr _, r => r
theorem VRels.mono {P : Params} {G G' : GM} (h : Sub G G') : ∀ {ps : List PV} {vs : List Value}, VRels P G vs ps -> VRels P G' vs ps
 | [], _, r => r
 | p :: ps, _, r => by
  simp only [VRels] at r ⊢
  obtain ⟨v, s, h1, h2, h3⟩ := r
  exact ⟨v, s, h1, VRel.mono h h2, VRels.mono h h3⟩
end
theorem VRels.length {P : Params} {G : GM} : ∀ {ps : List PV} {vs : List Value}, VRels P G vs ps -> vs.length = ps.length
 | [], _, r => by simp only [VRels] at r; simp [r]
 | p :: ps, _, r => by
  simp only [VRels] at r
  obtain ⟨v, s, rfl, _, h3⟩ := r
  simp [h3.length]
theorem VRels.get {P : Params} {G : GM} : ∀ {ps : List PV} {vs : List Value} {i : Nat} {p : PV}, VRels P G vs ps -> ps[i]? = some p -> ∃ v, vs[i]? = some v /\ VRel P G v p
 | [], _, _, _, _, e => by simp at e
 | p :: ps, _, 0, _, r, e => by
  simp only [VRels] at r
  obtain ⟨v, s, rfl, h2, _⟩ := r
  simp at e; subst e
  exact ⟨v, by simp, h2⟩
 | p :: ps, _, i + 1, q, r, e => by
  simp only [VRels] at r
  obtain ⟨v, s, rfl, _, h3⟩ := r
  obtain ⟨u, hu, hr⟩ := h3.get (i := i) (p := q) (by simpa using e)
  exact ⟨u, by simpa using hu, hr⟩
theorem VRels.get' {P : Params} {G : GM} : ∀ {ps : List PV} {vs : List Value} {i : Nat} {v : Value}, VRels P G vs ps -> vs[i]? = some v -> ∃ p, ps[i]? = some p /\ VRel P G v p := by
 intro ps vs i v r e
 have hlen := r.length
 have hi : i < ps.length := by
  have := (List.getElem?_eq_some_iff.mp e).1
  omega
 obtain ⟨u, hu, hr⟩ := r.get (i := i) (p := ps[i]) (by simp [hi])
 rw [e] at hu; cases hu
 exact ⟨_, by simp [hi], hr⟩
theorem VRels.append {P : Params} {G : GM} : ∀ {ps qs : List PV} {vs us : List Value}, VRels P G vs ps -> VRels P G us qs -> VRels P G (vs ++ us) (ps ++ qs)
 | [], _, _, _, r, s => by simp only [VRels] at r; subst r; simpa using s
 | p :: ps, qs, _, us, r, s => by
  simp only [VRels] at r
  obtain ⟨v, w, rfl, h2, h3⟩ := r
  simp only [List.cons_append, VRels]
  exact ⟨v, w ++ us, rfl, h2, h3.append s⟩
theorem VRels.nil {P : Params} {G : GM} : VRels P G [] [] := by simp [VRels]
theorem VRels.cons {P : Params} {G : GM} {v : Value} {vs : List Value} {p : PV} {ps : List PV} (h : VRel P G v p) (hs : VRels P G vs ps) : VRels P G (v :: vs) (p :: ps) := by
 simp only [VRels]; exact ⟨v, vs, rfl, h, hs⟩
theorem VRels.one {P : Params} {G : GM} {v : Value} {p : PV} (h : VRel P G v p) : VRels P G [v] [p] := .cons h .nil
theorem VRels.drop {P : Params} {G : GM} : ∀ (n : Nat) {ps : List PV} {vs : List Value}, VRels P G vs ps -> VRels P G (vs.drop n) (ps.drop n)
 | 0, _, _, r => by simpa using r
 | n + 1, [], _, r => by simp only [VRels] at r; subst r; simp [VRels]
 | n + 1, p :: ps, _, r => by
  simp only [VRels] at r
  obtain ⟨v, w, rfl, h2, h3⟩ := r
  simpa using h3.drop n
theorem VRels.take {P : Params} {G : GM} : ∀ (n : Nat) {ps : List PV} {vs : List Value}, VRels P G vs ps -> VRels P G (vs.take n) (ps.take n)
 | 0, _, _, r => by simp [VRels]
 | n + 1, [], _, r => by simp only [VRels] at r; subst r; simp [VRels]
 | n + 1, p :: ps, _, r => by
  simp only [VRels] at r
  obtain ⟨v, w, rfl, h2, h3⟩ := r
  simpa using VRels.cons h2 (h3.take n)
theorem VRels.set {P : Params} {G : GM} : ∀ {ps : List PV} {vs : List Value} (i : Nat) {v : Value} {p : PV}, VRels P G vs ps -> VRel P G v p -> VRels P G (vs.set i v) (ps.set i p)
 | [], _, _, _, _, r, _ => by simp only [VRels] at r; subst r; simp [VRels]
 | q :: ps, _, 0, v, p, r, h => by
  simp only [VRels] at r
  obtain ⟨u, w, rfl, h2, h3⟩ := r
  simpa using VRels.cons h h3
 | q :: ps, _, i + 1, v, p, r, h => by
  simp only [VRels] at r
  obtain ⟨u, w, rfl, h2, h3⟩ := r
  simpa using VRels.cons h2 (h3.set i h)
structure GS (G : GM) (s : Shared) (G' : GM) (s' : Shared) : Prop where
 ext : Sub G G'
 inh : InH G' s'.heap
 new : ∀ a o, G' a = some o -> G a = some o \/ s.heap.get? a = none
 keep : ∀ a o, a ≠ PX -> s.heap.get? a = some o -> s'.heap.get? a = some o
 os : s'.os = s.os
 gens : AllBare s.gens -> AllBare s'.gens
theorem GS.refl {G : GM} {s : Shared} (h : InH G s.heap) : GS G s G s := ⟨.refl _, h, fun _ _ e => .inl e, fun _ _ _ e => e, rfl, fun e => e⟩
theorem GS.trans {G G' G'' : GM} {s s' s'' : Shared} (h : GS G s G' s') (h' : GS G' s' G'' s'') : GS G s G'' s'' where
 ext := h.ext.trans h'.ext
 inh := h'.inh
 new := fun a o e => by
  rcases h'.new a o e with q | q
  ·exact h.new a o q
  ·right
   cases e' : s.heap.get? a with
   | none => rfl
   | some o' => rw [h.keep a o' (fun q => by rw [q, h'.inh.px] at e; cases e) e'] at q; cases q
 keep := fun a o n e => h'.keep a o n (h.keep a o n e)
 os := h'.os.trans h.os
 gens := fun e => h'.gens (h.gens e)
theorem GS.toks {G : GM} {s : Shared} (h : InH G s.heap) (k : Nat) : GS G s G { s with toks := k } := ⟨.refl _, h, fun _ _ e => .inl e, fun _ _ _ e => e, rfl, fun e => e⟩
noncomputable def hX (G : GM) (a : Nat) (o : Obj) : GM := fun b => if b = a then some o else G b
theorem InH.add {G : GM} {h : Heap} {a : Nat} {o : Obj} (x : InH G h) (e : h.get? a = some o) (n : a ≠ PX) : InH (hX G a o) h :=
 ⟨fun b o' q => by
  unfold hX at q
  split at q
  ·rename_i r; subst r; cases q; exact e
  ·exact x.at_ _ _ q, by unfold hX; rw [if_neg (Ne.symm n)]; exact x.px, x.tab⟩
theorem GS.made {G : GM} {s : Shared} {h₁ : Heap} {a : Nat} {o : Obj} (h : InH G s.heap) (ha : s.heap.get? a = none) (hg : h₁.get? a = some o) (kp : ∀ b o, s.heap.get? b = some o -> h₁.get? b = some o) (k : Nat) :
  GS G s (hX G a o) { s with heap := h₁, toks := k } where
 ext := fun b o' e => by
  unfold hX
  rw [if_neg fun q => by have := h.at_ _ _ e; rw [q, ha] at this; cases this]; exact e
 inh := ⟨fun b o' e => by
  unfold hX at e
  split at e
  ·rename_i q; subst q; cases e; exact hg
  ·exact kp _ _ (h.at_ _ _ e), by
  unfold hX
  rw [if_neg (fun q => h.tab.ne ha q.symm)]; exact h.px, h.tab.keeps fun _ e => kp _ _ e⟩
 new := fun b o' e => by
  unfold hX at e
  split at e
  ·rename_i q; subst q; exact .inr ha
  ·exact .inl e
 keep := fun b o' _ e => kp _ _ e
 os := rfl
 gens := fun e => e
theorem GS.push {G : GM} {s : Shared} (h : InH G s.heap) (o : Obj) (hf : o.isFreed = false) (k : Nat) : GS G s (hX G s.heap.objs.size o) { s with heap := s.heap.push o, toks := k } :=
 .made h (Heap.none_size _) (Heap.get?_push_size _ hf) (fun _ _ e => Heap.get?_push_of_some _ e) k
theorem b5 {G : GM} {a : Nat} {o : Obj} : hX G a o a = some o := by simp [hX]
noncomputable def GW (M : Model) (A : Around) (P : Params) (E : Value -> Shared -> Prop) (G : GM) (s : Shared) (t : Sem Value) (K : PV -> Prop) : Prop :=
 wpAny M A t (fun v s' => ∃ r G', K r /\ GS G s G' s' /\ VRel P G' v r) E s
theorem GW.mono {M : Model} {A : Around} {P : Params} {E : Value -> Shared -> Prop} {G : GM} {s : Shared} {t : Sem Value} {K K' : PV -> Prop} (h : GW M A P E G s t K) (hk : ∀ r, K r -> K' r) : GW M A P E G s t K' :=
 wpAny_mono h (fun _ _ ⟨r, G', h1, h2, h3⟩ => ⟨r, G', hk r h1, h2, h3⟩) fun _ _ e => e
noncomputable def LView (P : Params) (G : GM) (h : Heap) (v : Value) (xs : List PV) : Prop :=
 ∃ a o vs n, v = .ref a /\ h.get? a = some o /\ o.cls = .type "list" /\ o.dict = none /\ o.data = .seq vs n /\ vs.size <= aQ /\ VRels P G vs.toList xs
noncomputable def kR (P : Params) (G : GM) (h : Heap) (v : Value) : PV -> Prop
 | .list xs => LView P G h v xs
 | p => VRel P G v p
theorem VRel.view {P : Params} {G : GM} {h : Heap} (hi : InH G h) {v : Value} {p : PV} (r : VRel P G v p) : kR P G h v p := by
 cases p <;> try exact r
 simp only [VRel] at r
 obtain ⟨a, o, vs, n, h1, h2, h3, h3', h4, h5, h6⟩ := r
 exact ⟨a, o, vs, n, h1, hi.at_ _ _ h2, h3, h3', h4, h5, h6⟩
section
variable {prog : Program} {w : World} {A : Around} {E : Value -> Shared -> Prop} {s : Shared} {G : GM} {P : Params} {a b : Value} {K : PV -> Prop}
theorem lS {t : Sem Value} {i : Int} (hi : InH G s.heap) (hk : K (.int i)) (h : ∀ Q : Value -> Shared -> Prop, Q (.int i s.toks) { s with toks := s.toks + 1 } -> wpAny (model prog w) A t Q E s) : GW (model prog w) A P E G s t K :=
 h _ ⟨.int i, G, hk, GS.toks hi _, by simp [VRel]⟩
theorem jE {x y : List Nat} (hx : okStr x) (hy : okStr y) (h : x.length + y.length <= aQ) : okStr (x ++ y) :=
 ⟨fun c hc => (List.mem_append.mp hc).elim (hx.1 c) (hy.1 c), by simpa using h⟩
theorem lF (x y : List Nat) : (⟨x.toArray⟩ : Str) ++ ⟨y.toArray⟩ = ⟨(x ++ y).toArray⟩ := by
 show Str.append _ _ = _
 simp [Str.append]
theorem bW (x : List Nat) : (⟨x.toArray⟩ : Str).length = x.length := by simp [Str.length]
theorem wI {vs : List Value} {xs : List PV} (hi : InH G s.heap) (hr : VRels P G vs xs) (hz : vs.length <= aQ) (hk : K (.list xs)) : GW (model prog w) A P E G s (newList vs) K := by
 refine wpAny_newObj_type ?_ (by show vs.toArray.size <= sizeLine; rw [List.size_toArray]; exact hz)
 have g := GS.push hi { cls := .type "list", data := .seq vs.toArray } rfl s.toks
 refine ⟨.list xs, _, hk, g, ?_⟩
 simp only [VRel]
 exact ⟨_, _, _, _, rfl, b5, rfl, rfl, rfl, by simpa using hz, by simpa using hr.mono g.ext⟩
theorem tU {vs : List Value} {xs : List PV} (hi : InH G s.heap) (hr : VRels P G vs xs) (hz : vs.length <= aQ) (hk : K (.tup xs)) : GW (model prog w) A P E G s (newTuple vs) K := by
 refine wpAny_newObj_type ?_ (by show vs.toArray.size <= sizeLine; rw [List.size_toArray]; exact hz)
 have g := GS.push hi { cls := .type "tuple", data := .seq vs.toArray } rfl s.toks
 refine ⟨.tup xs, _, hk, g, ?_⟩
 simp only [VRel]
 exact ⟨_, _, _, _, rfl, b5, rfl, rfl, by simpa using hz, by simpa using hr.mono g.ext⟩
theorem LView.isList {h : Heap} {v : Value} {xs : List PV} (r : LView P G h v xs) : ∃ a vs, v = .ref a /\ h.IsList a vs /\ vs.size <= aQ /\ VRels P G vs.toList xs := by
 obtain ⟨a, o, vs, n, h1, h2, h3, h3', h4, h5, h6⟩ := r
 exact ⟨a, vs, h1, ⟨o, h2, h3, n, h4⟩, h5, h6⟩
theorem i8 {a b : Value} {i j : Int} (op : Operator) (r : Int) (ha : VRel P G a (.int i)) (hb : VRel P G b (.int j)) (hi : InH G s.heap) (hk : K (.int r))
  (h : ∀ (t u : Tok) (Q : Value -> Shared -> Prop), Q (.int r s.toks) { s with toks := s.toks + 1 } -> wpAny (model prog w) A (binaryOp op (.int i t) (.int j u)) Q E s) :
  GW (model prog w) A P E G s (binaryOp op a b) K := by
 simp only [VRel] at ha hb
 obtain ⟨t, rfl⟩ := ha
 obtain ⟨u, rfl⟩ := hb
 exact lS hi hk fun Q q => h t u Q q
theorem zeF {op : Operator} {a b : Value} {p q : PV} (hi : InH G s.heap) (ha : kR P G s.heap a p) (hb : kR P G s.heap b q) (h : zd9 op p q K) :
  GW (model prog w) A P E G s (binaryOp op a b) K := by
 cases op <;> first | exact False.elim h | skip
 ·have h : (if isL p = true then addL p q K else zdY p q K) := h
  by_cases hl : isL p = true
  ·rw [if_pos hl] at h
   obtain ⟨x, rfl, h⟩ := pN h
   obtain ⟨y, rfl, hz, hk⟩ := pN (v := q) h
   obtain ⟨l, ⟨c1, d1, dt1, sl1⟩, vs, n1, rfl, ho1, hc1, hd1, hdt1, hs1, hr1⟩ := ha
   obtain ⟨m, ⟨c2, d2, dt2, sl2⟩, ws, n2, rfl, ho2, hc2, hd2, hdt2, hs2, hr2⟩ := hb
   simp only at hc1 hd1 hdt1 hc2 hd2 hdt2
   subst hc1 hd1 hdt1 hc2 hd2 hdt2
   have hz' : vs.size + ws.size <= aQ := by rw [<- Array.length_toList, <- Array.length_toList, hr1.length, hr2.length]; exact hz
   refine concat_meets ⟨_, ho1, rfl⟩ ⟨_, ho2, rfl⟩ noFill_list_add seq_list_add PySem.F.slot_list_add PySem.F.entry_list_add (PySem.F.args_list_add_2 _ _) (list_addW l m vs ws n1 n2 none none sl1 sl2 hz') ⟨ho1, ho2, ?_⟩
   have g := GS.push hi { cls := .type "list", data := .seq (vs ++ ws) } rfl s.toks
   refine ⟨_, _, hk, g, ?_⟩
   simp only [VRel]
   exact ⟨_, _, _, _, rfl, b5, rfl, rfl, rfl, by rw [Array.size_append]; exact hz', by rw [Array.toList_append]; exact (hr1.append hr2).mono g.ext⟩
  ·rw [if_neg hl] at h
   cases p <;> first | exact False.elim h | skip
   ·obtain ⟨y, rfl, h⟩ := bP (v := q) h
    exact i8 _ _ ha hb hi h fun _ _ _ q => add_int q
   ·obtain ⟨y, rfl, hz, hk⟩ := cZ (v := q) h
    simp only [kR, VRel] at ha hb
    obtain ⟨t, rfl, hx⟩ := ha
    obtain ⟨u, rfl, hy⟩ := hb
    refine KOpn.add (by rw [bW, bW]; exact hz) fun t' k _ => ?_
    refine ⟨_, G, hk, GS.toks hi _, ?_⟩
    simp only [VRel]
    exact ⟨t', by rw [lF], jE hx hy hz⟩
 ·obtain ⟨x, rfl, h⟩ := bP h
  obtain ⟨y, rfl, h⟩ := bP (v := q) h
  exact i8 _ _ ha hb hi h fun _ _ _ q => sub_int q
 ·obtain ⟨x, rfl, h⟩ := bP h
  obtain ⟨y, rfl, h0, h⟩ := bP (v := q) h
  exact i8 _ _ ha hb hi h fun _ _ _ q => mul_int q (.of_right h0)
 ·obtain ⟨x, rfl, h⟩ := bP h
  obtain ⟨y, rfl, h0, h⟩ := bP (v := q) h
  refine i8 _ _ ha hb hi h fun _ _ _ q => mod_int' (Int.ne_of_gt h0) ?_
  rw [Int.fmod_eq_emod_of_nonneg _ (Int.le_of_lt h0)]; exact q
 ·obtain ⟨x, rfl, h⟩ := bP h
  obtain ⟨y, rfl, rfl, h1, h2, h3⟩ := bP (v := q) h
  have hy : y = 1 \/ y = 2 \/ y = 3 \/ y = 4 \/ y = 5 \/ y = 6 := by omega
  refine i8 _ _ ha hb hi h3 fun _ _ _ q => ?_
  rcases hy with rfl | rfl | rfl | rfl | rfl | rfl <;> exact AutoIntOps.pow_4 (by decide) (by decide) (by decide) (by decide) (by decide +kernel) q
 ·obtain ⟨x, rfl, h⟩ := bP h
  obtain ⟨y, rfl, h1, h2, h3⟩ := bP (v := q) h
  refine i8 _ _ ha hb hi h3 fun _ _ _ q => floordiv_int (by omega) ?_ (.inl (PyProof.noPylong_of_log2 ?_))
  ·rw [Int.fdiv_eq_ediv_of_nonneg _ (by omega)]; exact q
  ·have : y.natAbs.log2 < 32 := (Nat.log2_lt (by omega)).mpr (by omega)
   omega
end
mutual
noncomputable def jV : PV -> PyData
 | .none => .none
 | .int i => .int i
 | .str x => .str ⟨x.toArray⟩
 | .tup xs => .tuple (iA xs)
 | .list xs => .list (iA xs)
 | .bool b => .bool b
 | .inst _ _ => .none
 | .rng _ _ => .none
 | .ptr _ => .none
 | .dict _ => .none
noncomputable def iA : List PV -> List PyData
 | [] => []
 | x :: xs => jV x :: iA xs
end
noncomputable def kU (P : Params) (G : GM) (h : Heap) (σ : Nat -> Option Cell) : Prop := ∀ a xs, σ a = some (.lst xs) -> LView P G h (.ref a) xs
theorem okStr.strOk {x : List Nat} (h : okStr x) : PyData.strOk ⟨x.toArray⟩ = true := by
 simp only [PyData.strOk]
 rw [Array.all_eq_true]
 intro i hi
 simp only [decide_eq_true_eq]
 exact h.1 _ (by simp)
section
variable {P : Params} {G : GM} {h : Heap} {σ : Nat -> Option Cell}
mutual
theorem mP (hi : InH G h) (hc : kU P G h σ) : ∀ {t : PV} {p : PV} {v : Value}, VRel P G v p -> Res σ p t -> plain t = true -> ∃ as, Reads h v (jV t) as /\ (jV t).canLay0 = true
 | .none, p, v, r, q, _ => by
  simp only [Res] at q; subst q; simp only [VRel] at r; subst r
  exact ⟨_, .none, rfl⟩
 | .int i, p, v, r, q, _ => by
  simp only [Res] at q; subst q; simp only [VRel] at r; obtain ⟨t, rfl⟩ := r
  exact ⟨_, .int i t, rfl⟩
 | .str x, p, v, r, q, _ => by
  simp only [Res] at q; subst q; simp only [VRel] at r; obtain ⟨t, rfl, ok⟩ := r
  exact ⟨_, .str _ t, by simp only [jV, PyData.canLay0]; exact ok.strOk⟩
 | .tup ts, p, v, r, q, hp => by
  simp only [Res] at q; obtain ⟨xs, rfl, q⟩ := q
  simp only [VRel] at r; obtain ⟨a, o, vs, n, rfl, h2, h3, h4, _, h5⟩ := r
  obtain ⟨as, ra, cl⟩ := iJ hi hc h5 q (by simpa [plain] using hp)
  exact ⟨_, reads_tuple_at (hi.at_ _ _ h2) h3 h4 (by simpa [jV] using ra), by simpa [jV, PyData.canLay0] using cl⟩
 | .list ts, p, v, r, q, hp => by
  simp only [Res] at q
  rcases q with ⟨xs, rfl, q⟩ | ⟨a, xs, rfl, hσ, q⟩
  ·simp only [VRel] at r; obtain ⟨a, o, vs, n, rfl, h2, h3, _, h4, _, h5⟩ := r
   obtain ⟨as, ra, cl⟩ := iJ hi hc h5 q (by simpa [plain] using hp)
   exact ⟨_, reads_list_at (hi.at_ _ _ h2) h3 h4 (by simpa [jV] using ra), by simpa [jV, PyData.canLay0] using cl⟩
  ·simp only [VRel] at r; subst r
   obtain ⟨a', o, vs, n, e, h2, h3, _, h4, _, h5⟩ := hc a xs hσ
   cases e
   obtain ⟨as, ra, cl⟩ := iJ hi hc h5 q (by simpa [plain] using hp)
   exact ⟨_, reads_list_at h2 h3 h4 (by simpa [jV] using ra), by simpa [jV, PyData.canLay0] using cl⟩
 | .bool b, p, v, r, q, hp => by simp [plain] at hp
 | .inst _ _, p, v, r, q, hp => by simp [plain] at hp
 | .rng _ _, p, v, r, q, hp => by simp [plain] at hp
 | .ptr _, p, v, r, q, hp => by simp [plain] at hp
 | .dict _, p, v, r, q, hp => by simp [plain] at hp
theorem iJ (hi : InH G h) (hc : kU P G h σ) : ∀ {ts : List PV} {ps : List PV} {vs : List Value}, VRels P G vs ps -> u4 σ ps ts -> fC ts = true -> ∃ as, ReadsAll h vs (iA ts) as /\ PyData.canLayAll0 (iA ts) = true
 | [], ps, vs, r, q, _ => by
  simp only [u4] at q; subst q; simp only [VRels] at r; subst r
  exact ⟨_, .nil, rfl⟩
 | t :: ts, ps, vs, r, q, hp => by
  simp only [u4] at q; obtain ⟨y, ys, rfl, q1, q2⟩ := q
  simp only [VRels] at r; obtain ⟨v, w, rfl, r1, r2⟩ := r
  simp only [fC, Bool.and_eq_true] at hp
  obtain ⟨as, ra, c1⟩ := mP hi hc r1 q1 hp.1
  obtain ⟨bs, rb, c2⟩ := iJ hi hc r2 q2 hp.2
  exact ⟨_, .cons ra rb, by simp [iA, PyData.canLayAll0, c1, c2]⟩
end
end
mutual
theorem zbt : ∀ t : PV, plain t = true -> (jV t).depth <= dep t + 1
 | .none, _ => by simp [jV, PyData.depth]
 | .int _, _ => by simp [jV, PyData.depth]
 | .str _, _ => by simp [jV, PyData.depth]
 | .tup ts, h => by have := q0 ts (by simpa [plain] using h); simp only [jV, PyData.depth, dep]; omega
 | .list ts, h => by have := q0 ts (by simpa [plain] using h); simp only [jV, PyData.depth, dep]; omega
 | .bool _, h => by simp [plain] at h
 | .inst _ _, h => by simp [plain] at h
 | .rng _ _, h => by simp [plain] at h
 | .ptr _, h => by simp [plain] at h
 | .dict _, h => by simp [plain] at h
theorem q0 : ∀ ts : List PV, fC ts = true -> PyData.depthAll (iA ts) <= zaT ts + 1
 | [], _ => by simp [iA, PyData.depthAll]
 | t :: ts, h => by
  simp only [fC, Bool.and_eq_true] at h
  have h1 := zbt t h.1
  have h2 := q0 ts h.2
  simp only [iA, PyData.depthAll, zaT]; omega
end
mutual
theorem zbs : ∀ t u : PV, plain t = true -> plain u = true -> (PyData.eqv (jV t) (jV u) = true ↔ t = u)
 | .none, u, _, hu => by cases u <;> simp_all [jV, PyData.eqv, plain]
 | .int _, u, _, hu => by cases u <;> simp_all [jV, PyData.eqv, plain]
 | .str x, u, _, hu => by
  cases u <;> simp_all [jV, PyData.eqv, plain]
 | .tup ts, u, ht, hu => by
  cases u <;> simp_all [jV, PyData.eqv, plain]
  exact qW ts _ ht hu
 | .list ts, u, ht, hu => by
  cases u <;> simp_all [jV, PyData.eqv, plain]
  exact qW ts _ ht hu
 | .bool _, _, h, _ => by simp [plain] at h
 | .inst _ _, _, h, _ => by simp [plain] at h
 | .rng _ _, _, h, _ => by simp [plain] at h
 | .ptr _, _, h, _ => by simp [plain] at h
 | .dict _, _, h, _ => by simp [plain] at h
theorem qW : ∀ ts us : List PV, fC ts = true -> fC us = true -> (PyData.eqvAll (iA ts) (iA us) = true ↔ ts = us)
 | [], us, _, _ => by cases us <;> simp [iA, PyData.eqvAll]
 | t :: ts, us, ht, hu => by
  cases us with
  | nil => simp [iA, PyData.eqvAll]
  | cons u us =>
   simp only [fC, Bool.and_eq_true] at ht hu
   simp only [iA, PyData.eqvAll, Bool.and_eq_true, List.cons.injEq, zbs t u ht.1 hu.1, qW ts us ht.2 hu.2]
end
section
variable {prog : Program} {w : World} {A : Around} {E : Value -> Shared -> Prop} {s : Shared} {G : GM} {P : Params} {a b : Value} {K : PV -> Prop} {σ : Nat -> Option Cell}
theorem cS {t : Sem Value} {i : Bool} (hi : InH G s.heap) (hk : K (.bool i)) (h : ∀ Q : Value -> Shared -> Prop, Q (.bool i) s -> wpAny (model prog w) A t Q E s) : GW (model prog w) A P E G s t K :=
 h _ ⟨.bool i, G, hk, GS.refl hi, by simp [VRel]⟩
structure Room (n : Nat) (A : Around) : Prop where
 handled : A.handled = none
 depth : A.depth + n <= 900
 units : A.units + 20 * n <= 5000
theorem Room.le {n m : Nat} {A : Around} (h : Room n A) (hm : m <= n) : Room m A := ⟨h.handled, by have := h.depth; omega, by have := h.units; omega⟩
theorem Room.deeper {n : Nat} {A : Around} {env : Env} (h : Room (n + 1) A) : Room n (A.deeper env) := ⟨h.handled, by have := h.depth; simp only [Around.deeper]; omega, by have := h.units; simp only [Around.deeper]; omega⟩
theorem eq_G {n : Nat} (hA : Room n A) (ne : Bool) (hi : InH G s.heap) (hc : kU P G s.heap σ) {p q : PV} (ha : VRel P G a p) (hb : VRel P G b q) (h : eqW σ p q fun r => K (.bool (if ne then !r else r))) :
  GW (model prog w) A P E G s (compareOp (if ne then .NotEq else .Eq) a b) K := by
 have main : ∀ {da db : PyData} {as bs : List Addr} {r : Bool}, Reads s.heap a da as -> Reads s.heap b db bs -> da.canLay0 = true -> db.canLay0 = true -> da.depth <= 4001 -> PyData.eqv da db = r -> K (.bool (if ne then !r else r)) ->
   GW (model prog w) A P E G s (compareOp (if ne then .NotEq else .Eq) a b) K := by
  intro da db as bs r ra rb ca cb hd e hk
  have hu : A.units + min da.depth db.depth < cLine := by
   have := hA.units
   have : min da.depth db.depth <= da.depth := Nat.min_le_left _ _
   show _ < 9900
   omega
  subst e
  cases ne
  ·exact cS hi hk fun Q q => SeqAt.compareEq_reads ra rb ca cb hu q
  ·exact cS hi hk fun Q q => SeqAt.compareNe_reads ra rb ca cb hu q
 cases hr : eqS p q with
 | some r =>
  have hk : K (.bool (if ne then !r else r)) := by unfold eqW at h; rw [hr] at h; exact h
  clear h
  have st : ∀ {x : List Nat} {v : Value}, VRel P G v (.str x) -> ∃ t, v = .str ⟨x.toArray⟩ t /\ PyData.canLay0 (.str ⟨x.toArray⟩) = true := fun r => by
   simp only [VRel] at r; obtain ⟨t, e, ok⟩ := r; exact ⟨t, e, ok.strOk⟩
  cases p <;> first | (cases hr; done) | skip
  ·cases q <;> first | (cases hr; done) | skip
   cases hr
   simp only [VRel] at ha hb
   subst ha hb; exact main (.bool _) (.bool _) rfl rfl (Nat.le_add_left _ _) rfl hk
  ·cases q <;> first | (cases hr; done) | skip
   cases hr
   simp only [VRel] at ha hb
   obtain ⟨t, rfl⟩ := ha; obtain ⟨u, rfl⟩ := hb; exact main (.int _ t) (.int _ u) rfl rfl (Nat.le_add_left _ _) rfl hk
  ·cases q <;> first | (cases hr; done) | skip
   ·cases hr
    obtain ⟨t, rfl, ok⟩ := st ha
    simp only [VRel] at hb
    subst hb; exact main (.str _ t) .none ok rfl (Nat.le_add_left _ _) rfl hk
   ·rename_i x y
    cases hr
    obtain ⟨t, rfl, ok⟩ := st ha
    obtain ⟨u, rfl, ok'⟩ := st hb
    refine main (.str _ t) (.str _ u) ok ok' (Nat.le_add_left _ _) ?_ hk
    show decide ((⟨x.toArray⟩ : Str) = ⟨y.toArray⟩) = decide (x = y)
    refine decide_eq_decide.mpr ⟨fun e => ?_, fun e => by rw [e]⟩
    exact congrArg (fun s : Str => s.cps.toList) e
 | none =>
  unfold eqW at h
  rw [hr] at h
  obtain ⟨ta, tb, ra, rb, pa, pb, hd, hk⟩ := h
  obtain ⟨as, ra', ca⟩ := mP hi hc ha ra pa
  obtain ⟨bs, rb', cb⟩ := mP hi hc hb rb pb
  refine main ra' rb' ca cb (Nat.le_trans (zbt ta pa) (by omega)) ?_ hk
  have := zbs ta tb pa pb
  by_cases e : ta = tb
  ·rw [this.mpr e]; simp [e]
  ·simp only [e, decide_false]; exact Bool.eq_false_iff.mpr fun x => e (this.mp x)
end
end Mine
end
section
open PySem PySem.W PyProof.Rows
open Builtin Builtin.Str
set_option Elab.async false
set_option autoImplicit false
namespace Mine
noncomputable def jF (x p : List Nat) (hi : Nat) : Nat -> Nat -> Nat -> Nat -> List Nat
 | 0, _, _, _ => []
 | n + 1, i, lim, free => if 0 < lim /\ free <= i /\ i + p.length <= hi /\ (x.drop i).take p.length = p then i :: jF x p hi n (i + 1) (lim - 1) (i + p.length) else jF x p hi n (i + 1) lim free
theorem tT (s sub : Str) (hi limit i : Nat) (acc : Array Nat) (free : Nat) :
  StrLaws.occBody s sub hi limit i (acc, free) = pure (.yield (if acc.size < limit /\ free <= i /\ i + sub.cps.toList.length <= hi /\ (s.cps.toList.drop i).take sub.cps.toList.length = sub.cps.toList then (acc.push i, i + sub.cps.toList.length) else (acc, free))) := by
 have e : sub.length = sub.cps.toList.length := by simp [Str.length]
 have e2 : (subAt s sub i = true) ↔ (s.cps.toList.drop i).take sub.cps.toList.length = sub.cps.toList := by
  rw [StrLaws.subAt_eq, beq_iff_eq, e]
 unfold StrLaws.occBody
 simp only [Bool.and_eq_true]
 by_cases c : acc.size < limit /\ free <= i /\ i + sub.cps.toList.length <= hi /\ (s.cps.toList.drop i).take sub.cps.toList.length = sub.cps.toList
 ·rw [if_pos c, if_pos ⟨⟨⟨c.1, c.2.1⟩, by rw [e]; exact c.2.2.1⟩, e2.mpr c.2.2.2⟩, e]
 ·rw [if_neg c, if_neg (fun h => c ⟨h.1.1.1, h.1.1.2, by rw [<- e]; exact h.1.2, e2.mp h.2⟩)]
theorem zb6 (s sub : Str) (hi limit : Nat) : ∀ (n i : Nat) (acc : Array Nat) (free : Nat), acc.size <= limit ->
  (forIn (List.range' i n) (acc, free) (StrLaws.occBody s sub hi limit)).run.fst.toList = acc.toList ++ jF s.cps.toList sub.cps.toList hi n i (limit - acc.size) free := by
 intro n
 induction n with
 | zero => intro i acc free _; simp [jF]
 | succ n ih =>
  intro i acc free hz
  rw [List.range'_succ, List.forIn_cons, tT]
  unfold jF
  by_cases c : acc.size < limit /\ free <= i /\ i + sub.cps.toList.length <= hi /\ (s.cps.toList.drop i).take sub.cps.toList.length = sub.cps.toList
  ·rw [if_pos c, if_pos ⟨by omega, c.2⟩]
   show (forIn _ (acc.push i, i + sub.cps.toList.length) _ : Id _).run.fst.toList = _
   rw [ih _ _ _ (by simp; omega)]
   simp only [Array.toList_push, List.append_assoc, List.singleton_append, Array.size_push]
   congr 3
  ·rw [if_neg c, if_neg (fun h => c ⟨by omega, h.2⟩)]
   show (forIn _ (acc, free) _ : Id _).run.fst.toList = _
   exact ih _ _ _ hz
theorem rX (s sub : Str) (lo hi limit : Nat) : occurrences s sub lo hi limit = jF s.cps.toList sub.cps.toList hi (hi + 1 - lo) lo limit lo := by
 rw [StrLaws.occ_eq, zb6 _ _ _ _ _ _ _ _ (by simp)]
 simp
theorem fM (p x : List Nat) : p.isPrefixOf x = true ↔ x.take p.length = p := by
 rw [List.isPrefixOf_iff_prefix]
 constructor
 ·rintro ⟨r, rfl⟩; simp
 ·intro h; exact ⟨x.drop p.length, by conv => rhs; rw [<- List.take_append_drop p.length x, h]⟩
theorem mQ {p x : List Nat} (h : p.isPrefixOf x = true) : p.length <= x.length := by
 rw [List.isPrefixOf_iff_prefix] at h; exact h.length_le
theorem qD {p n i : Nat} (hi : i <= n) (h : p <= n - i) : i + p <= n := Nat.add_sub_cancel' hi ▸ Nat.add_le_add_left h i
theorem zcs (x p : List Nat) : ∀ (n i f : Nat), f <= i -> i + n = x.length + 1 -> (match jF x p x.length n i 1 f with | k :: _ => (k : Int) | [] => -1) = sO x p i n := by
 intro n
 induction n with
 | zero => intro i f _ _; rfl
 | succ n ih =>
  intro i f hf hn
  unfold jF sO
  by_cases c : p.isPrefixOf (x.drop i) = true
  ·have hl := mQ c
   rw [List.length_drop] at hl
   rw [if_pos c, if_pos ⟨by decide, hf, qD (Nat.le_of_lt_succ (Nat.lt_of_lt_of_eq (Nat.lt_add_of_pos_right (Nat.succ_pos n)) hn)) hl, (fM _ _).mp c⟩]
  ·rw [if_neg c, if_neg (fun h => c ((fM _ _).mpr h.2.2.2))]
   exact ih (i + 1) f (Nat.le_succ_of_le hf) (by rw [<- hn, Nat.add_assoc, Nat.add_comm 1])
theorem b7 (n : Nat) (i : Int) (h : 0 <= i) : fromIndex n i = i.toNat := by unfold fromIndex; rw [if_neg (Int.not_lt.mpr h), Int.max_eq_right h]
theorem zaJ (x p : List Nat) (i : Int) (h0 : 0 <= i) : Txt.find3 ⟨x.toArray⟩ ⟨p.toArray⟩ i = zct x p i.toNat := by
 unfold Txt.find3 zct
 rw [b7 _ _ h0, rX, bW]
 by_cases hi : i.toNat <= x.length
 ·exact zcs x p _ _ _ (Nat.le_refl _) (Nat.add_sub_cancel' (Nat.le_succ_of_le hi))
 ·have : x.length + 1 - i.toNat = 0 := Nat.sub_eq_zero_of_le (Nat.lt_of_not_le hi)
  simp only [this]; rfl
theorem zb7 (x p : List Nat) (f : Nat) : ∀ (n i : Nat), f <= i -> i + n = x.length + 1 -> i <= x.length -> (jF x p x.length n i 1 f ≠ [] ↔ w9 p (x.drop i) = true) := by
 intro n
 induction n generalizing f with
 | zero =>
  intro i hf hn hx
  exact absurd hx (Nat.not_le_of_lt (Nat.lt_of_lt_of_eq (Nat.lt_succ_self _) (Eq.symm hn)))
 | succ n ih =>
  intro i hf hn hx
  unfold jF
  by_cases hl : i = x.length
  ·subst hl
   have : n = 0 := Nat.succ.inj (Nat.add_left_cancel hn)
   subst this
   rw [List.drop_length]
   by_cases hp : p = []
   ·subst hp; simp [w9, hf]
   ·have : p.length ≠ 0 := by simpa using hp
    rw [if_neg (fun h => this (Nat.eq_zero_of_le_zero (Nat.le_of_add_le_add_left (show x.length + p.length <= x.length + 0 from h.2.2.1))))]
    simp [jF, w9, hp]
  ·have hl' : i < x.length := Nat.lt_of_le_of_ne hx hl
   rw [List.drop_eq_getElem_cons hl']
   simp only [w9, Bool.or_eq_true]
   rw [<- List.drop_eq_getElem_cons hl']
   by_cases c : p.isPrefixOf (x.drop i) = true
   ·have hl := mQ c
    rw [List.length_drop] at hl
    rw [if_pos ⟨by decide, hf, qD (Nat.le_of_lt hl') hl, (fM _ _).mp c⟩]
    simp [c]
   ·rw [if_neg (fun h => c ((fM _ _).mpr h.2.2.2)), ih f (i + 1) (Nat.le_succ_of_le hf) (by rw [<- hn, Nat.add_assoc, Nat.add_comm 1]) hl']
    simp [c]
theorem kI (x p : List Nat) : (!(occurrences ⟨x.toArray⟩ ⟨p.toArray⟩ 0 (Str.length ⟨x.toArray⟩) 1).isEmpty) = w9 p x := by
 rw [rX, bW]
 have := zb7 x p 0 (x.length + 1 - 0) 0 (Nat.le_refl _) (Nat.zero_add _) (Nat.zero_le _)
 simp only [List.drop_zero] at this
 by_cases c : w9 p x = true
 ·rw [c]; simpa using this.mpr c
 ·have h : jF x p x.length (x.length + 1 - 0) 0 1 0 = [] := by
   by_cases h : jF x p x.length (x.length + 1 - 0) 0 1 0 = []
   ·exact h
   ·exact absurd (this.mp h) c
  simp only [Bool.not_eq_true] at c
  rw [c]
  show (!(jF x p x.length (x.length + 1 - 0) 0 1 0).isEmpty) = false
  rw [h]; rfl
noncomputable def zc6 (c : Nat) (x : List Nat) : Nat -> Nat -> Nat
 | 0, _ => 0
 | n + 1, i => if x[i]? = some c then zc6 c x n (i + 1) + 1 else zc6 c x n (i + 1)
theorem pG (c : Nat) (x : List Nat) : ∀ (n i : Nat), zc6 c x n i = ((x.drop i).take n).count c
 | 0, i => by rw [List.take_zero]; rfl
 | n + 1, i => by
  unfold zc6
  rw [pG c x n (i + 1)]
  by_cases h : i < x.length
  ·rw [List.drop_eq_getElem_cons h, List.take_succ_cons, List.count_cons, List.getElem?_eq_getElem h]
   by_cases e : x[i] = c
   ·rw [if_pos (congrArg some e), if_pos (beq_iff_eq.mpr e)]
   ·rw [if_neg (fun q => e (Option.some.inj q)), if_neg (fun q => e (beq_iff_eq.mp q))]; rfl
  ·rw [List.getElem?_eq_none (Nat.le_of_not_lt h), if_neg (fun q => by cases q), List.drop_of_length_le (Nat.le_of_not_lt h), List.drop_of_length_le (Nat.le_succ_of_le (Nat.le_of_not_lt h))]
   rw [List.take_nil, List.take_nil]
theorem zbg (x : List Nat) (c i : Nat) : (x.drop i).take 1 = [c] ↔ x[i]? = some c := by
 by_cases h : i < x.length
 ·rw [List.drop_eq_getElem_cons h, List.getElem?_eq_getElem h]
  exact ⟨fun q => congrArg some (List.cons.inj q).1, fun q => congrArg (fun d => [d]) (Option.some.inj q)⟩
 ·rw [List.drop_of_length_le (Nat.le_of_not_lt h), List.getElem?_eq_none (Nat.le_of_not_lt h)]
  exact ⟨fun q => (by cases q), fun q => (by cases q)⟩
theorem yB (x : List Nat) (c hi : Nat) : ∀ (n i lim f : Nat), f <= i -> n <= lim -> i + n = hi -> (jF x [c] hi (n + 1) i lim f).length = zc6 c x n i := by
 intro n
 induction n with
 | zero =>
  intro i lim f _ _ hn
  have hn : i = hi := hn
  subst hn
  unfold jF
  rw [if_neg (fun h => Nat.not_succ_le_self i h.2.2.1)]; rfl
 | succ n ih =>
  intro i lim f hf hl hn
  have h1 : i + 1 + n = hi := by rw [<- hn, Nat.add_assoc, Nat.add_comm 1]
  unfold jF zc6
  by_cases c' : x[i]? = some c
  ·rw [if_pos ⟨Nat.lt_of_lt_of_le (Nat.succ_pos n) hl, hf, h1 ▸ Nat.le_add_right _ n, (zbg x c i).mpr c'⟩, if_pos c', List.length_cons, ih (i + 1) (lim - 1) (i + [c].length) (Nat.le_refl _) (Nat.le_sub_one_of_lt hl) h1]
  ·rw [if_neg (fun h => c' ((zbg x c i).mp h.2.2.2)), if_neg c']
   exact ih (i + 1) lim f (Nat.le_succ_of_le hf) (Nat.le_of_succ_le hl) h1
theorem zaU (x : List Nat) (c i j : Nat) : (occurrences ⟨x.toArray⟩ ⟨#[c]⟩ i (min j x.length) (x.length + 1)).length = ((x.take j).drop i).count c := by
 rw [rX, List.drop_take, List.take_eq_take_min, List.length_drop]
 by_cases hi : i <= min j x.length
 ·rw [Nat.succ_sub hi]
  refine (yB x c _ _ _ _ _ (Nat.le_refl _) ?_ (Nat.add_sub_cancel' hi)).trans ((pG c x _ i).trans ?_)
  ·exact Nat.le_trans (Nat.sub_le _ _) (Nat.le_trans (Nat.min_le_right _ _) (Nat.le_succ _))
  ·rw [Nat.sub_min_sub_right]
 ·have h : min j x.length <= i := Nat.le_of_not_le hi
  rw [Nat.sub_eq_zero_of_le (Nat.lt_of_not_le hi), Nat.sub_min_sub_right, Nat.sub_eq_zero_of_le h]
  rfl
theorem j7 (s : Str) (c hi i : Nat) (st : Option Nat) (hh : hi <= s.cps.toList.length) :
  StrLaws.lastBody s ⟨#[c]⟩ hi i st = pure (.yield (if i < hi /\ s.cps.toList[i]? = some c then some i else st)) := by
 have e2 : i < hi -> ((subAt s ⟨#[c]⟩ i = true) ↔ s.cps.toList[i]? = some c) := by
  intro hl
  have hlt : i < s.cps.toList.length := by omega
  rw [StrLaws.subAt_eq, beq_iff_eq]
  show (s.cps.toList.drop i).take 1 = [c] ↔ _
  rw [List.drop_eq_getElem_cons hlt, List.getElem?_eq_getElem hlt]
  simp
 unfold StrLaws.lastBody
 by_cases q : i < hi /\ s.cps.toList[i]? = some c
 ·rw [if_pos q, if_pos ⟨q.1, (e2 q.1).mpr q.2⟩]
 ·rw [if_neg q, if_neg (fun h => q ⟨h.1, (e2 h.1).mp h.2⟩)]
theorem wY (s : Str) (c hi : Nat) (hh : hi <= s.cps.toList.length) : ∀ (n i : Nat) (st : Option Nat), i + n = hi ->
  (forIn (List.range' i (n + 1)) st (StrLaws.lastBody s ⟨#[c]⟩ hi)).run = oU c s.cps.toList n i st := by
 intro n
 induction n with
 | zero =>
  intro i st hn
  have hn : i = hi := hn
  subst hn
  rw [List.range'_succ, List.forIn_cons, j7 _ _ _ _ _ hh, if_neg (fun h => Nat.lt_irrefl _ h.1)]
  rfl
 | succ n ih =>
  intro i st hn
  have h1 : i + 1 + n = hi := by rw [<- hn, Nat.add_assoc, Nat.add_comm 1]
  rw [List.range'_succ, List.forIn_cons, j7 _ _ _ _ _ hh]
  show (forIn (List.range' (i + 1) (n + 1)) (if i < hi /\ s.cps.toList[i]? = some c then some i else st) _ : Id _).run = oU c _ n (i + 1) (if s.cps.toList[i]? = some c then some i else st)
  rw [ih (i + 1) _ h1]
  by_cases q : s.cps.toList[i]? = some c
  ·rw [if_pos q, if_pos ⟨h1 ▸ Nat.lt_of_lt_of_le (Nat.lt_succ_self i) (Nat.le_add_right _ n), q⟩]
  ·rw [if_neg q, if_neg fun h => q h.2]
theorem zad (x : List Nat) (c i j : Nat) : (match lastOccurrence ⟨x.toArray⟩ ⟨#[c]⟩ i (min j x.length) with | some k => (k : Int) | none => -1) = eO c x i j := by
 rw [StrLaws.last_eq]
 unfold eO
 by_cases hi : i <= min j x.length
 ·rw [Nat.succ_sub hi, wY ⟨x.toArray⟩ c _ (Nat.min_le_right _ _) _ _ _ (Nat.add_sub_cancel' hi)]
  show (match oU c x (min j x.length - i) i none with | some k => (k : Int) | none => -1) = _
  cases oU c x (min j x.length - i) i none <;> rfl
 ·rw [Nat.sub_eq_zero_of_le (Nat.lt_of_not_le hi), Nat.sub_eq_zero_of_le (Nat.le_of_not_le hi)]
  rfl
noncomputable def z9 (x z : List Nat) (w : Nat) : Nat -> List Nat -> List Nat
 | st, [] => x.drop st
 | st, c :: cs => (x.drop st).take (c - st) ++ z ++ z9 x z w (c + w) cs
theorem oA (x : Str) (z : Str) (w : Nat) : ∀ (cuts : List Nat) (st : Nat),
  (Str.join z (((st :: cuts.map (· + w)).zip (cuts ++ [x.length])).map fun (i, j) => strSub x i j)).cps.toList = z9 x.cps.toList z.cps.toList w st cuts
 | [], st => by
  simp only [List.map_nil, List.nil_append, List.zip_cons_cons, List.zip_nil_left, List.map_cons, Str.join, z9]
  rw [StrLaws.strSub_toList]
  apply List.take_of_length_le
  simp [Str.length]
 | c :: cs, st => by
  have ih := oA x z w cs (c + w)
  have e : (((st :: (c :: cs).map (· + w)).zip (c :: cs ++ [x.length])).map fun (i, j) => strSub x i j) = strSub x st c :: ((((c + w) :: cs.map (· + w)).zip (cs ++ [x.length])).map fun (i, j) => strSub x i j) := by simp
  rw [e]
  cases hq : ((((c + w) :: cs.map (· + w)).zip (cs ++ [x.length])).map fun (i, j) => strSub x i j) with
  | nil =>
   exfalso
   have := congrArg List.length hq
   simp at this
  | cons y ys =>
   rw [hq] at ih
   simp only [Str.join, z9]
   rw [Str.cps_append, Str.cps_append, Array.toList_append, Array.toList_append, ih, StrLaws.strSub_toList]
theorem z8 (x p z : List Nat) (hp : 0 < p.length) : ∀ (n i lim f m : Nat), i + n = x.length + 1 -> n <= lim ->
  (∀ st, f <= i -> st <= i -> i <= x.length -> x.length < m + i -> z9 x z p.length st (jF x p x.length n i lim f) = (x.drop st).take (i - st) ++ bS p z m (x.drop i)) /\
  (i <= f -> f <= x.length -> x.length < m + f -> z9 x z p.length f (jF x p x.length n i lim f) = bS p z m (x.drop f)) := by
 intro n
 induction n with
 | zero =>
  intro i lim f m hn _
  exact ⟨fun st _ _ hi _ => absurd hi (by omega), fun hi hf _ => absurd (Nat.le_trans hi hf) (by omega)⟩
 | succ n ih =>
  intro i lim f m hn hl
  have h1 : i + 1 + n = x.length + 1 := by rw [<- hn, Nat.add_assoc, Nat.add_comm 1]
  have A : ∀ st, f <= i -> st <= i -> i <= x.length -> x.length < m + i -> z9 x z p.length st (jF x p x.length (n + 1) i lim f) = (x.drop st).take (i - st) ++ bS p z m (x.drop i) := by
   intro st hf hst hi hm
   unfold jF
   by_cases hlt : i < x.length
   ·obtain ⟨m, rfl⟩ : ∃ k, m = k + 1 := ⟨m - 1, by omega⟩
    have hm1 : x.length < m + (i + 1) := by rw [Nat.add_comm i, <- Nat.add_assoc]; exact hm
    have hr : bS p z (m + 1) (x.drop i) = if p.isPrefixOf (x.drop i) = true then z ++ bS p z m ((x.drop i).drop p.length) else x[i] :: bS p z m (x.drop (i + 1)) := by
     rw [List.drop_eq_getElem_cons hlt]; rfl
    rw [hr]
    by_cases c : p.isPrefixOf (x.drop i) = true
    ·have hlen := mQ c
     rw [List.length_drop] at hlen
     rw [if_pos c, if_pos ⟨Nat.lt_of_lt_of_le (Nat.succ_pos n) hl, hf, by omega, (fM _ _).mp c⟩, z9, (ih (i + 1) (lim - 1) (i + p.length) m h1 (Nat.le_sub_one_of_lt hl)).2 (Nat.add_le_add_left hp i) (by omega) (Nat.lt_of_lt_of_le hm1 (Nat.add_le_add_left (Nat.add_le_add_left hp i) m)), List.drop_drop, List.append_assoc]
    ·rw [if_neg c, if_neg (fun h => c ((fM _ _).mpr h.2.2.2)), (ih (i + 1) lim f m h1 (Nat.le_of_succ_le hl)).1 st (Nat.le_succ_of_le hf) (Nat.le_succ_of_le hst) hlt hm1]
     have hls : i - st < (x.drop st).length := by rw [List.length_drop]; omega
     have h2 : (x.drop st)[i - st] = x[i] := by rw [List.getElem_drop]; congr 1; exact Nat.add_sub_cancel' hst
     rw [Nat.succ_sub hst, List.take_succ_eq_append_getElem hls, h2, List.append_assoc]; rfl
   ·have hi : i = x.length := Nat.le_antisymm hi (Nat.le_of_not_lt hlt)
    subst hi
    obtain rfl : n = 0 := by omega
    rw [List.drop_length, if_neg]
    ·show x.drop st = _ ++ bS p z m []
     rw [show bS p z m [] = [] by cases m <;> rfl, List.append_nil, List.take_of_length_le (Nat.le_of_eq List.length_drop)]
    ·intro h; have := h.2.2.1; omega
  refine ⟨A, fun hi hf hm => ?_⟩
  rcases Nat.eq_or_lt_of_le hi with rfl | hlt
  ·rw [A i (Nat.le_refl _) (Nat.le_refl _) hf hm, Nat.sub_self]; rfl
  ·unfold jF
   rw [if_neg (fun h => absurd h.2.1 (Nat.not_le_of_lt hlt))]
   exact (ih (i + 1) lim f m h1 (Nat.le_of_succ_le hl)).2 hlt hf hm
theorem tP (x p z : List Nat) (hp : p ≠ []) : Txt.replace ⟨x.toArray⟩ ⟨p.toArray⟩ ⟨z.toArray⟩ = ⟨(iI p z x).toArray⟩ := by
 apply Str.ext'
 apply Array.toList_inj.mp
 have hp' : 0 < p.length := by cases p with | nil => exact absurd rfl hp | cons _ _ => simp
 have main := (z8 x p z hp' (x.length + 1) 0 (x.length + 1) 0 (x.length + 1) (Nat.zero_add _) (Nat.le_refl _)).1 0 (Nat.le_refl _) (Nat.le_refl _) (Nat.zero_le _) (Nat.lt_succ_self _)
 simp only [List.drop_zero, Nat.sub_self, List.take_zero, List.nil_append] at main
 show (Txt.replace _ _ _).cps.toList = iI p z x
 unfold iI
 rw [<- main]
 have ho : occurrences ⟨x.toArray⟩ ⟨p.toArray⟩ 0 (Str.length ⟨x.toArray⟩) (Str.length ⟨x.toArray⟩ + 1) = jF x p x.length (x.length + 1) 0 (x.length + 1) 0 := by
  rw [rX, bW]; rfl
 unfold Txt.replace
 rw [ho]
 by_cases hc : (jF x p x.length (x.length + 1) 0 (x.length + 1) 0).isEmpty = true
 ·have : jF x p x.length (x.length + 1) 0 (x.length + 1) 0 = [] := List.isEmpty_iff.mp hc
  rw [this]
  simp [z9]
 ·have h0 : (p.length == 0) = false := beq_eq_false_iff_ne.mpr (by omega)
  rw [if_neg (by simp only [Bool.not_eq_true] at hc; rw [hc, bW, h0]; simp)]
  rw [StrLaws.glued_eq_join]
  have := oA ⟨x.toArray⟩ ⟨z.toArray⟩ p.length (jF x p x.length (x.length + 1) 0 (x.length + 1) 0) 0
  rw [bW]
  exact this
theorem kY (a b : Nat) : sliceRange (a : Int) (b : Int) 1 = (List.range (b - a)).map (fun k => a + k) := by
 unfold sliceRange
 by_cases h : (a : Int) < b
 ·have e : (((b : Int) - a + 1 - 1) / 1).toNat = b - a := by rw [Int.add_sub_cancel, Int.ediv_one, Int.toNat_sub]
  simp only [show ((1 : Int) > 0) = True from by simp, if_true, h, e]
  apply List.map_congr_left; intro k _; rw [Int.one_mul]; rfl
 ·have : b - a = 0 := Nat.sub_eq_zero_of_le (Nat.le_of_not_lt fun q => h (Int.ofNat_lt.mpr q))
  rw [this]
  simp [h]
theorem wG {n : Nat} {i : Int} (h : i < 0) : i + (n : Int) <= n := by
 have := Int.add_le_add_right (Int.le_of_lt h) (n : Int)
 rwa [Int.zero_add] at this
theorem yH (n : Nat) (i : Int) : max 0 (min (if i < 0 then i + (n : Int) else i) (n : Int)) = (gK n i : Int) := by
 unfold gK
 by_cases h : i < 0
 ·rw [if_pos h, if_pos h, Int.min_eq_left (wG h), Int.max_comm, Int.ofNat_toNat]
 ·have h := Int.not_lt.mp h
  rw [if_neg (Int.not_lt.mpr h), if_neg (Int.not_lt.mpr h), Int.max_eq_right (Int.le_min.mpr ⟨h, Int.natCast_nonneg n⟩)]
  by_cases k : i.toNat <= n
  ·rw [Nat.min_eq_left k, Int.min_eq_left (Int.toNat_le.mp k), Int.toNat_of_nonneg h]
  ·rw [Nat.min_eq_right (Nat.le_of_not_le k), Int.min_eq_right (Int.le_of_lt (Int.lt_of_not_ge fun q => k (Int.toNat_le.mpr q)))]
theorem zai (n : Nat) (i : Int) : gK n i <= n := by
 unfold gK
 by_cases h : i < 0
 ·rw [if_pos h]; exact Int.toNat_le.mpr (wG h)
 ·rw [if_neg h]; exact Nat.min_le_right _ _
theorem za9 (lo hi : Option Int) (n : Nat) : strSliceIndices lo hi 1 n = (List.range ((hi.map (gK n)).getD n - (lo.map (gK n)).getD 0)).map (fun k => (lo.map (gK n)).getD 0 + k) := by
 rw [<- kY]
 unfold strSliceIndices
 simp only [show ((1 : Int) > 0) = True from by simp, if_true]
 cases lo <;> cases hi <;> simp only [yH, Option.map_none, Option.map_some, Option.getD_none, Option.getD_some] <;> rfl
theorem zdB (hi : Option Int) (n : Nat) : (hi.map (gK n)).getD n <= n := by
 cases hi with
 | none => simp
 | some i => simpa using zai _ _
theorem lH {α : Type} (l : List α) (lo hi : Option Int) : (strSliceIndices lo hi 1 l.length).filterMap (l[·]?) = slc l lo hi := by
 rw [za9]
 unfold slc
 by_cases h : (lo.map (gK l.length)).getD 0 <= (hi.map (gK l.length)).getD l.length
 ·exact StrLaws.picks l _ _ (by rw [Nat.add_sub_cancel' h]; exact zdB hi l.length)
 ·have : (hi.map (gK l.length)).getD l.length - (lo.map (gK l.length)).getD 0 = 0 := Nat.sub_eq_zero_of_le (Nat.le_of_not_le h)
  rw [this]; simp
theorem tH (lo hi : Option Int) {α : Type} (l : List α) : (strSliceIndices lo hi 1 l.length).length = (slc l lo hi).length := by
 rw [za9]
 unfold slc
 rw [List.length_map, List.length_range, List.length_take, List.length_drop]
 exact (Nat.min_eq_left (Nat.sub_le_sub_right (zdB hi l.length) _)).symm
theorem z0 (l : Array Value) (lo hi : Option Int) : (slicePick l lo hi none).toList = slc l.toList lo hi := by
 rw [<- lH]
 unfold slicePick sliceBounds strSliceIndices
 simp only [Option.getD_none, Array.length_toList, Array.getElem?_toList]
 rfl
theorem lI {α : Type} (l : List α) (lo hi : Option Int) : (slc l lo hi).length <= l.length := by
 unfold slc; rw [List.length_take, List.length_drop]; exact Nat.le_trans (Nat.min_le_right _ _) (Nat.sub_le _ _)
theorem z4 {α : Type} {l : List α} {lo hi : Option Int} (h : (slc l lo hi).length = l.length) : slc l lo hi = l := ((List.take_sublist _ _).trans (List.drop_sublist _ _)).eq_of_length h
theorem zbX {α : Type} {l : List α} {lo hi : Option Int} {c : α} (h : c ∈ slc l lo hi) : c ∈ l := List.mem_of_mem_drop (List.mem_of_mem_take h)
section
variable {prog : Program} {w : World} {A : Around} {E : Value -> Shared -> Prop} {s : Shared} {G : GM} {P : Params} {a b : Value} {K : PV -> Prop} {σ : Nat -> Option Cell}
theorem okStr.slc {x : List Nat} (h : okStr x) (lo hi : Option Int) : okStr (slc x lo hi) :=
 ⟨fun c hc => h.1 c (zbX hc), Nat.le_trans (lI _ _ _) h.2⟩
theorem VRels.slc {vs : List Value} {ps : List PV} (h : VRels P G vs ps) (lo hi : Option Int) : VRels P G (slc vs lo hi) (slc ps lo hi) := by
 have e := h.length
 unfold Mine.slc
 rw [e]
 exact (h.drop _).take _
theorem fQ {v sl : Value} {p r : PV} {lo hi : Option Int} {q : Addr} {vl vu : Value} (hi' : InH G s.heap) (hv : kR P G s.heap v p)
  (hs : s.heap.get? q = some { cls := .type "slice", data := .fields #[vl, vu, .none] }) (hl : ∃ t, vl = partValue (lo.map (·, t))) (hu : ∃ t, vu = partValue (hi.map (·, t)))
  (hr : (match p with | .str x => r = .str (Mine.slc x lo hi) | .list xs => r = .list (Mine.slc xs lo hi) | _ => False)) (hk : K r) :
  GW (model prog w) A P E G s (getItem v (.ref q)) K := by
 obtain ⟨t1, rfl⟩ := hl
 obtain ⟨t2, rfl⟩ := hu
 cases p <;> simp only at hr
 ·subst hr
  rename_i x
  simp only [kR, VRel] at hv
  obtain ⟨t, rfl, ok⟩ := hv
  refine wpAny_getItem_str_slice (l := lo.map (·, t1)) (u := hi.map (·, t2)) (st := none) ⟨_, hs, rfl, rfl⟩ rfl ?_
  have e1 : (lo.map (·, t1)).map (·.1) = lo := by cases lo <;> rfl
  have e2 : (hi.map (·, t2)).map (·.1) = hi := by cases hi <;> rfl
  have e3 : (slicePicked ⟨x.toArray⟩ (lo.map (·, t1)) (hi.map (·, t2)) none).filterMap ((⟨x.toArray⟩ : Str).cps[·]?) = slc x lo hi := by
   unfold slicePicked
   rw [e1, e2, bW]
   rw [<- lH]
   simp
  unfold sliceMade
  have ok' := ok.slc lo hi
  split
  ·rename_i hc
   simp only [Bool.and_eq_true, beq_iff_eq] at hc
   have hlen := hc.2
   have : slc x lo hi = x := z4 (by
    rw [bW] at hlen
    rw [<- tH]
    unfold slicePicked at hlen
    rw [e1, e2, bW] at hlen
    exact hlen)
   refine ⟨.str x, G, by rw [<- this]; rw [this] at hk ⊢; exact hk, GS.refl hi', ?_⟩
   simp only [VRel]
   exact ⟨t, rfl, ok⟩
  ·rw [e3]
   refine ⟨by rw [bW]; exact ok'.2, _, G, hk, GS.toks hi' _, ?_⟩
   simp only [VRel]
   exact ⟨_, rfl, ok'⟩
 ·subst hr
  rename_i xs
  obtain ⟨a, o, vs, n, rfl, h2, h3, h3', h4, h5, h6⟩ := hv
  refine wpAny_getItem_list_slice (lo := lo) (hi := hi) (st := none) (vs := .none) ⟨o, h2, h3, n, h4⟩ ⟨_, hs, rfl, rfl⟩ ?_ ?_ IsPart.none (by simp) ?_ h5
  ·cases lo with
   | none => exact IsPart.none
   | some i => exact IsPart.int _ _
  ·cases hi with
   | none => exact IsPart.none
   | some i => exact IsPart.int _ _
  ·have g := GS.push hi' { cls := .type "list", data := .seq (slicePick vs lo hi none) } rfl s.toks
   refine ⟨_, _, hk, g, ?_⟩
   simp only [VRel]
   have el : (slicePick vs lo hi none).toList = slc vs.toList lo hi := z0 _ _ _
   refine ⟨_, _, _, _, rfl, b5, rfl, rfl, rfl, ?_, by rw [el]; exact (h6.slc lo hi).mono g.ext⟩
   rw [<- Array.length_toList, el]
   exact Nat.le_trans (lI _ _ _) (by simpa using h5)
end
open PySem.NumText
theorem iQ {b c d : Nat} (h : iR b c = some d) : digit? c = some d /\ d < b /\ c ≠ 95 /\ 33 <= c /\ c < 128 := by
 unfold iR at h
 unfold digit?
 split at h
 ·rename_i q; cases h; rw [if_pos (by simp; omega)]; exact ⟨rfl, q.2.2, by omega, by omega, by omega⟩
 ·split at h
  ·rename_i q1 q; cases h
   rw [if_neg (by simp; omega), if_pos (by simp; omega)]; exact ⟨rfl, q.2.2, by omega, by omega, by omega⟩
  ·split at h
   ·rename_i q1 q2 q; cases h
    rw [if_neg (by simp; omega), if_neg (by simp; omega), if_pos (by simp; omega)]; exact ⟨rfl, q.2.2, by omega, by omega, by omega⟩
   ·cases h
theorem rY {b : Nat} : ∀ (cs : List Nat) (acc n : Nat) (ds : Array Nat) (fl : Bool), dM b acc cs = some n -> ds.foldl (fun a d => a * b + d) 0 = acc ->
  ∃ ds', cs.foldlM (NumText.step b) (ds, fl) = some (ds', if cs = [] then fl else true) /\ ds'.foldl (fun a d => a * b + d) 0 = n /\ ds'.size = ds.size + cs.length
 | [], acc, n, ds, fl, h, e => by
  simp only [dM, Option.some.injEq] at h
  exact ⟨ds, rfl, by rw [e, h], rfl⟩
 | c :: cs, acc, n, ds, fl, h, e => by
  unfold dM at h
  split at h
  ·rename_i d hd
   obtain ⟨h1, h2, h3, _⟩ := iQ hd
   have hs : NumText.step b (ds, fl) c = some (ds.push d, true) := by
    unfold NumText.step
    have : (c == 95) = false := beq_eq_false_iff_ne.mpr h3
    rw [this, h1]
    simp [h2]
   obtain ⟨ds', q1, q2, q3⟩ := rY cs (acc * b + d) n (ds.push d) true h (by simp [e])
   refine ⟨ds', ?_, q2, by simp at q3 ⊢; omega⟩
   rw [List.foldlM_cons, hs]
   simp only [Option.bind_eq_bind, Option.bind_some]
   rw [q1]; simp
  ·cases h
theorem mT {b : Nat} : ∀ (cs : List Nat) (acc n : Nat), dM b acc cs = some n -> ∀ c ∈ cs, ∃ d, iR b c = some d
 | [], _, _, _, _, h => by simp at h
 | c :: cs, acc, n, h, x, hx => by
  unfold dM at h
  split at h
  ·rename_i d hd
   rcases List.mem_cons.mp hx with rfl | hx
   ·exact ⟨d, hd⟩
   ·exact mT cs _ _ h x hx
  ·cases h
theorem lK {b n : Nat} {cs : List Nat} (h : dM b 0 cs = some n) (hne : cs ≠ []) : ∃ ds, digits? b cs = some ds /\ ds.foldl (fun a d => a * b + d) 0 = n /\ ds.size = cs.length := by
 obtain ⟨ds, h1, h2, h3⟩ := rY cs 0 n #[] false h rfl
 refine ⟨ds, ?_, h2, by simpa using h3⟩
 unfold digits?
 rw [h1, if_neg hne]; rfl
theorem pI {b c d : Nat} (h : iR b c = some d) : blank c = false := by
 obtain ⟨_, _, _, h1, h2⟩ := iQ h
 unfold blank
 simp only [Bool.or_eq_false_iff, beq_eq_false_iff_ne, Bool.and_eq_false_iff, decide_eq_false_iff_not]
 omega
theorem gG {cs : List Nat} (h : ∀ c ∈ cs, blank c = false) : cs.dropWhile blank = cs := by
 cases cs with
 | nil => rfl
 | cons c cs => rw [List.dropWhile_cons, h c (by simp)]; rfl
theorem take_zero {cs : List Nat} (h : ∀ c ∈ cs, c ≠ 0) : cs.takeWhile (· != 0) = cs := by
 induction cs with
 | nil => rfl
 | cons c cs ih =>
  have : (c != 0) = true := by have := h c (by simp); simpa using this
  rw [List.takeWhile_cons, if_pos this, ih fun d hd => h d (by simp [hd])]
theorem lZ {x : List Nat} (h : ∀ c ∈ x, c < 128) (h0 : ∀ c ∈ x, c ≠ 0) : numTextOf ⟨x.toArray⟩ = x /\ numSeenOf ⟨x.toArray⟩ = x := by
 have e : numTextOf ⟨x.toArray⟩ = x := by
  unfold numTextOf
  rw [if_pos]
  rw [Array.all_eq_true]
  intro i hi
  simp only [decide_eq_true_eq]
  exact h _ (by simp)
 refine ⟨e, ?_⟩
 unfold numSeenOf
 rw [e]; exact take_zero h0
theorem y5 (neg : Bool) (ds : Array Nat) (n : Nat) (h : ds.foldl (fun a d => a * 10 + d) 0 = n) : worth neg ds = if neg then -(n : Int) else n := by
 unfold worth; rw [h]
theorem hH {x : List Nat} {neg : Bool} {cs : List Nat} {n : Nat} (hx : (neg = true /\ x = 45 :: cs) \/ (neg = false /\ x = 43 :: cs) \/ (neg = false /\ x = cs)) (hne : cs ≠ []) (hn : dM 10 0 cs = some n) (hl : cs.length <= 4300) :
  PySem.intText? ⟨x.toArray⟩ = some (if neg then -(n : Int) else n) := by
 have hm := mT cs 0 n hn
 have hasc : ∀ c ∈ x, c < 128 /\ c ≠ 0 := by
  have hc : ∀ c ∈ cs, c < 128 /\ c ≠ 0 := fun c hc => by
   obtain ⟨d, hd⟩ := hm c hc
   have := (iQ hd).2.2.2
   omega
  intro c hc'
  rcases hx with ⟨_, rfl⟩ | ⟨_, rfl⟩ | ⟨_, rfl⟩
  ·rcases List.mem_cons.mp hc' with rfl | h
   ·omega
   ·exact hc c h
  ·rcases List.mem_cons.mp hc' with rfl | h
   ·omega
   ·exact hc c h
  ·exact hc c hc'
 obtain ⟨e1, e2⟩ := lZ (fun c hc => (hasc c hc).1) fun c hc => (hasc c hc).2
 have hb : ∀ c ∈ cs, blank c = false := fun c hc => by obtain ⟨d, hd⟩ := hm c hc; exact pI hd
 have hbr : ∀ c ∈ cs.reverse, blank c = false := fun c hc => hb c (List.mem_reverse.mp hc)
 have hsign : sign (x.dropWhile blank) = (neg, cs) := by
  rcases hx with ⟨rfl, rfl⟩ | ⟨rfl, rfl⟩ | ⟨rfl, rfl⟩
  ·have : (45 :: cs).dropWhile blank = 45 :: cs := by rw [List.dropWhile_cons]; rfl
   rw [this]; rfl
  ·have : (43 :: cs).dropWhile blank = 43 :: cs := by rw [List.dropWhile_cons]; rfl
   rw [this]; rfl
  ·rw [gG hb]
   cases x with
   | nil => exact absurd rfl hne
   | cons c r =>
    obtain ⟨d, hd⟩ := hm c (by simp)
    have h1 : c ≠ 45 := by
     rintro rfl; simp [iR] at hd
    have h2 : c ≠ 43 := by
     rintro rfl; simp [iR] at hd
    unfold sign
    split
    ·rename_i heq; cases heq; exact absurd rfl h1
    ·rename_i heq; cases heq; exact absurd rfl h2
    ·rfl
 obtain ⟨ds, d1, d2, d3⟩ := lK hn hne
 have hcore : core x = cs := by
  unfold core
  rw [hsign]
  simp only
  rw [gG hbr, List.reverse_reverse]
 unfold PySem.intText?
 rw [e1, e2]
 simp only [beq_self_eq_true, if_true]
 rw [hcore, d1]
 simp only
 rw [if_pos (by omega), hsign, y5 _ _ n d2]
section
variable {prog : Program} {w : World} {A : Around} {E : Value -> Shared -> Prop} {s : Shared}
theorem zc9 {M : Model} {A : Around} {E : Value -> Shared -> Prop} {s : Shared} {Q : Value -> Shared -> Prop} {v : Value} {text : List Nat} {n : Int}
  (hs : (text.takeWhile (· != 0)).length <= 640) (hr : (int_private% "readNumeral") 0 16 (text.takeWhile (· != 0)) = (int_private% "Numeral.value") n)
  (ha : ((text.takeWhile (· != 0)).length == text.length) = true) (h : Q (.int n s.toks) { s with toks := s.toks + 1 }) :
  wpAny M A ((int_private% "intFromText") v text 16) Q E s := by
 obtain ⟨hp, g, d, tk, os⟩ := s
 repeat (any_goals (first
  | assumption
  | (with_reducible refine wpAny_ite_true (decide_eq_true hs) ?_)
  | (with_reducible refine wpAny_ite_true (decide_eq_true ha) ?_)
  | wp_step))
 all_goals (try rw [hr])
 all_goals (try dsimp only)
 repeat (any_goals (first
  | assumption
  | (with_reducible refine wpAny_ite_true (decide_eq_true hs) ?_)
  | (with_reducible refine wpAny_ite_true (decide_eq_true ha) ?_)
  | wp_step))
theorem zag {cs : List Nat} {n : Nat} (hn : dM 16 0 cs = some n) (hne : cs ≠ []) : (int_private% "readNumeral") 0 16 cs = (int_private% "Numeral.value") (n : Int) := by
 have hm := mT cs 0 n hn
 have hb : ∀ c ∈ cs, blank c = false := fun c hc => by obtain ⟨d, hd⟩ := hm c hc; exact pI hd
 have hbr : ∀ c ∈ cs.reverse, blank c = false := fun c hc => hb c (List.mem_reverse.mp hc)
 obtain ⟨ds, d1, d2, d3⟩ := lK hn hne
 rw [readNumeral_eq, gG hb]
 have hsign : sign cs = (false, cs) := by
  cases cs with
  | nil => exact absurd rfl hne
  | cons c r =>
   obtain ⟨d, hd⟩ := hm c (by simp)
   unfold sign
   split
   ·rename_i heq; cases heq; simp [iR] at hd
   ·rename_i heq; cases heq; simp [iR] at hd
   ·rfl
 have hbased : based 16 cs = (16, false, cs) := by
  unfold based
  split
  ·rename_i p hp
   have : p ≠ 16 := by
    rintro rfl
    unfold prefix? at hp
    split at hp
    ·rename_i c r
     obtain ⟨d, hd⟩ := hm c (by simp)
     split at hp
     ·rename_i q
      simp only [Bool.or_eq_true, beq_iff_eq] at q
      rcases q with rfl | rfl <;> simp [iR] at hd
     ·split at hp
      ·cases hp
      ·split at hp <;> cases hp
    ·cases hp
   rw [if_neg]
   simp; omega
  ·rfl
 rw [hsign]
 simp only [hbased]
 rw [gG hbr, List.reverse_reverse, d1]
 unfold judge
 simp only [bne_self_eq_false, Bool.and_false, Bool.false_and, Bool.false_eq_true, if_false]
 rw [d2]
 rfl
set_option maxHeartbeats 4000000 in
theorem xC {x : List Nat} {u v : Tok} {n : Nat} (hl : x.length <= 640) (hne : x ≠ []) (hn : dM 16 0 x = some n) : Gives (Builtin.«int.__new__» ⟨[.type "int", .str ⟨x.toArray⟩ u, .int 16 v], []⟩) (.int n) :=
 .of_wp fun M A E s Q h => by
  obtain ⟨hp, g, d, tk, os⟩ := s
  have f1 := F.conv_sub_int
  have f2 := F.madeHere_int
  have f6 : typeOf (.str ⟨x.toArray⟩ u) = pure (.type "str") := rfl
  have hm := mT x 0 n hn
  have hasc : ∀ c ∈ x, c < 128 /\ c ≠ 0 := fun c hc => by
   obtain ⟨d, hd⟩ := hm c hc
   have := (iQ hd).2.2.2
   omega
  obtain ⟨e1, e2⟩ := lZ (fun c hc => (hasc c hc).1) fun c hc => (hasc c hc).2
  have hs : (numSeenOf ⟨x.toArray⟩).length <= 640 := by rw [e2]; exact hl
  have hr : (int_private% "readNumeral") 0 16 (numSeenOf ⟨x.toArray⟩) = (int_private% "Numeral.value") (n : Int) /\ ((numSeenOf ⟨x.toArray⟩).length == (numTextOf ⟨x.toArray⟩).length) = true := by
   rw [e1, e2]; exact ⟨zag hn hne, by simp⟩
  have hk := PySem.W.KIN.Hid.mk (And.intro hs hr)
  clear hs hr hl hn hm hasc e1 e2 hne
  repeat (any_goals (first
   | assumption
   | ((with_reducible show wpAny _ _ ((int_private% "intFromText") _ _ _) _ _ _); refine zc9 hk.out.1 hk.out.2.1 hk.out.2.2 ?_)
   | wp_step))
  all_goals first | exact ⟨_, rfl, h⟩ | skip
end
theorem jW {P : Params} {G : GM} : ∀ {ps : List PV} {vs : List Value} {zs : List (List Nat)}, VRels P G vs ps -> eA ps = some zs -> StrsAre vs (zs.map fun z => ⟨z.toArray⟩) /\ ∀ z ∈ zs, okStr z
 | [], vs, zs, r, h => by
  simp only [VRels] at r; subst r
  simp only [eA, Option.some.injEq] at h; subst h
  exact ⟨.nil, by simp⟩
 | p :: ps, vs, zs, r, h => by
  simp only [VRels] at r
  obtain ⟨v, w, rfl, r1, r2⟩ := r
  obtain ⟨x, hx, h⟩ := Option.bind_eq_some_iff.mp h
  obtain ⟨ys, hy, rfl⟩ := Option.map_eq_some_iff.mp h
  cases p <;> first | (cases hx; done) | skip
  cases hx
  simp only [VRel] at r1
  obtain ⟨t, rfl, ok⟩ := r1
  obtain ⟨q1, q2⟩ := jW r2 hy
  refine ⟨.cons _ t q1, ?_⟩
  intro z hz
  rcases List.mem_cons.mp hz with rfl | hz
  ·exact ok
  ·exact q2 z hz
theorem nT (zs : List (List Nat)) (x : List Nat) : ((zs.map fun z => (⟨z.toArray⟩ : Str)).any fun y => y == ⟨x.toArray⟩) = decide (x ∈ zs) := by
 rw [List.any_map]
 by_cases h : x ∈ zs
 ·rw [decide_eq_true h, List.any_eq_true]
  exact ⟨x, h, by simp⟩
 ·rw [decide_eq_false h, List.any_eq_false]
  intro z hz
  simp only [Function.comp]
  intro e
  have e := eq_of_beq e
  have : z = x := by simpa using congrArg (fun s : Str => s.cps.toList) e
  exact h (this ▸ hz)
theorem wW : ∀ (x y : List Nat), (!(decide (y < x))) = leS x y
 | [], y => by cases y <;> rfl
 | a :: x, [] => rfl
 | a :: x, b :: y => by
  have ih := wW x y
  rw [StrLaws.lt_cons_cons]
  show _ = if a = b then leS x y else decide (a < b)
  by_cases h : a = b
  ·subst h; simp only [Nat.lt_irrefl, decide_false, Bool.false_or, beq_self_eq_true, Bool.true_and, if_true]; exact ih
  ·rw [if_neg h]
   have : (b == a) = false := by simp; omega
   rw [this, Bool.false_and, Bool.or_false]
   by_cases h' : a < b
   ·rw [decide_eq_true h', decide_eq_false (by omega)]; rfl
   ·rw [decide_eq_false h', decide_eq_true (by omega)]; rfl
section
variable {prog : Program} {w : World} {A : Around} {E : Value -> Shared -> Prop} {s : Shared} {G : GM} {a b : Value} {K : PV -> Prop} {σ : Nat -> Option Cell}
theorem in_G (neg : Bool) {p q : PV} (hi : InH G s.heap) (ha : VRel w.params G a p) (hb : VRel w.params G b q) (h : inW p q fun r => K (.bool (if neg then !r else r))) :
  GW (model prog w) A w.params E G s (compareOp (if neg then .NotIn else .In) a b) K := by
 obtain ⟨x, rfl, h⟩ := cZ h
 simp only [VRel] at ha
 obtain ⟨t, rfl, _⟩ := ha
 cases q <;> first | exact False.elim h | skip
 ·simp only [VRel] at hb
  obtain ⟨u, rfl, _⟩ := hb
  cases neg
  ·exact cS hi h fun Q q => P.in_str (by rw [kI]; exact q)
  ·exact cS hi h fun Q q => P.notIn_str (by rw [kI]; exact q)
 ·obtain ⟨zs, hz, h⟩ := h
  simp only [VRel] at hb
  obtain ⟨x, o, vs, n, rfl, h2, h3, h4, h5, h6⟩ := hb
  obtain ⟨q1, _⟩ := jW h6 hz
  have ht : IsTup s.heap x vs := ⟨o, hi.at_ _ _ h2, h3, n, h4⟩
  cases neg
  ·exact cS hi h fun Q q => in_tuple_strs ht q1 (by rw [nT]; exact q)
  ·exact cS hi h fun Q q => notin_tuple_strs ht q1 (by rw [nT]; exact q)
 ·obtain ⟨zs, hz, h⟩ := h
  obtain ⟨x, vs, rfl, h2, h5, h6⟩ := LView.isList (show LView w.params G s.heap b _ from VRel.view hi hb)
  obtain ⟨q1, _⟩ := jW h6 hz
  cases neg
  ·exact cS hi h fun Q q => in_list_strs (vs := vs.toList) h2 q1 (by rw [nT]; exact q)
  ·exact cS hi h fun Q q => notin_list_strs (vs := vs.toList) h2 q1 (by rw [nT]; exact q)
theorem is_G (neg : Bool) {p q : PV} (hi : InH G s.heap) (ha : VRel w.params G a p) (hb : VRel w.params G b q) (h : isW p q fun r => K (.bool (if neg then !r else r))) :
  GW (model prog w) A w.params E G s (compareOp (if neg then .IsNot else .Is) a b) K := by
 have main : ∀ {a b : Value} {r : Bool}, plainIs a b = true -> (a == b) = r -> K (.bool (if neg then !r else r)) -> GW (model prog w) A w.params E G s (compareOp (if neg then .IsNot else .Is) a b) K := by
  intro a b r h1 h2 hk
  subst h2
  cases neg
  ·exact cS hi hk fun Q q => wpAny_is_plain h1 q
  ·exact cS hi hk fun Q q => wpAny_isNot_plain h1 q
 cases q <;> first | exact False.elim h | skip
 ·simp only [VRel] at hb
  subst hb
  cases p <;> first | exact False.elim h | skip
  ·simp only [VRel] at ha
   subst ha; exact main rfl rfl h
  ·simp only [VRel] at ha
   obtain ⟨t, rfl⟩ := ha; exact main rfl rfl h
  ·simp only [VRel] at ha
   obtain ⟨t, rfl, _⟩ := ha; exact main rfl rfl h
  ·simp only [VRel] at ha
   obtain ⟨a, o, vs, m, rfl, _⟩ := ha; exact main rfl rfl h
 ·rename_i y
  cases p <;> first | exact False.elim h | skip
  rename_i x
  simp only [VRel] at ha hb
  subst ha hb; exact main rfl (by cases x <;> cases y <;> rfl) h
theorem zeD {n : Nat} (hA : Room n A) {op : CmpOp} {p q : PV} (hi : InH G s.heap) (hc : kU w.params G s.heap σ) (ha : VRel w.params G a p) (hb : VRel w.params G b q)
  (h : zbv σ op p q fun r => K (.bool r)) : GW (model prog w) A w.params E G s (compareOp op a b) K := by
 have twoI : ∀ {c : Int -> Int -> Bool} {op : CmpOp}, (asI p fun x => asI q fun y => K (.bool (c x y))) -> (∀ x t y u (Q : Value -> Shared -> Prop), Q (.bool (c x y)) s -> wpAny (model prog w) A (compareOp op (.int x t) (.int y u)) Q E s) -> GW (model prog w) A w.params E G s (compareOp op a b) K := by
  intro c op h k
  obtain ⟨x, rfl, h⟩ := bP h
  obtain ⟨y, rfl, h⟩ := bP (v := q) h
  simp only [VRel] at ha hb
  obtain ⟨t, rfl⟩ := ha; obtain ⟨u, rfl⟩ := hb
  exact cS hi h fun Q q => k x t y u Q q
 cases op
 ·exact eq_G hA false hi hc ha hb h
 ·exact eq_G hA true hi hc ha hb h
 ·exact twoI h fun _ _ _ _ Q q => lt_int q
 ·have h : leP p q fun r => K (.bool r) := h
  cases p <;> first | exact False.elim h | skip
  ·exact twoI (c := fun x y => decide (x <= y)) h fun _ _ _ _ Q q => le_int q
  ·obtain ⟨y, rfl, h⟩ := cZ (v := q) h
   simp only [VRel] at ha hb
   obtain ⟨t, rfl, _⟩ := ha; obtain ⟨u, rfl, _⟩ := hb
   exact cS hi h fun Q q => P.le_str (by simpa [wW] using q)
 ·exact twoI h fun _ _ _ _ Q q => gt_int q
 ·exact twoI (c := fun x y => decide (y <= x)) h fun _ _ _ _ Q q => PyProof.Rows.ge_int q
 ·exact is_G false hi ha hb h
 ·exact is_G true hi ha hb h
 ·exact in_G false hi ha hb h
 ·exact in_G true hi ha hb h
theorem zbL {v : Value} {p : PV} {b : Bool} (hi : InH G s.heap) (hv : kR w.params G s.heap v p) (h : rP p = some b) :
  wpAny (model prog w) A (truthy v) (fun c s' => c = b /\ GS G s G s') E s := by
 have len2 : ∀ n : Nat, n <= aQ -> (n : Int) < 2 ^ 63 := by intro n hn; unfold aQ at hn; omega
 cases p <;> first | (cases h; done) | skip
 all_goals cases h
 ·simp only [kR, VRel] at hv; subst hv; exact truthy_none ⟨rfl, GS.refl hi⟩
 ·simp only [kR, VRel] at hv; subst hv; exact wpAny_truthy_bool ⟨rfl, GS.refl hi⟩
 ·simp only [kR, VRel] at hv; obtain ⟨t, rfl⟩ := hv
  rename_i i
  exact truthy_int ⟨by by_cases e : i = 0 <;> simp [e], GS.refl hi⟩
 ·simp only [kR, VRel] at hv; obtain ⟨t, rfl, ok⟩ := hv
  rename_i x
  refine P.truthy_str (by rw [bW]; exact Int.not_le.mpr (len2 _ ok.2)) ⟨?_, GS.toks hi _⟩
  rw [bW]
  cases x <;> rfl
 ·simp only [kR, VRel] at hv
  obtain ⟨x, o, vs, n, rfl, h2, h3, h4, h5, h6⟩ := hv
  rename_i xs
  refine truthy_tuple (items := vs) ⟨o, hi.at_ _ _ h2, h3, n, h4⟩ (len2 _ h5) ⟨?_, GS.toks hi _⟩
  have e := h6.length
  cases xs <;> simp at e <;> simp [Array.isEmpty, e]
 ·obtain ⟨x, vs, rfl, h2, h5, h6⟩ := LView.isList hv
  rename_i xs
  refine wpAny_truthy_list h2 (len2 _ h5) ⟨?_, GS.toks hi _⟩
  have e := h6.length
  cases xs <;> simp at e <;> simp [Array.isEmpty, e]
end
theorem nI {P : Params} : ∀ {es : List (List Nat × List Nat)} {vs : List DictEntry}, rJ P vs es ->
  (∀ e ∈ vs, ∃ k : List Nat, (∃ t, e.key = .str ⟨k.toArray⟩ t) /\ e.hash = PyData.keyHash P ⟨k.toArray⟩) /\
  (∀ k : List Nat, (∃ p t, es.lookup k = some p /\ (vs.find? fun d => Value.isStrOf ⟨k.toArray⟩ d.key).map (·.val) = some (.str ⟨p.toArray⟩ t) /\ okStr p) \/ (es.lookup k = none /\ (vs.find? fun d => Value.isStrOf ⟨k.toArray⟩ d.key).map (·.val) = none))
 | [], vs, r => by
  have r : vs = [] := r
  subst r
  exact ⟨fun e h => (nomatch h), fun k => .inr ⟨rfl, rfl⟩⟩
 | (k₀, p) :: es, vs, r => by
  obtain ⟨e, w, t, t', rfl, h1, h2, h3, h5, h4⟩ := (show ∃ e r t t', vs = e :: r /\ e.key = .str ⟨k₀.toArray⟩ t /\ e.hash = PyData.keyHash P ⟨k₀.toArray⟩ /\ e.val = .str ⟨p.toArray⟩ t' /\ okStr p /\ rJ P r es from r)
  obtain ⟨q1, q2⟩ := nI h4
  refine ⟨fun d hd => ?_, fun k => ?_⟩
  ·rcases List.mem_cons.mp hd with rfl | hd
   ·exact ⟨k₀, ⟨t, h1⟩, h2⟩
   ·exact q1 d hd
  ·rw [List.find?_cons, List.lookup_cons]
   by_cases hk : k = k₀
   ·subst hk
    have : Value.isStrOf ⟨k.toArray⟩ e.key = true := by rw [h1]; simp [Value.isStrOf]
    rw [this, beq_self_eq_true]
    exact .inl ⟨p, t', rfl, congrArg some h3, h5⟩
   ·have a : Value.isStrOf ⟨k.toArray⟩ e.key = false := by
     rw [h1]
     simp only [Value.isStrOf]
     apply Bool.eq_false_iff.mpr
     intro h
     have h := eq_of_beq h
     have : k₀ = k := by simpa using congrArg (fun s : Str => s.cps.toList) h
     exact hk this.symm
    have b : (k == k₀) = false := beq_eq_false_iff_ne.mpr hk
    rw [a, b]
    exact q2 k
section
variable {prog : Program} {w : World} {G : GM}
theorem zcd {h : Heap} {x : Addr} {es' : Array DictEntry} {n : Nat} {es : List (List Nat × List Nat)} (hi : InH G h) (hG : G x = some { cls := .type "dict", data := .dict es' n }) (hr : rJ w.params es'.toList es) :
  h.MapOf (strKind prog w) x (fun k => findBy Value.isStrOf es' k) :=
 ⟨_, es', n, hi.at_ _ _ hG, ⟨rfl, rfl, rfl⟩, rfl, fun e he => by
  obtain ⟨k, ⟨t, e1⟩, e2⟩ := (nI hr).1 e (Array.mem_toList_iff.mpr he)
  exact ⟨⟨k.toArray⟩, by rw [e1]; exact strKind_is prog w _ t, e2⟩, fun _ => rfl⟩
theorem zaI {es' : Array DictEntry} {es : List (List Nat × List Nat)} (hr : rJ w.params es'.toList es) (k : List Nat) :
  (∃ p t, es.lookup k = some p /\ findBy Value.isStrOf es' ⟨k.toArray⟩ = some (.str ⟨p.toArray⟩ t) /\ okStr p) \/ (es.lookup k = none /\ findBy Value.isStrOf es' ⟨k.toArray⟩ = none) := by
 obtain ⟨l⟩ := es'
 unfold findBy
 rw [List.find?_toArray]
 rcases (nI hr).2 k with ⟨p, t, h1, h2, h3⟩ | ⟨h1, h2⟩
 ·exact .inl ⟨p, t, h1, h2, h3⟩
 ·exact .inr ⟨h1, h2⟩
end
noncomputable def gU : Obj := { cls := .type "dict", data := .dict #[] }
noncomputable def za5 (P : Params) (G : GM) (sl : Array (Option Value)) (fs : List (Option PV)) : Prop :=
 sl.size <= fs.length /\ ∀ (i : Nat) (p : PV), fs[i]? = some (some p) -> ∃ v, sl[i]? = some (some v) /\ VRel P G v p
noncomputable def CellRel (P : Params) (G : GM) (h : Heap) (a : Nat) : Cell -> Prop
 | .lst xs => ∃ vs n, h.get? a = some { cls := .type "list", data := .seq vs n } /\ vs.size <= aQ /\ VRels P G vs.toList xs
 | .ins c fs => ∃ dx sl, h.get? a = some { cls := .ref c, dict := some dx, data := .plain, slots := sl } /\ G dx = some gU /\ za5 P G sl fs
theorem CellRel.mono {P : Params} {G G' : GM} {h h' : Heap} {a : Nat} {c : Cell} (r : CellRel P G h a c) (hs : Sub G G') (hk : ∀ o, h.get? a = some o -> h'.get? a = some o) : CellRel P G' h' a c := by
 cases c with
 | lst xs => obtain ⟨vs, n, h1, h2, h3⟩ := r; exact ⟨vs, n, hk _ h1, h2, h3.mono hs⟩
 | ins c fs =>
  obtain ⟨dx, sl, h1, h2, h3, h4⟩ := r
  exact ⟨dx, sl, hk _ h1, hs _ _ h2, h3, fun i p e => let ⟨v, e1, e2⟩ := h4 i p e; ⟨v, e1, e2.mono hs⟩⟩
structure Rep (P : Params) (G : GM) (env : Env) (st : St) (s : Shared) : Prop where
 inh : InH G s.heap
 tk : 1 <= s.toks
 ns : ∃ m, s.heap.Ns env.locals m /\ ∀ x p, st.ρ x = some p -> env.kindOf x = some .local -> ∃ v, m x = some v /\ VRel P G v p
 kind : ∀ x p, st.ρ x = some p -> env.kindOf x = some .local \/ env.kindOf x = some .cell \/ env.kindOf x = some .free
 cel : ∀ x p, st.ρ x = some p -> env.kindOf x ≠ some .local -> ∃ c v, env.cells.lookup x = some c /\ s.heap.IsCell c (some v) /\ VRel P G v p
 cell0 : ∀ x, env.kindOf x = some .cell -> ∃ c v, env.cells.lookup x = some c /\ s.heap.IsCell c v
 gl : G env.locals = none
 gc : ∀ x c, env.cells.lookup x = some c -> G c = none /\ c ≠ env.locals
 cinj : ∀ x y c, env.cells.lookup x = some c -> env.cells.lookup y = some c -> x = y
 cells : ∀ a c, st.σ a = some c -> CellRel P G s.heap a c /\ G a = none /\ a ≠ env.locals /\ ∀ x, env.cells.lookup x ≠ some a
structure Tr (cw : Bool) (env : Env) (G : GM) (st : St) (s : Shared) (G' : GM) (st' : St) (s' : Shared) : Prop where
 ext : Sub G G'
 new : ∀ a o, G' a = some o -> G a = some o \/ s.heap.get? a = none
 keep : ∀ a o, a ≠ PX -> s.heap.get? a = some o -> a ≠ env.locals -> (cw = true -> ∀ x, env.cells.lookup x ≠ some a) -> st.σ a = none -> s'.heap.get? a = some o
 alive : ∀ a, (s.heap.get? a).isSome = true -> (s'.heap.get? a).isSome = true
 dom : ∀ a, (st.σ a).isSome = true -> (st'.σ a).isSome = true
 fresh : ∀ a, (st'.σ a).isSome = true -> (st.σ a).isSome = true \/ s.heap.get? a = none
 os : s'.os = s.os
 gens : AllBare s.gens -> AllBare s'.gens
section
variable {P : Params} {G G' G'' : GM} {env : Env} {st st' st'' : St} {s s' s'' : Shared} {cw : Bool}
theorem Tr.refl : Tr cw env G st s G st s := ⟨.refl _, fun _ _ e => .inl e, fun _ _ _ e _ _ _ => e, fun _ e => e, fun _ e => e, fun _ e => .inl e, rfl, fun e => e⟩
theorem Tr.trans (h : Tr cw env G st s G' st' s') (h' : Tr cw env G' st' s' G'' st'' s'') : Tr cw env G st s G'' st'' s'' where
 ext := h.ext.trans h'.ext
 new := fun a o e => by
  rcases h'.new a o e with q | q
  ·exact h.new a o q
  ·right
   cases e' : s.heap.get? a with
   | none => rfl
   | some o' => have := h.alive a (by rw [e']; rfl); rw [q] at this; cases this
 keep := fun a o n e h1 h2 h3 => h'.keep a o n (h.keep a o n e h1 h2 h3) h1 h2 (by
  cases q : st'.σ a with
  | none => rfl
  | some c =>
   rcases h.fresh a (by rw [q]; rfl) with r | r
   ·rw [h3] at r; cases r
   ·rw [e] at r; cases r)
 alive := fun a e => h'.alive a (h.alive a e)
 dom := fun a e => h'.dom a (h.dom a e)
 fresh := fun a e => by
  rcases h'.fresh a e with q | q
  ·exact h.fresh a q
  ·right
   cases e' : s.heap.get? a with
   | none => rfl
   | some o' => have := h.alive a (by rw [e']; rfl); rw [q] at this; cases this
 os := h'.os.trans h.os
 gens := fun e => h'.gens (h.gens e)
theorem TabX.nd {h : Heap} (x : TabX h) {a : Nat} {o : Obj} (e : h.get? a = some o) (hd : ∀ ps, o.data ≠ .fields ps) : a ≠ PX := fun q => by
 obtain ⟨o', ps, h1, h2, _⟩ := x
 rw [q, h1] at e; cases e; exact hd ps h2
theorem TabX.ns {h : Heap} (x : TabX h) {a : Nat} {m : Str -> Option Value} (n : h.Ns a m) : a ≠ PX := by
 obtain ⟨o, es, ep, h1, h2, _⟩ := n
 exact x.nd h1 fun ps q => by rw [h2] at q; cases q
theorem TabX.cell {h : Heap} (x : TabX h) {a : Nat} {v : Option Value} (n : h.IsCell a v) : a ≠ PX := by
 obtain ⟨o, h1, h2⟩ := n
 exact x.nd h1 fun ps q => by rw [h2] at q; cases q
theorem CellRel.nx {h : Heap} (x : TabX h) {a : Nat} {c : Cell} (r : CellRel P G h a c) : a ≠ PX := by
 cases c with
 | lst xs => obtain ⟨vs, n, h1, _⟩ := r; exact x.nd h1 fun ps q => by cases q
 | ins c fs => obtain ⟨dx, sl, h1, _⟩ := r; exact x.nd h1 fun ps q => by cases q
theorem zcW {h h' : Heap} (t : TabX h') (k : ∀ a o, a ≠ PX -> h.get? a = some o -> h'.get? a = some o) (a : Nat) (e : (h.get? a).isSome = true) : (h'.get? a).isSome = true := by
 by_cases q : a = PX
 ·obtain ⟨o, ps, h1, _⟩ := t; rw [q, h1]; rfl
 ·obtain ⟨o, ho⟩ := Option.isSome_iff_exists.mp e
  rw [k a o q ho]; rfl
theorem GS.alive (g : GS G s G' s') (a : Nat) (e : (s.heap.get? a).isSome = true) : (s'.heap.get? a).isSome = true := zcW g.inh.tab g.keep a e
theorem GS.tr (g : GS G s G' s') : Tr cw env G st s G' st s' :=
 ⟨g.ext, g.new, fun a o n e _ _ _ => g.keep a o n e, g.alive, fun _ e => e, fun _ e => .inl e, g.os, g.gens⟩
theorem GS.none_stays (g : GS G s G' s') {a : Nat} {o : Obj} (ha : s.heap.get? a = some o) (h : G a = none) : G' a = none := by
 cases e : G' a with
 | none => rfl
 | some o' =>
  rcases g.new a o' e with q | q
  ·rw [h] at q; cases q
  ·rw [ha] at q; cases q
theorem bO {h h' : Heap} {c : Addr} {v : Option Value} (x : h.IsCell c v) (k : ∀ o, h.get? c = some o -> h'.get? c = some o) : h'.IsCell c v := let ⟨o, e, d⟩ := x; ⟨o, k o e, d⟩
theorem CellRel.alive {h : Heap} {a : Nat} {c : Cell} (r : CellRel P G h a c) : ∃ o, h.get? a = some o := by
 cases c with
 | lst xs => obtain ⟨vs, n, h1, _⟩ := r; exact ⟨_, h1⟩
 | ins c fs => obtain ⟨dx, sl, h1, _⟩ := r; exact ⟨_, h1⟩
theorem Rep.lx (R : Rep P G env st s) : env.locals ≠ PX := by obtain ⟨m, h1, _⟩ := R.ns; exact R.inh.tab.ns h1
theorem Rep.cx {x : Str} {c : Addr} (R : Rep P G env st s) (hk : env.kindOf x = some .cell) (h : env.cells.lookup x = some c) : c ≠ PX := by
 obtain ⟨c', v, h1, h2⟩ := R.cell0 x hk
 rw [h] at h1; cases h1; exact R.inh.tab.cell h2
noncomputable def CellsThere (env : Env) (h : Heap) : Prop := ∀ x c, env.cells.lookup x = some c -> ∃ o, h.get? c = some o
theorem Rep.grow (R : Rep P G env st s) (hct : CellsThere env s.heap) (g : GS G s G' s') (tk : 1 <= s'.toks) : Rep P G' env st s' where
 inh := g.inh
 tk := tk
 ns := by
  obtain ⟨m, h1, h2⟩ := R.ns
  exact ⟨m, h1.at' fun o => g.keep _ o (R.inh.tab.ns h1), fun x p e k => let ⟨v, a, b⟩ := h2 x p e k; ⟨v, a, b.mono g.ext⟩⟩
 kind := R.kind
 cel := fun x p e k => let ⟨c, v, h1, h2, h3⟩ := R.cel x p e k; ⟨c, v, h1, bO h2 (fun o => g.keep c o (R.inh.tab.cell h2)), h3.mono g.ext⟩
 cell0 := fun x e => let ⟨c, v, h1, h2⟩ := R.cell0 x e; ⟨c, v, h1, bO h2 (fun o => g.keep c o (R.inh.tab.cell h2))⟩
 gl := by
  obtain ⟨m, ⟨o, es, ep, h1, _⟩, h2⟩ := R.ns
  exact g.none_stays h1 R.gl
 gc := fun x c e => by
  obtain ⟨o, ho⟩ := hct x c e
  exact ⟨g.none_stays ho (R.gc x c e).1, (R.gc x c e).2⟩
 cinj := R.cinj
 cells := fun a c e => by
  obtain ⟨h1, h2, h3⟩ := R.cells a c e
  obtain ⟨o, ho⟩ := h1.alive
  exact ⟨h1.mono g.ext (fun o => g.keep a o (h1.nx R.inh.tab)), g.none_stays ho h2, h3⟩
theorem CellsThere.grow (h : CellsThere env s.heap) (hk : ∀ a, (s.heap.get? a).isSome = true -> (s'.heap.get? a).isSome = true) : CellsThere env s'.heap := fun x c e => by
 obtain ⟨o, ho⟩ := h x c e
 exact Option.isSome_iff_exists.mp (hk c (by rw [ho]; rfl))
theorem Rep.cellsOk (R : Rep P G env st s) : kU P G s.heap st.σ := fun a xs e => by
 obtain ⟨⟨vs, n, h1, h2, h3⟩, _⟩ := R.cells a _ e
 exact ⟨a, _, vs, n, rfl, h1, rfl, rfl, rfl, h2, h3⟩
theorem Rep.view (R : Rep P G env st s) {v : Value} {p : PV} (h : VRel P G v p) : kR P G s.heap v (der st.σ p) := by
 cases p with
 | ptr a =>
  show kR P G s.heap v (Option.casesOn (motive := fun _ => PV) (fA (st.σ a)) (.ptr a) .list)
  cases e : st.σ a with
  | none => exact h
  | some c => cases c with
   | lst xs => simp only [VRel] at h; subst h; exact R.cellsOk a xs e
   | ins c fs => exact h
 | _ => exact h.view R.inh
end
section
variable {prog : Program} {w : World} {A : Around} {E : Value -> Shared -> Prop} {s : Shared} {G : GM} {env : Env} {st : St} {cw : Bool} {K : PV -> Prop}
noncomputable def zeG (P : Params) (cw : Bool) (env : Env) (G : GM) (st : St) (s : Shared) (Q : PV -> St -> Prop) (v : Value) (s' : Shared) : Prop :=
 ∃ p G' st', Q p st' /\ Rep P G' env st' s' /\ CellsThere env s'.heap /\ Tr cw env G st s G' st' s' /\ VRel P G' v p
theorem hJ {t : Sem Value} {Q : PV -> St -> Prop} (R : Rep w.params G env st s) (hct : CellsThere env s.heap) (h : GW (model prog w) A w.params E G s t fun p => Q p st) :
  wpAny (model prog w) A t (zeG w.params cw env G st s Q) E s := by
 refine wpAny_mono (wpAny_toks_of R.tk h) (fun v s' ⟨tk, p, G', hq, g, r⟩ => ?_) fun _ _ e => e.2
 exact ⟨p, G', st, hq, R.grow hct g tk, hct.grow g.alive, g.tr, r⟩
end
noncomputable def uT (P : Params) (G : GM) (h : Heap) (vs : List Value) : List PV -> Prop
 | [] => vs = []
 | x :: xs => ∃ v r, vs = v :: r /\ kR P G h v x /\ uT P G h r xs
noncomputable def i9 (name : Str) : Value :=
 if name = "int" then .type "int" else if name = "range" then .type "range" else if name = "len" then .builtin "len" else if name = "ord" then .builtin "ord"
 else if name = "chr" then .builtin "chr" else .builtin "sum"
theorem w7 {P : Params} {G : GM} : ∀ {ps : List PV} {vs : List Value} {zs : List Int}, VRels P G vs ps -> sC ps = some zs -> ∃ xs : List (Int × Tok), vs = xs.map (fun x => .int x.1 x.2) /\ xs.map (·.1) = zs
 | [], vs, zs, r, h => by
  simp only [VRels] at r; subst r
  simp only [sC, Option.some.injEq] at h; subst h
  exact ⟨[], rfl, rfl⟩
 | p :: ps, vs, zs, r, h => by
  simp only [VRels] at r
  obtain ⟨v, w, rfl, r1, r2⟩ := r
  obtain ⟨x, hx, h⟩ := Option.bind_eq_some_iff.mp h
  obtain ⟨ys, hy, rfl⟩ := Option.map_eq_some_iff.mp h
  cases p <;> first | (cases hx; done) | skip
  cases hx
  simp only [VRel] at r1
  obtain ⟨t, rfl⟩ := r1
  obtain ⟨xs, q1, q2⟩ := w7 r2 hy
  exact ⟨(x, t) :: xs, by rw [q1]; rfl, by rw [<- q2]; rfl⟩
section
variable {prog : Program} {w : World} {A : Around} {E : Value -> Shared -> Prop} {s : Shared} {G : GM} {K : PV -> Prop}
theorem GS.heap {G : GM} {s : Shared} (hi : InH G s.heap) {h' : Heap} (k : Nat) (hk : ∀ a o, s.heap.get? a = some o -> h'.get? a = some o) : GS G s G { s with heap := h', toks := k } :=
 ⟨.refl _, hi.keeps hk, fun _ _ e => .inl e, fun a o _ => hk a o, rfl, fun e => e⟩
theorem mS {c : Nat} (h : c < 1114112) : okStr [c] := ⟨by simpa using h, by simp [aQ]⟩
theorem kX (a b : Value) : checkTypeCall "int" ⟨[a, b], []⟩ = pure () := by kernel_rfl
theorem mV (a b : Value) : checkBuiltinCall "int.__new__" ⟨[.type "int", a, b], []⟩ = pure () := by kernel_rfl
theorem gD {P : Params} {h : Heap} {vs : List Value} {p : PV} (hv : uT P G h vs [p]) : ∃ v, vs = [v] /\ kR P G h v p := by
 obtain ⟨v, r, rfl, h1, rfl⟩ := hv; exact ⟨v, rfl, h1⟩
theorem tF {P : Params} {h : Heap} {v : Value} {i : Int} (hv : kR P G h v (.int i)) : ∃ t, v = .int i t := by simpa only [kR, VRel] using hv
theorem y8 {P : Params} {h : Heap} {v : Value} {x : List Nat} (hv : kR P G h v (.str x)) : ∃ t, v = .str ⟨x.toArray⟩ t /\ okStr x := by simpa only [kR, VRel] using hv
theorem bi_G {n : Nat} (hA : Room n A) {name : Str} {vs : List Value} {ps : List PV} (hi : InH G s.heap) (hv : uT w.params G s.heap vs ps) (h : biP name ps K) :
  GW (model prog w) A w.params E G s (call (i9 name) vs) K := by
 have len2 : ∀ n : Nat, n <= aQ -> (n : Int) < 2 ^ 63 := by intro n hn; unfold aQ at hn; omega
 have int : ∀ {i t k}, K (.int i) -> ∃ r G', K r /\ GS G s G' { s with toks := k } /\ VRel w.params G' (.int i t) r := fun h => ⟨_, G, h, GS.toks hi _, by simp only [VRel]; exact ⟨_, rfl⟩⟩
 unfold biP at h
 by_cases q1 : name = "len"
 ·rw [if_pos q1] at h
  subst q1
  rw [show i9 "len" = .builtin "len" by decide +kernel]
  obtain ⟨p, rfl, ha⟩ := fD h
  clear h
  obtain ⟨v, rfl, hw⟩ := gD hv
  clear hv
  cases p <;> first | exact False.elim ha | skip
  ·obtain ⟨t, rfl, ok⟩ := y8 hw
   exact P.len_str (by rw [bW]; exact Int.not_le.mpr (len2 _ ok.2)) (by rw [bW]; exact int ha)
  ·obtain ⟨a, its, rfl, h1, h2, h3⟩ := LView.isList hw
   exact len_list h1 (len2 _ h2) (by rw [<- Array.length_toList, h3.length]; exact int ha)
 rw [if_neg q1] at h
 by_cases q2 : name = "ord"
 ·rw [if_pos q2] at h
  subst q2
  rw [show i9 "ord" = .builtin "ord" by decide +kernel]
  obtain ⟨p, rfl, ha⟩ := fD h
  clear h
  obtain ⟨x, rfl, hb⟩ := cZ ha
  obtain ⟨c, rfl, hc⟩ := fD hb
  obtain ⟨v, rfl, hw⟩ := gD hv
  clear hv
  obtain ⟨t, rfl, ok⟩ := y8 hw
  exact P.ord_of_char (int hc)
 rw [if_neg q2] at h
 by_cases q3 : name = "chr"
 ·rw [if_pos q3] at h
  subst q3
  rw [show i9 "chr" = .builtin "chr" by decide +kernel]
  obtain ⟨p, rfl, ha⟩ := fD h
  clear h
  obtain ⟨i, rfl, h0, h1, hk⟩ := bP ha
  obtain ⟨v, rfl, hw⟩ := gD hv
  clear hv
  obtain ⟨t, rfl⟩ := tF hw
  refine P.chr_of_int (by simp only [Bool.or_eq_false_iff, decide_eq_false_iff_not]; omega) ⟨_, G, hk, GS.toks hi _, ?_⟩
  simp only [VRel]
  exact ⟨_, rfl, mS (by omega)⟩
 rw [if_neg q3] at h
 by_cases q4 : name = "int"
 ·rw [if_pos q4] at h
  subst q4
  rw [show i9 "int" = .type "int" by decide +kernel]
  cases ps with
  | nil => exact False.elim h
  | cons p ps =>
   obtain ⟨x, rfl, hb⟩ := cZ (v := p) h
   clear h
   cases ps with
   | nil =>
    cases x with
    | nil => exact False.elim hb
    | cons c x =>
     obtain ⟨hl, h⟩ := hb
     obtain ⟨v, rfl, hw⟩ := gD hv
     clear hv
     obtain ⟨t, rfl, ok⟩ := y8 hw
     have hlen : Str.length ⟨(c :: x).toArray⟩ <= 640 := by rw [bW]; exact hl
     rcases h with ⟨rfl, hne, m, hm, hk⟩ | ⟨rfl, hne, m, hm, hk⟩ | ⟨m, hm, hk⟩
     ·exact PySem.W.KIN.call_text (hH (neg := true) (.inl ⟨rfl, rfl⟩) hne hm (by omega)) hlen (int hk)
     ·exact PySem.W.KIN.call_text (hH (neg := false) (.inr (.inl ⟨rfl, rfl⟩)) hne hm (by omega)) hlen (int hk)
     ·exact PySem.W.KIN.call_text (hH (neg := false) (.inr (.inr ⟨rfl, rfl⟩)) (by simp) hm (by simp; omega)) hlen (int hk)
   | cons q ps =>
    obtain ⟨b, e, hc⟩ := fD hb
    cases e
    obtain ⟨i, rfl, rfl, hne, hl, m, hm, hk⟩ := bP hc
    obtain ⟨v, r, rfl, hv1, v', r', rfl, hv2, rfl⟩ := hv
    obtain ⟨t, rfl, ok⟩ := y8 hv1
    obtain ⟨u, rfl⟩ := tF hv2
    refine callType_new F.called_int F.newNe_int (kX _ _) (mV _ _) (fun obj => F.initArgs_range_2 obj _ _) F.entry_int_new (xC (v := u) hl hne hm).meets ?_
    exact (show (Made.int (m : Int)).post _ s from ⟨rfl, _, G, hk, GS.toks hi _, by simp [VRel]⟩)
 rw [if_neg q4] at h
 by_cases q5 : name = "sum"
 ·rw [if_pos q5] at h
  subst q5
  rw [show i9 "sum" = .builtin "sum" by decide +kernel]
  obtain ⟨p, rfl, ha⟩ := fD h
  clear h
  obtain ⟨xs, rfl, is, hm, hk⟩ := pN ha
  obtain ⟨v, rfl, hw⟩ := gD hv
  clear hv
  obtain ⟨a, its, rfl, h1, h2, h3⟩ := LView.isList hw
  obtain ⟨ys, q1, q2⟩ := w7 h3 hm
  have hl' : s.heap.IsList a (intItems ys.toArray) := by
   have : its = intItems ys.toArray := by
    apply Array.toList_inj.mp
    rw [q1]; simp [intItems]
   rw [<- this]; exact h1
  refine sum_intListG hA.handled hl' fun h' tk t' hk' => ⟨_, G, hk, GS.heap hi tk hk', ?_⟩
  simp only [VRel]
  refine ⟨t', ?_⟩
  congr 1
  rw [preSum_eq]
  rw [List.take_of_length_le (by simp)]
  rw [<- q2]
 rw [if_neg q5] at h
 by_cases q6 : name = "range"
 ·rw [if_pos q6] at h
  subst q6
  rw [show i9 "range" = .type "range" by decide +kernel]
  cases ps with
  | nil => exact False.elim h
  | cons p ps =>
   obtain ⟨lo, rfl, hb⟩ := bP (v := p) h
   clear h
   cases ps with
   | nil =>
    obtain ⟨v, rfl, hw⟩ := gD hv
    clear hv
    obtain ⟨t, rfl⟩ := tF hw
    obtain ⟨_, _, h0, h1, hk⟩ := hb
    have g := GS.push hi { cls := .type "range", data := .fields #[.int 0 s.toks, .int lo t, .int 1 (s.toks + 1)] } rfl (s.toks + 1 + 1)
    refine call_range_1 ⟨_, _, hk, g, ?_⟩
    simp only [VRel]
    exact ⟨_, _, _, _, rfl, b5, Int.le_refl _, by decide, h0, h1⟩
   | cons q ps =>
    obtain ⟨b, e, hc⟩ := fD hb
    cases e
    obtain ⟨hi', rfl, h0, h1, h2, h3, hk⟩ := bP hc
    obtain ⟨v, r, rfl, hv1, v', r', rfl, hv2, rfl⟩ := hv
    obtain ⟨t, rfl⟩ := tF hv1
    obtain ⟨u, rfl⟩ := tF hv2
    have g := GS.push hi { cls := .type "range", data := .fields #[.int lo t, .int hi' u, .int 1 s.toks] } rfl (s.toks + 1)
    refine call_range_2 ⟨_, _, hk, g, ?_⟩
    simp only [VRel]
    exact ⟨_, _, _, _, rfl, b5, h0, h1, h2, h3⟩
 rw [if_neg q6] at h
 exact False.elim h
theorem zaG {v iv dv : Value} {es : List (List Nat × List Nat)} {k : List Nat} {d : PV} (hi : InH G s.heap) (hv : VRel w.params G v (.dict es)) (hk : VRel w.params G iv (.str k)) (hd : VRel w.params G dv d) (hK : K (((es.lookup k).map .str).getD d)) :
  GW (model prog w) A w.params E G s (call (.builtin "dict.get") [v, iv, dv]) K := by
 simp only [VRel] at hk hv
 obtain ⟨t, rfl, _⟩ := hk
 obtain ⟨x, es', n, rfl, hne, hG, hr⟩ := hv
 have hm := zcd (prog := prog) hi hG hr
 have hb' : (x == sysModules) = false := beq_eq_false_iff_ne.mpr hne
 refine wpAny_call (codeAny_call_builtin F.slot_dict_get.plain F.entry_dict_get (F.slot_dict_get.check _ _ _ _ _ _ _ _ hm.typeIs (F.args_dict_get_3 _ _ _)
  (meets_dict_get_default (strKind prog w) x (strKind_is prog w _ t) hb' dv A (wants _ E) s ⟨_, hm, ?_⟩)))
 rcases zaI hr k with ⟨q, t', h1, h2, h3⟩ | ⟨h1, h2⟩
 ·rw [h1] at hK
  show ∃ r G', _
  rw [h2]
  exact ⟨_, G, hK, GS.toks hi _, t', rfl, h3⟩
 ·rw [h1] at hK
  show ∃ r G', _
  rw [h2]
  exact ⟨_, G, hK, GS.toks hi _, hd⟩
theorem j9 {α : Type} {xs : List α} {k : Int} {c : α} (h : sI xs k = some c) : seqIndex? k xs.length = some (if k < 0 then k + xs.length else k).toNat /\ xs[(if k < 0 then k + xs.length else k).toNat]? = some c /\ -(xs.length : Int) <= k /\ k < xs.length := by
 unfold sI at h
 unfold seqIndex?
 by_cases h1 : k < 0
 ·rw [if_pos h1] at h
  simp only [if_pos h1]
  split at h
  ·rename_i h2
   have h3 := (List.getElem?_eq_some_iff.mp h).1
   exact ⟨by rw [if_pos (by simp; omega)], h, by omega, by omega⟩
  ·cases h
 ·rw [if_neg h1] at h
  simp only [if_neg h1]
  have h3 := (List.getElem?_eq_some_iff.mp h).1
  exact ⟨by rw [if_pos (by simp; omega)], h, by omega, by omega⟩
theorem zco {v iv : Value} {x : List Nat} {k : Int} {c : Nat} (hi : InH G s.heap) (hv : VRel w.params G v (.str x)) (hk : VRel w.params G iv (.int k)) (h : sI x k = some c) (hK : K (.str [c])) :
  GW (model prog w) A w.params E G s (getItem v iv) K := by
 simp only [VRel] at hv hk
 obtain ⟨t, rfl, ok⟩ := hv
 obtain ⟨u, rfl⟩ := hk
 obtain ⟨h1, h2, h3, h4⟩ := j9 h
 have hz := ok.2
 unfold aQ at hz
 refine P.getItem_str (c := c) (by simp only [Bool.or_eq_false_iff, decide_eq_false_iff_not]; omega) ?_ ⟨_, G, hK, GS.toks hi _, ?_⟩
 ·rw [bW, h1]; simpa using h2
 ·simp only [VRel]
  exact ⟨_, rfl, mS (ok.1 c (List.mem_of_getElem? h2))⟩
theorem zaB {v iv : Value} {xs : List PV} {k : Int} {p : PV} (hi : InH G s.heap) (hv : LView w.params G s.heap v xs) (hk : VRel w.params G iv (.int k)) (h : sI xs k = some p) (hK : K p) :
  GW (model prog w) A w.params E G s (getItem v iv) K := by
 simp only [VRel] at hk
 obtain ⟨u, rfl⟩ := hk
 obtain ⟨a, vs, rfl, g1, g2, g3⟩ := hv.isList
 obtain ⟨h1, h2, h3, h4⟩ := j9 h
 have hl := g3.length
 simp only [Array.length_toList] at hl
 unfold aQ at g2
 obtain ⟨v, e1, e2⟩ := g3.get h2
 have e1' : vs[(if k < 0 then k + xs.length else k).toNat]? = some v := by simpa using e1
 by_cases h0 : k < 0
 ·rw [if_pos h0] at e1'
  exact wpAny_getItem_list_neg g1 h0 (by omega) (by omega) (by rw [hl]; exact e1') ⟨p, G, hK, GS.refl hi, e2⟩
 ·rw [if_neg h0] at e1'
  exact wpAny_getItem_list g1 (by omega) (by omega) e1' ⟨p, G, hK, GS.refl hi, e2⟩
theorem zcn {v iv : Value} {xs : List PV} {k : Int} {p : PV} (hi : InH G s.heap) (hv : VRel w.params G v (.tup xs)) (hk : VRel w.params G iv (.int k)) (h : sI xs k = some p) (hK : K p) :
  GW (model prog w) A w.params E G s (getItem v iv) K := by
 simp only [VRel] at hk hv
 obtain ⟨u, rfl⟩ := hk
 obtain ⟨a, o, vs, n, rfl, g2, g3, g4, g5, g6⟩ := hv
 obtain ⟨h1, h2, h3, h4⟩ := j9 h
 have hl := g6.length
 simp only [Array.length_toList] at hl
 unfold aQ at g5
 obtain ⟨v, e1, e2⟩ := g6.get h2
 exact getItem_tuple (items := vs) ⟨o, hi.at_ _ _ g2, g3, n, g4⟩ (by omega) (by omega) (by rw [hl]; exact h1) (by simpa using e1) ⟨p, G, hK, GS.refl hi, e2⟩
end
theorem o5 (x y : Str) (i j : Int) (t u v z : Tok) : Gives («str.rfind» ⟨[.str x t, .str y u, .int i v, .int j z], []⟩) (.int (match lastOccurrence x y (fromIndex x.length i) (min (fromIndex x.length j) x.length) with | some k => (k : Int) | none => -1)) := by
 show Gives (match lastOccurrence x y (fromIndex x.length i) (min (fromIndex x.length j) x.length) with | some k => retInt k | none => (do rule "str.rfind.not-found"; retInt (-1))) _
 cases lastOccurrence x y (fromIndex x.length i) (min (fromIndex x.length j) x.length) with
 | none => exact .rule (.of_eq rfl)
 | some k => exact .of_eq rfl
theorem o6 (x y : Str) (i j : Int) (t u v z : Tok) : Gives («str.count» ⟨[.str x t, .str y u, .int i v, .int j z], []⟩) (.int (occurrences x y (fromIndex x.length i) (min (fromIndex x.length j) x.length) (x.length + 1)).length) := by
 show Gives (retInt (occurrences x y (fromIndex x.length i) (min (fromIndex x.length j) x.length) (x.length + 1)).length) _
 exact .of_eq rfl
theorem zdk (x p : List Nat) (i : Nat) : (decide (i + Str.length ⟨p.toArray⟩ <= Str.length ⟨x.toArray⟩) && subAt ⟨x.toArray⟩ ⟨p.toArray⟩ i) = (decide (i <= x.length) && p.isPrefixOf (x.drop i)) := by
 rw [StrLaws.subAt_eq, bW, bW]
 show (decide (i + p.length <= x.length) && ((x.drop i).take p.length == p)) = _
 by_cases c : p.isPrefixOf (x.drop i) = true
 ·have h1 := mQ c
  rw [List.length_drop] at h1
  have h2 := (fM _ _).mp c
  rw [c, h2, beq_self_eq_true, Bool.and_true, Bool.and_true]
  exact decide_eq_decide.mpr ⟨fun q => Nat.le_trans (Nat.le_add_right _ _) q, fun q => qD q h1⟩
 ·have h2 : ¬ (x.drop i).take p.length = p := fun h => c ((fM _ _).mpr h)
  have h3 : ((x.drop i).take p.length == p) = false := beq_eq_false_iff_ne.mpr h2
  simp only [Bool.not_eq_true] at c
  rw [h3, c, Bool.and_false, Bool.and_false]
section
variable {prog : Program} {w : World} {A : Around} {E : Value -> Shared -> Prop} {s : Shared} {G : GM} {K : PV -> Prop}
theorem zdj {M : Model} {x : Str} {t v : Tok} {a : Addr} {i : Int} {items : Array Value} {ys : List Str} {Q : Value -> Shared -> Prop} (ht : IsTup s.heap a items) (hs : StrsAre items.toList ys)
  (h : Q (.bool (ys.any fun p => decide (fromIndex x.length i + p.length <= x.length) && subAt x p (fromIndex x.length i))) s) :
  wpAny M A (Builtin.«str.startswith» ⟨[.str x t, .ref a, .int i v], []⟩) (fun fin s' => ∃ v, fin = Fin.done (Flow.ret v) /\ Q v s') E s := by
 obtain ⟨o, ho, hc, n, hd⟩ := ht
 unfold Builtin.«str.startswith» affixEntry
 dsimp only [Nat.reduceAdd]
 have e1 : strSomeArgs "startswith" 1 3 ⟨[.str x t, .ref a, .int i v], []⟩ = pure (.str x t, x, [.ref a, .int i v]) := rfl
 have e2 : searchRange x.length [.int i v] = pure (fromIndex x.length i, min x.length x.length) := rfl
 rw [e1]
 refine wpAny_bind (wpAny_pure ?_)
 dsimp only [List.drop, List.headD]
 rw [e2]
 refine wpAny_bind (wpAny_pure ?_)
 dsimp only
 refine wpAny_bind (PySem.W.KPt.asStr_ref ho hd ?_)
 dsimp only
 refine wpAny_bind (wpAny_isInstance (T := "tuple") ⟨o, ho, hc⟩ isSubtype_tuple_tuple ?_)
 simp only [if_true]
 refine wpAny_bind (wpAny_rule (wpAny_bind (wpAny_seqItems ho hd ?_)))
 dsimp only
 rw [Nat.min_self]
 refine wpAny_bind ?_
 refine wpAny_forIn_array' _ (fun rest (b : Option Fin × Unit) s' => s' = s /\ b = (none, ()) /\ ∃ pre post, ys = pre ++ post /\ StrsAre rest post /\ (pre.any fun p => decide (fromIndex x.length i + p.length <= x.length) && subAt x p (fromIndex x.length i)) = false) _ ?_ ?_ items _ ⟨rfl, rfl, [], ys, rfl, hs, rfl⟩
 ·rintro y rest b s' ⟨rfl, rfl, pre, post, hy, hr, hp⟩
  cases hr with
  | cons z u hr =>
  rename_i post
  refine wpAny_bind (wpAny_pure ?_)
  dsimp only
  split
  ·rename_i hc'
   refine wpAny_bind (wpAny_pure (wpAny_pure ?_))
   refine wpAny_pure ⟨_, rfl, ?_⟩
   have : (ys.any fun p => decide (fromIndex x.length i + p.length <= x.length) && subAt x p (fromIndex x.length i)) = true := by
    rw [hy, List.any_append, List.any_cons, hc']; simp
   rw [this] at h; exact h
  ·rename_i hc'
   refine wpAny_pure ⟨rfl, rfl, pre ++ [z], post, by rw [hy]; simp, hr, ?_⟩
   rw [List.any_append, hp]
   simp only [Bool.not_eq_true] at hc'
   simp [hc']
 ·rintro b s' ⟨rfl, rfl, pre, post, hy, hr, hp⟩
  cases hr
  rw [List.append_nil] at hy; subst hy
  rw [hp] at h
  exact wpAny_pure ⟨_, rfl, h⟩
theorem SW {x : Str} {t v : Tok} {a : Addr} {i : Int} {items : Array Value} {ys : List Str} {Q : Value -> Shared -> Prop} (ht : IsTup s.heap a items) (hs : StrsAre items.toList ys)
  (h : Q (.bool (ys.any fun p => decide (fromIndex x.length i + p.length <= x.length) && subAt x p (fromIndex x.length i))) s) :
  wpAny (model prog w) A (call (.builtin "str.startswith") [.str x t, .ref a, .int i v]) Q E s :=
 wpAny_call_entry F.slot_str_startswith (typeIs_str _ _ _) F.entry_str_startswith (zdj ht hs h) (F.args_str_startswith_3 _ _ _)
theorem mX : ∀ zs : List (List Nat), (Str.join ⟨#[]⟩ (zs.map fun z => ⟨z.toArray⟩)) = ⟨zs.flatten.toArray⟩
 | [] => rfl
 | [x] => by simp [Str.join]
 | x :: y :: r => by
  have ih := mX (y :: r)
  simp only [List.map_cons] at ih ⊢
  simp only [Str.join, ih]
  apply Str.ext'
  simp [Str.cps_append]
theorem vK {vs : List Value} {ys : List Str} (h : StrsAre vs ys) : ∃ l : List (Str × Tok), vs = strValues l /\ l.map (·.1) = ys := by
 induction h with
 | nil => exact ⟨[], rfl, rfl⟩
 | cons y t _ ih =>
  obtain ⟨l, h1, h2⟩ := ih
  exact ⟨(y, t) :: l, by rw [h1]; rfl, by rw [<- h2]; rfl⟩
theorem zdy {v l : Value} {xs : List PV} {zs : List (List Nat)} (hi : InH G s.heap) (hv : VRel w.params G v (.str [])) (hl : LView w.params G s.heap l xs) (hz : eA xs = some zs) (hs : zs.flatten.length <= aQ) (hK : K (.str zs.flatten)) :
  GW (model prog w) A w.params E G s (call (.builtin "str.join") [v, l]) K := by
 simp only [VRel] at hv
 obtain ⟨t, rfl, _⟩ := hv
 obtain ⟨a, vs, rfl, g1, g2, g3⟩ := hl.isList
 obtain ⟨q1, q2⟩ := jW g3 hz
 obtain ⟨ls, e1, e2⟩ := vK q1
 have hl' : s.heap.IsList a (strValues ls).toArray := by rw [<- e1]; simpa using g1
 refine SC.join hl' e2 ?_ fun t' k => ⟨_, G, hK, GS.toks hi _, ?_⟩
 ·unfold JoinOk tooLong
  rw [StrLaws.joinTotal]
  simp only [Bool.not_eq_true', decide_eq_false_iff_not, gt_iff_lt, Nat.not_lt]
  have : ((zs.map fun z => (⟨z.toArray⟩ : Str)).map (·.length)).sum = zs.flatten.length := by
   rw [List.length_flatten, List.map_map]
   exact congrArg List.sum (List.map_congr_left fun z _ => by simp [Str.length])
  rw [this]
  have h0 : (⟨([] : List Nat).toArray⟩ : Str).length = 0 := rfl
  rw [h0, Nat.mul_zero, Nat.add_zero]
  exact hs
 ·simp only [VRel]
  refine ⟨t', ?_, ?_, hs⟩
  ·unfold Txt.join
   rw [StrLaws.glued_eq_join]
   exact congrArg (fun x => Value.str x t') (mX zs)
  ·intro c hc
   obtain ⟨z, hz1, hz2⟩ := List.mem_flatten.mp hc
   exact (q2 z hz1).1 c hz2
noncomputable def c7 (name : Str) : String := if name = "startswith" then "str.startswith" else if name = "find" then "str.find" else if name = "rfind" then "str.rfind" else if name = "count" then "str.count" else "str.join"
noncomputable def dN (name : Str) (o : PV) : String := if oV o = true then (if name = "append" then "list.append" else "list.pop") else if isD o = true then "dict.get" else c7 name
end
section
variable {P : Params} {G : GM} {env : Env} {st : St} {s : Shared} {cw : Bool}
theorem Rep.setCell (R : Rep P G env st s) {a : Nat} {c c' : Cell} (hσ : st.σ a = some c) {h' : Heap} (hs : Heap.SameBut a s.heap h') (hr : CellRel P G h' a c') {k : Nat} (hk : 1 <= k) :
  Rep P G env ⟨st.ρ, bD st.σ a c'⟩ { s with heap := h', toks := k } /\ Tr cw env G st s G ⟨st.ρ, bD st.σ a c'⟩ { s with heap := h', toks := k } := by
 obtain ⟨h1, h2, h3, h4⟩ := R.cells a c hσ
 have other : ∀ b o, b ≠ a -> s.heap.get? b = some o -> h'.get? b = some o := fun b o hb e => (hs.2 b hb).trans e
 refine ⟨⟨?_, hk, ?_, R.kind, ?_, ?_, R.gl, R.gc, R.cinj, ?_⟩, ⟨.refl _, fun _ _ e => .inl e, ?_, ?_, ?_, ?_, rfl, fun e => e⟩⟩
 ·exact R.inh.but other h2 (h1.nx R.inh.tab)
 ·obtain ⟨m, g1, g2⟩ := R.ns
  exact ⟨m, g1.at' fun o e => other _ o (Ne.symm h3) e, g2⟩
 ·intro x p e kk
  obtain ⟨c, v, g1, g2, g3⟩ := R.cel x p e kk
  exact ⟨c, v, g1, bO g2 fun o e => other _ o (by rintro rfl; exact h4 x g1) e, g3⟩
 ·intro x e
  obtain ⟨c, v, g1, g2⟩ := R.cell0 x e
  exact ⟨c, v, g1, bO g2 fun o e => other _ o (by rintro rfl; exact h4 x g1) e⟩
 ·intro b d e
  simp only [bD] at e
  split at e
  ·rename_i q; subst q; cases e; exact ⟨hr, h2, h3, h4⟩
  ·rename_i q
   obtain ⟨g1, g2⟩ := R.cells b d e
   exact ⟨g1.mono (.refl _) fun o e => other b o q e, g2⟩
 ·intro b o _ e _ _ hb
  refine other b o ?_ e
  rintro rfl; rw [hσ] at hb; cases hb
 ·intro b e
  by_cases q : b = a
  ·subst q; obtain ⟨o, ho⟩ := hr.alive; show (h'.get? b).isSome = true; rw [ho]; rfl
  ·show (h'.get? b).isSome = true; rw [hs.2 b q]; exact e
 ·intro b e; show (bD st.σ a c' b).isSome = true; unfold bD; split; rfl; exact e
 ·intro b e
  left
  simp only [bD] at e
  split at e
  ·rename_i q; subst q; rw [hσ]; rfl
  ·exact e
theorem CellsThere.same {h h' : Heap} (hc : CellsThere env h) {a : Nat} (hs : Heap.SameBut a h h') (ha : (h'.get? a).isSome = true) : CellsThere env h' := fun x c e => by
 obtain ⟨o, ho⟩ := hc x c e
 by_cases q : c = a
 ·subst q; exact Option.isSome_iff_exists.mp ha
 ·exact ⟨o, (hs.2 c q).trans ho⟩
theorem Rep.newCell (R : Rep P G env st s) (hct : CellsThere env s.heap) {vs : List Value} {xs : List PV} (hr : VRels P G vs xs) (hz : vs.length <= aQ) {k : Nat} (hk : 1 <= k) :
  st.σ s.heap.objs.size = none /\ Rep P G env ⟨st.ρ, bD st.σ s.heap.objs.size (.lst xs)⟩ { s with heap := s.heap.push { cls := .type "list", data := .seq vs.toArray }, toks := k } /\
   CellsThere env (s.heap.push { cls := .type "list", data := .seq vs.toArray }) /\
   Tr cw env G st s G ⟨st.ρ, bD st.σ s.heap.objs.size (.lst xs)⟩ { s with heap := s.heap.push { cls := .type "list", data := .seq vs.toArray }, toks := k } := by
 have nw : ∀ o, s.heap.get? s.heap.objs.size ≠ some o := fun o e => absurd (Heap.lt_size e) (Nat.lt_irrefl _)
 have nw' : s.heap.get? s.heap.objs.size = none := by
  cases e : s.heap.get? s.heap.objs.size with
  | none => rfl
  | some o => exact absurd e (nw o)
 have hσ : st.σ s.heap.objs.size = none := by
  cases e : st.σ s.heap.objs.size with
  | none => rfl
  | some c => obtain ⟨h1, _⟩ := R.cells _ c e; obtain ⟨o, ho⟩ := h1.alive; exact absurd ho (nw o)
 have kp : ∀ b o, s.heap.get? b = some o -> (s.heap.push { cls := .type "list", data := .seq vs.toArray }).get? b = some o := fun b o e => Heap.get?_push_of_some _ e
 refine ⟨hσ, ⟨R.inh.keeps kp, hk, ?_, R.kind, ?_, ?_, R.gl, R.gc, R.cinj, ?_⟩, ?_, ⟨.refl _, fun _ _ e => .inl e, fun b o _ e _ _ _ => kp b o e, ?_, ?_, ?_, rfl, fun e => e⟩⟩
 ·obtain ⟨m, g1, g2⟩ := R.ns
  exact ⟨m, g1.at' fun o e => kp _ o e, g2⟩
 ·intro x p e kk
  obtain ⟨c, v, g1, g2, g3⟩ := R.cel x p e kk
  exact ⟨c, v, g1, bO g2 fun o e => kp _ o e, g3⟩
 ·intro x e
  obtain ⟨c, v, g1, g2⟩ := R.cell0 x e
  exact ⟨c, v, g1, bO g2 fun o e => kp _ o e⟩
 ·intro b d e
  simp only [bD] at e
  split at e
  ·rename_i q; subst q; cases e
   refine ⟨⟨vs.toArray, 0, Heap.get?_push_size _ rfl, by simpa using hz, by simpa using hr⟩, ?_, ?_, ?_⟩
   ·cases e : G s.heap.objs.size with
    | none => rfl
    | some o => exact absurd (R.inh.at_ _ _ e) (nw o)
   ·obtain ⟨m, ⟨o, _, _, g1, _⟩, _⟩ := R.ns
    intro q; rw [<- q] at g1; exact nw o g1
   ·intro x e
    obtain ⟨o, ho⟩ := hct x _ e
    exact nw o ho
  ·obtain ⟨g1, g2⟩ := R.cells b d e
   exact ⟨g1.mono (.refl _) fun o e => kp b o e, g2⟩
 ·intro x c e
  obtain ⟨o, ho⟩ := hct x c e
  exact ⟨o, kp c o ho⟩
 ·intro b e
  obtain ⟨o, ho⟩ := Option.isSome_iff_exists.mp e
  show ((s.heap.push _).get? b).isSome = true
  rw [kp b o ho]; rfl
 ·intro b e; show (bD st.σ _ _ b).isSome = true; unfold bD; split; rfl; exact e
 ·intro b e
  simp only [bD] at e
  split at e
  ·rename_i q; subst q; exact .inr nw'
  ·exact .inl e
end
section
variable {prog : Program} {w : World} {A : Around} {E : Value -> Shared -> Prop} {s : Shared} {G : GM} {env : Env} {st : St} {cw : Bool} {Q : PV -> St -> Prop}
theorem x8 (R : Rep w.params G env st s) : ∀ {vs : List Value} {ps : List PV}, VRels w.params G vs ps -> uT w.params G s.heap vs (ps.map (der st.σ))
 | vs, [], h => by simp only [VRels] at h; subst h; simp [uT]
 | vs, p :: ps, h => by
  simp only [VRels] at h
  obtain ⟨v, r, rfl, h1, h2⟩ := h
  simp only [List.map_cons, uT]
  exact ⟨v, r, rfl, R.view h1, x8 R h2⟩
theorem zcb {n : Nat} (hA : Room n A) (R : Rep w.params G env st s) (hct : CellsThere env s.heap) {name : Str} {v : Value} {o : PV} {vs : List Value} {ps : List PV}
  (hv : VRel w.params G v o) (hs : VRels w.params G vs ps) (h : iN st.σ name o ps fun r σ' => Q r ⟨st.ρ, σ'⟩) :
  wpAny (model prog w) A (call (.builtin (dN name o)) (v :: vs)) (zeG w.params cw env G st s Q) E s := by
 have dec : ∀ (i : Int) (n : Nat), 0 <= i -> decide (i.toNat <= n) = decide (i <= n) := fun i n h => decide_eq_decide.mpr (by omega)
 have vS : ∀ {v : Value} {x : List Nat}, VRel w.params G v (.str x) -> ∃ t, v = .str ⟨x.toArray⟩ t := fun h => by simp only [VRel] at h; obtain ⟨t, e, _⟩ := h; exact ⟨t, e⟩
 have vI : ∀ {v : Value} {i : Int}, VRel w.params G v (.int i) -> ∃ t, v = .int i t := fun h => by simpa only [VRel] using h
 unfold iN at h
 by_cases q1 : name = "append"
 ·rw [if_pos q1] at h
  obtain ⟨a, rfl, ha⟩ := pL h
  obtain ⟨p, rfl, xs, h1, h2, hq⟩ := fD ha
  clear h ha
  simp only [VRel] at hv; subst hv
  obtain ⟨u, r, rfl, hu, rfl⟩ := hs
  obtain ⟨⟨its, m, g1, g2, g3⟩, g4, g5, g6⟩ := R.cells a _ h1
  have hl := g3.length
  rw [Array.length_toList] at hl
  rw [show dN name (.ptr a) = "list.append" from (if_pos rfl).trans (if_pos q1)]
  refine wpAny_list_append_plain ⟨m, g1⟩ (fun h' hp hsb => ?_) g2
  obtain ⟨m', hp⟩ := hp
  have cr : CellRel w.params G h' a (.lst (xs ++ [p])) := ⟨_, m', hp, by rw [Array.size_push, hl]; exact h2, by rw [Array.toList_push]; exact g3.append (VRels.one hu)⟩
  obtain ⟨R', T'⟩ := R.setCell (cw := cw) h1 hsb cr R.tk
  exact ⟨.none, G, _, hq, R', hct.same hsb (by obtain ⟨o, ho⟩ := cr.alive; rw [ho]; rfl), T', by simp only [VRel]⟩
 rw [if_neg q1] at h
 clear q1
 by_cases q1 : name = "startswith"
 ·rw [if_pos q1] at h
  subst q1
  obtain ⟨x, rfl, ha⟩ := cZ h
  obtain ⟨p, j, rfl, hb⟩ := n3 ha
  obtain ⟨i, rfl, h0, h1, hq⟩ := bP hb
  clear h ha hb
  rw [show dN "startswith" (.str x) = "str.startswith" from (by decide +kernel : c7 "startswith" = "str.startswith")]
  obtain ⟨t, rfl⟩ := vS hv
  obtain ⟨u, r, rfl, hu, u', r', rfl, hi, rfl⟩ := hs
  obtain ⟨t', rfl⟩ := vI hi
  cases p <;> first | exact False.elim hq | skip
  ·rename_i p
   obtain ⟨t'', rfl⟩ := vS hu
   refine hJ R hct (cS R.inh hq fun Q q => SC.startswith3 ?_)
   unfold Txt.startswith3
   rw [b7 _ _ h0, zdk, dec _ _ h0]; exact q
  ·obtain ⟨zs, hz, hq⟩ := hq
   simp only [VRel] at hu
   obtain ⟨a, ob, its, m, rfl, g2, g3, g4, g5, g6⟩ := hu
   obtain ⟨q1, _⟩ := jW g6 hz
   refine hJ R hct (cS R.inh hq fun Q q => SW (items := its) ⟨ob, R.inh.at_ _ _ g2, g3, m, g4⟩ q1 ?_)
   rw [b7 _ _ h0, List.any_map]
   have e : ((fun p => decide (i.toNat + Str.length p <= Str.length ⟨x.toArray⟩) && subAt ⟨x.toArray⟩ p i.toNat) ∘ fun z : List Nat => (⟨z.toArray⟩ : Str)) = fun p => decide (i <= x.length) && p.isPrefixOf (x.drop i.toNat) := by
    funext p
    show (decide (i.toNat + Str.length ⟨p.toArray⟩ <= Str.length ⟨x.toArray⟩) && subAt ⟨x.toArray⟩ ⟨p.toArray⟩ i.toNat) = _
    rw [zdk, dec _ _ h0]
   rw [e, <- List.and_any_distrib_left]; exact q
 rw [if_neg q1] at h
 clear q1
 by_cases q1 : name = "find"
 ·rw [if_pos q1] at h
  subst q1
  obtain ⟨x, rfl, ha⟩ := cZ h
  obtain ⟨p, j, rfl, hb⟩ := n3 ha
  obtain ⟨p, rfl, hc⟩ := cZ hb
  obtain ⟨i, rfl, h0, h1, hq⟩ := bP hc
  clear h ha hb hc
  rw [show dN "find" (.str x) = "str.find" from (by decide +kernel : c7 "find" = "str.find")]
  obtain ⟨t, rfl⟩ := vS hv
  obtain ⟨u, r, rfl, hu, u', r', rfl, hi, rfl⟩ := hs
  obtain ⟨t', rfl⟩ := vI hi
  obtain ⟨t'', rfl⟩ := vS hu
  exact hJ R hct (lS R.inh hq fun Q q => SC.find3 (by rw [zaJ _ _ _ h0]; exact q))
 rw [if_neg q1] at h
 clear q1
 have mD : ∀ {K : Nat -> Int -> Int -> Prop}, zdl ps K -> ∃ c i j t u z, vs = [.str ⟨#[c]⟩ t, .int i u, .int j z] /\ 0 <= i /\ 0 <= j /\ K c i j := fun h => by
  obtain ⟨p, a, b, rfl, ha⟩ := mC h
  obtain ⟨p, rfl, hb⟩ := cZ ha
  obtain ⟨c, rfl, hc⟩ := fD hb
  obtain ⟨i, rfl, hd⟩ := bP hc
  obtain ⟨j, rfl, h0, _, h1, _, hq⟩ := bP hd
  obtain ⟨u, r, rfl, k1, u', r', rfl, k2, u'', r'', rfl, k3, rfl⟩ := hs
  obtain ⟨t, rfl⟩ := vS k1
  obtain ⟨t', rfl⟩ := vI k2
  obtain ⟨t'', rfl⟩ := vI k3
  exact ⟨c, i, j, _, _, _, rfl, h0, h1, hq⟩
 by_cases q1 : name = "rfind"
 ·rw [if_pos q1] at h
  subst q1
  obtain ⟨x, rfl, ha⟩ := cZ h
  obtain ⟨c, i, j, _, _, _, rfl, h0, h1, hq⟩ := mD ha
  rw [show dN "rfind" (.str x) = "str.rfind" from (by decide +kernel : c7 "rfind" = "str.rfind")]
  obtain ⟨t, rfl⟩ := vS hv
  refine hJ R hct (lS R.inh hq fun Q q => call_gives F.slot_str_rfind (typeIs_str _ _ _) F.entry_str_rfind (F.args_str_rfind_4 _ _ _ _) (o5 _ _ _ _ _ _ _ _) ?_)
  rw [b7 _ _ h0, b7 _ _ h1, bW]
  rw [<- zad x c i.toNat j.toNat] at q
  exact q
 rw [if_neg q1] at h
 clear q1
 by_cases q1 : name = "count"
 ·rw [if_pos q1] at h
  subst q1
  obtain ⟨x, rfl, ha⟩ := cZ h
  obtain ⟨c, i, j, _, _, _, rfl, h0, h1, hq⟩ := mD ha
  rw [show dN "count" (.str x) = "str.count" from (by decide +kernel : c7 "count" = "str.count")]
  obtain ⟨t, rfl⟩ := vS hv
  refine hJ R hct (lS R.inh hq fun Q q => call_gives F.slot_str_count (typeIs_str _ _ _) F.entry_str_count (F.args_str_count_4 _ _ _ _) (o6 _ _ _ _ _ _ _ _) ?_)
  rw [b7 _ _ h0, b7 _ _ h1, bW]
  rw [zaU x c i.toNat j.toNat]
  exact q
 rw [if_neg q1] at h
 clear q1 mD
 by_cases q1 : name = "join"
 ·rw [if_pos q1] at h
  subst q1
  obtain ⟨x, rfl, rfl, ha⟩ := cZ h
  obtain ⟨l, rfl, hb⟩ := fD ha
  obtain ⟨xs, e, zs, hz, hl, hq⟩ := pN hb
  clear h ha hb
  rw [show dN "join" (.str []) = "str.join" from (by decide +kernel : c7 "join" = "str.join")]
  obtain ⟨u, r, rfl, hl', rfl⟩ := hs
  have hl' := R.view hl'
  rw [e] at hl'
  exact hJ R hct (zdy R.inh hv hl' hz hl hq)
 rw [if_neg q1] at h
 clear q1
 by_cases q1 : name = "pop"
 ·rw [if_pos q1] at h
  subst q1
  obtain ⟨a, rfl, rfl, xs, p, h1, hq⟩ := pL h
  clear h
  simp only [VRel] at hv; subst hv
  have hs : vs = [] := hs
  subst hs
  rw [show dN "pop" (.ptr a) = "list.pop" from (by decide +kernel : (if Str.ofString "pop" = Str.ofString "append" then "list.append" else "list.pop") = "list.pop")]
  obtain ⟨⟨its, m, g1, g2, g3⟩, g4, g5, g6⟩ := R.cells a _ h1
  have hl := g3.length
  simp only [Array.length_toList, List.length_append, List.length_cons, List.length_nil] at hl
  obtain ⟨y, hy, ry⟩ := g3.get (i := xs.length) (p := p) (by simp)
  have hy' : its[its.size - 1]? = some y := by
   rw [show its.size - 1 = xs.length by omega]; simpa using hy
  refine call_meets F.slot_list_pop ⟨_, g1, rfl⟩ F.entry_list_pop (F.args_list_pop_1 _) (MeetsSeq.list_pop_last a its m y hy' g2) ⟨g1, ?_⟩
  have hsz : its.eraseIdxIfInBounds (its.size - 1) = its.pop := by
   unfold Array.eraseIdxIfInBounds
   rw [dif_pos (by omega)]
   apply Array.toList_inj.mp
   rw [Array.toList_eraseIdx, Array.toList_pop, List.dropLast_eq_take]
   simp only [Array.length_toList]
   rw [List.eraseIdx_eq_take_drop_succ]
   rw [List.drop_eq_nil_of_le (by simp; omega), List.append_nil]
  have hsb : Heap.SameBut a s.heap (s.heap.update a (Obj.mapSeq fun xs => xs.eraseIdxIfInBounds (its.size - 1))) := Heap.SameBut.update ..
  have cr : CellRel w.params G (s.heap.update a (Obj.mapSeq fun xs => xs.eraseIdxIfInBounds (its.size - 1))) a (.lst xs) := by
   refine ⟨its.pop, (if its.pop.size == its.size then m else m + 1), ?_, ?_, ?_⟩
   ·rw [Heap.get?_update_self _ g1 (by simp only [Obj.mapSeq]; rfl)]
    simp only [Obj.mapSeq, hsz]
   ·simp only [Array.size_pop]; unfold aQ at *; omega
   ·have := g3.take xs.length
    rw [List.take_left'] at this
    ·rw [Array.toList_pop, List.dropLast_eq_take]
     simp only [Array.length_toList]
     rw [show its.size - 1 = xs.length by omega]; exact this
    ·rfl
  obtain ⟨R', T'⟩ := R.setCell (cw := cw) h1 hsb cr R.tk
  exact ⟨p, G, _, hq, R', hct.same hsb (by obtain ⟨o, ho⟩ := cr.alive; rw [ho]; rfl), T', ry⟩
 rw [if_neg q1] at h
 clear q1
 by_cases q1 : name = "get"
 ·rw [if_pos q1] at h
  subst q1
  obtain ⟨es, rfl, ha⟩ := zbB h
  obtain ⟨k, d, rfl, hb⟩ := n3 ha
  obtain ⟨k, rfl, hq⟩ := cZ hb
  clear h ha hb
  rw [show dN "get" (.dict es) = "dict.get" from rfl]
  obtain ⟨u, r, rfl, hu, u', r', rfl, hd, rfl⟩ := hs
  exact hJ R hct (zaG R.inh hv hu hd hq)
 rw [if_neg q1] at h
 exact False.elim h
end
noncomputable def bC (F : Fn) : Prop := ∀ ps (K K' : PV -> Prop), (∀ p, K p -> K' p) -> F ps K -> F ps K'
structure CtxMono (C : Ctx) : Prop where
 fn : ∀ x F, C.fn x = some F -> bC F
 cls : ∀ x F, C.cls x = some F -> bC F
theorem c9 {d n : Prop} {b : Bool -> Prop} {i : Int -> Prop} {s : List Nat -> Prop} {t l : List PV -> Prop} {p : Nat -> Prop} {d' n' : Prop} {b' : Bool -> Prop} {i' : Int -> Prop} {s' : List Nat -> Prop} {t' l' : List PV -> Prop} {p' : Nat -> Prop}
  (hd : d -> d') (hn : n -> n') (hb : ∀ x, b x -> b' x) (hi : ∀ x, i x -> i' x) (hs : ∀ x, s x -> s' x) (ht : ∀ x, t x -> t' x) (hl : ∀ x, l x -> l' x) (hp : ∀ x, p x -> p' x) {v : PV} (x : pvc d n b i s t l p v) : pvc d' n' b' i' s' t' l' p' v := by
 cases v
 ·exact hn x
 ·exact hb _ x
 ·exact hi _ x
 ·exact hs _ x
 ·exact ht _ x
 ·exact hl _ x
 ·exact hd x
 ·exact hd x
 ·exact hp _ x
 ·exact hd x
theorem pO {a b : PV} {K K' : PV -> Prop} (h : ∀ p, K p -> K' p) : zdY a b K -> zdY a b K' :=
 c9 id id (fun _ => id) (fun _ => aU fun _ => h _) (fun _ => bM fun _ x => ⟨x.1, h _ x.2⟩) (fun _ => id) (fun _ => id) fun _ => id
theorem n6 {a b : PV} {K K' : PV -> Prop} (h : ∀ p, K p -> K' p) : zd3 a b K -> zd3 a b K' := aU fun _ => aU fun _ => h _
theorem aV {c : Prop} [Decidable c] {A B A' B' : Prop} (h : A -> A') (k : B -> B') (x : if c then A else B) : if c then A' else B' := by
 by_cases q : c
 ·rw [if_pos q] at x ⊢; exact h x
 ·rw [if_neg q] at x ⊢; exact k x
theorem yN {op : Operator} {a b : PV} {K K' : PV -> Prop} (h : ∀ p, K p -> K' p) (x : zd9 op a b K) : zd9 op a b K' := by
 cases op <;> first | exact False.elim x | skip
 ·exact aV (jT fun _ => jT fun _ y => ⟨y.1, h _ y.2⟩) (pO h) x
 ·exact n6 h x
 ·exact aU (fun _ => aU fun _ y => ⟨y.1, h _ y.2⟩) x
 ·exact aU (fun _ => aU fun _ y => ⟨y.1, h _ y.2⟩) x
 ·exact aU (fun _ => aU fun _ y => ⟨y.1, y.2.1, y.2.2.1, h _ y.2.2.2⟩) x
 ·exact aU (fun _ => aU fun _ y => ⟨y.1, y.2.1, h _ y.2.2⟩) x
theorem zaA {op : Operator} {a b : PV} {K K' : PV -> Prop} (h : ∀ p, K p -> K' p) (x : inP op a b K) : inP op a b K' := by
 cases op <;> first | exact False.elim x | skip
 ·exact pO h x
 ·exact n6 h x
theorem sR {σ : Nat -> Option Cell} {a b : PV} {K K' : Bool -> Prop} (h : ∀ p, K p -> K' p) (x : eqW σ a b K) : eqW σ a b K' := by
 exact eP (fun ⟨ta, tb, h1, h2, h3, h4, h5, h6⟩ => ⟨ta, tb, h1, h2, h3, h4, h5, h _ h6⟩) h x
theorem sB {a b : PV} {K K' : Bool -> Prop} (h : ∀ p, K p -> K' p) : isW a b K -> isW a b K' :=
 c9 id (c9 id (h _) (fun _ => id) (fun _ => h _) (fun _ => h _) (fun _ => h _) (fun _ => id) fun _ => id) (fun _ => c9 id id (fun _ => h _) (fun _ => id) (fun _ => id) (fun _ => id) (fun _ => id) fun _ => id)
  (fun _ => id) (fun _ => id) (fun _ => id) (fun _ => id) fun _ => id
theorem sE {a b : PV} {K K' : Bool -> Prop} (h : ∀ p, K p -> K' p) : inW a b K -> inW a b K' :=
 bM fun _ => c9 id id (fun _ => id) (fun _ => id) (fun _ => h _) (fun _ ⟨z, h1, h2⟩ => ⟨z, h1, h _ h2⟩) (fun _ ⟨z, h1, h2⟩ => ⟨z, h1, h _ h2⟩) fun _ => id
theorem kL {σ : Nat -> Option Cell} {op : CmpOp} {a b : PV} {K K' : Bool -> Prop} (h : ∀ p, K p -> K' p) (x : zbv σ op a b K) : zbv σ op a b K' := by
 cases op
 ·exact sR h x
 ·exact sR (fun _ => h _) x
 ·exact aU (fun _ => aU fun _ => h _) x
 ·exact c9 id id (fun _ => id) (fun _ => aU fun _ => h _) (fun _ => bM fun _ => h _) (fun _ => id) (fun _ => id) (fun _ => id) x
 ·exact aU (fun _ => aU fun _ => h _) x
 ·exact aU (fun _ => aU fun _ => h _) x
 ·exact sB h x
 ·exact sB (fun _ => h _) x
 ·exact sE h x
 ·exact sE (fun _ => h _) x
theorem sZ {name : Str} {ps : List PV} {K K' : PV -> Prop} (h : ∀ p, K p -> K' p) : biP name ps K -> biP name ps K' := by
 have rg : ∀ {a b}, zd5 a b K -> zd5 a b K' := fun ⟨a, b, c, d, e⟩ => ⟨a, b, c, d, h _ e⟩
 refine aV (dA fun _ => c9 id id (fun _ => id) (fun _ => id) (fun _ => h _) (fun _ => id) (fun _ => h _) fun _ => id) (aV (dA fun _ => bM fun _ => dA fun _ => h _) (aV (dA fun _ => aU fun _ x => ⟨x.1, x.2.1, h _ x.2.2⟩)
  (aV (fun x => ?_) (aV (dA fun _ => jT fun _ ⟨n, h3, h4⟩ => ⟨n, h3, h _ h4⟩) (aV (fun x => ?_) id)))))
 ·cases ps with
  | nil => exact x
  | cons a r =>
   refine bM (fun z y => ?_) x
   cases r with
   | nil =>
    cases z with
    | nil => exact y
    | cons c x => exact ⟨y.1, y.2.imp (fun ⟨h1, h2, n, h3, h4⟩ => ⟨h1, h2, n, h3, h _ h4⟩) (Or.imp (fun ⟨h1, h2, n, h3, h4⟩ => ⟨h1, h2, n, h3, h _ h4⟩) fun ⟨n, h3, h4⟩ => ⟨n, h3, h _ h4⟩)⟩
   | cons b r => exact dA (fun _ => aU fun _ ⟨h1, h2, h3, n, h4, h5⟩ => ⟨h1, h2, h3, n, h4, h _ h5⟩) y
 ·cases ps with
  | nil => exact x
  | cons a r =>
   refine aU (fun i x => ?_) x
   cases r with
   | nil => exact rg x
   | cons b r => exact dA (fun _ => aU fun _ => rg) x
theorem lM {σ : Nat -> Option Cell} {name : Str} {o : PV} {ps : List PV} {K K' : PV -> (Nat -> Option Cell) -> Prop} (h : ∀ p s, K p s -> K' p s) : iN σ name o ps K -> iN σ name o ps K' := by
 have s3 : ∀ {K K' : Nat -> Int -> Int -> Prop}, (∀ c i j, K c i j -> K' c i j) -> zdl ps K -> zdl ps K' := fun k => lD fun _ _ _ => bM fun _ => dA fun _ => aU fun _ => aU fun _ ⟨a, b, c, d, e⟩ => ⟨a, b, c, d, k _ _ _ e⟩
 exact aV (jS fun _ => dA fun _ ⟨xs, h1, h2, h3⟩ => ⟨xs, h1, h2, h _ _ h3⟩)
  (aV (bM fun _ => mA fun _ _ => aU fun _ ⟨a, b, c⟩ => ⟨a, b, c9 id id (fun _ => id) (fun _ => id) (fun _ => h _ _) (fun _ ⟨z, h1, h2⟩ => ⟨z, h1, h _ _ h2⟩) (fun _ => id) (fun _ => id) c⟩)
  (aV (bM fun _ => mA fun _ _ => bM fun _ => aU fun _ ⟨a, b, c⟩ => ⟨a, b, h _ _ c⟩)
  (aV (bM fun _ => s3 fun _ _ _ => h _ _) (aV (bM fun _ => s3 fun _ _ _ => h _ _) (aV (bM fun _ ⟨e, x⟩ => ⟨e, dA (fun _ => jT fun _ ⟨z, h1, h2, h3⟩ => ⟨z, h1, h2, h _ _ h3⟩) x⟩) (aV (jS fun _ ⟨e, xs, v, h1, h2⟩ => ⟨e, xs, v, h1, h _ _ h2⟩) (aV (za3 fun _ => mA fun _ _ => bM fun _ => h _ _) id)))))))
theorem iM {C : Ctx} {pos : Pos} {vs : List PV} {Q Q' : PV -> St -> Prop} {st : St} (h : ∀ p s, Q p s -> Q' p s) : bH C pos vs Q st -> bH C pos vs Q' st :=
 aV (fun x a e => h _ _ (x a e)) (h _ _)
theorem e9 {I : (Bool -> St -> Prop) -> St -> Prop} {El : (PV -> St -> Prop) -> St -> Prop} {tgt : Expr} {ρ0 : d9} {Q Q' : List PV -> (Nat -> Option Cell) -> Prop}
  (hI : ∀ K K' s, (∀ b s, K b s -> K' b s) -> I K s -> I K' s) (hE : ∀ K K' s, (∀ p s, K p s -> K' p s) -> El K s -> El K' s) (h : ∀ vs σ, Q vs σ -> Q' vs σ) :
  ∀ (items acc : List PV) (σ : Nat -> Option Cell), bX I El tgt ρ0 Q items acc σ -> bX I El tgt ρ0 Q' items acc σ
 | [], acc, σ, x => h _ _ x
 | _ :: vs, _, _, x => aY (fun _ => hI _ _ _ fun _ _ => aV (hE _ _ _ fun _ _ => e9 hI hE h vs _ _) (e9 hI hE h vs _ _)) x
theorem eU {K K' : Bool -> St -> Prop} (h : ∀ b s, K b s -> K' b s) (v : PV) (st : St) : tst K v st -> tst K' v st := aY fun _ => h _ _
theorem zC {op : UnaryOp} {v : PV} {K K' : PV -> Prop} (h : ∀ p, K p -> K' p) (x : unP op v K) : unP op v K' := by
 cases op
 ·exact x
 ·exact aY (fun _ => h _) x
 ·exact x
 ·exact aU (fun _ => h _) x
theorem tQ {name p q : Str} {v : PV} {K K' : PV -> Prop} (h : ∀ p, K p -> K' p) : zae name p q v K -> zae name p q v K' :=
 bM fun _ x => ⟨x.1, x.2.1, x.2.2.1, x.2.2.2.1, x.2.2.2.2.1, h _ x.2.2.2.2.2⟩
theorem uR {C : Ctx} {n : Str} {v : PV} {K K' : PV -> Prop} (h : ∀ p, K p -> K' p) (x : za1 C n v K) : za1 C n v K' := by
 cases v <;> first | exact False.elim x | skip
 exact eP (aY h) (fun _ => aY h) x
theorem v2 {v : PV} {lo hi : Option Int} {K K' : PV -> Prop} (h : ∀ p, K p -> K' p) : zc3 v lo hi K -> zc3 v lo hi K' :=
 c9 id id (fun _ => id) (fun _ => id) (fun _ => h _) (fun _ => id) (fun _ => h _) fun _ => id
theorem oX {v i : PV} {K K' : PV -> Prop} (h : ∀ p, K p -> K' p) : zc5 v i K -> zc5 v i K' :=
 aU fun _ => c9 id id (fun _ => id) (fun _ => id) (fun _ => aY fun _ => h _) (fun _ => aY h) (fun _ => aY h) fun _ => id
theorem uP {C : Ctx} (M : CtxMono C) {f : Str} {vs : List PV} {st : St} {K K' : PV -> Prop} (h : ∀ p, K p -> K' p) (x : fX C f vs st K) : fX C f vs st K' := by
 unfold fX at x ⊢
 cases e : C.fn f with
 | some F => rw [e] at x; exact M.fn _ _ e _ _ _ (fun p q => ⟨q.1, h _ q.2⟩) x
 | none =>
  rw [e] at x
  cases e : C.cls f with
  | some F => rw [e] at x; exact M.cls _ _ e _ _ _ h x
  | none => rw [e] at x; exact ⟨x.1, sZ h x.2⟩
mutual
theorem aT {C : Ctx} (M : CtxMono C) : ∀ (e : Expr) {κ : Kn} {Q Q' : PV -> St -> Prop} {st : St}, (∀ p s, Q p s -> Q' p s) -> wE C e κ Q st -> wE C e κ Q' st
 | .Constant _ _ _, _, _, _, _, h, x => aY (fun _ => h _ _) x
 | .Name _ _, _, _, _, _, h, x => aV (aY fun _ => h _ _) (aY fun _ => h _ _) x
 | .BoolOp _ vs _, _, _, _, _, h, x => rO M vs h x
 | .BinOp l _ r _, _, _, _, _, h, x => aT M l (fun _ _ => aT M r fun _ _ => yN fun _ => h _ _) x
 | .UnaryOp _ y _, _, _, _, _, h, x => aT M y (fun _ _ => zC fun _ => h _ _) x
 | .IfExp t b o _, _, _, _, _, h, x => aT M t (eU fun _ _ => aV (aT M b h) (aT M o h)) x
 | .Compare l _ cs _, _, _, _, _, h, x => aT M l (fun _ _ => rN M cs h) x
 | .Call f args _ _, κ, Q, Q', st, h, x => ⟨x.1, eP (aY fun _ ⟨a, b, c⟩ => ⟨a, b, bV M args (fun _ _ => uP M fun _ => h _ _) c⟩)
   (fun _ => eP (u9 M f fun _ _ ⟨a, b⟩ => ⟨a, bV M args (fun _ _ => lM fun _ _ => h _ _) b⟩) fun _ => u9 M f fun _ _ => tQ fun _ => h _ _) x.2⟩
 | .Attribute o _ _, _, _, _, _, h, x => aT M o (fun _ _ => uR fun _ => h _ _) x
 | .Subscript o i _, _, _, _, _, h, x => aT M o (fun _ _ => aV (y6 M i fun _ _ _ => v2 fun _ => h _ _) (aT M i fun _ _ => oX fun _ => h _ _)) x
 | .List es _, _, _, _, _, h, x => bV M es (fun _ _ => iM h) x
 | .Tuple es _ _, _, _, _, _, h, x => bV M es (fun _ _ => h _ _) x
 | .Dict ks vs _, _, _, _, _, h, x => aY (fun _ => h _ _) x
 | .ListComp elt gens sc p, κ, Q, Q', st, h, x => match gens, x with
  | [⟨_, iter, ifs, _⟩], x => ⟨x.1, x.2.1, x.2.2.1, aT M iter (fun _ _ => aY fun _ y => ⟨y.1, e9 (I := fun K s' => wIf C ifs (cF sc.names) K s') (El := fun K s' => wE C elt (cF sc.names) K s') (fun _ _ _ k z => rM M ifs k z) (fun _ _ _ k z => aT M elt k z) (fun _ _ z => iM h z) _ _ _ y.2⟩) x.2.2.2⟩
  | [], x => False.elim x
  | ⟨_, _, _, _⟩ :: _ :: _, x => False.elim x
 | .NamedExpr _ _ _, _, _, _, _, _, x => x
 | .Lambda _ _ _ _, _, _, _, _, _, x => x
 | .Set _ _ _, _, _, _, _, _, x => x
 | .SetComp _ _ _ _, _, _, _, _, _, x => x
 | .DictComp _ _ _ _ _, _, _, _, _, _, x => x
 | .GeneratorExp _ _ _ _, _, _, _, _, _, x => x
 | .Await _ _, _, _, _, _, _, x => x
 | .Yield _ _, _, _, _, _, _, x => x
 | .YieldFrom _ _, _, _, _, _, _, x => x
 | .FormattedValue e _ _ _, _, _, _, _, h, x => ⟨x.1, x.2.1, aT M e (fun _ _ => bM fun _ => h _ _) x.2.2⟩
 | .JoinedStr vs _, _, _, _, _, h, x => ⟨x.1, u7 M vs h x.2⟩
 | .Starred _ _, _, _, _, _, _, x => x
 | .Slice _ _ _ _, _, _, _, _, _, x => x
theorem u7 {C : Ctx} (M : CtxMono C) : ∀ (es : List Expr) {κ : Kn} {acc : List Nat} {Q Q' : PV -> St -> Prop} {st : St}, (∀ p s, Q p s -> Q' p s) -> wJ C es κ acc Q st -> wJ C es κ acc Q' st
 | [], _, _, _, _, _, h, x => h _ _ x
 | e :: es, _, _, _, _, _, h, x => aT M e (fun _ _ => bM fun _ y => ⟨y.1, u7 M es h y.2⟩) x
theorem bV {C : Ctx} (M : CtxMono C) : ∀ (es : List Expr) {κ : Kn} {Q Q' : List PV -> St -> Prop} {st : St}, (∀ p s, Q p s -> Q' p s) -> wEs C es κ Q st -> wEs C es κ Q' st
 | [], _, _, _, _, h, x => h _ _ x
 | e :: es, _, _, _, _, h, x => aT M e (fun _ _ => bV M es fun _ _ => h _ _) x
theorem rL {C : Ctx} (M : CtxMono C) : ∀ (e : Option Expr) {κ : Kn} {Q Q' : Option Int -> St -> Prop} {st : St}, (∀ p s, Q p s -> Q' p s) -> wOp C e κ Q st -> wOp C e κ Q' st
 | none, _, _, _, _, h, x => h _ _ x
 | some e, _, _, _, _, h, x => aT M e (fun _ _ => aU fun _ y => ⟨y.1, y.2.1, h _ _ y.2.2⟩) x
theorem u9 {C : Ctx} (M : CtxMono C) : ∀ (e : Expr) {κ : Kn} {Q Q' : PV -> St -> Prop} {st : St}, (∀ p s, Q p s -> Q' p s) -> wA C e κ Q st -> wA C e κ Q' st
 | .Attribute o _ _, _, _, _, _, h, x => aT M o h x
 | .BoolOp _ _ _, _, _, _, _, _, x => x
 | .NamedExpr _ _ _, _, _, _, _, _, x => x
 | .BinOp _ _ _ _, _, _, _, _, _, x => x
 | .UnaryOp _ _ _, _, _, _, _, _, x => x
 | .Lambda _ _ _ _, _, _, _, _, _, x => x
 | .IfExp _ _ _ _, _, _, _, _, _, x => x
 | .Dict _ _ _, _, _, _, _, _, x => x
 | .Set _ _ _, _, _, _, _, _, x => x
 | .ListComp _ _ _ _, _, _, _, _, _, x => x
 | .SetComp _ _ _ _, _, _, _, _, _, x => x
 | .DictComp _ _ _ _ _, _, _, _, _, _, x => x
 | .GeneratorExp _ _ _ _, _, _, _, _, _, x => x
 | .Await _ _, _, _, _, _, _, x => x
 | .Yield _ _, _, _, _, _, _, x => x
 | .YieldFrom _ _, _, _, _, _, _, x => x
 | .Compare _ _ _ _, _, _, _, _, _, x => x
 | .Call _ _ _ _, _, _, _, _, _, x => x
 | .FormattedValue _ _ _ _, _, _, _, _, _, x => x
 | .JoinedStr _ _, _, _, _, _, _, x => x
 | .Constant _ _ _, _, _, _, _, _, x => x
 | .Subscript _ _ _, _, _, _, _, _, x => x
 | .Starred _ _, _, _, _, _, _, x => x
 | .Name _ _, _, _, _, _, _, x => x
 | .List _ _, _, _, _, _, _, x => x
 | .Tuple _ _ _, _, _, _, _, _, x => x
 | .Slice _ _ _ _, _, _, _, _, _, x => x
theorem y6 {C : Ctx} (M : CtxMono C) : ∀ (e : Expr) {κ : Kn} {Q Q' : Option Int -> Option Int -> St -> Prop} {st : St}, (∀ p q s, Q p q s -> Q' p q s) -> wSl C e κ Q st -> wSl C e κ Q' st
 | .Slice l u _ _, _, _, _, _, h, x => ⟨x.1, rL M l (fun _ _ => rL M u fun _ _ => h _ _ _) x.2⟩
 | .BoolOp _ _ _, _, _, _, _, _, x => x
 | .NamedExpr _ _ _, _, _, _, _, _, x => x
 | .BinOp _ _ _ _, _, _, _, _, _, x => x
 | .UnaryOp _ _ _, _, _, _, _, _, x => x
 | .Lambda _ _ _ _, _, _, _, _, _, x => x
 | .IfExp _ _ _ _, _, _, _, _, _, x => x
 | .Dict _ _ _, _, _, _, _, _, x => x
 | .Set _ _ _, _, _, _, _, _, x => x
 | .ListComp _ _ _ _, _, _, _, _, _, x => x
 | .SetComp _ _ _ _, _, _, _, _, _, x => x
 | .DictComp _ _ _ _ _, _, _, _, _, _, x => x
 | .GeneratorExp _ _ _ _, _, _, _, _, _, x => x
 | .Await _ _, _, _, _, _, _, x => x
 | .Yield _ _, _, _, _, _, _, x => x
 | .YieldFrom _ _, _, _, _, _, _, x => x
 | .Compare _ _ _ _, _, _, _, _, _, x => x
 | .Call _ _ _ _, _, _, _, _, _, x => x
 | .FormattedValue _ _ _ _, _, _, _, _, _, x => x
 | .JoinedStr _ _, _, _, _, _, _, x => x
 | .Constant _ _ _, _, _, _, _, _, x => x
 | .Attribute _ _ _, _, _, _, _, _, x => x
 | .Subscript _ _ _, _, _, _, _, _, x => x
 | .Starred _ _, _, _, _, _, _, x => x
 | .Name _ _, _, _, _, _, _, x => x
 | .List _ _, _, _, _, _, _, x => x
 | .Tuple _ _ _, _, _, _, _, _, x => x
theorem rO {C : Ctx} (M : CtxMono C) {op : BoolOp} : ∀ (es : List Expr) {κ : Kn} {Q Q' : PV -> St -> Prop} {st : St}, (∀ p s, Q p s -> Q' p s) -> wBo C op es κ Q st -> wBo C op es κ Q' st
 | [], _, _, _, _, _, x => x
 | e :: es, _, _, _, _, h, x => aV (aT M e h) (aT M e fun _ _ => aY fun _ => aV (h _ _) (rO M es h)) x
theorem rN {C : Ctx} (M : CtxMono C) : ∀ (es : List Expr) {ops : List CmpOp} {κ : Kn} {a : PV} {Q Q' : PV -> St -> Prop} {st : St}, (∀ p s, Q p s -> Q' p s) -> wCh C es ops κ a Q st -> wCh C es ops κ a Q' st
 | [], _, _, _, _, _, _, _, x => x
 | r :: rs, _, _, _, _, _, _, h, x => aY (fun _ => aT M r fun _ _ => kL fun _ => aV (fun y => ⟨y.1, h _ _ y.2⟩) (aV (rN M rs h) (h _ _))) x
theorem rM {C : Ctx} (M : CtxMono C) : ∀ (es : List Expr) {κ : Kn} {Q Q' : Bool -> St -> Prop} {st : St}, (∀ p s, Q p s -> Q' p s) -> wIf C es κ Q st -> wIf C es κ Q' st
 | [], _, _, _, _, h, x => h _ _ x
 | e :: es, _, _, _, _, h, x => aT M e (eU fun _ _ => aV (rM M es h) (h _ _)) x
end
end Mine
end
section
open PySem PySem.W PyProof.Rows
open Builtin Builtin.Str
set_option Elab.async false
set_option autoImplicit false
set_option linter.unusedVariables false
namespace Mine
theorem eT {K : Bool -> St -> Prop} {v : PV} {st : St} {b : Bool} (e : rP (der st.σ v) = some b) : tst K v st = K b st := by unfold tst; rw [e]; rfl
structure Bs where
 K : Frag
 h₀ : Heap
 mg : Str -> Option Value
 mb : Str -> Option Value
structure BsOk (B : Bs) : Prop where
 kin : B.K.In B.h₀
 g : B.h₀.Ns mainGlobals B.mg
 b : B.h₀.Ns builtinsNs B.mb
 lim : B.h₀.NoLimit
noncomputable def Over (B : Bs) (G : GM) : Prop := ∀ a o, B.h₀.get? a = some o -> G a = some o
theorem Over.ext {B : Bs} {G G' : GM} (h : Over B G) (e : Sub G G') : Over B G' := fun a o x => e _ _ (h a o x)
structure EnvOk (env : Env) : Prop where
 kind : env.scope.kind = .function
 glob : env.globals = mainGlobals
 bi : env.builtins = builtinsNs
noncomputable def KOk (κ : Kn) (env : Env) : Prop := ∀ x, env.kindOf x = if κ x = some .free then some .cell else κ x
theorem KOk.glob {κ : Kn} {env : Env} (h : KOk κ env) {x : Str} (e : κ x = some .globalImplicit) : env.kindOf x = some .globalImplicit := by rw [h x, e]; rfl
theorem KOk.loc {κ : Kn} {env : Env} (h : KOk κ env) {x : Str} (e : κ x = some .local) : env.kindOf x = some .local := by rw [h x, e]; rfl
theorem KOk.cell {κ : Kn} {env : Env} (h : KOk κ env) {x : Str} (e : κ x = some .cell \/ κ x = some .free) : env.kindOf x = some .cell := by rw [h x]; rcases e with e | e <;> rw [e] <;> rfl
structure Ok (B : Bs) (P : Params) (G : GM) (env : Env) (st : St) (s : Shared) : Prop where
 over : Over B G
 rep : Rep P G env st s
 ct : CellsThere env s.heap
noncomputable def Lands {α : Type} (B : Bs) (P : Params) (cw : Bool) (env : Env) (G : GM) (st : St) (s : Shared) (X : GM -> St -> α -> Prop) (a : α) (s' : Shared) : Prop :=
 ∃ G' st', X G' st' a /\ Ok B P G' env st' s' /\ Tr cw env G st s G' st' s'
noncomputable def VX (P : Params) (Q : PV -> St -> Prop) : GM -> St -> Value -> Prop := fun G' st' v => ∃ p, Q p st' /\ VRel P G' v p
noncomputable def VsX (P : Params) (Q : List PV -> St -> Prop) : GM -> St -> List Value -> Prop := fun G' st' vs => ∃ ps, Q ps st' /\ VRels P G' vs ps
noncomputable def BX (K : Bool -> St -> Prop) : GM -> St -> Bool -> Prop := fun _ st' b => K b st'
section
variable {prog : Program} {w : World} {A : Around} {E : Value -> Shared -> Prop} {s : Shared} {G : GM} {env : Env} {st : St} {cw : Bool} {B : Bs} {P : Params} {α β : Type}
theorem Lands.after {G₁ : GM} {st₁ : St} {s₁ : Shared} {X : GM -> St -> α -> Prop} {a : α} {s' : Shared} (T : Tr cw env G st s G₁ st₁ s₁) (h : Lands B P cw env G₁ st₁ s₁ X a s') : Lands B P cw env G st s X a s' :=
 let ⟨G', st', h1, h2, h3⟩ := h; ⟨G', st', h1, h2, T.trans h3⟩
theorem w0 {X : GM -> St -> α -> Prop} {Y : GM -> St -> β -> Prop} {m : Sem α} {f : α -> Sem β}
  (h : wpAny (model prog w) A m (Lands B P cw env G st s X) E s)
  (k : ∀ a G' st' s', X G' st' a -> Ok B P G' env st' s' -> Sub G G' -> wpAny (model prog w) A (f a) (Lands B P cw env G' st' s' Y) E s') :
  wpAny (model prog w) A m (fun a s' => wpAny (model prog w) A (f a) (Lands B P cw env G st s Y) E s') E s :=
 wpAny_mono h (fun a s' ⟨G', st', h1, h2, h3⟩ => wpAny_mono (k a G' st' s' h1 h2 h3.ext) (fun _ _ x => x.after h3) fun _ _ e => e) fun _ _ e => e
theorem aF {X : GM -> St -> α -> Prop} {R : α -> Shared -> Prop} {m : Sem α} (h : wpAny (model prog w) A m (Lands B P cw env G st s X) E s)
  (k : ∀ a G' st' s', X G' st' a -> Ok B P G' env st' s' -> Tr cw env G st s G' st' s' -> R a s') : wpAny (model prog w) A m R E s :=
 wpAny_mono h (fun a s' ⟨G', st', h1, h2, h3⟩ => k a G' st' s' h1 h2 h3) fun _ _ e => e
theorem aL {X : GM -> St -> α -> Prop} {m : Sem α} {G₁ : GM} {st₁ : St} {s₁ : Shared} (T : Tr cw env G st s G₁ st₁ s₁)
  (h : wpAny (model prog w) A m (Lands B P cw env G₁ st₁ s₁ X) E s₁) : wpAny (model prog w) A m (Lands B P cw env G st s X) E s₁ :=
 wpAny_mono h (fun _ _ x => x.after T) fun _ _ e => e
theorem w2 {X : GM -> St -> α -> Prop} {Y : GM -> St -> α -> Prop} {m : Sem α}
  (h : wpAny (model prog w) A m (Lands B P cw env G st s X) E s) (k : ∀ a G' st', X G' st' a -> Y G' st' a) : wpAny (model prog w) A m (Lands B P cw env G st s Y) E s :=
 wpAny_mono h (fun a s' ⟨G', st', h1, h2, h3⟩ => ⟨G', st', k a G' st' h1, h2, h3⟩) fun _ _ e => e
theorem aH {X : GM -> St -> α -> Prop} {a : α} (O : Ok B P G env st s) (h : X G st a) : Lands B P cw env G st s X a s := ⟨G, st, h, O, .refl⟩
theorem Ok.grow (O : Ok B P G env st s) {G' : GM} {s' : Shared} (g : GS G s G' s') (tk : 1 <= s'.toks) : Ok B P G' env st s' :=
 ⟨O.over.ext g.ext, O.rep.grow O.ct g tk, O.ct.grow g.alive⟩
theorem dU {X : GM -> St -> α -> Prop} {a : α} {s' : Shared} {G' : GM} (O : Ok B P G env st s) (g : GS G s G' s') (tk : 1 <= s'.toks) (h : X G' st a) : Lands B P cw env G st s X a s' :=
 ⟨G', st, h, O.grow g tk, g.tr⟩
theorem bL {t : Sem Value} {Q : PV -> St -> Prop} (O : Ok B P G env st s) (h : GW (model prog w) A P E G s t fun p => Q p st) :
  wpAny (model prog w) A t (Lands B P cw env G st s (VX P Q)) E s :=
 wpAny_mono (wpAny_toks_of O.rep.tk h) (fun v s' ⟨tk, p, G', hq, g, r⟩ => dU O g tk ⟨p, hq, r⟩) fun _ _ e => e.2
theorem uE {t : Sem Value} {Q : PV -> St -> Prop} (O : Ok B w.params G env st s) (h : wpAny (model prog w) A t (zeG w.params cw env G st s Q) E s) :
  wpAny (model prog w) A t (Lands B w.params cw env G st s (VX w.params Q)) E s :=
 wpAny_mono h (fun v s' ⟨p, G', st', hq, h1, h2, h3, h4⟩ => ⟨G', st', ⟨p, hq, h4⟩, ⟨O.over.ext h3.ext, h1, h2⟩, h3⟩) fun _ _ e => e
theorem wZ {v : Value} {p : PV} {K : Bool -> St -> Prop} (O : Ok B w.params G env st s) (hv : VRel w.params G v p) (h : tst K p st) :
  wpAny (model prog w) A (truthy v) (Lands B w.params cw env G st s (BX K)) E s := by
 obtain ⟨b, e, h⟩ := bQ h
 refine wpAny_mono (wpAny_toks_of O.rep.tk (zbL O.rep.inh (O.rep.view hv) e)) (fun c s' ⟨tk, hc, g⟩ => ?_) fun _ _ e => e.2
 subst hc
 exact dU O g tk h
end
noncomputable def KeepsAt (prog : Program) (w : World) (h : Heap) (f : Value) : Prop := ∃ k, Looks (model prog w) h (keeperOf f) k
noncomputable def Meets (prog : Program) (w : World) (B : Bs) (n : Nat) (v : Value) (F : Fn) : Prop :=
 KeepsAt prog w B.h₀ v /\ ∀ (A : Around) (E : Value -> Shared -> Prop) (G : GM) (s : Shared) (args : List Value) (ps : List PV) (K : PV -> Prop),
  Room n A -> InH G s.heap -> 1 <= s.toks -> Over B G -> VRels w.params G args ps -> F ps K -> GW (model prog w) A w.params E G s (call v args) K
theorem Meets.le {prog : Program} {w : World} {B : Bs} {n m : Nat} {v : Value} {F : Fn} (h : Meets prog w B n v F) (hm : n <= m) : Meets prog w B m v F :=
 ⟨h.1, fun A E G s args ps K hA => h.2 A E G s args ps K (hA.le hm)⟩
noncomputable def zbC (K : Frag) (c : Nat) (name : Str) (i : Nat) : Prop :=
 findIn K (.ref c) "__getattribute__" = some (some (.builtin "object.__getattribute__")) /\ findIn K (.ref c) "__getattr__" = some none /\
 ∃ p, findObj K c (some gU) name = some (.bind (.builtin "member_descriptor.__get__") (.ref p)) /\ slotIn K p c = some i /\
  findIn K (.ref c) "__setattr__" = some (some (.builtin "object.__setattr__")) /\ plainOver K c = true /\ takerIn K c name = some (some (.ref p)) /\ typeIn K (.ref p) = some (.type "member_descriptor") /\ i < 1000
noncomputable def zd2 (P : Params) (B : Bs) (c : Nat) (name : Str) (v : PV) : Prop :=
 findIn B.K (.ref c) "__getattribute__" = some (some (.builtin "object.__getattribute__")) /\
 ∃ u, findObj B.K c (some gU) name = some (.value u) /\ handedIn u = true /\ VRel P (fun a => B.h₀.get? a) u v
noncomputable def tD (prog : Program) (w : World) (B : Bs) (C : Ctx) (n : Nat) : Prop :=
 ∃ nodeV fV, B.mg "Node" = some nodeV /\ KeepsAt prog w B.h₀ fV /\
  (∀ (A : Around) (E : Value -> Shared -> Prop) (s : Shared) (Q : Value × List Value -> Shared -> Prop) (pl : Sem Bool) (b : Bool), (∀ a o, B.h₀.get? a = some o -> s.heap.get? a = some o) -> Looks (model prog w) B.h₀ pl b ->
   (∀ k, s.toks <= k -> Q (fV, []) { s with toks := k }) -> wpAny (model prog w) A (getMethod nodeV "__init__" pl) Q E s) /\
  (∀ (A : Around) (E : Value -> Shared -> Prop) (cw : Bool) (env : Env) (G : GM) (st : St) (s : Shared) (ad : Nat) (va vb : Value) (pa pb : PV) (K : St -> Prop), Room n A -> Ok B w.params G env st s -> VRel w.params G va pa -> VRel w.params G vb pb ->
   (setCell C ad "source_line" pa st fun st1 => setCell C ad "source_column" pb st1 K) ->
   wpAny (model prog w) A (call fV [.ref ad, va, vb]) (Lands B w.params cw env G st s (fun _ st' _ => K st')) E s)
structure CtxOk (prog : Program) (w : World) (B : Bs) (C : Ctx) (n : Nat) : Prop where
 mono : CtxMono C
 val : ∀ x v, C.val x = some v -> ∃ u, B.mg x = some u /\ VRel w.params (fun a => B.h₀.get? a) u v
 fn : ∀ x F, C.fn x = some F -> ∃ u, B.mg x = some u /\ Meets prog w B n u F
 cls : ∀ x F, C.cls x = some F -> ∃ u, B.mg x = some u /\ Meets prog w B n u F
 bi : ∀ x, C.bi x = true -> B.mg x = none /\ B.mb x = some (i9 x)
 slot : ∀ c x i, C.slot c x = some i -> zbC B.K c x i
 cval : ∀ c x v, C.cval c x = some v -> zd2 w.params B c x v
 ini : C.ini = true -> tD prog w B C n
noncomputable def bT (prog : Program) (w : World) (B : Bs) (C : Ctx) (n : Nat) (e : Expr) : Prop :=
 ∀ (A : Around) (E : Value -> Shared -> Prop) (cw : Bool) (env : Env) (κ : Kn) (G : GM) (st : St) (s : Shared) (Q : PV -> St -> Prop), Room n A -> EnvOk env -> KOk κ env -> Ok B w.params G env st s ->
  wE C e κ Q st -> wpAny (model prog w) A (eval e env) (Lands B w.params cw env G st s (VX w.params Q)) E s
noncomputable def kW (prog : Program) (w : World) (B : Bs) (C : Ctx) (n : Nat) (e : Expr) : Prop :=
 ∀ (A : Around) (E : Value -> Shared -> Prop) (cw : Bool) (env : Env) (κ : Kn) (G : GM) (st : St) (s : Shared) (K : Bool -> St -> Prop), Room n A -> EnvOk env -> KOk κ env -> Ok B w.params G env st s ->
  wE C e κ (tst K) st ->
  wpAny (model prog w) A (isTrue e env (eval e env)) (Lands B w.params cw env G st s (BX K)) E s
section
variable {prog : Program} {w : World} {B : Bs} {C : Ctx} {n : Nat}
theorem lG {e : Expr} (h : bT prog w B C n e) (he : ∀ env whole, isTrue e env whole = (do let v <- whole; standAt e.pos; holding [v] (truthy v))) : kW prog w B C n e := by
 intro A E cw env κ G st s K hA hE hκ O hw
 refine isTrue_plain (w0 (h A E cw env κ G st s _ hA hE hκ O hw) fun v G' st' s' ⟨p, hq, hv⟩ O' _ => ?_) (he env _)
 exact wZ O' hv hq
noncomputable def okC : Const -> Bool
 | .str s => s.cps.toList.all (· < 1114112) && decide (s.cps.toList.length <= 16777216)
 | _ => true
theorem vW {c : Const} {k : Nat} {p : Pos} (ok : okC c = true) : bT prog w B C n (.Constant c k p) := by
 intro A E cw env κ G st s Q hA hE hκ O hw
 obtain ⟨v, hv, hw⟩ := bQ hw
 refine bL O ?_
 cases c <;> first | (cases hv; done) | skip
 all_goals cases hv
 ·exact Constant_none ⟨.none, G, hw, GS.refl O.rep.inh, by simp [VRel]⟩
 ·exact Constant_bool ⟨.bool _, G, hw, GS.refl O.rep.inh, by simp [VRel]⟩
 ·rw [arm_eval_Constant]
  exact wpAny_mkInt ⟨.int _, G, hw, GS.toks O.rep.inh _, by simp [VRel]⟩
 ·rename_i x
  refine Calls.Constant_str ⟨.str _, G, hw, GS.toks O.rep.inh _, ?_⟩
  simp only [okC, Bool.and_eq_true, List.all_eq_true, decide_eq_true_eq] at ok
  simp only [VRel]
  exact ⟨_, rfl, ok.1, ok.2⟩
theorem dB {A : Around} {E : Value -> Shared -> Prop} {env : Env} {G : GM} {s : Shared} {x : Str} {u : Value} {Q : Value -> Shared -> Prop} (hB : BsOk B) (hE : EnvOk env) (hi : InH G s.heap) (ho : Over B G) (hv : B.mg x = some u) (h : Q u s) :
  wpAny (model prog w) A (loadGlobal env x) Q E s :=
 Calls.loadGlobal_global (mg := B.mg) (by rw [hE.glob]; exact hB.g.keeps fun b o e => hi.at_ _ _ (ho _ _ e)) hv h
theorem mW {A : Around} {E : Value -> Shared -> Prop} {env : Env} {G : GM} {s : Shared} {x : Str} {u : Value} {Q : Value -> Shared -> Prop} (hB : BsOk B) (hE : EnvOk env) (hi : InH G s.heap) (ho : Over B G) (hn : B.mg x = none) (hv : B.mb x = some u) (h : Q u s) :
  wpAny (model prog w) A (loadGlobal env x) Q E s :=
 Calls.loadGlobal_builtin (mg := B.mg) (mb := B.mb) (by rw [hE.glob]; exact hB.g.keeps fun b o e => hi.at_ _ _ (ho _ _ e)) hn (by rw [hE.bi]; exact hB.b.keeps fun b o e => hi.at_ _ _ (ho _ _ e)) hv h
end
section
variable {prog : Program} {w : World} {B : Bs} {C : Ctx} {n : Nat}
theorem qO {x : Str} {p : Pos} (hB : BsOk B) (hC : CtxOk prog w B C n) (ok2 : (x == ("__classdict__" : Str)) = false) (A : Around) (E : Value -> Shared -> Prop) (cw : Bool) (env : Env) (κ : Kn) (G : GM) (st : St) (s : Shared) (Q : PV -> St -> Prop)
  (hE : EnvOk env) (hκ : KOk κ env) (O : Ok B w.params G env st s) (hw : wE C (.Name x p) κ Q st) : wpAny (model prog w) A (loadName env x) (Lands B w.params cw env G st s (VX w.params Q)) E s := by
 have R := O.rep
 rw [gW] at hw
 by_cases hk : κ x = some .globalImplicit
 ·rw [if_pos hk] at hw
  obtain ⟨v, hv, hq⟩ := bQ hw
  obtain ⟨u, h1, h2⟩ := hC.val x v hv
  rw [loadName_read hE.kind (hκ.glob hk)]
  exact dB hB hE R.inh O.over h1 (aH O ⟨v, hq, h2.mono fun a o e => O.over a o e⟩)
 ·rw [if_neg hk] at hw
  obtain ⟨v, e, hw⟩ := bQ hw
  ·by_cases hl : env.kindOf x = some .local
   ·obtain ⟨m, hm, hx⟩ := R.ns
    obtain ⟨u, h1, h2⟩ := hx x v e hl
    exact wpAny_loadName_local hE.kind hl hm h1 (aH O ⟨v, hw, h2⟩)
   ·obtain ⟨c, u, h1, h2, h3⟩ := R.cel x v e hl
    rcases R.kind x v e with h | h | h
    ·exact absurd h hl
    ·exact wpAny_loadName_cell hE.kind h h1 h2 (aH O ⟨v, hw, h3⟩)
    ·exact wpAny_loadName_free hE.kind h h1 h2 (aH O ⟨v, hw, h3⟩) ok2
theorem zO {x : Str} {p : Pos} (hB : BsOk B) (hC : CtxOk prog w B C n) (ok : (x == ("__debug__" : Str)) = false) (ok2 : (x == ("__classdict__" : Str)) = false) : bT prog w B C n (.Name x p) := by
 intro A E cw env κ G st s Q hA hE hκ O hw
 exact wpAny_Name (qO hB hC ok2 A E cw env κ G st s Q hE hκ O hw) ok
theorem zbU {l r : Expr} {op : Operator} {p : Pos} (hl : bT prog w B C n l) (hr : bT prog w B C n r) : bT prog w B C n (.BinOp l op r p) := by
 intro A E cw env κ G st s Q hA hE hκ O hw
 exact wpAny_BinOp (aF (hl A E cw env κ G st s _ hA hE hκ O hw) fun a G1 st1 s1 ⟨u, hq, hv⟩ O1 T1 =>
  aF (hr A E cw env κ G1 st1 s1 _ hA hE hκ O1 hq) fun b G2 st2 s2 ⟨u2, hq2, hv2⟩ O2 T2 =>
   aL (T1.trans T2) (bL O2 (zeF O2.rep.inh (O2.rep.view (hv.mono T2.ext)) (O2.rep.view hv2) hq2)))
theorem zba {x : Expr} {op : UnaryOp} {p : Pos} (hx : bT prog w B C n x) : bT prog w B C n (.UnaryOp op x p) := by
 intro A E cw env κ G st s Q hA hE hκ O hw
 refine wpAny_UnaryOp (aF (hx A E cw env κ G st s _ hA hE hκ O hw) fun a G1 st1 s1 ⟨u, hq, hv⟩ O1 T1 => aL T1 ?_)
 cases op <;> first | exact False.elim hq | skip
 ·obtain ⟨b, hb, hq⟩ := bQ hq
  refine not_of (wpAny_mono (wpAny_toks_of O1.rep.tk (zbL O1.rep.inh (O1.rep.view hv) hb)) (fun c s' ⟨tk, hc, g⟩ => ?_) fun _ _ e => e.2)
  subst hc
  exact dU O1 g tk ⟨_, hq, by simp only [VRel]⟩
 ·obtain ⟨i, hi, hq⟩ := bP hq
  have hv' := O1.rep.view hv
  rw [hi] at hv'
  obtain ⟨t, rfl⟩ := tF hv'
  exact bL O1 (lS O1.rep.inh hq fun Q q => neg_int q)
theorem vV {t b o : Expr} {p : Pos} (ht : kW prog w B C n t) (hb : bT prog w B C n b) (ho : bT prog w B C n o) : bT prog w B C n (.IfExp t b o p) := by
 intro A E cw env κ G st s Q hA hE hκ O hw
 refine IfExp_ (aF (ht A E cw env κ G st s _ hA hE hκ O hw) fun c G1 st1 s1 hq O1 T1 => ?_)
 simp only [BX] at hq
 cases c
 ·exact aL T1 (ho A E cw env κ G1 st1 s1 _ hA hE hκ O1 (by simpa using hq))
 ·exact aL T1 (hb A E cw env κ G1 st1 s1 _ hA hE hκ O1 (by simpa using hq))
theorem zW {x : Expr} {p : Pos} (hM : CtxMono C) (hx : kW prog w B C n x) : kW prog w B C n (.UnaryOp .Not x p) := by
 intro A E cw env κ G st s K hA hE hκ O hw
 refine isTrue_not (wpAny_mono (hx A E cw env κ G st s (fun b st1 => K (!b) st1) hA hE hκ O (aT hM x (fun u st1 h => ?_) hw)) (fun c s1 x => x) fun _ _ e => e)
 obtain ⟨b, e, h⟩ := bQ h
 rw [eT e]
 have h' : tst K (.bool (!b)) st1 := h
 rwa [eT (b := !b) rfl] at h'
theorem tL {t b o : Expr} {p : Pos} (ht : kW prog w B C n t) (hb : kW prog w B C n b) (ho : kW prog w B C n o) : kW prog w B C n (.IfExp t b o p) := by
 intro A E cw env κ G st s K hA hE hκ O hw
 refine isTrue_IfExp (aF (ht A E cw env κ G st s _ hA hE hκ O hw) fun c G1 st1 s1 hq O1 T1 => ?_)
 simp only [BX] at hq
 cases c
 ·exact aL T1 (ho A E cw env κ G1 st1 s1 K hA hE hκ O1 (by simpa using hq))
 ·exact aL T1 (hb A E cw env κ G1 st1 s1 K hA hE hκ O1 (by simpa using hq))
theorem zbc {op : BoolOp} {p : Pos} : ∀ (es : List Expr), (∀ e ∈ es, bT prog w B C n e) -> bT prog w B C n (.BoolOp op es p)
 | [], _ => fun A E cw env κ G st s Q hA hE hκ O hw => False.elim hw
 | [e], h => fun A E cw env κ G st s Q hA hE hκ O hw => BoolOp_one (h e (by simp) A E cw env κ G st s Q hA hE hκ O hw)
 | e :: e' :: es, h => by
  intro A E cw env κ G st s Q hA hE hκ O hw
  have ih := zbc (p := p) (op := op) (e' :: es) fun x hx => h x (List.mem_cons_of_mem _ hx)
  have he := h e (by simp) A E cw env κ G st s _ hA hE hκ O (show wE C e κ (fun v st1 => opt (rP (der st1.σ v)) fun b => if b = (op == .Or) then Q v st1 else wBo C op (e' :: es) κ Q st1) st from hw)
  have main : ∀ {G1 : GM} {st1 : St} {s1 : Shared} {a : Value} {u : PV} {R : Bool -> Shared -> Prop}, Tr cw env G st s G1 st1 s1 -> (opt (rP (der st1.σ u)) fun b => if b = (op == .Or) then Q u st1 else wBo C op (e' :: es) κ Q st1) -> VRel w.params G1 a u -> Ok B w.params G1 env st1 s1 ->
    (∀ s', Lands B w.params cw env G st s (VX w.params Q) a s' -> R (op == .Or) s') -> (∀ b s', b ≠ (op == .Or) -> wpAny (model prog w) A (eval (.BoolOp op (e' :: es) p) env) (Lands B w.params cw env G st s (VX w.params Q)) E s' -> R b s') -> wpAny (model prog w) A (truthy a) R E s1 := by
   intro G1 st1 s1 a u R T1 hq hv O1 k1 k2
   obtain ⟨b, e1, hq⟩ := bQ hq
   refine wpAny_mono (wpAny_toks_of O1.rep.tk (zbL O1.rep.inh (O1.rep.view hv) e1)) (fun c s' ⟨tk, hc, g⟩ => ?_) fun _ _ e => e.2
   subst hc
   by_cases hb : c = (op == .Or)
   ·rw [if_pos hb] at hq; rw [hb]
    exact k1 s' ((dU (X := VX w.params Q) O1 g tk ⟨u, hq, hv.mono g.ext⟩).after T1)
   ·rw [if_neg hb] at hq
    exact k2 c s' hb (aL (T1.trans g.tr) (ih A E cw env κ G1 st1 s' Q hA hE hκ (O1.grow g tk) hq))
  cases op
  ·refine BoolOp_and (aF he fun a G1 st1 s1 ⟨u, hq, hv⟩ O1 T1 => main T1 hq hv O1 (fun s' h => h) fun b s' hb h => ?_)
   cases b
   ·exact absurd rfl hb
   ·exact h
  ·refine BoolOp_or (aF he fun a G1 st1 s1 ⟨u, hq, hv⟩ O1 T1 => main T1 hq hv O1 (fun s' h => h) fun b s' hb h => ?_)
   cases b
   ·exact h
   ·exact absurd rfl hb
theorem vZ {op : BoolOp} {p : Pos} : ∀ (es : List Expr), (∀ e ∈ es, kW prog w B C n e) -> es ≠ [] -> kW prog w B C n (.BoolOp op es p)
 | [], _, ne => absurd rfl ne
 | [e], h, _ => by
  intro A E cw env κ G st s K hA hE hκ O hw
  have he := h e (by simp) A E cw env κ G st s K hA hE hκ O hw
  cases op
  ·refine isTrue_and (aF he fun c G1 st1 s1 hq O1 T1 => ?_)
   cases c
   ·exact (aH (X := BX K) O1 hq).after T1
   ·exact isTrue_and_nil ((aH (X := BX K) O1 hq).after T1)
  ·refine isTrue_or (aF he fun c G1 st1 s1 hq O1 T1 => ?_)
   cases c
   ·exact isTrue_or_nil ((aH (X := BX K) O1 hq).after T1)
   ·exact (aH (X := BX K) O1 hq).after T1
 | e :: e' :: es, h, _ => by
  intro A E cw env κ G st s K hA hE hκ O hw
  have ih := vZ (p := p) (op := op) (e' :: es) (fun x hx => h x (List.mem_cons_of_mem _ hx)) (by simp)
  have he := h e (by simp) A E cw env κ G st s (fun b st1 => if b = (op == .Or) then K b st1 else wBo C op (e' :: es) κ (tst K) st1) hA hE hκ O (by
   refine cast (congrArg (fun q => wE C e κ q st) ?_) hw
   funext v st1
   show (opt (rP (der st1.σ v)) fun b => if b = (op == .Or) then tst K v st1 else _) = opt (rP (der st1.σ v)) fun b => if b = (op == .Or) then K b st1 else _
   cases e1 : rP (der st1.σ v) with
   | none => rfl
   | some b => show (if b = (op == .Or) then tst K v st1 else _) = _; rw [eT e1]; rfl)
  have go : ∀ {G1 : GM} {st1 : St} {s1 : Shared} (c : Bool), c ≠ (op == .Or) -> (if c = (op == .Or) then K c st1 else wBo C op (e' :: es) κ (tst K) st1) -> Ok B w.params G1 env st1 s1 -> wpAny (model prog w) A (isTrue (.BoolOp op (e' :: es) p) env (eval (.BoolOp op (e' :: es) p) env)) (Lands B w.params cw env G1 st1 s1 (BX K)) E s1 :=
   fun c hc hq O1 => ih A E cw env κ _ _ _ K hA hE hκ O1 (by rw [if_neg hc] at hq; exact hq)
  cases op
  ·refine isTrue_and (aF he fun c G1 st1 s1 hq O1 T1 => ?_)
   cases c
   ·exact (aH (X := BX K) O1 hq).after T1
   ·exact aL T1 (go true (by decide) hq O1)
  ·refine isTrue_or (aF he fun c G1 st1 s1 hq O1 T1 => ?_)
   cases c
   ·exact aL T1 (go false (by decide) hq O1)
   ·exact (aH (X := BX K) O1 hq).after T1
end
section
variable {prog : Program} {w : World} {B : Bs} {C : Ctx} {n : Nat}
theorem jR {A : Around} {E : Value -> Shared -> Prop} {cw : Bool} {env : Env} {G : GM} {st : St} {s : Shared} {a b : Value} {pa pb : PV} {op : CmpOp} {K : Bool -> St -> Prop} {R : Value -> Shared -> Prop}
  (hA : Room n A) (O : Ok B w.params G env st s) (ha : VRel w.params G a pa) (hb : VRel w.params G b pb) (h : zbv st.σ op pa pb fun c => K c st)
  (k : ∀ (c : Bool) (G' : GM) (st' : St) (s' : Shared), K c st' -> Ok B w.params G' env st' s' -> Tr cw env G st s G' st' s' -> R (.bool c) s') : wpAny (model prog w) A (compareOp op a b) R E s := by
 refine aF (cw := cw) (bL (Q := fun v st' => ∃ c, v = .bool c /\ K c st') O
   (zeD hA O.rep.inh O.rep.cellsOk ha hb (kL (fun c hc => ⟨c, rfl, hc⟩) h))) fun cv G2 st2 s2 ⟨v, ⟨c, hc, hq2⟩, hv2⟩ O2 T2 => ?_
 subst hc
 simp only [VRel] at hv2; subst hv2
 exact k c G2 st2 s2 hq2 O2 T2
theorem zbb {p : Pos} : ∀ (cs : List Expr) (ops : List CmpOp), (∀ e ∈ cs, bT prog w B C n e) -> cs.length = ops.length ->
  ∀ (A : Around) (E : Value -> Shared -> Prop) (cw : Bool) (env : Env) (κ : Kn) (G : GM) (st : St) (s : Shared) (Q : PV -> St -> Prop) (a : Value) (pa : PV), Room n A -> EnvOk env -> KOk κ env -> Ok B w.params G env st s ->
   VRel w.params G a pa -> wCh C cs ops κ pa Q st -> wpAny (model prog w) A (compareChain p a ops (evalEach cs env)) (Lands B w.params cw env G st s (VX w.params Q)) E s
 | [], ops, _, _ => by
  intro A E cw env κ G st s Q a pa hA hE hκ O ha hw
  exact False.elim hw
 | [r], [op], h, _ => by
  intro A E cw env κ G st s Q a pa hA hE hκ O ha hw
  exact chain_last (aF (h r (by simp) A E cw env κ G st s _ hA hE hκ O hw) fun b G1 st1 s1 ⟨u, hq, hv⟩ O1 T1 =>
   aL T1 (jR (K := fun c st' => ([] : List CmpOp).isEmpty = true /\ Q (.bool c) st') hA O1 (ha.mono T1.ext) hv hq fun c G2 st2 s2 hq2 O2 T2 => (aH (X := VX w.params Q) O2 ⟨_, hq2.2, by simp only [VRel]⟩).after T2))
 | r :: r' :: rs, op :: op' :: ops, h, hl => by
  intro A E cw env κ G st s Q a pa hA hE hκ O ha hw
  have ih := zbb (p := p) (r' :: rs) (op' :: ops) (fun x hx => h x (List.mem_cons_of_mem _ hx)) (by simpa using hl)
  refine chain_link (aF (h r (by simp) A E cw env κ G st s _ hA hE hκ O hw) fun b G1 st1 s1 ⟨u, hq, hv⟩ O1 T1 => ?_)
  refine jR (cw := cw) (K := fun c st' => if c = true then wCh C (r' :: rs) (op' :: ops) κ u Q st' else Q (.bool false) st') hA O1 (ha.mono T1.ext) hv hq fun c G2 st2 s2 hq2 O2 T2 => ?_
  refine wpAny_truthy_bool ?_
  cases c
  ·exact (aH (X := VX w.params Q) O2 ⟨.bool false, hq2, by simp only [VRel]⟩).after (T1.trans T2)
  ·exact aL (T1.trans T2) (ih A E cw env κ G2 st2 s2 Q b u hA hE hκ O2 (hv.mono T2.ext) hq2)
theorem vY {p : Pos} : ∀ (cs : List Expr) (ops : List CmpOp), (∀ e ∈ cs, bT prog w B C n e) -> cs.length = ops.length ->
  ∀ (A : Around) (E : Value -> Shared -> Prop) (cw : Bool) (env : Env) (κ : Kn) (G : GM) (st : St) (s : Shared) (K : Bool -> St -> Prop) (a : Value) (pa : PV), Room n A -> EnvOk env -> KOk κ env -> Ok B w.params G env st s ->
   VRel w.params G a pa -> wCh C cs ops κ pa (tst K) st -> wpAny (model prog w) A (testChain p a ops (evalEach cs env)) (Lands B w.params cw env G st s (BX K)) E s
 | [], ops, _, _ => by
  intro A E cw env κ G st s Q a pa hA hE hκ O ha hw
  exact False.elim hw
 | [r], [op], h, _ => by
  intro A E cw env κ G st s K a pa hA hE hκ O ha hw
  exact test_last (aF (h r (by simp) A E cw env κ G st s _ hA hE hκ O hw) fun b G1 st1 s1 ⟨u, hq, hv⟩ O1 T1 =>
   jR (cw := cw) (K := fun c st' => ([] : List CmpOp).isEmpty = true /\ tst K (.bool c) st') hA O1 (ha.mono T1.ext) hv hq fun c G2 st2 s2 hq2 O2 T2 =>
    wpAny_truthy_bool ((aH (X := BX K) O2 (by have hq2 := hq2.2; rwa [eT (b := c) rfl] at hq2)).after (T1.trans T2)))
 | r :: r' :: rs, op :: op' :: ops, h, hl => by
  intro A E cw env κ G st s K a pa hA hE hκ O ha hw
  have ih := vY (p := p) (r' :: rs) (op' :: ops) (fun x hx => h x (List.mem_cons_of_mem _ hx)) (by simpa using hl)
  refine test_link (aF (h r (by simp) A E cw env κ G st s _ hA hE hκ O hw) fun b G1 st1 s1 ⟨u, hq, hv⟩ O1 T1 => ?_)
  refine jR (cw := cw) (K := fun c st' => if c = true then wCh C (r' :: rs) (op' :: ops) κ u (tst K) st' else tst K (.bool false) st') hA O1 (ha.mono T1.ext) hv hq fun c G2 st2 s2 hq2 O2 T2 => ?_
  refine wpAny_truthy_bool ?_
  cases c
  ·exact (aH (X := BX K) O2 hq2).after (T1.trans T2)
  ·exact aL (T1.trans T2) (ih A E cw env κ G2 st2 s2 K b u hA hE hκ O2 (hv.mono T2.ext) hq2)
theorem zbT {l : Expr} {ops : List CmpOp} {cs : List Expr} {p : Pos} (hl : bT prog w B C n l) (h : ∀ e ∈ cs, bT prog w B C n e) (hlen : cs.length = ops.length) (hm : lastMarks ops cs = false) :
  bT prog w B C n (.Compare l ops cs p) := by
 intro A E cw env κ G st s Q hA hE hκ O hw
 rw [arm_eval_Compare, markedEach_of_false _ _ _ hm]
 exact wpAny_bind (aF (hl A E cw env κ G st s _ hA hE hκ O hw) fun a G1 st1 s1 ⟨u, hq, hv⟩ O1 T1 =>
  aL T1 (zbb cs ops h hlen A E cw env κ G1 st1 s1 Q a u hA hE hκ O1 hv hq))
theorem zX {l : Expr} {ops : List CmpOp} {cs : List Expr} {p : Pos} (hl : bT prog w B C n l) (h : ∀ e ∈ cs, bT prog w B C n e) (hlen : cs.length = ops.length) (hm : lastMarks ops cs = false) :
  kW prog w B C n (.Compare l ops cs p) := by
 intro A E cw env κ G st s K hA hE hκ O hw
 show wpAny _ _ (do testChain p (<- PySem.eval l env) ops (markedEach ops cs (evalEach cs env))) _ _ _
 rw [markedEach_of_false _ _ _ hm]
 exact wpAny_bind (aF (hl A E cw env κ G st s _ hA hE hκ O hw) fun a G1 st1 s1 ⟨u, hq, hv⟩ O1 T1 =>
  aL T1 (vY cs ops h hlen A E cw env κ G1 st1 s1 K a u hA hE hκ O1 hv hq))
theorem zbS {e : Expr} {conv : Int} {sp : Option Expr} {p : Pos} (he : bT prog w B C n e) : bT prog w B C n (.FormattedValue e conv sp p) := by
 intro A E cw env κ G st s Q hA hE hκ O hw
 obtain ⟨rfl, h2, hw⟩ := hw
 cases Option.isNone_iff_eq_none.mp h2
 refine FormattedValue_plain (aF (he A E cw env κ G st s _ hA hE hκ O hw) fun v G1 st1 s1 ⟨u, hq, hv⟩ O1 T1 => ?_)
 obtain ⟨y, rfl, hq⟩ := cZ hq
 obtain ⟨t, rfl, oky⟩ := (show ∃ t, v = .str ⟨y.toArray⟩ t /\ okStr y from hv)
 have tk := O1.rep.tk
 refine wpAny_formatField_str ?_ ?_ (show y.length <= sizeLine from oky.2)
 ·exact (aH (X := VX w.params Q) O1 ⟨.str y, hq, t, rfl, oky⟩).after T1
 ·exact (dU (X := VX w.params Q) O1 (GS.toks O1.rep.inh (s1.toks + 1)) (Nat.le_succ_of_le tk) ⟨.str y, hq, _, rfl, oky⟩).after T1
theorem n8 : ∀ (es : List Expr), (∀ e ∈ es, bT prog w B C n e) -> ∀ (A : Around) (E : Value -> Shared -> Prop) (cw : Bool) (env : Env) (κ : Kn) (G : GM) (st : St) (s : Shared) (acc : List Nat) (Q : PV -> St -> Prop), Room n A -> EnvOk env -> KOk κ env -> Ok B w.params G env st s -> okStr acc ->
  wJ C es κ acc Q st -> wpAny (model prog w) A (joinParts ⟨acc.toArray⟩ (evalEach es env)) (Lands B w.params cw env G st s (VX w.params Q)) E s
 | [], _ => by
  intro A E cw env κ G st s acc Q hA hE hκ O ha hw
  exact joinParts_nil (dU (X := VX w.params Q) O (GS.toks O.rep.inh (s.toks + 1)) (Nat.le_succ_of_le O.rep.tk) ⟨.str acc, hw, _, rfl, ha⟩) (show acc.length <= sizeLine from ha.2)
 | e :: es, h => by
  intro A E cw env κ G st s acc Q hA hE hκ O ha hw
  refine joinParts_cons (aF (h e List.mem_cons_self A E cw env κ G st s _ hA hE hκ O hw) fun v G1 st1 s1 ⟨u, hq, hv⟩ O1 T1 => ?_)
  obtain ⟨y, rfl, hl, hq⟩ := cZ hq
  obtain ⟨t, rfl, oky⟩ := (show ∃ t, v = .str ⟨y.toArray⟩ t /\ okStr y from hv)
  have e : (⟨acc.toArray⟩ : Str) ++ ⟨y.toArray⟩ = ⟨(acc ++ y).toArray⟩ := by apply Str.ext'; simp [Str.cps_append]
  show ((⟨acc.toArray⟩ : Str) ++ ⟨y.toArray⟩).length <= sizeLine /\ _
  rw [e]
  refine ⟨hl, aL T1 (n8 es (fun x hx => h x (List.mem_cons_of_mem _ hx)) A E cw env κ G1 st1 s1 (acc ++ y) Q hA hE hκ O1 ⟨fun c hc => (List.mem_append.mp hc).elim (ha.1 c) (oky.1 c), hl⟩ hq)⟩
theorem zR {es : List Expr} {p : Pos} (h : ∀ e ∈ es, bT prog w B C n e) : bT prog w B C n (.JoinedStr es p) := by
 intro A E cw env κ G st s Q hA hE hκ O hw
 obtain ⟨h2, hw⟩ := hw
 match es, h2, hw, h with
 | e1 :: e2 :: es, _, hw, h => exact JoinedStr_many (n8 _ h A E cw env κ G st s [] Q hA hE hκ O ⟨fun c h => (by cases h), Nat.zero_le _⟩ hw)
theorem iB {e : Expr} (h : b9 e = true) (es : List Expr) (env : Env) : starEach (e :: es) env = (false, PySem.eval e env) :: starEach es env := by
 cases e <;> first | rfl | cases h
theorem eV {p : Pos} : ∀ (es : List Expr), (∀ e ∈ es, bT prog w B C n e) -> es.all b9 = true ->
  ∀ (A : Around) (E : Value -> Shared -> Prop) (cw : Bool) (env : Env) (κ : Kn) (G : GM) (st : St) (s : Shared) (Q : List PV -> St -> Prop), Room n A -> EnvOk env -> KOk κ env -> Ok B w.params G env st s ->
   wEs C es κ Q st -> wpAny (model prog w) A (spliced (backTo p (starEach es env))) (Lands B w.params cw env G st s (VsX w.params Q)) E s
 | [], _, _ => by
  intro A E cw env κ G st s Q hA hE hκ O hw
  exact Calls.spliced_nil (aH O ⟨[], hw, .nil⟩)
 | e :: es, h, hs => by
  intro A E cw env κ G st s Q hA hE hκ O hw
  simp only [List.all_cons, Bool.and_eq_true] at hs
  rw [iB hs.1]
  show wpAny _ _ (spliced ((false, PySem.eval e env) :: backTo p (starEach es env))) _ _ _
  exact Calls.spliced_cons (aF (h e (by simp) A E cw env κ G st s _ hA hE hκ O hw) fun a G1 st1 s1 ⟨u, hq, hv⟩ O1 T1 =>
   aF (eV es (fun x hx => h x (List.mem_cons_of_mem _ hx)) hs.2 A E cw env κ G1 st1 s1 _ hA hE hκ O1 hq) fun vs G2 st2 s2 ⟨us, hq2, hv2⟩ O2 T2 =>
    (aH (X := VsX w.params Q) O2 ⟨u :: us, hq2, .cons (hv.mono T2.ext) hv2⟩).after (T1.trans T2))
theorem mH {p : Pos} {f : Value} (es : List Expr) (h : ∀ e ∈ es, bT prog w B C n e) (hs : es.all b9 = true)
  (A : Around) (E : Value -> Shared -> Prop) (cw : Bool) (env : Env) (κ : Kn) (G : GM) (st : St) (s : Shared) (Q : List PV -> St -> Prop) (hA : Room n A) (hE : EnvOk env) (hκ : KOk κ env) (O : Ok B w.params G env st s)
  (hw : wEs C es κ Q st) : wpAny (model prog w) A (evalArgs f true (backTo p (starEach es env)) []) (fun a s' => ∃ vs, a = ⟨vs, []⟩ /\ Lands B w.params cw env G st s (VsX w.params Q) vs s') E s := by
 have hh := eV (p := p) es h hs A E cw env κ G st s Q hA hE hκ O hw
 cases es with
 | nil =>
  exact PySem.evalArgs_none ⟨[], rfl, aH O ⟨[], hw, .nil⟩⟩
 | cons e es =>
  simp only [List.all_cons, Bool.and_eq_true] at hs
  rw [iB hs.1] at hh ⊢
  exact Calls.evalArgs_plain (wpAny_mono hh (fun vs s' x => ⟨vs, rfl, x⟩) fun _ _ e => e)
theorem jU {p : Pos} : ∀ (es : List Expr) (env : Env), es.all b9 = true -> (backTo p (starEach es env)).any (·.1) = false
 | [], _, _ => rfl
 | e :: es, env, h => by
  simp only [List.all_cons, Bool.and_eq_true] at h
  rw [iB h.1]
  exact jU es env h.2
theorem g9 {p : Pos} : ∀ (es : List Expr) (env : Env), es.all b9 = true -> (backTo p (starEach es env)).all (fun x => !x.1) = true
 | [], _, _ => rfl
 | e :: es, env, h => by
  simp only [List.all_cons, Bool.and_eq_true] at h
  rw [iB h.1]
  exact g9 es env h.2
theorem dH {A : Around} {E : Value -> Shared -> Prop} {s : Shared} {pos : Pos} {f : Value} {first : List Value} {args : List (Bool × Sem Value)} {Q : Value -> Shared -> Prop} (hst : args.any (·.1) = false)
  (h : wpAny (model prog w) A (evalArgs f true args []) (fun a s₁ => KeepsAt prog w s₁.heap f /\ wpAny (model prog w) A (call f (first ++ a.pos) a.kw) Q E s₁) E s) :
  wpAny (model prog w) A (callWith pos f first args []) Q E s := by
 unfold callWith
 refine wpAny_bind (wpAny_holding (wpAny_mono h (fun a s₁ h₁ => wpAny_bind (wpAny_standAt ?_)) fun _ _ x => x))
 obtain ⟨⟨k, hk⟩, hc⟩ := h₁
 rw [show (args.any (·.1) || ([] : List (Option Str × Sem Value)).any (·.1.isNone)) = false from (Bool.or_false _).trans hst]
 have fin : ∀ t : Sem Value, wpAny (model prog w) A t Q E s₁ -> wpAny (model prog w) A (t >>= fun r => holding [r] point >>= fun _ => pure r) Q E s₁ :=
  fun t ht => wpAny_bind (wpAny_mono ht (fun r s₂ hr => wpAny_bind (wpAny_holding (wpAny_point (wpAny_pure hr)))) fun _ _ x => x)
 refine wpAny_bind (hk.here ?_)
 cases k <;> dsimp only
 ·refine wpAny_ite ?_
  split
  ·exact fin _ hc
  ·exact fin _ (by unfold callMarked; exact Calls.wpAny_keep hc)
 ·refine wpAny_ite ?_
  split
  ·exact fin _ hc
  ·exact fin _ (by unfold callMarked; exact Calls.wpAny_keep hc)
 ·exact fin _ hc
 ·exact fin _ (wpAny_operate' hc)
theorem dR (h : Heap) (id : String) : KeepsAt prog w h (.builtin id) := ⟨.machine, Looks.of_pure rfl⟩
theorem uF (h : Heap) (id : String) : KeepsAt prog w h (.type id) := ⟨.machine, Looks.of_pure rfl⟩
theorem KeepsAt.keeps {h h' : Heap} {f : Value} (x : KeepsAt prog w h f) (k : ∀ b o, h.get? b = some o -> h'.get? b = some o) : KeepsAt prog w h' f := let ⟨r, hr⟩ := x; ⟨r, hr.keeps k⟩
theorem zaw (h : Heap) (x : Str) : KeepsAt prog w h (i9 x) := by
 unfold i9
 (repeat' split) <;> first | exact uF _ _ | exact dR _ _
end
theorem pC {σ : Nat -> Option Cell} : ∀ {ps : List PV}, ps.any oV = false -> ps.map (der σ) = ps
 | [], _ => rfl
 | p :: ps, h => by
  simp only [List.any_cons, Bool.or_eq_false_iff] at h
  rw [List.map_cons, pC h.2]
  cases p <;> first | rfl | cases h.1
theorem VRel.scalar {P : Params} {G G' : GM} {v : Value} {p : PV} (h : VRel P G v p) (hs : iY p = true) : VRel P G' v p := by
 cases p <;> first | (cases hs; done) | (simp only [VRel] at h ⊢; exact h)
noncomputable def frz (G : GM) (σ : Nat -> Option Cell) (h : Heap) : GM := fun a => if (fA (σ a)).isSome = true then h.get? a else G a
noncomputable def vC (G : GM) (σ : Nat -> Option Cell) : GM := fun a => if (fA (σ a)).isSome = true then none else G a
theorem gH {c : Option Cell} (h : (fA c).isSome = true) : ∃ xs, c = some (.lst xs) := by
 cases c with
 | none => cases h
 | some c => cases c with
  | lst xs => exact ⟨xs, rfl⟩
  | ins c fs => cases h
section
variable {prog : Program} {w : World} {B : Bs} {C : Ctx} {n : Nat} {P : Params} {G G' : GM} {env : Env} {st : St} {s s' : Shared}
theorem sJ {σ : Nat -> Option Cell} {h : Heap} (hc : ∀ a c, σ a = some c -> G a = none) : Sub G (frz G σ h) := fun a o e => by
 unfold frz
 by_cases q : (fA (σ a)).isSome = true
 ·obtain ⟨xs, q⟩ := gH q
  rw [hc a _ q] at e; cases e
 ·rw [if_neg q]; exact e
theorem kA (R : Rep P G env st s) : Sub G (frz G st.σ s.heap) := sJ fun a c e => (R.cells a c e).2.1
theorem zbl (R : Rep P G env st s) : InH (frz G st.σ s.heap) s.heap where
 at_ := fun a o e => by
  unfold frz at e
  by_cases q : (fA (st.σ a)).isSome = true
  ·rw [if_pos q] at e; exact e
  ·rw [if_neg q] at e; exact R.inh.at_ a o e
 px := by
  unfold frz
  rw [if_neg fun q => by
   obtain ⟨xs, q⟩ := gH q
   exact (R.cells _ _ q).1.nx R.inh.tab rfl]
  exact R.inh.px
 tab := R.inh.tab
theorem zcr (R : Rep P G env st s) {v : Value} {p : PV} (h : VRel P G v p) : VRel P (frz G st.σ s.heap) v (der st.σ p) := by
 cases p with
 | ptr a =>
  show VRel P (frz G st.σ s.heap) v (Option.casesOn (motive := fun _ => PV) (fA (st.σ a)) (.ptr a) .list)
  by_cases q : (fA (st.σ a)).isSome = true
  ·obtain ⟨xs, e⟩ := gH q
   simp only [VRel] at h; subst h
   obtain ⟨⟨vs, m, h1, h2, h3⟩, _⟩ := R.cells a _ e
   have hf : frz G st.σ s.heap a = s.heap.get? a := if_pos q
   rw [e]
   simp only [fA, VRel]
   exact ⟨a, _, vs, m, rfl, hf.trans h1, rfl, rfl, rfl, h2, h3.mono (kA R)⟩
  ·cases e : fA (st.σ a) with
   | none => exact h.mono (kA R)
   | some xs => rw [e] at q; exact absurd rfl q
 | _ => exact h.mono (kA R)
theorem sL (R : Rep P G env st s) : ∀ {vs : List Value} {ps : List PV}, VRels P G vs ps -> VRels P (frz G st.σ s.heap) vs (ps.map (der st.σ))
 | vs, [], h => h
 | vs, p :: ps, h => let ⟨v, r, e, h1, h2⟩ := h; e ▸ .cons (zcr R h1) (sL R h2)
theorem zB (R : Rep P G env st s) (g : GS (frz G st.σ s.heap) s G' s') : GS G s (vC G' st.σ) s' where
 ext := fun a o e => by
  unfold vC
  by_cases q : (fA (st.σ a)).isSome = true
  ·obtain ⟨xs, q⟩ := gH q
   rw [(R.cells a _ q).2.1] at e; cases e
  ·rw [if_neg q]; exact g.ext a o (kA R a o e)
 inh := ⟨fun a o e => by
  unfold vC at e
  by_cases q : (fA (st.σ a)).isSome = true
  ·rw [if_pos q] at e; cases e
  ·rw [if_neg q] at e; exact g.inh.at_ a o e, by
  unfold vC
  split
  ·rfl
  ·exact g.inh.px, g.inh.tab⟩
 new := fun a o e => by
  unfold vC at e
  by_cases q : (fA (st.σ a)).isSome = true
  ·rw [if_pos q] at e; cases e
  ·rw [if_neg q] at e
   rcases g.new a o e with h | h
   ·unfold frz at h
    rw [if_neg q] at h; exact .inl h
   ·exact .inr h
 keep := g.keep
 os := g.os
 gens := g.gens
theorem zcJ {A : Around} {E : Value -> Shared -> Prop} {cw : Bool} {f : Value} {F : Fn} {vs : List Value} {ps : List PV} {Q : PV -> St -> Prop} (hA : Room n A) (hF : Meets prog w B n f F) (O : Ok B w.params G env st s)
  (hv : VRels w.params G vs ps) (h : F (ps.map (der st.σ)) fun r => (ps.any oV = false \/ iY r = true) /\ Q r st) :
  wpAny (model prog w) A (call f vs) (Lands B w.params cw env G st s (VX w.params Q)) E s := by
 refine bL O ?_
 by_cases hp : ps.any oV = false
 ·rw [pC hp] at h
  exact (hF.2 A E G s vs ps _ hA O.rep.inh O.rep.tk O.over hv h).mono fun r x => x.2
 ·have hg := hF.2 A E (frz G st.σ s.heap) s vs _ _ hA (zbl O.rep) O.rep.tk (O.over.ext (kA O.rep)) (sL O.rep hv) h
  exact wpAny_mono hg (fun v s' ⟨r, G', ⟨h1, h2⟩, h3, h4⟩ => ⟨r, _, h2, zB O.rep h3, h4.scalar (h1.resolve_left hp)⟩) fun _ _ e => e
theorem zaY {A : Around} {E : Value -> Shared -> Prop} {cw : Bool} {f : Value} {F : Fn} {vs : List Value} {ps : List PV} {Q : PV -> St -> Prop} (hA : Room n A) (hF : Meets prog w B n f F) (O : Ok B w.params G env st s)
  (hv : VRels w.params G vs ps) (h : F ps fun r => Q r st) : wpAny (model prog w) A (call f vs) (Lands B w.params cw env G st s (VX w.params Q)) E s :=
 bL O (hF.2 A E G s vs ps _ hA O.rep.inh O.rep.tk O.over hv h)
theorem zcK {A : Around} {E : Value -> Shared -> Prop} {cw : Bool} {x : Str} {vs : List Value} {ps : List PV} {Q : PV -> St -> Prop} (hA : Room n A) (O : Ok B w.params G env st s)
  (hv : VRels w.params G vs ps) (h : biP x (ps.map (der st.σ)) fun r => Q r st) : wpAny (model prog w) A (call (i9 x) vs) (Lands B w.params cw env G st s (VX w.params Q)) E s :=
 bL O (bi_G hA O.rep.inh (x8 O.rep hv) h)
theorem Ok.keepsAt {f : Value} (O : Ok B P G env st s) (h : KeepsAt prog w B.h₀ f) : KeepsAt prog w s.heap f := h.keeps fun a o e => O.rep.inh.at_ a o (O.over a o e)
theorem zU {x : Str} {np p : Pos} {args : List Expr} (hB : BsOk B) (hC : CtxOk prog w B C n) (h : ∀ e ∈ args, bT prog w B C n e) (hs : args.all b9 = true) (ok : (x == ("__debug__" : Str)) = false) :
  bT prog w B C n (.Call (.Name x np) args [] p) := by
 intro A E cw env κ G st s Q hA hE hκ O hw
 rw [l8] at hw
 obtain ⟨_, hk, hn, hw⟩ := hw
 have go : ∀ (f : Value), KeepsAt prog w B.h₀ f -> (∀ G' st' s' vs ps, Ok B w.params G' env st' s' -> VRels w.params G' vs ps -> fX C x ps st' (fun r => Q r st') -> wpAny (model prog w) A (call f vs) (Lands B w.params cw env G' st' s' (VX w.params Q)) E s') ->
   wpAny (model prog w) A (loadGlobal env x) (fun v s' => v = f /\ s' = s) E s -> wpAny (model prog w) A (PySem.eval (.Call (.Name x np) args [] p) env) (Lands B w.params cw env G st s (VX w.params Q)) E s := by
  intro f hf k hl
  refine wpAny_Call_NameR (wpAny_Name ?_ ok)
  rw [loadName_read hE.kind (hκ.glob hk)]
  refine wpAny_mono hl (fun v s' ⟨e1, e2⟩ => ?_) fun _ _ e => e
  subst e1 e2
  refine dH (jU args env hs) (wpAny_mono (mH args h hs A E cw env κ G st s' _ hA hE hκ O hw) (fun a s1 ⟨vs, ha, G1, st1, ⟨ps, hq, hv⟩, O1, T1⟩ => ?_) fun _ _ e => e)
  subst ha
  exact ⟨O1.keepsAt hf, aL T1 (k G1 st1 s1 vs ps O1 hv hq)⟩
 cases e1 : C.fn x with
 | some F =>
  obtain ⟨u, h1, h2⟩ := hC.fn x F e1
  exact go u h2.1 (fun G' st' s' vs ps O' hv hq => zcJ hA h2 O' hv (by unfold fX at hq; rw [e1] at hq; exact hq)) (dB hB hE O.rep.inh O.over h1 ⟨rfl, rfl⟩)
 | none =>
  cases e2 : C.cls x with
  | some F =>
   obtain ⟨u, h1, h2⟩ := hC.cls x F e2
   exact go u h2.1 (fun G' st' s' vs ps O' hv hq => zaY hA h2 O' hv (by unfold fX at hq; rw [e1, e2] at hq; exact hq)) (dB hB hE O.rep.inh O.over h1 ⟨rfl, rfl⟩)
  | none =>
   by_cases e3 : C.bi x = true
   ·obtain ⟨h1, h2⟩ := hC.bi x e3
    exact go (i9 x) (zaw _ x) (fun G' st' s' vs ps O' hv hq => zcK hA O' hv (by unfold fX at hq; rw [e1, e2] at hq; exact hq.2)) (mW hB hE O.rep.inh O.over h1 h2 ⟨rfl, rfl⟩)
   ·unfold qP at hn
    rw [e1, e2] at hn
    exact absurd (by simpa using hn) e3
end
noncomputable def iL (o : Expr) : Bool := zcL (exc false (fun _ => true) (fun _ => true) (fun _ => false) (fun _ _ _ => true) (fun _ _ => false) (fun _ _ => false) o) (fun f _ _ => (atN f).isSome || (nmE f).any fun x => x != ("super" : Str)) true o
theorem yO {id : Str} {q pos : Pos} {args : List Expr} {kws : List Keyword} (h : (id != ("super" : Str)) = true) (attr : Str) (env : Env) (t : Sem Value) : attributeBase (.Call (.Name id q) args kws pos) attr env t = t := by
 cases args with
 | cons => rfl
 | nil =>
  cases kws with
  | cons => rfl
  | nil =>
   unfold attributeBase
   dsimp only
   rw [h, Bool.true_or, Bool.true_or, Bool.true_or, if_pos rfl]
theorem rC {o : Expr} : iL o = true -> ∀ (attr : Str) (env : Env) (t : Sem Value), attributeBase o attr env t = t := by
 refine dF (P := fun o => iL o = true -> ∀ (attr : Str) (env : Env) (t : Sem Value), attributeBase o attr env t = t) (fun _ _ _ _ _ _ _ => rfl) (fun _ _ _ _ _ _ => rfl) (fun _ _ _ _ _ _ _ => rfl) (fun _ _ _ _ _ _ _ => rfl) (fun _ _ _ _ _ _ _ _ => rfl) (fun _ _ _ _ _ _ _ _ => rfl) (fun f as ks p h attr env t => ?_) (fun _ _ _ _ _ _ _ => rfl) (fun e h1 h2 h => ?_) o
 ·have h : ((atN f).isSome || (nmE f).any fun x => x != ("super" : Str)) = true := h
  cases hf : atN f with
  | some n =>
   obtain ⟨o, p, rfl⟩ := nR hf
   rfl
  | none =>
   rw [hf] at h
   cases hn : nmE f with
   | none => rw [hn] at h; cases h
   | some id =>
    obtain ⟨q, rfl⟩ := eY hn
    exact yO h attr env t
 ·rw [iL, h2, h1] at h
  cases h
section
variable {prog : Program} {w : World} {B : Bs} {C : Ctx} {n : Nat}
theorem kN {A : Around} {E : Value -> Shared -> Prop} {s : Shared} {env : Env} {o : Expr} {name : Str} {apos pos : Pos} {args : List Expr} {Q : Value -> Shared -> Prop}
  (hb : iL o = true) (hs : args.all b9 = true) (hlen : args.length < 30) (hline : (apos.endLine == pos.line) = true)
  (h : wpAny (model prog w) A (PySem.eval o env) (fun ov s₁ => ∃ T mid, PlainAttrs T /\ Slot T name mid /\ typeOf (.builtin mid) = pure (.type "method_descriptor") /\ s₁.TypeIs ov T /\ (∀ a, ov = .ref a -> ∃ ob, s₁.heap.get? a = some ob /\ ob.dict = none) /\
   wpAny (model prog w) A (callWith pos (.builtin mid) [ov] (backTo pos (starEach args env)) []) Q E s₁) E s) :
  wpAny (model prog w) A (PySem.eval (.Call (.Attribute o name apos) args [] pos) env) Q E s := by
 have hform : methodCallForm (args.length + ([] : List Keyword).length) (backTo pos (starEach args env)) (backToKw pos (keywordEach [] env)) = true := by
  unfold methodCallForm
  rw [g9 args env hs]
  exact yQ rfl (decide_eq_true hlen)
 have hpos : methodCallPos true o env apos pos = pure pos := by unfold methodCallPos; simp [hline]
 rw [arm_eval_Call, rC hb]
 refine wpAny_bind (wpAny_mono h (fun ov s₁ ⟨T, mid, h1, h2, h3, h4, h5, h6⟩ => ?_) fun _ _ e => e)
 refine wpAny_bind (wpAny_standAt ?_)
 unfold methodCall
 rw [hform]
 refine wpAny_bind (wpAny_holding (getMethod_builtin h4 h1 h2 h3 h5 ?_))
 exact wpAny_bind (wpAny_of_eq hpos h6)
theorem l9 {s : Shared} {v : Value} {x : List Nat} {P : Params} {G : GM} (h : VRel P G v (.str x)) : s.TypeIs v "str" /\ ∀ a, v = .ref a -> ∃ ob, s.heap.get? a = some ob /\ ob.dict = none := by
 simp only [VRel] at h
 obtain ⟨t, rfl, _⟩ := h
 exact ⟨typeIs_str _ _ _, fun a e => by cases e⟩
theorem wO {G : GM} {env : Env} {st : St} {s : Shared} {name : Str} {o : PV} {v : Value} (O : Ok B w.params G env st s) (hv : VRel w.params G v o) (h : mOk st.σ name o = true) :
  ∃ T, PlainAttrs T /\ Slot T name (dN name o) /\ typeOf (.builtin (dN name o)) = pure (.type "method_descriptor") /\ s.TypeIs v T /\ (∀ a, v = .ref a -> ∃ ob, s.heap.get? a = some ob /\ ob.dict = none) := by
 cases o <;> first | (cases h; done) | skip
 ·rename_i x
  obtain ⟨t1, t2⟩ := l9 (s := s) hv
  refine ⟨"str", PySem.F.plainAttrs_str, ?_⟩
  show Slot "str" name (c7 name) /\ typeOf (.builtin (c7 name)) = _ /\ _
  have h : (name == "startswith" || name == "find" || name == "rfind" || name == "count" || name == "join") = true := h
  rw [Bool.or_eq_true, Bool.or_eq_true, Bool.or_eq_true, Bool.or_eq_true, beq_iff_eq, beq_iff_eq, beq_iff_eq, beq_iff_eq, beq_iff_eq] at h
  rcases h with (((h | h) | h) | h) | h <;> subst h
  ·rw [show c7 "startswith" = "str.startswith" by decide +kernel]; exact ⟨PySem.F.slot_str_startswith, PySem.F.type_str_startswith, t1, t2⟩
  ·rw [show c7 "find" = "str.find" by decide +kernel]; exact ⟨PySem.F.slot_str_find, PySem.F.type_str_find, t1, t2⟩
  ·rw [show c7 "rfind" = "str.rfind" by decide +kernel]; exact ⟨PySem.F.slot_str_rfind, PySem.F.type_str_rfind, t1, t2⟩
  ·rw [show c7 "count" = "str.count" by decide +kernel]; exact ⟨PySem.F.slot_str_count, PySem.F.type_str_count, t1, t2⟩
  ·rw [show c7 "join" = "str.join" by decide +kernel]; exact ⟨PySem.F.slot_str_join, PySem.F.type_str_join, t1, t2⟩
 ·rename_i a
  have h : ((name == "append" || name == "pop") && (fA (st.σ a)).isSome) = true := h
  rw [Bool.and_eq_true, Bool.or_eq_true, beq_iff_eq, beq_iff_eq] at h
  obtain ⟨hn, h2⟩ := h
  obtain ⟨xs, e⟩ := gH h2
  simp only [VRel] at hv; subst hv
  obtain ⟨⟨vs, m, g1, g2, g3⟩, _⟩ := O.rep.cells a _ e
  have t2 : ∀ b, Value.ref a = .ref b -> ∃ ob, s.heap.get? b = some ob /\ ob.dict = none := fun b e => by cases e; exact ⟨_, g1, rfl⟩
  refine ⟨"list", PySem.F.plainAttrs_list, ?_⟩
  show Slot "list" name (if name = "append" then "list.append" else "list.pop") /\ typeOf (.builtin (if name = "append" then "list.append" else "list.pop")) = _ /\ _
  rcases hn with hn | hn <;> subst hn
  ·rw [if_pos rfl]; exact ⟨PySem.F.slot_list_append, PySem.F.type_list_append, ⟨_, g1, rfl⟩, t2⟩
  ·rw [if_neg (by decide +kernel)]; exact ⟨PySem.F.slot_list_pop, PySem.F.type_list_pop, ⟨_, g1, rfl⟩, t2⟩
 ·rename_i es
  have h : ((true && name == "get") || false) = true := h
  rw [Bool.or_false, Bool.true_and, beq_iff_eq] at h
  subst h
  simp only [VRel] at hv
  obtain ⟨a, es', m, rfl, h1, h2, h3⟩ := hv
  have g1 := O.rep.inh.at_ _ _ h2
  exact ⟨"dict", PySem.F.plainAttrs_dict, PySem.F.slot_dict_get, PySem.F.type_dict_get, ⟨_, g1, rfl⟩, fun b e => by cases e; exact ⟨_, g1, rfl⟩⟩
theorem zP {o : Expr} {name : Str} {apos p : Pos} {args : List Expr} (ho : bT prog w B C n o) (h : ∀ e ∈ args, bT prog w B C n e) (hs : args.all b9 = true) (hb : iL o = true) (hlen : args.length < 30)
  (hline : (apos.endLine == p.line) = true) (hr : cK args = none) : bT prog w B C n (.Call (.Attribute o name apos) args [] p) := by
 intro A E cw env κ G st s Q hA hE hκ O hw
 rw [iW, hr] at hw
 refine kN hb hs hlen hline (aF (ho A E cw env κ G st s _ hA hE hκ O hw.2) fun ov G1 st1 s1 ⟨u, ⟨hm, hq⟩, hv⟩ O1 T1 => ?_)
 obtain ⟨T, h1, h2, h3, h4, h5⟩ := wO O1 hv hm
 refine ⟨T, dN name u, h1, h2, h3, h4, h5, ?_⟩
 refine dH (jU args env hs) (wpAny_mono (mH args h hs A E cw env κ G1 st1 s1 _ hA hE hκ O1 hq) (fun a s2 ⟨vs, ha, G2, st2, ⟨ps, hq2, hv2⟩, O2, T2⟩ => ?_) fun _ _ e => e)
 subst ha
 exact ⟨dR _ _, aL (T1.trans T2) (uE O2 (zcb hA O2.rep O2.ct (hv.mono T2.ext) hv2 hq2))⟩
theorem oC {as : List Expr} {x y : Str} (h : cK as = some (x, y)) : ∃ k1 p1 k2 p2, as = [.Constant (.str x) k1 p1, .Constant (.str y) k2 p2] := by
 match as, h with
 | [a, b], h =>
  obtain ⟨p, h1, h⟩ := Option.bind_eq_some_iff.mp h
  obtain ⟨q, h2, e⟩ := Option.map_eq_some_iff.mp h
  cases e
  obtain ⟨k1, p1, rfl⟩ := jQ h1
  obtain ⟨k2, p2, rfl⟩ := jQ h2
  exact ⟨_, _, _, _, rfl⟩
theorem mO {p q : List Nat} (hp : p ≠ []) (hq : q.length = 1) : ∀ (n : Nat) (x : List Nat), (bS p q n x).length <= x.length
 | 0, x => by simp [bS]
 | n + 1, [] => by simp [bS]
 | n + 1, c :: x => by
  unfold bS
  have h1 : 0 < p.length := List.length_pos_iff.mpr hp
  split
  ·have := mO hp hq n ((c :: x).drop p.length)
   simp only [List.length_append, hq, List.length_drop, List.length_cons] at *
   by_cases h2 : p.length <= x.length + 1
   ·omega
   ·rename_i hpre
    have := (List.isPrefixOf_iff_prefix.mp hpre).length_le
    simp only [List.length_cons] at this
    omega
  ·have := mO hp hq n x
   simp only [List.length_cons] at *
   omega
theorem mN {p q : List Nat} : ∀ (n : Nat) (x : List Nat) (c : Nat), c ∈ bS p q n x -> c ∈ x \/ c ∈ q
 | 0, x, c, h => .inl (by simpa [bS] using h)
 | n + 1, [], c, h => by simp [bS] at h
 | n + 1, d :: x, c, h => by
  unfold bS at h
  split at h
  ·rcases List.mem_append.mp h with h | h
   ·exact .inr h
   ·rcases mN n _ c h with h | h
    ·exact .inl (List.mem_of_mem_drop h)
    ·exact .inr h
  ·rcases List.mem_cons.mp h with h | h
   ·subst h; exact .inl (by simp)
   ·rcases mN n _ c h with h | h
    ·exact .inl (List.mem_cons_of_mem _ h)
    ·exact .inr h
theorem zN {o : Expr} {name : Str} {apos p : Pos} {args : List Expr} {x y : Str} (ho : bT prog w B C n o) (hb : iL o = true)
  (hline : (apos.endLine == p.line) = true) (hr : cK args = some (x, y)) (hoy : okC (.str y) = true) : bT prog w B C n (.Call (.Attribute o name apos) args [] p) := by
 intro A E cw env κ G st s Q hA hE hκ O hw
 rw [iW, hr] at hw
 obtain ⟨k1, p1, k2, p2, rfl⟩ := oC hr
 refine kN hb rfl (show 2 < 30 by decide) hline (aF (ho A E cw env κ G st s _ hA hE hκ O hw.2) fun ov G1 st1 s1 ⟨u, hq, hv⟩ O1 T1 => ?_)
 obtain ⟨z, rfl, rfl, hz, hx, hy, hxy, hq⟩ := cZ hq
 obtain ⟨t1, t2⟩ := l9 (s := s1) hv
 refine ⟨"str", "str.replace", PySem.F.plainAttrs_str, PySem.F.slot_str_replace, PySem.F.type_str_replace, t1, t2, ?_⟩
 refine dH rfl (Calls.evalArgs_plain (Calls.spliced_cons (Calls.Constant_str (k := k1) (pos := p1) (Calls.spliced_cons (Calls.Constant_str (k := k2) (pos := p2) (Calls.spliced_nil ?_))))))
 have g := GS.toks O1.rep.inh (s1.toks + 1 + 1)
 have O2 := O1.grow g (Nat.le_add_left 1 _)
 refine ⟨dR _ _, aL (T1.trans g.tr) (bL O2 ?_)⟩
 simp only [VRel] at hv
 obtain ⟨t, rfl, okz⟩ := hv
 have tk := O1.rep.tk
 simp only [okC, Bool.and_eq_true, List.all_eq_true, decide_eq_true_eq] at hoy
 have okr : okStr (iI x.cps.toList y.cps.toList z) := by
  refine ⟨fun c hc => ?_, Nat.le_trans (mO hx hy _ _) okz.2⟩
  rcases mN _ _ c hc with h | h
  ·exact okz.1 c h
  ·exact hoy.1 c h
 have ly : y.length = 1 := by rw [<- hy]; exact (Array.length_toList).symm
 refine SC.replace (Nat.ne_of_gt tk) (Nat.succ_ne_zero _) (Nat.ne_of_lt (Nat.lt_succ_self _)) (beq_eq_false_iff_ne.mpr hxy) (by rw [bW, ly]; omega) fun t' k => ⟨_, G1, hq, GS.toks O2.rep.inh k, ?_⟩
 have main := tP z x.cps.toList y.cps.toList hx
 rw [show (⟨x.cps.toList.toArray⟩ : Str) = x by simp, show (⟨y.cps.toList.toArray⟩ : Str) = y by simp] at main
 rw [main]
 simp only [VRel]
 exact ⟨t', rfl, okr⟩
end
section
variable {prog : Program} {w : World} {B : Bs} {C : Ctx} {n : Nat}
theorem uK {P : Params} {G : GM} {v : Value} {p : PV} (h : VRel P G v p) : handedIn v = true := by
 cases p <;> simp only [VRel] at h
 ·subst h; rfl
 ·subst h; rfl
 ·obtain ⟨t, rfl⟩ := h; rfl
 ·obtain ⟨t, rfl, _⟩ := h; rfl
 ·obtain ⟨a, _, _, _, rfl, _⟩ := h; rfl
 ·obtain ⟨a, _, _, _, rfl, _⟩ := h; rfl
 ·obtain ⟨vs, ⟨x, dx, rfl, _⟩, _⟩ := h; rfl
 ·obtain ⟨a, _, _, _, rfl, _⟩ := h; rfl
 ·subst h; rfl
 ·obtain ⟨a, _, _, rfl, _⟩ := h; rfl
theorem zdW {A : Around} {E : Value -> Shared -> Prop} {G : GM} {s : Shared} {name : Str} {v : Value} {p : PV} {K : PV -> Prop} {x : Bool} (hB : BsOk B) (hC : CtxOk prog w B C n) (hi : InH G s.heap) (ho : Over B G)
  (hv : VRel w.params G v p) (h : za1 C name p K) : GW (model prog w) A w.params E G s (getAttr v name x) K := by
 cases p <;> first | exact False.elim h | skip
 rename_i c fs
 simp only [VRel] at hv
 obtain ⟨vs, ⟨a, dx, rfl, h1, h2⟩, h3⟩ := hv
 have I : PySem.W.InstAt s.heap a _ c (some gU) := ⟨hi.at_ _ _ h1, rfl, rfl, hi.at_ _ _ h2⟩
 have X : B.K.In s.heap := hB.kin.keeps fun b o e => hi.at_ _ _ (ho _ _ e)
 have h : nV (C.slot c name) (opt (C.cval c name) K) fun i => opt fs[i]? K := h
 cases hs : C.slot c name with
 | some i =>
  rw [hs] at h
  obtain ⟨s1, s2, q, s3, s4, _⟩ := hC.slot c name i hs
  obtain ⟨u, hu, h⟩ := bQ h
  obtain ⟨uv, e1, e2⟩ := h3.get hu
  refine get_bind X I s1 s3 s2 ?_
  refine wpAny_call (slot_get (v := uv) (od := some gU) (X.keeps fun _ _ e => e) ⟨I.at_, I.cls, I.no, hi.at_ _ _ h2⟩ s4 ?_ ?_)
  ·show ((vs.map some).toArray[i]?).join = _
   rw [List.getElem?_toArray, List.getElem?_map, e1]; rfl
  ·dsimp only
   rw [handedOut_of (uK e2)]
   exact wpAny_pure ⟨u, G, h, GS.toks hi _, e2⟩
 | none =>
  rw [hs] at h
  obtain ⟨u, hu, h⟩ := bQ h
  obtain ⟨s1, uv, s2, s3, s4⟩ := hC.cval c name u hu
  exact get_value X I s1 s2 s3 ⟨u, G, h, GS.toks hi _, s4.mono ho⟩
theorem zV {o : Expr} {name : Str} {p : Pos} (hB : BsOk B) (hC : CtxOk prog w B C n) (ho : bT prog w B C n o) (hb : iL o = true) : bT prog w B C n (.Attribute o name p) := by
 intro A E cw env κ G st s Q hA hE hκ O hw
 rw [arm_eval_Attribute, rC hb]
 refine wpAny_bind (aF (ho A E cw env κ G st s _ hA hE hκ O hw) fun ov G1 st1 s1 ⟨u, hq, hv⟩ O1 T1 => ?_)
 refine wpAny_bind (wpAny_standAt (wpAny_bind (wpAny_holding ?_)))
 refine aF (cw := cw) (bL (Q := Q) O1 (zdW hB hC O1.rep.inh O1.over hv hq)) fun r G2 st2 s2 hr O2 T2 => ?_
 exact wpAny_bind (wpAny_letTemporaryGo (wpAny_pure ((aH (X := VX w.params Q) O2 hr).after (T1.trans T2))))
theorem zeu {A : Around} {E : Value -> Shared -> Prop} {G : GM} {s : Shared} {v iv : Value} {p i : PV} {K : PV -> Prop} (hi : InH G s.heap) (hv : kR w.params G s.heap v p) (hiv : VRel w.params G iv i) (h : zc5 p i K) :
  GW (model prog w) A w.params E G s (getItem v iv) K /\ ∃ T id, s.TypeIs v T /\ typeLookup (.type T) "__getitem__" = pure (some (.builtin id)) := by
 obtain ⟨k, rfl, h⟩ := bP h
 cases p <;> first | exact False.elim h | skip
 ·obtain ⟨c, hc, h⟩ := bQ h
  exact ⟨zco hi hv hiv hc h, "str", _, (l9 (P := w.params) (G := G) hv).1, PySem.F.slot_str_getitem.lookup⟩
 ·obtain ⟨c, hc, h⟩ := bQ h
  refine ⟨zcn hi hv hiv hc h, "tuple", _, ?_, PySem.F.slot_tuple_getitem.lookup⟩
  simp only [kR, VRel] at hv
  obtain ⟨a, o, vs, m, rfl, h1, h2, _⟩ := hv
  exact ⟨o, hi.at_ _ _ h1, h2⟩
 ·obtain ⟨c, hc, h⟩ := bQ h
  refine ⟨zaB hi hv hiv hc h, "list", _, ?_, PySem.F.slot_list_getitem.lookup⟩
  obtain ⟨a, o, vs, m, rfl, h1, h2, _⟩ := hv
  exact ⟨o, h1, h2⟩
theorem zbR {o i : Expr} {p : Pos} (ho : bT prog w B C n o) (hi : bT prog w B C n i) (hs : ∀ a b, subscripted i false a b = operate [a, b] (getItem a b)) (hu : y0 i = false) : bT prog w B C n (.Subscript o i p) := by
 intro A E cw env κ G st s Q hA hE hκ O hw
 rw [zdc, hu] at hw
 refine Subscript_ (aF (ho A E cw env κ G st s _ hA hE hκ O hw) fun ov G1 st1 s1 ⟨u, hq, hv⟩ O1 T1 => ?_)
 refine aF (hi A E cw env κ G1 st1 s1 _ hA hE hκ O1 hq) fun iv G2 st2 s2 ⟨u2, hq2, hv2⟩ O2 T2 => ?_
 obtain ⟨g, T, id, t1, t2⟩ := zeu (prog := prog) (A := A) (E := E) O2.rep.inh (O2.rep.view (hv.mono T2.ext)) hv2 hq2
 exact tail_any t1 t2 (aL (T1.trans T2) (bL O2 g)) (hs ov iv)
theorem rV {l : Option Expr} (h : ∀ e, l = some e -> bT prog w B C n e) (A : Around) (E : Value -> Shared -> Prop) (cw : Bool) (env : Env) (κ : Kn) (G : GM) (st : St) (s : Shared) (Q : Option Int -> St -> Prop) (hA : Room n A) (hE : EnvOk env) (hκ : KOk κ env) (O : Ok B w.params G env st s)
  (hw : wOp C l κ Q st) : wpAny (model prog w) A (PySem.evalPart l env) (Lands B w.params cw env G st s (fun _ st' v => ∃ i, Q i st' /\ ∃ t, v = partValue (i.map (·, t)))) E s := by
 cases l with
 | none =>
  rw [evalPart_none]
  exact wpAny_pure (aH O ⟨none, hw, s.toks, rfl⟩)
 | some e =>
  rw [evalPart_some]
  refine w2 (h e rfl A E cw env κ G st s _ hA hE hκ O hw) fun v G' st' ⟨p, hq, hv⟩ => ?_
  obtain ⟨i, rfl, hq⟩ := bP hq
  simp only [VRel] at hv
  obtain ⟨t, rfl⟩ := hv
  exact ⟨some i, hq.2.2, t, rfl⟩
theorem zbW {A : Around} {E : Value -> Shared -> Prop} {G : GM} {s : Shared} {v vl vu : Value} {y : PV} {q : Addr} {lo hi : Option Int} {K : PV -> Prop} (hi' : InH G s.heap) (hv : kR w.params G s.heap v y)
  (hs : s.heap.get? q = some { cls := .type "slice", data := .fields #[vl, vu, .none] }) (hl : ∃ t, vl = partValue (lo.map (·, t))) (hu : ∃ t, vu = partValue (hi.map (·, t))) (h : zc3 y lo hi K) :
  ∃ T ci, s.TypeIs v T /\ typeLookup (.type T) "__getitem__" = pure (some (.builtin ci)) /\ GW (model prog w) A w.params E G s (getItem v (.ref q)) K := by
 cases y <;> first | exact False.elim h | skip
 ·rename_i y
  exact ⟨"str", _, (l9 (P := w.params) (G := G) hv).1, PySem.F.slot_str_getitem.lookup, fQ (sl := .none) (lo := lo) (hi := hi) (r := .str (slc y lo hi)) hi' hv hs hl hu rfl h⟩
 ·rename_i y
  have t3 := fQ (prog := prog) (w := w) (A := A) (E := E) (K := K) (sl := .none) (lo := lo) (hi := hi) (r := .list (slc y lo hi)) hi' hv hs hl hu rfl h
  obtain ⟨a, ob, vs, m, rfl, h1, h2, _⟩ := hv
  exact ⟨"list", _, ⟨ob, h1, h2⟩, PySem.F.slot_list_getitem.lookup, t3⟩
theorem vT {o : Expr} {l u : Option Expr} {sp p : Pos} (ho : bT prog w B C n o) (hl : ∀ e, l = some e -> bT prog w B C n e) (hu : ∀ e, u = some e -> bT prog w B C n e) :
  bT prog w B C n (.Subscript o (.Slice l u none sp) p) := by
 intro A E cw env κ G st s Q hA hE hκ O hw
 rw [zdd] at hw
 refine Subscript_ (aF (ho A E cw env κ G st s _ hA hE hκ O hw) fun ov G1 st1 s1 ⟨x, hq, hv⟩ O1 T1 => ?_)
 refine PySem.wpAny_Slice (aF (rV hl A E cw env κ G1 st1 s1 _ hA hE hκ O1 hq.2) fun lv G2 st2 s2 ⟨lo, hq2, hlv⟩ O2 T2 => ?_)
 refine aF (rV hu A E cw env κ G2 st2 s2 _ hA hE hκ O2 hq2) fun uv G3 st3 s3 ⟨hi, hq3, huv⟩ O3 T3 => ?_
 refine wpAny_pure ?_
 have g : GS G3 s3 G3 { s3 with heap := s3.heap.push { cls := .type "slice", data := .fields #[lv, uv, .none] } } := GS.heap O3.rep.inh s3.toks fun a o e => Heap.get?_push_of_some _ e
 have O4 := O3.grow g O3.rep.tk
 have hv4 := O4.rep.view (hv.mono (T2.ext.trans T3.ext))
 have hat : (s3.heap.push { cls := .type "slice", data := .fields #[lv, uv, .none] }).get? s3.heap.objs.size = some { cls := .type "slice", data := .fields #[lv, uv, .none] } := Heap.get?_push_size _ rfl
 obtain ⟨T, ci, t1, t2, t3⟩ := zbW (prog := prog) (A := A) (E := E) O4.rep.inh hv4 hat hlv huv hq3
 exact tail_any (ops := [.ref s3.heap.objs.size, ov]) t1 t2 (aL (T1.trans (T2.trans (T3.trans g.tr))) (bL O4 t3)) rfl
theorem tV {A : Around} {E : Value -> Shared -> Prop} {cw : Bool} {env : Env} {G : GM} {st : St} {s : Shared} {pos : Pos} {vs : List Value} {ps : List PV} {Q : PV -> St -> Prop} (O : Ok B w.params G env st s) (hv : VRels w.params G vs ps) (hz : vs.length <= aQ)
  (h : bH C pos ps Q st) : wpAny (model prog w) A (newList vs) (Lands B w.params cw env G st s (VX w.params Q)) E s := by
 unfold bH at h
 by_cases q : C.mutL pos.line = true
 ·rw [if_pos q] at h
  obtain ⟨h1, h2, h3, h4⟩ := O.rep.newCell (cw := cw) O.ct hv hz (k := s.toks) O.rep.tk
  refine wpAny_newObj_type ⟨G, _, ⟨.ptr s.heap.objs.size, h _ h1, by simp [VRel]⟩, ⟨O.over, h2, h3⟩, h4⟩ (by show vs.toArray.size <= sizeLine; rw [List.size_toArray]; exact hz)
 ·rw [if_neg q] at h
  exact bL O (wI O.rep.inh hv hz h)
theorem pX : ∀ (es : List Expr) {κ : Kn} {Q : List PV -> St -> Prop} {st : St}, CtxMono C -> wEs C es κ Q st -> wEs C es κ (fun ps st' => ps.length = es.length /\ Q ps st') st
 | [], _, _, _, _, h => ⟨rfl, h⟩
 | e :: es, _, _, _, hM, h => aT hM e (fun v st1 h1 => bV hM es (fun ps st2 h2 => ⟨congrArg Nat.succ h2.1, h2.2⟩) (pX es hM h1)) h
theorem zQ {es : List Expr} {p : Pos} (hM : CtxMono C) (h : ∀ e ∈ es, bT prog w B C n e) (hs : es.all b9 = true) (hz : es.length <= 1000) : bT prog w B C n (.List es p) := by
 intro A E cw env κ G st s Q hA hE hκ O hw
 rw [arm_eval_List]
 refine wpAny_bind (wpAny_standAt (wpAny_bind (aF (eV es h hs A E cw env κ G st s _ hA hE hκ O (pX es hM hw)) fun vs G1 st1 s1 ⟨ps, ⟨hl, hq⟩, hv⟩ O1 T1 => ?_)))
 exact aL T1 (tV O1 hv (by rw [hv.length, hl]; unfold aQ; omega) hq)
theorem vR {es : List Expr} {x : Nat} {p : Pos} (hM : CtxMono C) (h : ∀ e ∈ es, bT prog w B C n e) (hs : es.all b9 = true) (hz : es.length <= 1000) : bT prog w B C n (.Tuple es x p) := by
 intro A E cw env κ G st s Q hA hE hκ O hw
 rw [arm_eval_Tuple]
 refine wpAny_bind (wpAny_standAt (wpAny_bind (aF (eV es h hs A E cw env κ G st s _ hA hE hκ O (pX es hM hw)) fun vs G1 st1 s1 ⟨ps, ⟨hl, hq⟩, hv⟩ O1 T1 => ?_)))
 exact aL T1 (bL O1 (tU O1.rep.inh hv (by rw [hv.length, hl]; unfold aQ; omega) hq))
end
structure Itr (prog : Program) (w : World) (A : Around) (P : Params) (I : Addr) (G : GM) (items : List PV) (Ws : Nat -> Heap -> Prop) : Prop where
 frame : ∀ i h h', Ws i h -> (∀ o, h.get? I = some o -> h'.get? I = some o) -> InH G h' -> Ws i h'
 item : ∀ i p (s : Shared) (Q : Option Value -> Shared -> Prop) (E : Value -> Shared -> Prop), items[i]? = some p -> Ws i s.heap ->
  (∀ v h' tk, VRel P G v p -> Ws (i + 1) h' -> (∀ b o, b ≠ I -> s.heap.get? b = some o -> h'.get? b = some o) ->
   (∀ (target : Expr) (E' : Value -> Shared -> Prop) (Q' : Unit -> Shared -> Prop), Q' () { s with heap := h', toks := tk } -> wpAny (model prog w) A (letOwnedTupleGo target (.ref I) v) Q' E' { s with heap := h', toks := tk }) ->
   Q (some v) { s with heap := h', toks := tk }) -> wpAny (model prog w) A (pyNext (.ref I)) Q E s
 done : ∀ (s : Shared) (Q : Option Value -> Shared -> Prop) (E : Value -> Shared -> Prop), Ws items.length s.heap ->
  (∀ h' tk, (∀ b o, b ≠ I -> s.heap.get? b = some o -> h'.get? b = some o) -> Q none { s with heap := h', toks := tk }) -> wpAny (model prog w) A (pyNext (.ref I)) Q E s
 alive : ∀ i h, Ws i h -> ∃ o, h.get? I = some o
 self : ∀ i (s : Shared) (Q : Value -> Shared -> Prop) (E : Value -> Shared -> Prop), Ws i s.heap -> Q (.ref I) s -> wpAny (model prog w) A (pyIter (.ref I)) Q E s
section
variable {prog : Program} {w : World} {A : Around} {E : Value -> Shared -> Prop} {s : Shared} {G : GM} {P : Params}
theorem j5 {target : Expr} {I : Addr} {v : Value} {Q : Unit -> Shared -> Prop} (hv : ∀ a, v ≠ .ref a) (h : Q () s) : wpAny (model prog w) A (letOwnedTupleGo target (.ref I) v) Q E s := by
 have : letOwnedTupleGo target (.ref I) v = pure () := by cases target <;> first | rfl | (cases v <;> first | rfl | exact absurd rfl (hv _))
 rw [this]; exact wpAny_pure h
theorem dE {h : Heap} : h.get? h.objs.size = none := by
 cases e : h.get? h.objs.size with
 | none => rfl
 | some o => exact absurd (Heap.lt_size e) (Nat.lt_irrefl _)
theorem zax (hh : A.handled = none) {I ax : Addr} {vs : Array Value} {items : List PV} (hne : ax ≠ I) (hl : ∀ h, InH G h -> h.IsList ax vs) (hr : VRels P G vs.toList items) :
  Itr prog w A P I G items (fun i h => h.IsListIter I ax i /\ h.IsList ax vs) := by
 have W := Walks.list (prog := prog) (w := w) hh I ax hne vs
 have hlen := hr.length
 simp only [Array.length_toList] at hlen
 refine ⟨fun i h h' st hk hi => ⟨st.1.at fun o e => hk o e, hl h' hi⟩, fun i p s Q E hp st hQ => ?_, fun s Q E st hQ => ?_, fun i h st => let ⟨o, ho, _⟩ := st.1; ⟨o, ho⟩, fun i s Q E st hQ => W.self i s Q E st hQ⟩
 ·have hi : i < items.length := (List.getElem?_eq_some_iff.mp hp).1
  refine W.item i s Q E (by omega) st fun v h' tk hv st' hk => ?_
  obtain ⟨q, hq, hvq⟩ := hr.get' (i := i) (v := v) (by simpa using hv)
  rw [hp] at hq; cases hq
  exact hQ v h' tk hvq st' (fun b o hb e => hk b o (by simpa using hb) e) fun target E' Q' hq => letGo_listiter st'.1 hq
 ·exact W.done s Q E (by rw [hlen]; exact st) fun h' tk hk => hQ h' tk fun b o hb e => hk b o (by simpa using hb) e
theorem w4 {I : Addr} {x : List Nat} {St : Nat -> Heap -> Prop} (W : Walks prog w A I [I] [I] x.length (SignAt ⟨x.toArray⟩) St) (al : ∀ i h, St i h -> ∃ o, h.get? I = some o) (ok : okStr x) :
  Itr prog w A P I G (x.map fun c => .str [c]) St := by
 refine ⟨fun i h h' st hk hi => W.frame i h h' st fun b hb o e => by simp only [List.mem_singleton] at hb; subst hb; exact hk o e, fun i p s Q E hp st hQ => ?_, fun s Q E st hQ => ?_, al, fun i s Q E st hQ => W.self i s Q E st hQ⟩
 ·rw [List.getElem?_map, Option.map_eq_some_iff] at hp
  obtain ⟨c, hc, rfl⟩ := hp
  refine W.item i s Q E (List.getElem?_eq_some_iff.mp hc).1 st fun v h' tk hv st' hk => ?_
  obtain ⟨d, u, hd, rfl⟩ := hv
  have : d = c := by
   have hd' : x[i]? = some d := by simpa using hd
   rw [hc] at hd'; cases hd'; rfl
  subst this
  refine hQ _ h' tk ?_ st' (fun b o hb e => hk b o (by simpa using hb) e) fun target E' Q' hq => j5 (fun a e => by cases e) hq
  simp only [VRel]
  exact ⟨u, rfl, mS (ok.1 d (List.mem_of_getElem? hc))⟩
 ·exact W.done s Q E (by simpa using st) fun h' tk hk => hQ h' tk fun b o hb e => hk b o (by simpa using hb) e
theorem w5 (hh : A.handled = none) {I : Addr} {lo hi : Int} :
  Itr prog w A P I G ((List.range (hi - lo).toNat).map fun (k : Nat) => .int (lo + k)) (fun i h => IsRangeIter h I (lo + (i : Nat) * 1) (((hi - lo).toNat : Int) - (i : Nat)) 1) := by
 have W := Walks.range (prog := prog) (w := w) hh I lo 1 (hi - lo).toNat
 refine ⟨fun i h h' st hk hi => W.frame i h h' st fun b hb o e => by simp only [List.mem_singleton] at hb; subst hb; exact hk o e, fun i p s Q E hp st hQ => ?_, fun s Q E st hQ => ?_, fun i h st => ⟨_, st⟩, fun i s Q E st hQ => W.self i s Q E st hQ⟩
 ·rw [List.getElem?_map, Option.map_eq_some_iff] at hp
  obtain ⟨c, hc, rfl⟩ := hp
  have hlt := (List.getElem?_eq_some_iff.mp hc).1
  rw [List.length_range] at hlt
  have : c = i := by rw [List.getElem?_range hlt] at hc; cases hc; rfl
  subst this
  refine W.item c s Q E hlt st fun v h' tk hv st' hk => ?_
  obtain ⟨u, rfl⟩ := hv
  refine hQ _ h' tk ?_ st' (fun b o hb e => hk b o (by simpa using hb) e) fun target E' Q' hq => j5 (fun a e => by cases e) hq
  simp only [VRel]
  exact ⟨u, by simp⟩
 ·exact W.done s Q E (by simpa using st) fun h' tk hk => hQ h' tk fun b o hb e => hk b o (by simpa using hb) e
theorem v6 {lo hj : Int} (h : 0 <= lo /\ lo <= 16777216 /\ 0 <= hj /\ hj <= 16777216) : Builtin.Range.small lo hj 1 = true := by
 have f : ∀ i : Int, 0 <= i -> i <= 16777216 -> Builtin.Range.rangeFitsLong i = true := by
  intro i h0 h1
  unfold Builtin.Range.rangeFitsLong
  simp
  omega
 have e : 0 <= Builtin.Range.rangeSize lo hj 1 /\ Builtin.Range.rangeSize lo hj 1 <= 16777216 := by
  unfold Builtin.Range.rangeSize
  rw [if_pos (by decide)]
  split <;> omega
 simp only [Builtin.Range.small, Bool.and_eq_true, Bool.or_eq_true]
 refine ⟨⟨⟨⟨f _ h.1 h.2.1, f _ h.2.2.1 h.2.2.2⟩, f _ (by omega) (by omega)⟩, f _ e.1 e.2⟩, .inr ?_⟩
 rw [if_pos (by decide)]
 exact f _ (by omega) (by omega)
theorem w6 {v : Value} {p : PV} {items : List PV} {Q : Value -> Shared -> Prop} (hi : InH G s.heap) (hv : VRel P G v p) (e : gS p = some items)
  (h : ∀ I h' Ws, GS G s G { s with heap := h' } -> s.heap.get? I = none -> I < h'.objs.size -> (∀ A', A'.handled = none -> Itr prog w A' P I G items Ws) -> Ws 0 h' -> Q (.ref I) { s with heap := h' }) :
  wpAny (model prog w) A (pyIter v) Q E s := by
 have push : ∀ o : Obj, GS G s G { s with heap := s.heap.push o } /\ s.heap.get? s.heap.objs.size = none /\ s.heap.objs.size < (s.heap.push o).objs.size := fun o =>
  ⟨GS.heap hi s.toks fun a o' e => Heap.get?_push_of_some _ e, dE, by rw [Heap.size_push]; omega⟩
 cases p <;> first | (cases e; done) | skip
 all_goals cases e
 ·rename_i x
  simp only [VRel] at hv
  obtain ⟨t, rfl, ok⟩ := hv
  cases ha : (⟨x.toArray⟩ : Str).cps.all (· < 128)
  ·refine wpAny_pyIter_wide ha ?_
   obtain ⟨p1, p2, p3⟩ := push { cls := .type "str_iterator", data := .fields #[.str ⟨x.toArray⟩ t, .int 0 0] }
   exact h _ _ _ p1 p2 p3 (fun A' hA => w4 (St := fun i h => h.IsStrIter s.heap.objs.size "str_iterator" ⟨x.toArray⟩ t i) (by simpa using Walks.strWide hA _ ⟨x.toArray⟩ t) (fun i h st => let ⟨o, ho, _⟩ := st; ⟨o, ho⟩) ok) ⟨_, Heap.get?_push_size _ rfl, rfl, rfl⟩
  ·refine wpAny_pyIter_ascii ha ?_
   obtain ⟨p1, p2, p3⟩ := push { cls := .type "str_ascii_iterator", data := .fields #[.str ⟨x.toArray⟩ t, .int 0 0] }
   exact h _ _ _ p1 p2 p3 (fun A' hA => w4 (St := fun i h => h.IsStrIter s.heap.objs.size "str_ascii_iterator" ⟨x.toArray⟩ t i) (by simpa using Walks.strAscii hA _ ⟨x.toArray⟩ t) (fun i h st => let ⟨o, ho, _⟩ := st; ⟨o, ho⟩) ok) ⟨_, Heap.get?_push_size _ rfl, rfl, rfl⟩
 ·simp only [VRel] at hv
  obtain ⟨ax, ⟨c, d, dt, sl⟩, vs, m, rfl, h1, h2, h3, h4, h5, h6⟩ := hv
  simp only at h2 h3 h4; subst h2 h3 h4
  have hl : ∀ h, InH G h -> h.IsList ax vs := fun h ih => ⟨_, ih.at_ _ _ h1, rfl, m, rfl⟩
  have hne : ax ≠ s.heap.objs.size := fun q => by have := hi.at_ _ _ h1; rw [q, dE] at this; cases this
  refine wpAny_pyIter_list (hl _ hi) ?_
  obtain ⟨p1, p2, p3⟩ := push { cls := .type "list_iterator", data := .fields #[.ref ax, .int 0 0] }
  exact h _ _ _ p1 p2 p3 (fun A' hA => zax hA hne hl h6) ⟨⟨_, Heap.get?_push_size _ rfl, rfl, rfl⟩, hl _ p1.inh⟩
 ·rename_i lo hj
  simp only [VRel] at hv
  obtain ⟨r, t, u, z, rfl, h1, h2⟩ := hv
  refine wpAny_pyIter_range (hi.at_ _ _ h1) (v6 h2) ?_
  obtain ⟨p1, p2, p3⟩ := push { cls := .type "range_iterator", data := .fields #[rawInt lo, rawInt (Builtin.Range.rangeSize lo hj 1), rawInt 1] }
  refine h _ _ _ p1 p2 p3 (fun A' hA => w5 hA) ?_
  have e1 : Builtin.Range.rangeSize lo hj 1 = ((hj - lo).toNat : Int) := by
   unfold Builtin.Range.rangeSize
   rw [if_pos (by decide)]
   split <;> omega
  have e2 : rawInt (lo + ((0 : Nat) : Int) * 1) = rawInt lo := by simp
  have e3 : rawInt (((hj - lo).toNat : Int) - ((0 : Nat) : Int)) = rawInt (Builtin.Range.rangeSize lo hj 1) := by rw [e1]; simp
  show Heap.get? _ _ = _
  rw [e2, e3]
  exact Heap.get?_push_size _ rfl
end
section
variable {prog : Program} {w : World} {A : Around} {E : Value -> Shared -> Prop} {s : Shared} {G : GM} {P : Params} {env : Env} {st : St} {cw : Bool} {B : Bs}
theorem Rep.storeLocal (R : Rep P G env st s) {x : Str} {p : PV} {v : Value} {m : Str -> Option Value} {h' : Heap} {k : Nat} (hl : env.kindOf x = some .local) (hv : VRel P G v p)
  (hx : ∀ y q, st.ρ y = some q -> env.kindOf y = some .local -> ∃ u, m y = some u /\ VRel P G u q)
  (hn : h'.Ns env.locals (fun y => if y = x then some v else m y)) (hs : Heap.SameBut env.locals s.heap h') (hk : 1 <= k) :
  Rep P G env ⟨upd st.ρ x p, st.σ⟩ { s with heap := h', toks := k } where
 inh := R.inh.but (fun b o h e => (hs.2 b h).trans e) R.gl R.lx
 tk := hk
 ns := ⟨_, hn, fun y q e hy => by
  simp only [upd] at e
  by_cases q1 : y = x
  ·rw [if_pos q1] at e; cases e
   exact ⟨v, by rw [if_pos q1], hv⟩
  ·rw [if_neg q1] at e
   obtain ⟨u, h1, h2⟩ := hx y q e hy
   exact ⟨u, by rw [if_neg q1]; exact h1, h2⟩⟩
 kind := fun y q e => by
  simp only [upd] at e
  by_cases q1 : y = x
  ·subst q1; exact .inl hl
  ·rw [if_neg q1] at e; exact R.kind y q e
 cel := fun y q e hy => by
  simp only [upd] at e
  by_cases q1 : y = x
  ·subst q1; exact absurd hl hy
  ·rw [if_neg q1] at e
   obtain ⟨c, u, h1, h2, h3⟩ := R.cel y q e hy
   exact ⟨c, u, h1, h2.sameBut hs (R.gc y c h1).2, h3⟩
 cell0 := fun y e => by
  obtain ⟨c, u, h1, h2⟩ := R.cell0 y e
  exact ⟨c, u, h1, h2.sameBut hs (R.gc y c h1).2⟩
 gl := R.gl
 gc := R.gc
 cinj := R.cinj
 cells := fun a c e => by
  obtain ⟨h1, h2, h3, h4⟩ := R.cells a c e
  refine ⟨?_, h2, h3, h4⟩
  exact h1.mono (.refl _) fun o ho => (hs.2 a h3).trans ho
theorem Ok.storeLocal (O : Ok B P G env st s) {x : Str} {p : PV} {v : Value} {m : Str -> Option Value} {h' : Heap} {k : Nat} (hl : env.kindOf x = some .local) (hv : VRel P G v p)
  (hx : ∀ y q, st.ρ y = some q -> env.kindOf y = some .local -> ∃ u, m y = some u /\ VRel P G u q) (hm : s.heap.Ns env.locals m)
  (hn : h'.Ns env.locals (fun y => if y = x then some v else m y)) (hs : Heap.SameBut env.locals s.heap h') (hk : 1 <= k) :
  Ok B P G env ⟨upd st.ρ x p, st.σ⟩ { s with heap := h', toks := k } /\ Tr cw env G st s G ⟨upd st.ρ x p, st.σ⟩ { s with heap := h', toks := k } := by
 have al : (h'.get? env.locals).isSome = true := by obtain ⟨o, _, _, h1, _⟩ := hn; rw [h1]; rfl
 refine ⟨⟨O.over, O.rep.storeLocal hl hv hx hn hs hk, O.ct.same hs al⟩, ⟨.refl _, fun _ _ e => .inl e, fun a o _ e h1 _ _ => (hs.2 a h1).trans e, fun a e => ?_, fun _ e => e, fun _ e => .inl e, rfl, fun e => e⟩⟩
 by_cases q : a = env.locals
 ·subst q; exact al
 ·show (h'.get? a).isSome = true
  rw [hs.2 a q]; exact e
theorem Rep.storeCell (R : Rep P G env st s) {x : Str} {p : PV} {v : Value} {c : Addr} {h' : Heap} {k : Nat} (hl : env.kindOf x = some .cell) (hc : env.cells.lookup x = some c) (hv : VRel P G v p)
  (hn : h'.IsCell c (some v)) (hs : Heap.SameBut c s.heap h') (hk : 1 <= k) :
  Rep P G env ⟨upd st.ρ x p, st.σ⟩ { s with heap := h', toks := k } where
 inh := R.inh.but (fun b o h e => (hs.2 b h).trans e) (R.gc x c hc).1 (R.cx hl hc)
 tk := hk
 ns := by
  obtain ⟨m, h1, h2⟩ := R.ns
  refine ⟨m, h1.sameBut hs (Ne.symm (R.gc x c hc).2), fun y q e hy => ?_⟩
  simp only [upd] at e
  by_cases q1 : y = x
  ·subst q1; rw [hl] at hy; cases hy
  ·rw [if_neg q1] at e; exact h2 y q e hy
 kind := fun y q e => by
  simp only [upd] at e
  by_cases q1 : y = x
  ·subst q1; exact .inr (.inl hl)
  ·rw [if_neg q1] at e; exact R.kind y q e
 cel := fun y q e hy => by
  simp only [upd] at e
  by_cases q1 : y = x
  ·subst q1; rw [if_pos rfl] at e; cases e
   exact ⟨c, v, hc, hn, hv⟩
  ·rw [if_neg q1] at e
   obtain ⟨d, u, h1, h2, h3⟩ := R.cel y q e hy
   exact ⟨d, u, h1, h2.sameBut hs fun q2 => q1 (R.cinj y x c (q2 ▸ h1) hc), h3⟩
 cell0 := fun y e => by
  by_cases q1 : y = x
  ·subst q1; exact ⟨c, some v, hc, hn⟩
  ·obtain ⟨d, u, h1, h2⟩ := R.cell0 y e
   exact ⟨d, u, h1, h2.sameBut hs fun q2 => q1 (R.cinj y x c (q2 ▸ h1) hc)⟩
 gl := R.gl
 gc := R.gc
 cinj := R.cinj
 cells := fun a d e => by
  obtain ⟨h1, h2, h3, h4⟩ := R.cells a d e
  refine ⟨?_, h2, h3, h4⟩
  exact h1.mono (.refl _) fun o ho => (hs.2 a fun q => h4 x (q ▸ hc)).trans ho
theorem Ok.storeCell (O : Ok B P G env st s) {x : Str} {p : PV} {v : Value} {c : Addr} {h' : Heap} {k : Nat} (hl : env.kindOf x = some .cell) (hc : env.cells.lookup x = some c) (hv : VRel P G v p)
  (hn : h'.IsCell c (some v)) (hs : Heap.SameBut c s.heap h') (hk : 1 <= k) :
  Ok B P G env ⟨upd st.ρ x p, st.σ⟩ { s with heap := h', toks := k } /\ Tr true env G st s G ⟨upd st.ρ x p, st.σ⟩ { s with heap := h', toks := k } := by
 have al : (h'.get? c).isSome = true := by obtain ⟨o, h1, _⟩ := hn; rw [h1]; rfl
 refine ⟨⟨O.over, O.rep.storeCell hl hc hv hn hs hk, O.ct.same hs al⟩, ⟨.refl _, fun _ _ e => .inl e, fun a o _ e h1 h2 _ => (hs.2 a fun q => h2 rfl x (q ▸ hc)).trans e, fun a e => ?_, fun _ e => e, fun _ e => .inl e, rfl, fun e => e⟩⟩
 by_cases q : a = c
 ·subst q; exact al
 ·show (h'.get? a).isSome = true
  rw [hs.2 a q]; exact e
noncomputable def zcY (cw : Bool) (env : Env) (x : Str) : Prop := env.kindOf x = some .local \/ (cw = true /\ env.kindOf x = some .cell)
theorem mF {x : Str} {p : PV} {v : Value} (hE : EnvOk env) (O : Ok B P G env st s) (hx : zcY cw env x) (hv : VRel P G v p) :
  wpAny (model prog w) A (storeName env x v) (Lands B P cw env G st s (fun _ st' _ => st' = ⟨upd st.ρ x p, st.σ⟩)) E s := by
 have hp : (env.scope.kind == .class || (env.scope.kind == .module && env.locals != env.globals)) = false := by rw [hE.kind]; rfl
 rcases hx with hl | ⟨rfl, hl⟩
 ·obtain ⟨m, h1, h2⟩ := O.rep.ns
  refine wpAny_storeName_local hl h1 (fun h' hn hs => ?_) hp
  obtain ⟨O', T'⟩ := O.storeLocal (cw := cw) (k := s.toks + 1) hl hv h2 h1 hn hs (by omega)
  exact ⟨G, _, rfl, O', T'⟩
 ·obtain ⟨c, u, h1, h2⟩ := O.rep.cell0 x hl
  refine wpAny_storeName_cell hE.kind hl h1 h2 fun h' hn hs => ?_
  obtain ⟨O', T'⟩ := O.storeCell (k := s.toks) hl h1 hv hn hs O.rep.tk
  exact ⟨G, _, rfl, O', T'⟩
theorem oK {vs : List PV} {ρ ρ' : d9} (h : dI [] vs ρ = some ρ') : vs = [] /\ ρ' = ρ := by
 cases vs with
 | nil => cases h; exact ⟨rfl, rfl⟩
 | cons v vs => cases h
theorem lL {e : Expr} {es : List Expr} {vs : List PV} {ρ ρ' : d9} (h : dI (e :: es) vs ρ = some ρ') : ∃ x px v us, e = .Name x px /\ vs = v :: us /\ dI es us (upd ρ x v) = some ρ' := by
 obtain ⟨x, hx, h⟩ := Option.bind_eq_some_iff.mp h
 obtain ⟨px, rfl⟩ := eY hx
 cases vs with
 | nil => cases h
 | cons v us => exact ⟨x, px, v, us, rfl, rfl, h⟩
theorem sX (hE : EnvOk env) : ∀ (es : List Expr) (ps : List PV) (vs : List Value) (ρ' : d9) (G : GM) (st : St) (s : Shared), Ok B P G env st s -> (∀ x ∈ es.filterMap nmE, zcY cw env x) -> VRels P G vs ps ->
  dI es ps st.ρ = some ρ' -> wpAny (model prog w) A (assignInOrder ((assignEach es env).map (·.2)) vs) (Lands B P cw env G st s (fun _ st' _ => st' = ⟨ρ', st.σ⟩)) E s
 | [], ps, vs, ρ', G, st, s, O, hx, hr, h => by
  obtain ⟨rfl, rfl⟩ := oK h
  cases hr
  exact wpAny_pure (aH O rfl)
 | e :: es, ps, vs, ρ', G, st, s, O, hx, hr, h => by
  obtain ⟨x, px, p, ps, rfl, rfl, h⟩ := lL h
  obtain ⟨v, us, rfl, h1, h2⟩ := hr
  show wpAny _ _ (do holding us (assign (.Name x px) env v); assignInOrder ((assignEach es env).map (·.2)) us) _ _ _
  refine wpAny_bind (wpAny_holding (wpAny_assign_Name (aF (mF (p := p) hE O (hx x List.mem_cons_self) h1) fun _ G1 st1 s1 e1 O1 T1 => ?_)))
  subst e1
  exact aL T1 (sX hE es ps us ρ' G1 _ s1 O1 (fun y hy => hx y (List.mem_cons_of_mem _ hy)) (h2.mono T1.ext) h)
theorem gV (env : Env) : ∀ (es : List Expr) (ps : List PV) (ρ ρ' : d9), dI es ps ρ = some ρ' -> (assignEach es env).length = ps.length /\ (assignEach es env).findIdx? (·.1) = none
 | [], ps, _, _, h => by obtain ⟨rfl, _⟩ := oK h; exact ⟨rfl, rfl⟩
 | e :: es, ps, ρ, ρ', h => by
  obtain ⟨x, px, v, us, rfl, rfl, h⟩ := lL h
  obtain ⟨h1, h2⟩ := gV env es us _ _ h
  refine ⟨congrArg Nat.succ h1, ?_⟩
  show ((false, assign (.Name x px) env) :: assignEach es env).findIdx? (·.1) = none
  rw [List.findIdx?_cons, h2]; rfl
theorem kP (hh : A.handled = none) (hE : EnvOk env) {t : Expr} {p : PV} {v : Value} {ρ' : d9} (O : Ok B P G env st s) (hx : ∀ x ∈ bY t, zcY cw env x) (hv : VRel P G v p) (h : gM t p st.ρ = some ρ') :
  wpAny (model prog w) A (assign t env v) (Lands B P cw env G st s (fun _ st' _ => st' = ⟨ρ', st.σ⟩)) E s := by
 unfold gM at h
 unfold bY at hx
 cases hn : nmE t with
 | some x =>
  rw [hn] at h hx
  obtain ⟨px, rfl⟩ := eY hn
  cases h
  exact wpAny_assign_Name (mF hE O (hx x List.mem_cons_self) hv)
 | none =>
  rw [hn] at h hx
  obtain ⟨es, he, hb⟩ := Option.bind_eq_some_iff.mp h
  clear h
  obtain ⟨k, ppos, rfl⟩ := vG he
  cases p <;> first | (cases hb; done) | skip
  rename_i ps
  have h : dI es ps st.ρ = some ρ' := hb
  clear hb
  simp only [VRel] at hv
  obtain ⟨a, ⟨c, d, dt, sl⟩, vs, m, rfl, h1, h2, h3, h4, h5⟩ := hv
  simp only at h2 h3; subst h2 h3
  obtain ⟨l1, l2⟩ := gV env es ps _ _ h
  have l3 := h5.length
  rw [Array.length_toList] at l3
  refine wpAny_assign_Tuple hh ⟨_, O.rep.inh.at_ _ _ h1, rfl, m, rfl⟩ (by rw [l1, l3]) l2 fun h' hx' => ?_
  have g : GS G s G { s with heap := h' } := GS.heap O.rep.inh s.toks fun a o e => hx' a o (fun q => by rw [q, dE] at e; cases e) e
  exact aL g.tr (sX hE es ps vs.toList ρ' G st _ (O.grow g O.rep.tk) hx h5 h)
end
structure Fr (G : GM) (σ : Nat -> Option Cell) (s : Shared) (G' : GM) (σ' : Nat -> Option Cell) (s' : Shared) : Prop where
 ext : Sub G G'
 new : ∀ a o, G' a = some o -> G a = some o \/ s.heap.get? a = none
 keep : ∀ a o, a ≠ PX -> s.heap.get? a = some o -> σ a = none -> s'.heap.get? a = some o
 alive : ∀ a, (s.heap.get? a).isSome = true -> (s'.heap.get? a).isSome = true
 dom : ∀ a, (σ a).isSome = true -> (σ' a).isSome = true
 fresh : ∀ a, (σ' a).isSome = true -> (σ a).isSome = true \/ s.heap.get? a = none
 os : s'.os = s.os
 gens : AllBare s.gens -> AllBare s'.gens
section
variable {P : Params} {G G' G'' : GM} {env cenv : Env} {st st' st'' : St} {s s' s'' : Shared} {cw : Bool} {σ σ' σ'' : Nat -> Option Cell} {B : Bs}
theorem Fr.refl : Fr G σ s G σ s := ⟨.refl _, fun _ _ e => .inl e, fun _ _ _ e _ => e, fun _ e => e, fun _ e => e, fun _ e => .inl e, rfl, fun e => e⟩
theorem Fr.tr {ρ ρ' : d9} (F : Fr G σ s G' σ' s') : Tr cw env G ⟨ρ, σ⟩ s G' ⟨ρ', σ'⟩ s' := ⟨F.ext, F.new, fun a o n e _ _ h => F.keep a o n e h, F.alive, F.dom, F.fresh, F.os, F.gens⟩
theorem eQ {a : Addr} (k : (s.heap.get? a).isSome = true -> (s'.heap.get? a).isSome = true) (h : s'.heap.get? a = none) : s.heap.get? a = none := by
 cases e : s.heap.get? a with
 | none => rfl
 | some o => have := k (by rw [e]; rfl); rw [h] at this; cases this
theorem Fr.then (F : Fr G σ s G' σ' s') {ρ' ρ'' : d9} (T : Tr false cenv G' ⟨ρ', σ'⟩ s' G'' ⟨ρ'', σ''⟩ s'') (hl : s.heap.get? cenv.locals = none) : Fr G σ s G'' σ'' s'' where
 ext := F.ext.trans T.ext
 new := fun a o e => by
  rcases T.new a o e with q | q
  ·exact F.new a o q
  ·exact .inr (eQ (F.alive a) q)
 keep := fun a o n e h => T.keep a o n (F.keep a o n e h) (fun q => by rw [q, hl] at e; cases e) (fun q => by cases q) (by
  cases q : σ' a with
  | none => exact q
  | some c =>
   rcases F.fresh a (by rw [q]; rfl) with r | r
   ·rw [h] at r; cases r
   ·rw [e] at r; cases r)
 alive := fun a e => T.alive a (F.alive a e)
 dom := fun a e => T.dom a (F.dom a e)
 fresh := fun a e => by
  rcases T.fresh a e with q | q
  ·exact F.fresh a q
  ·exact .inr (eQ (F.alive a) q)
 os := T.os.trans F.os
 gens := fun e => T.gens (F.gens e)
theorem Fr.at1 (F : Fr G σ s G' σ' s') {I : Addr} (hI : s.heap.get? I = none) {h' : Heap} {k : Nat} (hk : ∀ b o, b ≠ I -> s'.heap.get? b = some o -> h'.get? b = some o) : Fr G σ s G' σ' { s' with heap := h', toks := k } where
 ext := F.ext
 new := F.new
 keep := fun a o n e h => hk a o (fun q => by rw [q, hI] at e; cases e) (F.keep a o n e h)
 alive := fun a e => by
  obtain ⟨o, ho⟩ := Option.isSome_iff_exists.mp (F.alive a e)
  show (h'.get? a).isSome = true
  rw [hk a o (fun q => by rw [q, hI] at e; cases e) ho]; rfl
 dom := F.dom
 fresh := F.fresh
 os := F.os
 gens := F.gens
theorem Fr.gs (F : Fr G σ s G' σ' s') (g : GS G' s' G'' s'') : Fr G σ s G'' σ' s'' where
 ext := F.ext.trans g.ext
 new := fun a o e => by
  rcases g.new a o e with q | q
  ·exact F.new a o q
  ·exact .inr (eQ (F.alive a) q)
 keep := fun a o n e h => g.keep a o n (F.keep a o n e h)
 alive := fun a e => g.alive a (F.alive a e)
 dom := F.dom
 fresh := F.fresh
 os := g.os.trans F.os
 gens := fun e => g.gens (F.gens e)
theorem Ok.back {ρ : d9} {env' : Env} {ρ' : d9} (O : Ok B P G env ⟨ρ, σ⟩ s) (F : Fr G σ s G' σ' s') (O' : Ok B P G' env' ⟨ρ', σ'⟩ s') : Ok B P G' env ⟨ρ, σ'⟩ s' := by
 have R := O.rep
 have hσ : ∀ a, G a = none -> a ≠ env.locals -> True := fun _ _ _ => trivial
 obtain ⟨m, hn, hx⟩ := R.ns
 have σl : σ env.locals = none := by
  cases e : σ env.locals with
  | none => rfl
  | some c => exact absurd rfl (R.cells _ c e).2.2.1
 have σc : ∀ x c, env.cells.lookup x = some c -> σ c = none := by
  intro x c e
  cases q : σ c with
  | none => rfl
  | some d => exact absurd e ((R.cells _ d q).2.2.2 x)
 have hl : ∃ o, s.heap.get? env.locals = some o := by obtain ⟨o, _, _, h1, _⟩ := hn; exact ⟨o, h1⟩
 refine ⟨O'.over, ⟨O'.rep.inh, O'.rep.tk, ⟨m, hn.at' fun o e => F.keep _ o R.lx e σl, fun x p e hk => let ⟨v, h1, h2⟩ := hx x p e hk; ⟨v, h1, h2.mono F.ext⟩⟩, R.kind, ?_, ?_, ?_, ?_, R.cinj, ?_⟩, ?_⟩
 ·intro x p e hk
  obtain ⟨c, v, h1, h2, h3⟩ := R.cel x p e hk
  exact ⟨c, v, h1, bO h2 fun o e => F.keep c o (R.inh.tab.cell h2) e (σc x c h1), h3.mono F.ext⟩
 ·intro x e
  obtain ⟨c, v, h1, h2⟩ := R.cell0 x e
  exact ⟨c, v, h1, bO h2 fun o e => F.keep c o (R.inh.tab.cell h2) e (σc x c h1)⟩
 ·cases e : G' env.locals with
  | none => rfl
  | some o =>
   obtain ⟨o', ho⟩ := hl
   rcases F.new _ o e with q | q
   ·rw [R.gl] at q; cases q
   ·rw [ho] at q; cases q
 ·intro x c e
  refine ⟨?_, (R.gc x c e).2⟩
  cases q : G' c with
  | none => rfl
  | some o =>
   obtain ⟨o', ho⟩ := O.ct x c e
   rcases F.new _ o q with q1 | q1
   ·rw [(R.gc x c e).1] at q1; cases q1
   ·rw [ho] at q1; cases q1
 ·intro a c e
  obtain ⟨h1, h2, _⟩ := O'.rep.cells a c e
  refine ⟨h1, h2, ?_⟩
  rcases F.fresh a (by dsimp only at e; rw [e]; rfl) with q | q
  ·obtain ⟨d, hd⟩ := Option.isSome_iff_exists.mp q
   exact (R.cells a d hd).2.2
  ·refine ⟨fun q1 => ?_, fun x q1 => ?_⟩
   ·obtain ⟨o', ho⟩ := hl; rw [q1, ho] at q; cases q
   ·obtain ⟨o', ho⟩ := O.ct x a q1; rw [ho] at q; cases q
 ·intro x c e
  obtain ⟨o, ho⟩ := O.ct x c e
  exact Option.isSome_iff_exists.mp (F.alive c (by rw [ho]; rfl))
theorem Ok.at1 {ρ : d9} (O : Ok B P G env ⟨ρ, σ⟩ s) {I : Addr} (h1 : G I = none) (h2 : σ I = none) (h3 : I ≠ env.locals) (h4 : ∀ x, env.cells.lookup x ≠ some I) (h5 : I ≠ PX) {h' : Heap} {k : Nat} (hk : 1 <= k)
  (kp : ∀ b o, b ≠ I -> s.heap.get? b = some o -> h'.get? b = some o) : Ok B P G env ⟨ρ, σ⟩ { s with heap := h', toks := k } := by
 have R := O.rep
 obtain ⟨m, hn, hx⟩ := R.ns
 refine ⟨O.over, ⟨R.inh.but kp h1 h5, hk, ⟨m, hn.at' fun o e => kp _ o (Ne.symm h3) e, hx⟩, R.kind, ?_, ?_, R.gl, R.gc, R.cinj, ?_⟩, ?_⟩
 ·intro x p e hk
  obtain ⟨c, v, g1, g2, g3⟩ := R.cel x p e hk
  exact ⟨c, v, g1, bO g2 fun o e => kp c o (fun q => h4 x (q ▸ g1)) e, g3⟩
 ·intro x e
  obtain ⟨c, v, g1, g2⟩ := R.cell0 x e
  exact ⟨c, v, g1, bO g2 fun o e => kp c o (fun q => h4 x (q ▸ g1)) e⟩
 ·intro a c e
  obtain ⟨g1, g2, g3⟩ := R.cells a c e
  exact ⟨g1.mono (.refl _) fun o ho => kp a o (fun q => by rw [q] at e; dsimp only at e; rw [h2] at e; cases e) ho, g2, g3⟩
 ·intro x c e
  obtain ⟨o, ho⟩ := O.ct x c e
  exact ⟨o, kp c o (fun q => h4 x (q ▸ e)) ho⟩
theorem Ok.again {ρ₀ ρa ρb : d9} (hρ : ∀ x p, ρ₀ x = some p -> env.kindOf x ≠ some .local) (O : Ok B P G env ⟨ρ₀, σ⟩ s) (T : Tr false env G ⟨ρa, σ⟩ s G' ⟨ρb, σ'⟩ s') (O' : Ok B P G' env ⟨ρb, σ'⟩ s') : Ok B P G' env ⟨ρ₀, σ'⟩ s' := by
 have R := O.rep
 obtain ⟨m, hn, _⟩ := O'.rep.ns
 refine ⟨O'.over, ⟨O'.rep.inh, O'.rep.tk, ⟨m, hn, fun x p e hk => absurd hk (hρ x p e)⟩, R.kind, ?_, O'.rep.cell0, O'.rep.gl, O'.rep.gc, R.cinj, O'.rep.cells⟩, O'.ct⟩
 intro x p e hk
 obtain ⟨c, v, h1, h2, h3⟩ := R.cel x p e hk
 refine ⟨c, v, h1, bO h2 fun o e => T.keep c o (R.inh.tab.cell h2) e (R.gc x c h1).2 (fun q => by cases q) ?_, h3.mono T.ext⟩
 cases q : σ c with
 | none => exact q
 | some d => exact absurd h1 ((R.cells _ d q).2.2.2 x)
end
noncomputable def iT (names : List (Str × NameKind)) : List Str := ((names.filter fun n => n.2 == .free).map (·.1)).reverse
noncomputable def iS (env : Env) (names : List (Str × NameKind)) : List (Str × Addr) := (iT names).map fun x => (x, (env.cells.lookup x).getD 0)
theorem zbw (env : Env) : ∀ (names : List (Str × NameKind)) (acc : List (Str × Addr)), (∀ n ∈ names, n.2 = .free -> ∃ c, env.cells.lookup n.1 = some c) ->
  (forIn names acc fun (x : Str × NameKind) (r : List (Str × Addr)) => (if (x.2 == NameKind.free) = true then (do let c <- cellOf env x.1; pure (ForInStep.yield ((x.1, c) :: r))) else pure (ForInStep.yield r) : Sem (ForInStep (List (Str × Addr))))) =
   pure (iS env names ++ acc)
 | [], acc, _ => rfl
 | (n, k) :: r, acc, h => by
  rw [List.forIn_cons]
  have ih := fun a => zbw env r a fun x hx => h x (List.mem_cons_of_mem _ hx)
  by_cases hk : k = .free
  ·subst hk
   obtain ⟨c, hc⟩ := h (n, .free) (by simp) rfl
   have e1 : cellOf env n = pure c := by unfold cellOf; dsimp only at hc; rw [hc]
   simp only [beq_self_eq_true, if_true, e1, pure_bind]
   rw [ih]
   simp only [iS, iT, List.filter_cons, beq_self_eq_true, if_true, List.map_cons, List.reverse_cons, List.map_append, List.map_nil, List.append_assoc, List.singleton_append]
   dsimp only at hc
   rw [hc]; rfl
  ·have hb : (k == NameKind.free) = false := by simpa using hk
   simp only [hb, Bool.false_eq_true, if_false, pure_bind]
   rw [ih]
   simp only [iS, iT, List.filter_cons, hb, Bool.false_eq_true, if_false]
theorem lW {scope : Scope} {env : Env} (h : ∀ n ∈ scope.names, n.2 = .free -> ∃ c, env.cells.lookup n.1 = some c) : closureFor scope env = pure (iS env scope.names) := by
 have := zbw env scope.names [] h
 rw [List.append_nil] at this
 show (forIn scope.names [] (fun (x : Str × NameKind) (r : List (Str × Addr)) => (if (x.2 == NameKind.free) = true then (do let c <- cellOf env x.1; pure (ForInStep.yield ((x.1, c) :: r))) else pure (ForInStep.yield r) : Sem (ForInStep (List (Str × Addr))))) >>= fun cs => pure cs) = _
 rw [this]
 rfl
theorem j4 {α : Type} (f : Str -> α) : ∀ (l : List Str) (x : Str), List.lookup x (l.map fun a => (a, f a)) = if x ∈ l then some (f x) else none
 | [], x => rfl
 | a :: l, x => by
  rw [List.map_cons, List.lookup_cons]
  by_cases h : x = a
  ·subst h; simp
  ·have hb : (x == a) = false := by simpa using h
   rw [hb, j4 f l x]
   simp [h]
theorem lX (env : Env) (names : List (Str × NameKind)) (x : Str) : List.lookup x (iS env names) = if (x, NameKind.free) ∈ names then some ((env.cells.lookup x).getD 0) else none := by
 unfold iS
 rw [j4]
 have : x ∈ iT names ↔ (x, NameKind.free) ∈ names := by
  unfold iT
  simp only [List.mem_reverse, List.mem_map, List.mem_filter, beq_iff_eq]
  constructor
  ·rintro ⟨⟨a, k⟩, ⟨h1, h2⟩, h3⟩; dsimp only at h2 h3; subst h2 h3; exact h1
  ·intro h; exact ⟨_, ⟨h, rfl⟩, rfl⟩
 by_cases h : (x, NameKind.free) ∈ names
 ·rw [if_pos (this.mpr h), if_pos h]
 ·rw [if_neg (fun q => h (this.mp q)), if_neg h]
theorem mem_of_lookup {α : Type} : ∀ {l : List (Str × α)} {x : Str} {a : α}, List.lookup x l = some a -> (x, a) ∈ l
 | [], _, _, h => by simp at h
 | (n, k) :: r, x, a, h => by
  rw [List.lookup_cons] at h
  cases hx : x == n with
  | true => rw [hx] at h; cases h; have := beq_iff_eq.mp hx; subst this; simp
  | false => rw [hx] at h; exact List.mem_cons_of_mem _ (mem_of_lookup h)
theorem gR {env : Env} (hk : env.scope.kind = .function) : ∀ {names : List (Str × NameKind)}, (∀ n ∈ names, n.2 = .free -> env.kindOf n.1 = some .cell) -> ∀ x,
  (names.map fun (n, k) => if (k == NameKind.free && env.scope.kind == .function && env.kindOf n == some .cell) then (n, NameKind.cell) else (n, k)).lookup x = if names.lookup x = some .free then some .cell else names.lookup x
 | [], _, x => rfl
 | (n, k) :: r, h, x => by
  have ih := gR hk (names := r) (fun n hn => h n (List.mem_cons_of_mem _ hn)) x
  rw [List.map_cons]
  by_cases hf : k = .free
  ·subst hf
   have e := h (n, .free) (by simp) rfl
   dsimp only at e ⊢
   have e2 : (NameKind.free == NameKind.free && env.scope.kind == .function && env.kindOf n == some .cell) = true := by rw [hk, e]; rfl
   rw [if_pos e2, List.lookup_cons, List.lookup_cons]
   cases hx : x == n with
   | true => rfl
   | false => exact ih
  ·have hb : (k == NameKind.free) = false := by simpa using hf
   have e2 : (k == NameKind.free && env.scope.kind == .function && env.kindOf n == some .cell) = false := by rw [hb]; rfl
   dsimp only
   rw [if_neg (by rw [e2]; decide), List.lookup_cons, List.lookup_cons]
   cases hx : x == n with
   | true => dsimp only; rw [if_neg (by simpa using hf)]
   | false => exact ih
section
variable {P : Params} {G : GM} {env : Env} {s : Shared} {σ : Nat -> Option Cell} {B : Bs} {κ : Kn} {sc : Scope}
theorem iZ (hκ : KOk κ env) (h : cW κ sc = true) : ∀ n ∈ sc.names, n.2 = .free -> env.kindOf n.1 = some .cell := by
 intro n hn e
 unfold cW at h
 simp only [Bool.and_eq_true, List.all_eq_true] at h
 have := h.2 n hn
 rw [e] at this
 simp only [Bool.or_eq_true, beq_iff_eq] at this
 exact hκ.cell this
theorem v4 (h : cW κ sc = true) : ∀ n ∈ sc.names, n.2 ≠ .cell := by
 intro n hn e
 unfold cW at h
 simp only [Bool.and_eq_true, List.all_eq_true] at h
 have := h.2 n hn
 rw [e] at this; cases this
theorem rT (h : cW κ sc = true) : ∀ n ∈ sc.names, n.2 = .local -> sc.names.lookup n.1 = some .local := by
 intro n hn e
 unfold cW at h
 simp only [Bool.and_eq_true, List.all_eq_true] at h
 have := h.2 n hn
 rw [e] at this
 simpa using this
theorem mJ (h : cW κ sc = true) : sc.kind = .function := by
 unfold cW at h
 simp only [Bool.and_eq_true, beq_iff_eq] at h
 exact h.1
theorem iO (hE : EnvOk env) (hκ : KOk κ env) (h : cW κ sc = true) (cl : List (Str × Addr)) (L : Addr) : KOk (cF sc.names) (compEnvC sc cl L env) := fun x => gR hE.kind (iZ hκ h) x
theorem uN (hE : EnvOk env) (h : cW κ sc = true) (cl : List (Str × Addr)) (L : Addr) : EnvOk (compEnvC sc cl L env) := ⟨(by show sc.kind = _; exact mJ h), hE.glob, hE.bi⟩
theorem kM {ρ : d9} (O : Ok B P G env ⟨ρ, σ⟩ s) (hκ : KOk κ env) (h : cW κ sc = true) {x : Str} {c : Addr} (e : List.lookup x (iS env sc.names) = some c) : env.cells.lookup x = some c /\ (x, NameKind.free) ∈ sc.names := by
 rw [lX] at e
 split at e
 ·rename_i hm
  obtain ⟨d, v, h1, h2⟩ := O.rep.cell0 x (iZ hκ h _ hm rfl)
  cases e
  rw [h1]; exact ⟨rfl, hm⟩
 ·cases e
theorem zaW {ρ : d9} (O : Ok B P G env ⟨ρ, σ⟩ s) (hE : EnvOk env) (hκ : KOk κ env) (h : cW κ sc = true) {L : Addr} {m : Str -> Option Value} (g1 : G L = none) (g2 : σ L = none) (g3 : ∀ x, env.cells.lookup x ≠ some L) (g4 : s.heap.Ns L m) :
  Ok B P G (compEnvC sc (iS env sc.names) L env) ⟨fS sc.names ρ, σ⟩ s := by
 have R := O.rep
 have hk := iO hE hκ h (iS env sc.names) L
 have fr : ∀ x p, fS sc.names ρ x = some p -> sc.names.lookup x = some .free /\ ρ x = some p := by
  intro x p e
  unfold fS at e
  split at e
  ·rename_i q; exact ⟨q, e⟩
  ·cases e
 have kd : ∀ x p, fS sc.names ρ x = some p -> (compEnvC sc (iS env sc.names) L env).kindOf x = some .cell := fun x p e => hk.cell (.inr (fr x p e).1)
 have cx : ∀ x, sc.names.lookup x = some .free -> ∀ c, env.cells.lookup x = some c -> List.lookup x (iS env sc.names) = some c := by
  intro x e c hc
  rw [lX, if_pos (mem_of_lookup e), hc]; rfl
 refine ⟨O.over, ⟨R.inh, R.tk, ⟨m, g4, fun x p e q => ?_⟩, fun x p e => .inr (.inl (kd x p e)), fun x p e _ => ?_, fun x e => ?_, g1, fun x c e => ?_, fun x y c e1 e2 => ?_, fun a c e => ?_⟩, fun x c e => ?_⟩
 ·rw [kd x p e] at q; cases q
 ·obtain ⟨q1, q2⟩ := fr x p e
  have q3 := iZ hκ h _ (mem_of_lookup q1) rfl
  obtain ⟨c, v, h1, h2, h3⟩ := R.cel x p q2 (by dsimp only at q3; rw [q3]; decide)
  exact ⟨c, v, cx x q1 c h1, h2, h3⟩
 ·have q1 : sc.names.lookup x = some .free := by
   have := hk x
   rw [e] at this
   split at this
   ·rename_i q; exact q
   ·exact absurd rfl (v4 h _ (mem_of_lookup this.symm))
  obtain ⟨c, v, h1, h2⟩ := R.cell0 x (iZ hκ h _ (mem_of_lookup q1) rfl)
  exact ⟨c, v, cx x q1 c h1, h2⟩
 ·have := (kM O hκ h e).1
  exact ⟨(R.gc x c this).1, fun q => g3 x (by rw [<- show c = L from q]; exact this)⟩
 ·exact R.cinj x y c (kM O hκ h e1).1 (kM O hκ h e2).1
 ·obtain ⟨h1, h2, h3, h4⟩ := R.cells a c e
  exact ⟨h1, h2, fun q => (by rw [show a = L from q] at e; dsimp only at e; rw [g2] at e; cases e), fun x q => h4 x (kM O hκ h q).1⟩
 ·exact O.ct x c (kM O hκ h e).1
end
section
variable {prog : Program} {w : World} {B : Bs} {C : Ctx} {n : Nat}
theorem oW {A : Around} {E : Value -> Shared -> Prop} {env : Env} {s : Shared} {Q : Bool -> Shared -> Prop} : ∀ (ifs : List Expr), Q false s ->
  wpAny (model prog w) A (forIn ifs false fun c r => if r = true then do let ok <- isTrue c env (PySem.eval c env); pure (ForInStep.yield ok) else pure (ForInStep.yield r)) Q E s
 | [], h => wpAny_pure h
 | c :: ifs, h => by
  rw [List.forIn_cons]
  simp only [Bool.false_eq_true, if_false, pure_bind]
  exact oW ifs h
theorem vU : ∀ (ifs : List Expr), (∀ e ∈ ifs, kW prog w B C n e) ->
  ∀ (A : Around) (E : Value -> Shared -> Prop) (cw : Bool) (env : Env) (κ : Kn) (G : GM) (st : St) (s : Shared) (K : Bool -> St -> Prop), Room n A -> EnvOk env -> KOk κ env -> Ok B w.params G env st s ->
   wIf C ifs κ K st -> wpAny (model prog w) A (forIn ifs true fun c r => if r = true then do let ok <- isTrue c env (PySem.eval c env); pure (ForInStep.yield ok) else pure (ForInStep.yield r)) (Lands B w.params cw env G st s (BX K)) E s
 | [], _ => by
  intro A E cw env κ G st s K hA hE hκ O hw
  exact wpAny_pure (aH O hw)
 | e :: es, h => by
  intro A E cw env κ G st s K hA hE hκ O hw
  rw [List.forIn_cons]
  simp only [if_true]
  refine wpAny_bind (wpAny_bind (aF (h e (by simp) A E cw env κ G st s (fun b st1 => if b = true then wIf C es κ K st1 else K false st1) hA hE hκ O hw) fun b G1 st1 s1 hq O1 T1 => wpAny_pure ?_))
  dsimp only [BX] at hq
  cases b with
  | true => exact aL T1 (vU es (fun x hx => h x (List.mem_cons_of_mem _ hx)) A E cw env κ G1 st1 s1 K hA hE hκ O1 hq)
  | false => exact oW es ((aH (X := BX K) O1 hq).after T1)
noncomputable def TE (prog : Program) (w : World) (A : Around) (R : Result -> Shared -> Prop) (env : Env) := notedBy (model prog w) A env fun e s' => R (.error e) s'
noncomputable def T4 (prog : Program) (w : World) (A : Around) (R : Result -> Shared -> Prop) (env : Env) (acc : Value) (N : Shared -> Prop) : Value -> Shared -> Prop := fun x s₄ => wpAny (model prog w) A (call (.builtin "list.append") [acc, x]) (fun _ => N) (TE prog w A R env) s₄
noncomputable def T3 (prog : Program) (w : World) (A : Around) (R : Result -> Shared -> Prop) (env : Env) (acc : Value) (elt : Expr) (N : Shared -> Prop) (ok : Bool) (s₃ : Shared) : Prop := if ok = true then wpAny (model prog w) A (PySem.eval elt env) (T4 prog w A R env acc N) (TE prog w A R env) s₃ else N s₃
noncomputable def T2 (prog : Program) (w : World) (A : Around) (R : Result -> Shared -> Prop) (env : Env) (acc : Value) (elt : Expr) (ifs : List Expr) (N : Shared -> Prop) : Unit -> Shared -> Prop := fun _ s₂ =>
 wpAny (model prog w) A (forIn ifs true fun c r => if r = true then do let ok <- isTrue c env (PySem.eval c env); pure (ForInStep.yield ok) else pure (ForInStep.yield r)) (T3 prog w A R env acc elt N) (TE prog w A R env) s₂
noncomputable def T1 (prog : Program) (w : World) (A : Around) (R : Result -> Shared -> Prop) (env : Env) (acc : Value) (elt tgt : Expr) (ifs : List Expr) (N : Shared -> Prop) (v : Value) : Unit -> Shared -> Prop := fun _ s₁ => wpAny (model prog w) A (assign tgt env v) (T2 prog w A R env acc elt ifs N) (TE prog w A R env) s₁
noncomputable def T0 (prog : Program) (w : World) (A : Around) (R : Result -> Shared -> Prop) (env : Env) (it acc : Value) (elt tgt : Expr) (ifs : List Expr) (N : Shared -> Prop) : Option Value -> Shared -> Prop := fun r s₁ => match r with
 | none => R (.ok .next) s₁
 | some v => wpAny (model prog w) A (letOwnedTupleGo tgt it v) (T1 prog w A R env acc elt tgt ifs N v) (TE prog w A R env) s₁
theorem uO {A : Around} {R : Result -> Shared -> Prop} {s : Shared} {elt target iter : Expr} {ifs : List Expr} {scope : Scope} {pos : Pos} {it acc : Value} {env : Env} (I : Nat -> Shared -> Prop)
  (turn : ∀ n s, I n s -> wpAny (model prog w) A (pyNext it) (T0 prog w A R env it acc elt target ifs fun s => ∃ m, m < n /\ I m s) (TE prog w A R env) s)
  (n : Nat) (h : I n s) : codeAny (model prog w) A (.compLoop (.ListComp elt [⟨target, iter, ifs, 0⟩] scope pos) 0 it acc env) R s := by
 refine codeAny_loop rfl I (fun n s hI => ?_) n h
 show wpAny _ A ((compTurn (.ListComp elt [⟨target, iter, ifs, 0⟩] scope pos) 0 it acc env).onRaise (fun x => do noteFrame x env; theTreesLotGoes x)) _ _ s
 refine wpAny_noted ?_
 rw [compTurn_list]
 refine wpAny_bind (wpAny_standAt (wpAny_bind (wpAny_mono (turn n s hI) (fun r s₁ h₁ => ?_) fun _ _ h' => h')))
 cases r with
 | none => exact wpAny_pure h₁
 | some v =>
  refine wpAny_bind (wpAny_mono h₁ (fun _ s₁' h₁' => ?_) fun _ _ h' => h')
  refine wpAny_bind (wpAny_mono h₁' (fun _ s₂ h₂ => wpAny_bind (wpAny_mono h₂ (fun ok s₃ h₃ => ?_) fun _ _ h' => h')) fun _ _ h' => h')
  cases ok with
  | false => exact wpAny_pure ⟨rfl, h₃⟩
  | true => exact wpAny_bind (wpAny_bind (wpAny_mono h₃ (fun x s₄ h₄ => wpAny_bind (wpAny_mono h₄ (fun _ s₅ h₅ => wpAny_pure (wpAny_pure ⟨rfl, h₅⟩)) fun _ _ h' => h')) fun _ _ h' => h'))
theorem gX {cenv : Env} {G G' : GM} {st st' : St} {s s' : Shared} {cw : Bool} (T : Tr cw cenv G st s G' st' s') {a : Addr} {o : Obj} (h : s.heap.get? a = some o) (g : G a = none) : G' a = none := by
 cases e : G' a with
 | none => rfl
 | some o' =>
  rcases T.new a o' e with q | q
  ·rw [g] at q; cases q
  ·rw [h] at q; cases q
theorem dW {cenv : Env} {G G' : GM} {st st' : St} {s s' : Shared} {cw : Bool} (T : Tr cw cenv G st s G' st' s') {a : Addr} {o : Obj} (h : s.heap.get? a = some o) (g : st.σ a = none) : st'.σ a = none := by
 cases e : st'.σ a with
 | none => rfl
 | some c =>
  rcases T.fresh a (by rw [e]; rfl) with q | q
  ·rw [g] at q; cases q
  ·rw [h] at q; cases q
theorem yD {A : Around} {elt tgt iter : Expr} {ifs : List Expr} {sc : Scope} {pos : Pos} {cenv : Env} {I D : Addr} {items : List PV} {Ws : Nat -> Heap -> Prop} {G₀ : GM} {σ₀ : Nat -> Option Cell} {s₀ s : Shared} {ρ₀ : d9} {R : Result -> Shared -> Prop}
  {Qc : List PV -> (Nat -> Option Cell) -> Prop}
  (he : bT prog w B C n elt) (hifs : ∀ e ∈ ifs, kW prog w B C n e) (hA : Room n A) (hE : EnvOk cenv) (hκ : KOk (cF sc.names) cenv) (hT : Itr prog w A w.params I G₀ items Ws) (hz : items.length <= aQ)
  (hnames : ∀ x ∈ bY tgt, cenv.kindOf x = some .local) (hρ : ∀ x p, ρ₀ x = some p -> cenv.kindOf x ≠ some .local)
  (d1 : D ≠ I) (d2 : D ≠ cenv.locals) (d3 : ∀ x, cenv.cells.lookup x ≠ some D) (i2 : I ≠ cenv.locals) (i3 : ∀ x, cenv.cells.lookup x ≠ some I) (d5 : D ≠ PX) (i5 : I ≠ PX)
  (b1 : s₀.heap.get? D = none) (b2 : s₀.heap.get? I = none) (b3 : s₀.heap.get? cenv.locals = none)
  (hR : ∀ (G' : GM) (σ' : Nat -> Option Cell) (s' : Shared) (acc : List PV) (ys : Array Value), Qc acc σ' -> Ok B w.params G' cenv ⟨ρ₀, σ'⟩ s' -> s'.heap.PlainList D ys -> VRels w.params G' ys.toList acc -> Fr G₀ σ₀ s₀ G' σ' s' -> G' D = none -> σ' D = none ->
   acc.length <= items.length -> R (.ok .next) s')
  (O : Ok B w.params G₀ cenv ⟨ρ₀, σ₀⟩ s) (hws : Ws 0 s.heap) (hD : s.heap.PlainList D #[]) (F : Fr G₀ σ₀ s₀ G₀ σ₀ s) (g1 : G₀ D = none) (g2 : σ₀ D = none) (g3 : G₀ I = none) (g4 : σ₀ I = none)
  (hc : bX (fun K s' => wIf C ifs (cF sc.names) K s') (fun K s' => wE C elt (cF sc.names) K s') tgt ρ₀ Qc items [] σ₀) :
  codeAny (model prog w) A (.compLoop (.ListComp elt [⟨tgt, iter, ifs, 0⟩] sc pos) 0 (.ref I) (.ref D) cenv) R s := by
 let I' : Nat -> Shared -> Prop := fun k s' => ∃ done rest acc ys Gj σj, items = done ++ rest /\ k = rest.length + 1 /\ Ws done.length s'.heap /\ Ok B w.params Gj cenv ⟨ρ₀, σj⟩ s' /\ s'.heap.PlainList D ys /\ VRels w.params Gj ys.toList acc /\
  acc.length <= done.length /\ bX (fun K s' => wIf C ifs (cF sc.names) K s') (fun K s' => wE C elt (cF sc.names) K s') tgt ρ₀ Qc rest acc σj /\ Fr G₀ σ₀ s₀ Gj σj s' /\ Gj D = none /\ σj D = none /\ Gj I = none /\ σj I = none
 refine uO I' ?_ (items.length + 1) ⟨[], items, [], #[], G₀, σ₀, rfl, rfl, hws, O, hD, .nil, Nat.le_refl _, hc, F, g1, g2, g3, g4⟩
 clear hc F O hws hD g1 g2 g3 g4 s
 refine fun k s => x6 fun done rest acc ys Gj σj => a13 fun hit hk hws O hD hys hal hc F g1 g2 g3 g4 => via ?_
 intro Gl
 cases rest with
 | nil =>
  rw [List.append_nil] at hit
  subst hit
  refine wpAny_with_toks (n := 1) O.rep.tk (hT.done s _ _ hws fun h' tk hk htk => ?_)
  exact hR Gj σj _ acc ys hc (O.at1 g3 g4 i2 i3 i5 htk hk) (hD.at fun o e => hk D o d1 e) hys (F.at1 b2 hk) g1 g2 hal
 | cons v rest =>
  obtain ⟨ρ1, hb, hc⟩ := bQ hc
  refine wpAny_with_toks (n := 1) O.rep.tk (hT.item done.length v s _ _ (by rw [hit]; simp) hws fun val h1 tk hval hws1 hk1 hgo htk => ?_)
  have O1 := O.at1 g3 g4 i2 i3 i5 htk hk1
  have F1 := F.at1 (k := tk) b2 hk1
  have D1 : h1.PlainList D ys := hD.at fun o e => hk1 D o d1 e
  refine hgo _ _ _ (via ?_)
  intro Gl
  obtain ⟨oI, aI⟩ := hT.alive _ _ hws1
  obtain ⟨nD, aD⟩ := D1
  refine aF (kP (cw := false) hA.handled hE O1 (fun x hx => .inl (hnames x hx)) (hval.mono F.ext) hb) fun _ G2 st2 s2 e2 O2 T2 => ?_
  subst e2
  refine aF (vU ifs hifs A _ false cenv (cF sc.names) G2 _ s2 _ hA hE hκ O2 hc) fun ok G3 st3 s3 hq O3 T3 => ?_
  have T13 := T2.trans T3
  have lt : rest.length + 1 < k := hk ▸ Nat.lt_succ_self _
  cases ok with
  | false =>
   obtain ⟨ρ3, σ3⟩ := st3
   simp only [BX, Bool.false_eq_true, if_false] at hq
   refine ⟨rest.length + 1, lt, done ++ [v], rest, acc, ys, G3, σ3, by rw [hit]; simp, rfl, ?_, Ok.again hρ O1 T13 O3, ⟨nD, T13.keep D _ d5 aD d2 (fun q => by cases q) g2⟩, hys.mono T13.ext, by simp; omega, hq, F1.then T13 b3, gX T13 aD g1, dW T13 aD g2, gX T13 aI g3, dW T13 aI g4⟩
   rw [List.length_append, List.length_singleton]
   exact hT.frame _ _ _ hws1 (fun o e => T13.keep I o i5 e i2 (fun q => by cases q) g4) (O3.rep.inh.sub (F1.then T13 b3).ext)
  | true =>
   simp only [BX, if_true] at hq
   refine aF (he A _ false cenv (cF sc.names) G3 st3 s3 _ hA hE hκ O3 hq) fun x G4 st4 s4 ⟨p, hq4, hx⟩ O4 T4 => ?_
   have T14 := T13.trans T4
   obtain ⟨ρ4, σ4⟩ := st4
   have aD4 := T14.keep D _ d5 aD d2 (fun q => by cases q) g2
   have aI4 := T14.keep I _ i5 aI i2 (fun q => by cases q) g4
   have l1 := hys.length
   simp only [Array.length_toList] at l1
   have hsz : items.length = done.length + (rest.length + 1) := by rw [hit]; simp
   refine wpAny_list_append_plain (s := s4) ⟨nD, aD4⟩ (fun h5 hp5 hs5 => ?_) (by show ys.size <= sizeLine; unfold aQ at hz; show ys.size <= 16777216; omega)
   have k5 : ∀ b o, b ≠ D -> s4.heap.get? b = some o -> h5.get? b = some o := fun b o hb e => (hs5.2 b hb).trans e
   have O5 := (Ok.again hρ O1 T14 O4).at1 (h' := h5) (k := s4.toks) (gX T14 aD g1) (dW T14 aD g2) d2 d3 d5 O4.rep.tk k5
   refine ⟨rest.length + 1, lt, done ++ [v], rest, acc ++ [p], ys.push x, G4, σ4, by rw [hit]; simp, rfl, ?_, O5, hp5, ?_, by simp; omega, hq4, (F1.then T14 b3).at1 b1 k5, gX T14 aD g1, dW T14 aD g2, gX T14 aI g3, dW T14 aI g4⟩
   ·rw [List.length_append, List.length_singleton]
    exact hT.frame _ _ _ hws1 (fun o e => k5 I o (Ne.symm d1) (T14.keep I o i5 e i2 (fun q => by cases q) g4)) (O5.rep.inh.sub (F1.then T14 b3).ext)
   ·rw [Array.toList_push]; exact (hys.mono T14.ext).append (.one hx)
end
theorem mU {h : Heap} {a : Addr} (e : h.objs.size <= a) : h.get? a = none := by
 cases q : h.get? a with
 | none => rfl
 | some o => exact absurd (Heap.lt_size q) (Nat.not_lt.mpr e)
section
variable {prog : Program} {w : World} {B : Bs} {C : Ctx} {n : Nat} {P : Params} {G G' : GM} {env : Env} {st : St} {s s' : Shared} {σ σ' : Nat -> Option Cell} {ρ : d9}
theorem Ok.g0 (O : Ok B P G env ⟨ρ, σ⟩ s) {a : Addr} (h : s.heap.get? a = none) : G a = none := by
 cases e : G a with
 | none => rfl
 | some o => have := O.rep.inh.at_ a o e; rw [h] at this; cases this
theorem Ok.s0 (O : Ok B P G env ⟨ρ, σ⟩ s) {a : Addr} (h : s.heap.get? a = none) : σ a = none := by
 cases e : σ a with
 | none => rfl
 | some c => obtain ⟨o, ho⟩ := (O.rep.cells a c e).1.alive; rw [h] at ho; cases ho
theorem Ok.c0 (O : Ok B P G env ⟨ρ, σ⟩ s) {a : Addr} (h : s.heap.get? a = none) : ∀ x, env.cells.lookup x ≠ some a := fun x e => by
 obtain ⟨o, ho⟩ := O.ct x a e; rw [h] at ho; cases ho
theorem Ok.l0 (O : Ok B P G env ⟨ρ, σ⟩ s) {a : Addr} (h : s.heap.get? a = none) : a ≠ env.locals := fun e => by
 obtain ⟨m, ⟨o, _, _, h1, _⟩, _⟩ := O.rep.ns; rw [<- e, h] at h1; cases h1
theorem lV {A : Around} {E : Value -> Shared -> Prop} {elt tgt iter : Expr} {ifs : List Expr} {sc : Scope} {pos : Pos} {κ : Kn} {xv : Value} {p : PV} {items : List PV} {Qc : List PV -> (Nat -> Option Cell) -> Prop} {RR : Value -> Addr -> Result -> Shared -> Prop}
  (he : bT prog w B C n elt) (hifs : ∀ e ∈ ifs, kW prog w B C n e) (hA : Room n A) (hE : EnvOk env) (hκ : KOk κ env) (hsc : cW κ sc = true) (hn : ∀ x ∈ bY tgt, sc.names.lookup x = some .local)
  (O : Ok B w.params G env ⟨ρ, σ⟩ s) (hv : VRel w.params G xv p) (hi : gS p = some items) (hz : items.length <= aQ)
  (hc : bX (fun K s' => wIf C ifs (cF sc.names) K s') (fun K s' => wE C elt (cF sc.names) K s') tgt (fS sc.names ρ) Qc items [] σ)
  (hR : ∀ (D L : Addr) (G' : GM) (σ' : Nat -> Option Cell) (s' : Shared) (acc : List PV) (ys : Array Value) (m : Str -> Option Value), Qc acc σ' -> Ok B w.params G' env ⟨ρ, σ'⟩ s' -> Fr G σ s G' σ' s' -> s'.heap.PlainList D ys -> VRels w.params G' ys.toList acc ->
   G' D = none -> σ' D = none -> s.heap.get? D = none -> s'.heap.Ns L m -> s.heap.get? L = none -> G' L = none -> σ' L = none -> D ≠ L -> acc.length <= aQ -> RR (.ref D) L (.ok .next) s') :
  wpAny (model prog w) A (pyIter xv) (fun it s₂ => wpAny (model prog w) A (newList []) (fun acc s₃ => wpAny (model prog w) A (newFunctionEnv sc env.globals (iS env sc.names) [] env.qual none .none (some env)) (fun cenv s₄ =>
   codeAny (model prog w) A (.compStart (.ListComp elt [⟨tgt, iter, ifs, 0⟩] sc pos) 0 it acc { cenv with scope := relabel sc env }) (RR acc cenv.locals) s₄) E s₃) E s₂) E s := by
 refine w6 O.rep.inh hv hi fun I h' Ws g hI hlt hT hws => ?_
 refine wpAny_newObj_type (wpAny_newFunctionEnv (v4 hsc) (by intro y hy; simp at hy) (fun h₁ hns hsb => ?_) (mJ hsc))
 dsimp only at hns hsb ⊢
 generalize hH2 : h'.push { cls := .type "list", dict := none, data := .seq ([] : List Value).toArray } = H2 at hns hsb ⊢
 have hC : H2.objs.size = h'.objs.size + 1 := by rw [<- hH2, Heap.size_push]
 have k1 : ∀ b o, h'.get? b = some o -> h₁.get? b = some o := fun b o e => hsb.extBut b o (by have := Heap.lt_size e; rw [hC]; exact Nat.ne_of_lt (Nat.lt_succ_of_lt this)) (Heap.get?_push_of_some _ (hH2 ▸ Heap.get?_push_of_some _ e))
 have n1 : ∀ a, h'.objs.size <= a -> s.heap.get? a = none := fun a ha => eQ (s := s) (s' := { s with heap := h' }) (g.alive a) (mU ha)
 have nD := n1 h'.objs.size (Nat.le_refl _)
 have neDL : h'.objs.size ≠ H2.objs.size := by rw [hC]; exact Nat.ne_of_lt (Nat.lt_succ_self _)
 have neID : I ≠ h'.objs.size := Nat.ne_of_lt hlt
 have neIL : I ≠ H2.objs.size := by rw [hC]; exact Nat.ne_of_lt (Nat.lt_succ_of_lt hlt)
 have nL := n1 H2.objs.size (by rw [hC]; exact Nat.le_succ _)
 have hD : h₁.PlainList h'.objs.size #[] := ⟨_, hsb.extBut _ _ neDL (Heap.get?_push_of_some _ (hH2 ▸ Heap.get?_push_size _ rfl))⟩
 have g4 : GS G s G { s with heap := h₁, toks := s.toks } := g.trans (GS.heap g.inh s.toks k1)
 have O4 : Ok B w.params G env ⟨ρ, σ⟩ { s with heap := h₁, toks := s.toks } := O.grow g4 O.rep.tk
 have hTA := hT A hA.handled
 have hws4 : Ws 0 h₁ := hTA.frame _ _ _ hws (fun o e => k1 I o e) O4.rep.inh
 have Oc := zaW (m := fun x => List.lookup x []) O4 hE hκ hsc (L := H2.objs.size) (O.g0 nL) (O.s0 nL) (O.c0 nL) hns
 have F4 : Fr G σ s G σ { s with heap := h₁, toks := s.toks } := Fr.refl.gs g4
 have loop : codeAny (model prog w) A (.compLoop (.ListComp elt [⟨tgt, iter, ifs, 0⟩] sc pos) 0 (.ref I) (.ref h'.objs.size) (compEnvC sc (iS env sc.names) H2.objs.size env)) (RR (.ref h'.objs.size) H2.objs.size) { s with heap := h₁, toks := s.toks } := by
  refine yD (s₀ := s) (G₀ := G) (σ₀ := σ) (ρ₀ := fS sc.names ρ) (Qc := Qc) he hifs hA (uN hE hsc _ _) (iO hE hκ hsc _ _) hTA hz (fun x hx => (iO hE hκ hsc _ _).loc (hn x hx)) (fun x p e => ?_)
   (Ne.symm neID) neDL (fun x e => O.c0 nD x (kM O hκ hsc e).1) neIL (fun x e => O.c0 hI x (kM O hκ hsc e).1) (O.rep.inh.tab.ne nD) (O.rep.inh.tab.ne hI) nD hI nL ?_ Oc hws4 hD F4 (O.g0 nD) (O.s0 nD) (O.g0 hI) (O.s0 hI) hc
  ·rcases Oc.rep.kind x p e with q | q | q
   ·exfalso
    unfold fS at e
    split at e
    ·rename_i q1
     have := (iO hE hκ hsc (iS env sc.names) H2.objs.size) x
     rw [show cF sc.names x = some .free from q1, q] at this
     cases this
    ·cases e
   ·rw [q]; decide
   ·rw [q]; decide
  ·intro G' σ' s' acc ys hq O' hp hr F' d1 d2 hl
   obtain ⟨m, hm, _⟩ := O'.rep.ns
   refine hR _ _ G' σ' s' acc ys m hq (Ok.back O F' O') F' hp hr d1 d2 nD hm nL O'.rep.gl ?_ neDL (Nat.le_trans hl hz)
   cases q : σ' H2.objs.size with
   | none => rfl
   | some c => exact absurd rfl (O'.rep.cells _ c q).2.2.1
 exact codeAny_compStart_list loop (hTA.self 0 _ _ _ hws4 loop)
theorem Ok.addCell (O : Ok B P G env ⟨ρ, σ⟩ s) {D : Addr} {ys : Array Value} {acc : List PV} (hp : s.heap.PlainList D ys) (hr : VRels P G ys.toList acc) (hz : acc.length <= aQ) (h1 : G D = none) (h3 : D ≠ env.locals) (h4 : ∀ x, env.cells.lookup x ≠ some D) :
  Ok B P G env ⟨ρ, bD σ D (.lst acc)⟩ s := by
 have R := O.rep
 refine ⟨O.over, ⟨R.inh, R.tk, R.ns, R.kind, R.cel, R.cell0, R.gl, R.gc, R.cinj, fun a c e => ?_⟩, O.ct⟩
 simp only [bD] at e
 split at e
 ·rename_i q; subst q; cases e
  obtain ⟨m, hm⟩ := hp
  have l := hr.length
  simp only [Array.length_toList] at l
  exact ⟨⟨ys, m, hm, by omega, hr⟩, h1, h3, h4⟩
 ·exact R.cells a c e
theorem Ok.addFrozen (O : Ok B P G env ⟨ρ, σ⟩ s) {D : Addr} {o : Obj} (ho : s.heap.get? D = some o) (h2 : σ D = none) (h3 : D ≠ env.locals) (h4 : ∀ x, env.cells.lookup x ≠ some D) (h1 : G D = none) (h5 : D ≠ PX) : Ok B P (hX G D o) env ⟨ρ, σ⟩ s := by
 have R := O.rep
 have hx : Sub G (hX G D o) := fun a o' e => by
  unfold hX; split
  ·rename_i q; rw [q, h1] at e; cases e
  ·exact e
 have gn : ∀ a, a ≠ D -> hX G D o a = G a := fun a ha => by unfold hX; rw [if_neg ha]
 refine ⟨O.over.ext hx, ⟨⟨fun a o' e => ?_, (gn PX (Ne.symm h5)).trans R.inh.px, R.inh.tab⟩, R.tk, ?_, R.kind, ?_, R.cell0, ?_, ?_, R.cinj, ?_⟩, O.ct⟩
 ·unfold hX at e; split at e
  ·rename_i q; subst q; cases e; exact ho
  ·exact R.inh.at_ a o' e
 ·obtain ⟨m, g1, g2⟩ := R.ns
  exact ⟨m, g1, fun x p e k => let ⟨v, a, b⟩ := g2 x p e k; ⟨v, a, b.mono hx⟩⟩
 ·intro x p e k
  obtain ⟨c, v, g1, g2, g3⟩ := R.cel x p e k
  exact ⟨c, v, g1, g2, g3.mono hx⟩
 ·rw [gn _ (Ne.symm h3)]; exact R.gl
 ·intro x c e
  rw [gn c fun q => h4 x (q ▸ e)]; exact R.gc x c e
 ·intro a c e
  obtain ⟨g1, g2, g3⟩ := R.cells a c e
  exact ⟨g1.mono hx fun _ h => h, by rw [gn a fun q => by dsimp only at e; rw [q, h2] at e; cases e]; exact g2, g3⟩
theorem Fr.addCell (F : Fr G σ s G' σ' s') {D : Addr} (h : s.heap.get? D = none) {c : Cell} : Fr G σ s G' (bD σ' D c) s' :=
 ⟨F.ext, F.new, F.keep, F.alive, fun a e => by unfold bD; split; rfl; exact F.dom a e, fun a e => by
  unfold bD at e; split at e
  ·rename_i q; subst q; exact .inr h
  ·exact F.fresh a e, F.os, F.gens⟩
theorem Fr.addFrozen (F : Fr G σ s G' σ' s') {D : Addr} {o : Obj} (h : s.heap.get? D = none) (h1 : G' D = none) : Fr G σ s (hX G' D o) σ' s' :=
 ⟨fun a o' e => by
  have := F.ext a o' e
  unfold hX; split
  ·rename_i q; rw [q, h1] at this; cases this
  ·exact this, fun a o' e => by
  unfold hX at e; split at e
  ·rename_i q; subst q; exact .inr h
  ·exact F.new a o' e, F.keep, F.alive, F.dom, F.fresh, F.os, F.gens⟩
theorem sU {pos : Pos} {Q : PV -> St -> Prop} {D L : Addr} {acc : List PV} {ys : Array Value} (O₀ : Ok B P G env ⟨ρ, σ⟩ s) (hq : bH C pos acc Q ⟨ρ, σ'⟩) (O : Ok B P G' env ⟨ρ, σ'⟩ s') (F : Fr G σ s G' σ' s') (hp : s'.heap.PlainList D ys) (hr : VRels P G' ys.toList acc)
  (h1 : G' D = none) (h2 : σ' D = none) (h3 : s.heap.get? D = none) (l1 : G' L = none) (l2 : σ' L = none) (hDL : D ≠ L) (hz : acc.length <= aQ) :
  ∃ p G'' σ'', Q p ⟨ρ, σ''⟩ /\ Ok B P G'' env ⟨ρ, σ''⟩ s' /\ Fr G σ s G'' σ'' s' /\ VRel P G'' (.ref D) p /\ G'' L = none /\ σ'' L = none := by
 unfold bH at hq
 split at hq
 ·refine ⟨.ptr D, G', bD σ' D (.lst acc), hq D h2, O.addCell hp hr hz h1 (O₀.l0 h3) (O₀.c0 h3), F.addCell h3, by simp [VRel], l1, ?_⟩
  unfold bD; rw [if_neg (Ne.symm hDL)]; exact l2
 ·obtain ⟨m, hm⟩ := hp
  have l := hr.length
  simp only [Array.length_toList] at l
  have F' := F.addFrozen (o := { cls := .type "list", data := .seq ys m }) h3 h1
  refine ⟨.list acc, _, σ', hq, O.addFrozen hm h2 (O₀.l0 h3) (O₀.c0 h3) h1 (O₀.rep.inh.tab.ne h3), F', ?_, ?_, l2⟩
  ·simp only [VRel]
   refine ⟨D, _, ys, m, rfl, b5, rfl, rfl, rfl, by omega, hr.mono fun a o e => ?_⟩
   unfold hX; split
   ·rename_i q; rw [q, h1] at e; cases e
   ·exact e
  ·unfold hX; rw [if_neg (Ne.symm hDL)]; exact l1
end
noncomputable def qG : Expr -> Bool
 | .Set _ _ _ => false
 | _ => true
theorem kB {e : Expr} (h : qG e = true) (env : Env) (x : Value) : foldedSetIterable e env x = pure x := by
 cases e <;> first | rfl | cases h
noncomputable def zeB (l : List (Str × Str)) : Bool := l.all (fun e => okC (.str e.1) && okC (.str e.2)) && (!l.isEmpty && (decide (l.length <= 15) && decide ((l.map (·.1)).Nodup)))
noncomputable def okN (x : Str) : Bool := !(x == ("__debug__" : Str)) && !(x == ("__classdict__" : Str))
noncomputable def zbz (f : Expr) (p : Pos) : Bool := exc true (fun _ => true) (fun _ => true) (fun _ => true) (fun _ _ ap => ap.endLine == p.line) (fun _ _ => true) (fun _ _ => true) f
mutual
noncomputable def okE : Expr -> Bool
 | .Constant c _ _ => okC c
 | .Name x _ => okN x
 | .BoolOp _ vs _ => yY vs && !vs.isEmpty
 | .BinOp l _ r _ => okE l && okE r
 | .UnaryOp _ x _ => okE x
 | .IfExp t b o _ => okE t && (okE b && okE o)
 | .Compare l ops cs _ => okE l && (yY cs && ((cs.length == ops.length) && !(lastMarks ops cs)))
 | .Call f args _ p => okE f && (yY args && (args.all b9 && (decide (args.length < 30) && zbz f p)))
 | .Attribute o _ _ => iL o && okE o
 | .Subscript o i _ => okE o && okE i
 | .List es _ => yY es && (es.all b9 && decide (es.length <= 1000))
 | .Tuple es _ _ => yY es && (es.all b9 && decide (es.length <= 1000))
 | .ListComp elt [⟨_, iter, ifs, _⟩] _ _ => okE elt && (okE iter && (yY ifs && qG iter))
 | .Slice l u sp _ => sp.isNone && (okO l && okO u)
 | .Dict ks vs _ => (xY ks vs).all zeB
 | .FormattedValue e _ _ _ => okE e
 | .JoinedStr vs _ => yY vs
 | _ => true
noncomputable def okO : Option Expr -> Bool
 | none => true
 | some e => okE e
noncomputable def yY : List Expr -> Bool
 | [] => true
 | e :: es => okE e && yY es
end
theorem zG {i : Expr} (h : y0 i = false) (a b : Value) : subscripted i false a b = operate [a, b] (getItem a b) := by
 cases i <;> first | (cases h; done) | rfl
section
variable {prog : Program} {w : World} {B : Bs} {C : Ctx} {n : Nat}
theorem yP {P : Params} {G G' : GM} {env : Env} {s s' : Shared} {σ σ' : Nat -> Option Cell} {ρ ρ' : d9} {L : Addr} {h' : Heap} {k : Nat} (hk : 1 <= k) (O₀ : Ok B P G env ⟨ρ, σ⟩ s) (hL : s.heap.get? L = none) (O : Ok B P G' env ⟨ρ', σ'⟩ s') (l1 : G' L = none) (l2 : σ' L = none)
  (hs : Heap.SameBut L s'.heap h') : Ok B P G' env ⟨ρ', σ'⟩ { s' with heap := h', toks := k } :=
 O.at1 l1 l2 (O₀.l0 hL) (O₀.c0 hL) (O₀.rep.inh.tab.ne hL) hk fun b o hb e => (hs.2 b hb).trans e
theorem zT {elt tgt iter : Expr} {ifs : List Expr} {asy : Int} {sc : Scope} {pos : Pos} (he : bT prog w B C n elt) (hi : bT prog w B C n iter) (hifs : ∀ e ∈ ifs, kW prog w B C n e) (hs : qG iter = true) :
  bT prog w B C n (.ListComp elt [⟨tgt, iter, ifs, asy⟩] sc pos) := by
 intro A E cw env κ G st s Q hA hE hκ O hw
 rw [u8] at hw
 obtain ⟨rfl, hsc, hn, hw⟩ := hw
 have hn' : ∀ x ∈ bY tgt, sc.names.lookup x = some .local := fun x hx => by simpa using List.all_eq_true.mp hn x hx
 have hclos := lW (scope := sc) (env := env) fun m hm hf => by
  obtain ⟨c, v, h1, h2⟩ := O.rep.cell0 m.1 (iZ hκ hsc m hm hf)
  exact ⟨c, h1⟩
 rw [eval_ListComp]
 refine wpAny_comprehension_free (use := none) rfl (fun x => kB hs env x) hclos (mJ hsc) (rT hsc) ?_
 refine aF (hi A E cw env κ G st s _ hA hE hκ O hw) fun xv G1 st1 s1 ⟨p, hq, hv⟩ O1 T1 => ?_
 obtain ⟨ρ1, σ1⟩ := st1
 obtain ⟨items, hit, hq⟩ := bQ hq
 ·refine lV he hifs hA hE hκ hsc hn' O1 hv hit hq.1 hq.2 fun D L G' σ' s' acc ys m hq' O' F' hp hr d1 d2 d3 hm hL l1 l2 hDL hz => ?_
  refine ⟨m, hm, fun h' hs' => ?_⟩
  obtain ⟨p', G'', σ'', hQ, O2, F2, hv2, l3, l4⟩ := sU O1 hq' O' F' hp hr d1 d2 d3 l1 l2 hDL hz
  refine ⟨G'', ⟨ρ1, σ''⟩, ⟨p', hQ, hv2⟩, yP O2.rep.tk O1 hL O2 l3 l4 hs', ?_⟩
  exact T1.trans (F2.at1 hL fun b o hb e => (hs'.2 b hb).trans e).tr
theorem aW {a b : Bool} (h : (a && b) = true) : a = true /\ b = true := Bool.and_eq_true_iff.mp h
theorem zas {ks : List (Option Expr)} {vs : List Expr} {a b : Str} {k1 k2 : Nat} {p1 p2 : Pos} {r : List (PyData × PyData)} (h : litPairs ks vs = some r) : litPairs (some (.Constant (.str a) k1 p1) :: ks) (.Constant (.str b) k2 p2 :: vs) = some ((.str a, .str b) :: r) := by
 show (litPairs ks vs).bind (fun r => some ((PyData.str a, PyData.str b) :: r)) = _
 rw [h]; rfl
theorem sT : ∀ {ks : List (Option Expr)} {vs : List Expr} {l : List (Str × Str)}, xY ks vs = some l ->
  ks.length = l.length /\ vs.length = l.length /\ ks.all (·.isSome) = true /\ litPairs ks vs = some (l.map fun e => (.str e.1, .str e.2))
 | [], [], l, h => by cases h; exact ⟨rfl, rfl, rfl, rfl⟩
 | [], _ :: _, _, h => by cases h
 | k :: ks, vs, l, h => by
  obtain ⟨k', hk, h0⟩ := Option.bind_eq_some_iff.mp h
  subst hk
  obtain ⟨a, ha, h1⟩ := Option.bind_eq_some_iff.mp h0
  obtain ⟨v, hv, h2⟩ := Option.bind_eq_some_iff.mp h1
  obtain ⟨b, hb, h3⟩ := Option.bind_eq_some_iff.mp h2
  obtain ⟨r, hr, e⟩ := Option.map_eq_some_iff.mp h3
  subst e
  cases vs with
  | nil => cases hv
  | cons v' vs =>
   cases hv
   obtain ⟨_, _, rfl⟩ := jQ ha
   obtain ⟨_, _, rfl⟩ := jQ hb
   obtain ⟨h1, h2, h3, h4⟩ := sT hr
   exact ⟨congrArg (· + 1) h1, congrArg (· + 1) h2, h3, zas h4⟩
theorem sS {prog : Program} {w : World} : ∀ {l : List (Str × Str)} {es : List DictEntry} {kvs : List (Str × Value)}, Pairs (strKind prog w) es kvs -> PyProof.V.FlatPairs PyData.str kvs (l.map fun e => (.str e.1, .str e.2)) ->
  (∀ e ∈ es, ∃ k, (strKind prog w).is k e.key = true /\ e.hash = (strKind prog w).hash k) -> l.all (fun e => okC (.str e.1) && okC (.str e.2)) = true -> rJ w.params es (dlP l)
 | [], es, kvs, p, f, _, _ => by
  cases f
  cases p
  rfl
 | (k, v) :: l, es, kvs, p, f, hk, ho => by
  rw [List.map_cons] at f
  cases f with
  | cons hf f =>
   cases p with
   | cons h1 h2 p =>
    rename_i v' kvs e es
    obtain ⟨t, rfl⟩ := hf.str_inv
    have ho := aW ho
    obtain ⟨k', g1, g2⟩ := hk e List.mem_cons_self
    have e1 : k' = k := Value.isStrOf_inj _ _ _ g1 h1
    subst e1
    obtain ⟨t', ht⟩ := Value.isStrOf_shape g1
    have o2 := (aW ho.1).2
    have o3 := aW o2
    exact ⟨e, es, t', t, rfl, ht, g2, h2, ⟨fun c hc => of_decide_eq_true (List.all_eq_true.mp o3.1 c hc), of_decide_eq_true o3.2⟩, sS p f (fun e he => hk e (List.mem_cons_of_mem _ he)) ho.2⟩
theorem zS {prog : Program} {w : World} {B : Bs} {C : Ctx} {n : Nat} {ks : List (Option Expr)} {vs : List Expr} {pos : Pos} (hB : BsOk B) (ho' : okE (.Dict ks vs pos) = true) : bT prog w B C n (.Dict ks vs pos) := by
 intro A E cw env κ G st s Q hA hE hκ O hw
 obtain ⟨l, hl, hw⟩ := bQ hw
 have ho : zeB l = true := by have : (xY ks vs).all zeB = true := ho'; rw [hl] at this; exact this
 obtain ⟨h1, h2, h3, h4⟩ := sT hl
 obtain ⟨o1, ho⟩ := aW ho
 obtain ⟨o2, ho⟩ := aW ho
 obtain ⟨o3, o4⟩ := aW ho
 have o3 := of_decide_eq_true o3
 have o4 := of_decide_eq_true o4
 refine bL O ?_
 have sK : ∀ r : List (Str × Str), strKeyed (r.map fun e => (PyData.str e.1, PyData.str e.2)) = true /\ strKeysOf (r.map fun e => (PyData.str e.1, PyData.str e.2)) = r.map (·.1) := fun r => by
  induction r with
  | nil => exact ⟨rfl, rfl⟩
  | cons e r ih => exact ⟨ih.1, by simp only [List.map_cons, strKeysOf, ih.2]⟩
 refine Dict_lits_str h4 (sK l).1 (by rw [(sK l).2]; exact o4) h3 (h1.trans h2.symm) (fun e => by subst e; cases l with | nil => cases o2 | cons a b => cases h1) (by rw [h1]; exact o3) fun a o h₁ tk ha hget ⟨kvs, hd, hf⟩ hkp => ?_
 obtain ⟨es, ep, hx, hdat, hkeys, hp, hn⟩ := hd
 have hG : ∀ c, s.heap.objs.size <= c -> s.heap.get? c = none := fun c h => mU h
 have hsz : sysModules < s.heap.objs.size := by
  obtain ⟨o', es', ep', q, _⟩ := hB.g
  have := Heap.lt_size (O.rep.inh.at_ _ _ (O.over _ _ q))
  exact Nat.lt_trans (by decide) this
 have hobj : o = { cls := .type "dict", data := .dict es ep } := by
  obtain ⟨c1, c2, c3⟩ := hx
  cases o
  cases c1; cases c2; cases c3; cases hdat
  rfl
 refine ⟨.dict (dlP l), hX G a o, hw, .made O.rep.inh (hG _ ha) hget hkp _, ?_⟩
 ·exact ⟨a, es, ep, rfl, fun e => by rw [e] at ha; exact absurd hsz (Nat.not_lt.mpr ha), by rw [<- hobj]; exact b5, sS (prog := prog) hp hf (fun e he => hkeys e (Array.mem_toList_iff.mp he)) o1⟩
theorem eC {b : Bool} (h : (!b) = true) : b = false := by cases b <;> first | rfl | cases h
noncomputable def zdZ (prog : Program) (w : World) (B : Bs) (C : Ctx) (n : Nat) (e : Expr) : Prop := exc True (fun _ => True) (fun _ => True) (fun _ => True) (fun o _ _ => iL o = true /\ bT prog w B C n o) (fun l u => (∀ e, l = some e -> bT prog w B C n e) /\ ∀ e, u = some e -> bT prog w B C n e)
 (fun elt gens => ∀ tgt iter ifs asy, gens = [⟨tgt, iter, ifs, asy⟩] -> bT prog w B C n elt /\ bT prog w B C n iter /\ (∀ f ∈ ifs, kW prog w B C n f) /\ qG iter = true) e
noncomputable def zc8 (prog : Program) (w : World) (B : Bs) (C : Ctx) (n : Nat) (e : Expr) : Prop := bT prog w B C n e /\ kW prog w B C n e /\ zdZ prog w B C n e
theorem u1 {e : Expr} (a : bT prog w B C n e) (b : ∀ env whole, isTrue e env whole = (do let v <- whole; standAt e.pos; holding [v] (truthy v))) (c : zdZ prog w B C n e) : zc8 prog w B C n e := ⟨a, lG a b, c⟩
theorem bad {e : Expr} (h : ∀ κ Q st, ¬ wE C e κ Q st) (c : zdZ prog w B C n e) : zc8 prog w B C n e :=
 ⟨fun _ _ _ _ _ _ _ _ _ _ _ _ _ hw => (h _ _ _ hw).elim, fun _ _ _ _ _ _ _ _ _ _ _ _ _ hw => (h _ _ _ hw).elim, c⟩
theorem vX {f : Expr} {args : List Expr} {kws : List Keyword} {p : Pos} (hB : BsOk B) (hC : CtxOk prog w B C n) (hf : okE f = true) (hf' : zdZ prog w B C n f) (ha : ∀ e ∈ args, zc8 prog w B C n e) (hoks : yY args = true) (hs : args.all b9 = true) (hl : args.length < 30) (hp : zbz f p = true) : bT prog w B C n (.Call f args kws p) := by
 intro A E cw env κ G st s Q hA hE hκ O hw
 have hk : kws = [] := by have := hw.1; cases kws <;> first | rfl | cases this
 subst hk
 cases f <;> first | exact False.elim hw.2 | skip
 ·obtain ⟨h1, h2⟩ := hf'
  cases hr : cK args with
  | none => exact zP h2 (fun e he => (ha e he).1) hs h1 hl hp hr A E cw env κ G st s Q hA hE hκ O hw
  | some xy =>
   have hy : okC (.str xy.2) = true := by
    obtain ⟨k1, p1, k2, p2, q⟩ := oC (x := xy.1) (y := xy.2) hr
    subst q
    exact (aW (aW hoks).2).1
   exact zN h2 h1 hp hr hy A E cw env κ G st s Q hA hE hκ O hw
 ·exact zU hB hC (fun e he => (ha e he).1) hs (eC (aW hf).1) A E cw env κ G st s Q hA hE hκ O hw
theorem zM {o i : Expr} {p : Pos} (ho : bT prog w B C n o) (hk : okE i = true) (hi : zc8 prog w B C n i) : bT prog w B C n (.Subscript o i p) := by
 cases h : y0 i with
 | false => exact zbR ho hi.1 (zG h) h
 | true =>
  cases i <;> first | (cases h; done) | skip
  rename_i l u sp q
  cases sp with
  | none => exact vT ho hi.2.2.1 hi.2.2.2
  | some sp => cases hk
mutual
theorem dJ (hB : BsOk B) (hC : CtxOk prog w B C n) : ∀ e : Expr, okE e = true -> zc8 prog w B C n e
 | .Constant _ _ _, h => u1 (vW h) (fun _ _ => rfl) trivial
 | .Name _ _, h => u1 (zO hB hC (eC (aW h).1) (eC (aW h).2)) (fun _ _ => rfl) trivial
 | .BoolOp _ vs _, h => ⟨zbc vs fun e he => (fG hB hC vs (aW h).1 e he).1, vZ vs (fun e he => (fG hB hC vs (aW h).1 e he).2.1) (fun q => by subst q; cases (aW h).2), trivial⟩
 | .BinOp l _ r _, h => u1 (zbU (dJ hB hC l (aW h).1).1 (dJ hB hC r (aW h).2).1) (fun _ _ => rfl) trivial
 | .UnaryOp op x _, h => ⟨zba (dJ hB hC x h).1, by
   have hx := dJ hB hC x h
   cases op with
   | Not => exact zW hC.mono hx.2.1
   | _ => exact lG (zba hx.1) fun _ _ => rfl, trivial⟩
 | .IfExp t b o _, h => ⟨vV (dJ hB hC t (aW h).1).2.1 (dJ hB hC b (aW (aW h).2).1).1 (dJ hB hC o (aW (aW h).2).2).1, tL (dJ hB hC t (aW h).1).2.1 (dJ hB hC b (aW (aW h).2).1).2.1 (dJ hB hC o (aW (aW h).2).2).2.1, trivial⟩
 | .Compare l _ cs _, h => ⟨zbT (dJ hB hC l (aW h).1).1 (fun e he => (fG hB hC cs (aW (aW h).2).1 e he).1) (beq_iff_eq.mp (aW (aW (aW h).2).2).1) (eC (aW (aW (aW h).2).2).2),
   zX (dJ hB hC l (aW h).1).1 (fun e he => (fG hB hC cs (aW (aW h).2).1 e he).1) (beq_iff_eq.mp (aW (aW (aW h).2).2).1) (eC (aW (aW (aW h).2).2).2), trivial⟩
 | .Call f args _ _, h => u1 (vX hB hC (aW h).1 (dJ hB hC f (aW h).1).2.2 (fG hB hC args (aW (aW h).2).1) (aW (aW h).2).1 (aW (aW (aW h).2).2).1 (of_decide_eq_true (aW (aW (aW (aW h).2).2).2).1) (aW (aW (aW (aW h).2).2).2).2) (fun _ _ => rfl) trivial
 | .Attribute o _ _, h => u1 (zV hB hC (dJ hB hC o (aW h).2).1 (aW h).1) (fun _ _ => rfl) ⟨(aW h).1, (dJ hB hC o (aW h).2).1⟩
 | .Subscript o i _, h => u1 (zM (dJ hB hC o (aW h).1).1 (aW h).2 (dJ hB hC i (aW h).2)) (fun _ _ => rfl) trivial
 | .List es _, h => u1 (zQ hC.mono (fun e he => (fG hB hC es (aW h).1 e he).1) (aW (aW h).2).1 (of_decide_eq_true (aW (aW h).2).2)) (fun _ _ => rfl) trivial
 | .Tuple es _ _, h => u1 (vR hC.mono (fun e he => (fG hB hC es (aW h).1 e he).1) (aW (aW h).2).1 (of_decide_eq_true (aW (aW h).2).2)) (fun _ _ => rfl) trivial
 | .ListComp elt [⟨_, iter, ifs, _⟩] _ _, h =>
   have s : bT prog w B C n elt /\ bT prog w B C n iter /\ (∀ f ∈ ifs, kW prog w B C n f) /\ qG iter = true := ⟨(dJ hB hC elt (aW h).1).1, (dJ hB hC iter (aW (aW h).2).1).1, fun f hf => (fG hB hC ifs (aW (aW (aW h).2).2).1 f hf).2.1, (aW (aW (aW h).2).2).2⟩
   u1 (zT s.1 s.2.1 s.2.2.1 s.2.2.2) (fun _ _ => rfl) fun _ _ _ _ e => by cases e; exact s
 | .ListComp _ [] _ _, _ => bad (fun _ _ _ h => h) fun _ _ _ _ e => by cases e
 | .ListComp _ (⟨_, _, _, _⟩ :: _ :: _) _ _, _ => bad (fun _ _ _ h => h) fun _ _ _ _ e => by cases e
 | .Slice l u _ _, h => bad (fun _ _ _ h => h) ⟨zdn hB hC l (aW (aW h).2).1, zdn hB hC u (aW (aW h).2).2⟩
 | .NamedExpr _ _ _, _ => bad (fun _ _ _ h => h) trivial
 | .Lambda _ _ _ _, _ => bad (fun _ _ _ h => h) trivial
 | .Dict _ _ _, h => u1 (zS hB h) (fun _ _ => rfl) trivial
 | .Set _ _ _, _ => bad (fun _ _ _ h => h) trivial
 | .SetComp _ _ _ _, _ => bad (fun _ _ _ h => h) trivial
 | .DictComp _ _ _ _ _, _ => bad (fun _ _ _ h => h) trivial
 | .GeneratorExp _ _ _ _, _ => bad (fun _ _ _ h => h) trivial
 | .Await _ _, _ => bad (fun _ _ _ h => h) trivial
 | .Yield _ _, _ => bad (fun _ _ _ h => h) trivial
 | .YieldFrom _ _, _ => bad (fun _ _ _ h => h) trivial
 | .FormattedValue e _ _ _, h => u1 (zbS (dJ hB hC e h).1) (fun _ _ => rfl) trivial
 | .JoinedStr vs _, h => u1 (zR fun e he => (fG hB hC vs h e he).1) (fun _ _ => rfl) trivial
 | .Starred _ _, _ => bad (fun _ _ _ h => h) trivial
theorem fG (hB : BsOk B) (hC : CtxOk prog w B C n) : ∀ es : List Expr, yY es = true -> ∀ e ∈ es, zc8 prog w B C n e
 | [], _ => fun _ h => nomatch h
 | a :: es, h => List.forall_mem_cons.mpr ⟨dJ hB hC a (aW h).1, fG hB hC es (aW h).2⟩
theorem zdn (hB : BsOk B) (hC : CtxOk prog w B C n) : ∀ e : Option Expr, okO e = true -> ∀ x, e = some x -> bT prog w B C n x
 | none, _ => fun _ h => nomatch h
 | some a, h => fun _ e => by cases e; exact (dJ hB hC a h).1
end
theorem snd (hB : BsOk B) (hC : CtxOk prog w B C n) {e : Expr} (h : okE e = true) : bT prog w B C n e := (dJ hB hC e h).1
theorem zeh (hB : BsOk B) (hC : CtxOk prog w B C n) {e : Expr} (h : okE e = true) : kW prog w B C n e := (dJ hB hC e h).2.1
end
noncomputable section
noncomputable abbrev oS (K : St -> Prop) (Q : Fl -> St -> Prop) (fl : Fl) (st : St) : Prop := Fl.casesOn (motive := fun _ => Prop) fl (K st) (Q .next st) (K st) fun r => Q (.ret r) st
noncomputable def eK (T : (PV -> St -> Prop) -> St -> Prop) (B : (Fl -> St -> Prop) -> St -> Prop) (O : (Fl -> St -> Prop) -> St -> Prop) (Q : Fl -> St -> Prop) : Nat -> St -> Prop
 | 0, _ => False
 | n + 1, st => T (tst fun b st1 => if b = true then B (oS (eK T B O Q n) Q) st1 else O Q st1) st
noncomputable def hU (tgt : Expr) (B : (Fl -> St -> Prop) -> St -> Prop) (O : (Fl -> St -> Prop) -> St -> Prop) (Q : Fl -> St -> Prop) : List PV -> St -> Prop
 | [], st => O Q st
 | v :: vs, st => opt (gM tgt v st.ρ) fun ρ1 => B (oS (hU tgt B O Q vs) Q) ⟨ρ1, st.σ⟩
noncomputable def dX (κ : Kn) (x : Str) : Bool := κ x == some .local || κ x == some .cell
noncomputable def pJ (ts : List Expr) : Option (Str × Str) := List.casesOn (motive := fun _ => Option (Str × Str)) ts none fun t r => List.casesOn (motive := fun _ => Option (Str × Str)) r
 (exc none (fun _ => none) (fun _ => none) (fun _ => none) (fun o n _ => (nmE o).map fun x => (x, n)) (fun _ _ => none) (fun _ _ => none) t) fun _ _ => none
noncomputable def eJ (C : Ctx) (κ : Kn) (targets : List Expr) (v : PV) (st : St) (K : St -> Prop) : Prop :=
 nV (pJ targets) (targets.all (fun t => (bY t).all (dX κ)) = true /\ opt (nQ targets v st.ρ) fun ρ' => K ⟨ρ', st.σ⟩)
  fun xn => opt (st.ρ xn.1) fun p => asP p fun a => setCell C a xn.2 v st K
noncomputable def dC (e : Expr) : Option (List Expr) := zcL none (fun f args kws => exc none (fun _ => none) (fun _ => none) (fun _ => none) (fun o m _ => if nmE o = some "Node" /\ m = "__init__" /\ kws.isEmpty = true then some args else none) (fun _ _ => none) (fun _ _ => none) f) none e
noncomputable def w8 (C : Ctx) (vs : List PV) (st : St) (K : St -> Prop) : Prop := mD vs fun p va vb => asP p fun ad => setCell C ad "source_line" va st fun st3 => setCell C ad "source_column" vb st3 K
noncomputable def jG (e : Expr) : Bool := Expr.casesOn (motive_1 := fun _ => Bool) e (fun _ _ _ => false) (fun _ _ _ => false) (fun _ _ _ _ => false) (fun _ _ _ => false) (fun _ _ _ _ => false) (fun _ _ _ _ => false) (fun _ _ _ => false) (fun _ _ _ => false) (fun _ _ _ _ => true) (fun _ _ _ _ => true) (fun _ _ _ _ _ => true) (fun _ _ _ _ => false) (fun _ _ => false) (fun _ _ => false) (fun _ _ => false) (fun _ _ _ _ => false) (fun _ _ _ _ => false) (fun _ _ _ _ => false) (fun _ _ => false) (fun _ _ _ => false) (fun _ _ _ => false) (fun _ _ _ => false) (fun _ _ => false) (fun _ _ => false) (fun _ _ => false) (fun _ _ _ => false) (fun _ _ _ _ => false)
noncomputable def gA (K : St -> Prop) (Q : Fl -> St -> Prop) (fl : Fl) (st : St) : Prop := Fl.casesOn (motive := fun _ => Prop) fl (K st) (Q .brk st) (Q .cont st) fun v => Q (.ret v) st
mutual
noncomputable def wS (C : Ctx) (κ : Kn) : Stmt -> (Fl -> St -> Prop) -> St -> Prop
 | .Expr v _, Q, st => nV (dC v) (jG v = false /\ wE C v κ (fun _ st1 => Q .next st1) st) fun args => C.ini = true /\ κ "Node" = some .globalImplicit /\ wEs C args κ (fun vs st1 => w8 C vs st1 fun st2 => Q .next st2) st
 | .Break _, Q, st => Q .brk st
 | .Continue _, Q, st => Q .cont st
 | .Return e _, Q, st => opt e fun e => wE C e κ (fun v st1 => Q (.ret v) st1) st
 | .Assign ts e _, Q, st => wE C e κ (fun v st1 => eJ C κ ts v st1 fun st2 => Q .next st2) st
 | .AugAssign t op e _, Q, st => opt (nmE t) fun x => dX κ x = true /\ opt (st.ρ x) fun old => wE C e κ (fun v st1 => inP op old v fun r => Q .next ⟨upd st1.ρ x r, st1.σ⟩) st
 | .If t b o _, Q, st => wE C t κ (tst fun c st1 => if c = true then wSs C κ b Q st1 else wSs C κ o Q st1) st
 | .While t b o _, Q, st => ∃ n, eK (wE C t κ) (wSs C κ b) (wSs C κ o) Q n st
 | .For tgt iter b o _, Q, st => (bY tgt).all (dX κ) = true /\ wE C iter κ (fun v st1 => opt (gS v) fun items => items.length <= aQ /\ hU tgt (wSs C κ b) (wSs C κ o) Q items st1) st
 | .Assert t _ _, Q, st => wE C t κ (tst fun c st1 => c = true /\ Q .next st1) st
 | .Try b hs o fin _, Q, st => hs.isEmpty = false /\ fin.isEmpty = true /\ wSs C κ b (gA (fun st1 => wSs C κ o Q st1) Q) st
 | _, _, _ => False
noncomputable def wSs (C : Ctx) (κ : Kn) : List Stmt -> (Fl -> St -> Prop) -> St -> Prop
 | [], Q, st => Q .next st
 | s :: ss, Q, st => wS C κ s (gA (fun st1 => wSs C κ ss Q st1) Q) st
end
end
theorem l7 {C : Ctx} {κ : Kn} {v : Expr} {p : Pos} {Q : Fl -> St -> Prop} {st : St} : wS C κ (.Expr v p) Q st = nV (dC v) (jG v = false /\ wE C v κ (fun _ st1 => Q .next st1) st) fun args => C.ini = true /\ κ "Node" = some .globalImplicit /\ wEs C args κ (fun vs st1 => w8 C vs st1 fun st2 => Q .next st2) st := rfl
section mono
variable {C : Ctx}
theorem gF {K K' : St -> Prop} {Q Q' : Fl -> St -> Prop} (h : ∀ s, K s -> K' s) (hq : ∀ f s, Q f s -> Q' f s) (f : Fl) (s : St) (x : oS K Q f s) : oS K' Q' f s := by
 cases f
 ·exact h s x
 ·exact hq _ s x
 ·exact h s x
 ·exact hq _ s x
theorem j0 {K K' : St -> Prop} {Q Q' : Fl -> St -> Prop} (h : ∀ s, K s -> K' s) (hq : ∀ f s, Q f s -> Q' f s) (f : Fl) (s : St) (x : gA K Q f s) : gA K' Q' f s := by
 cases f
 ·exact h s x
 ·exact hq _ s x
 ·exact hq _ s x
 ·exact hq _ s x
theorem fJ {a : Nat} {name : Str} {v : PV} {st : St} {K K' : St -> Prop} (h : ∀ s, K s -> K' s) : setCell C a name v st K -> setCell C a name v st K' := fun ⟨c, fs, i, h1, h2, h3, h4⟩ => ⟨c, fs, i, h1, h2, h3, h _ h4⟩
theorem pK {κ : Kn} {ts : List Expr} {v : PV} {st : St} {K K' : St -> Prop} (h : ∀ s, K s -> K' s) : eJ C κ ts v st K -> eJ C κ ts v st K' :=
 eP (fun x => ⟨x.1, aY (fun _ => h _) x.2⟩) fun _ => aY fun _ => jS fun _ => fJ h
theorem uG {vs : List PV} {st : St} {K K' : St -> Prop} (h : ∀ s, K s -> K' s) : w8 C vs st K -> w8 C vs st K' :=
 lD fun _ _ _ => jS fun _ => fJ fun _ => fJ h
theorem gO {T : (PV -> St -> Prop) -> St -> Prop} {B O : (Fl -> St -> Prop) -> St -> Prop} {Q Q' : Fl -> St -> Prop}
  (hT : ∀ K K' s, (∀ b s, K b s -> K' b s) -> T K s -> T K' s) (hB : ∀ K K' s, (∀ b s, K b s -> K' b s) -> B K s -> B K' s) (hO : ∀ K K' s, (∀ b s, K b s -> K' b s) -> O K s -> O K' s) (h : ∀ f s, Q f s -> Q' f s) :
  ∀ n st, eK T B O Q n st -> eK T B O Q' n st
 | 0, _, x => x
 | n + 1, _, x => hT _ _ _ (eU fun _ _ => aV (hB _ _ _ (gF (gO hT hB hO h n) h)) (hO _ _ _ h)) x
theorem jH {tgt : Expr} {B O : (Fl -> St -> Prop) -> St -> Prop} {Q Q' : Fl -> St -> Prop}
  (hB : ∀ K K' s, (∀ b s, K b s -> K' b s) -> B K s -> B K' s) (hO : ∀ K K' s, (∀ b s, K b s -> K' b s) -> O K s -> O K' s) (h : ∀ f s, Q f s -> Q' f s) :
  ∀ items st, hU tgt B O Q items st -> hU tgt B O Q' items st
 | [], _, x => hO _ _ _ h x
 | _ :: vs, _, x => aY (fun _ => hB _ _ _ (gF (jH hB hO h vs) h)) x
mutual
theorem u6 (M : CtxMono C) : ∀ (s : Stmt) {κ : Kn} {Q Q' : Fl -> St -> Prop} {st : St}, (∀ f s, Q f s -> Q' f s) -> wS C κ s Q st -> wS C κ s Q' st
 | .Expr v _, _, _, _, _, h, x => eP (fun x => ⟨x.1, aT M v (fun _ _ => h _ _) x.2⟩) (fun _ x => ⟨x.1, x.2.1, bV M _ (fun _ _ => uG fun _ => h _ _) x.2.2⟩) x
 | .Break _, _, _, _, _, h, x => h _ _ x
 | .Continue _, _, _, _, _, h, x => h _ _ x
 | .Return _ _, _, _, _, _, h, x => aY (fun e => aT M e fun _ _ => h _ _) x
 | .Assign _ e _, _, _, _, _, h, x => aT M e (fun _ _ => pK fun _ => h _ _) x
 | .AugAssign _ _ e _, _, _, _, _, h, x => aY (fun _ x => ⟨x.1, aY (fun _ => aT M e fun _ _ => zaA fun _ => h _ _) x.2⟩) x
 | .If t b o _, _, _, _, _, h, x => aT M t (eU fun _ _ => aV (cG M b h) (cG M o h)) x
 | .While t b o _, κ, _, _, _, h, x => x.imp fun n => gO (T := wE C t κ) (B := wSs C κ b) (O := wSs C κ o) (fun _ _ _ hk => aT M t hk) (fun _ _ _ hk => cG M b hk) (fun _ _ _ hk => cG M o hk) h n _
 | .For _ iter b o _, κ, _, _, _, h, x => ⟨x.1, aT M iter (fun _ _ => aY fun _ y => ⟨y.1, jH (B := wSs C κ b) (O := wSs C κ o) (fun _ _ _ hk => cG M b hk) (fun _ _ _ hk => cG M o hk) h _ _ y.2⟩) x.2⟩
 | .Try b _ o _ _, _, _, _, _, h, x => ⟨x.1, x.2.1, cG M b (j0 (fun _ => cG M o h) h) x.2.2⟩
 | .FunctionDef _ _ _ _ _ _ _ _ _ _, _, _, _, _, _, x => x
 | .AsyncFunctionDef _ _ _ _ _ _ _ _ _ _, _, _, _, _, _, x => x
 | .ClassDef _ _ _ _ _ _ _ _ _ _ _, _, _, _, _, _, x => x
 | .Delete _ _, _, _, _, _, _, x => x
 | .TypeAlias _ _ _ _ _ _ _, _, _, _, _, _, x => x
 | .AnnAssign _ _ _ _ _, _, _, _, _, _, x => x
 | .AsyncFor _ _ _ _ _, _, _, _, _, _, x => x
 | .With _ _ _, _, _, _, _, _, x => x
 | .AsyncWith _ _ _, _, _, _, _, _, x => x
 | .Match _ _ _, _, _, _, _, _, x => x
 | .Raise _ _ _, _, _, _, _, _, x => x
 | .TryStar _ _ _ _ _, _, _, _, _, _, x => x
 | .Assert t _ _, _, _, _, _, h, x => aT M t (eU fun _ _ y => ⟨y.1, h _ _ y.2⟩) x
 | .Import _ _, _, _, _, _, _, x => x
 | .ImportFrom _ _ _ _, _, _, _, _, _, x => x
 | .Global _ _, _, _, _, _, _, x => x
 | .Nonlocal _ _, _, _, _, _, _, x => x
 | .Pass _, _, _, _, _, _, x => x
theorem cG (M : CtxMono C) : ∀ (ss : List Stmt) {κ : Kn} {Q Q' : Fl -> St -> Prop} {st : St}, (∀ f s, Q f s -> Q' f s) -> wSs C κ ss Q st -> wSs C κ ss Q' st
 | [], _, _, _, _, h, x => h _ _ x
 | s :: ss, _, _, _, _, h, x => u6 M s (j0 (fun _ => cG M ss h) h) x
end
end mono
end Mine
end
section
set_option maxRecDepth 100000
open PySem PySem.W PyProof.Rows
open Builtin Builtin.Str
set_option Elab.async false
set_option autoImplicit false
set_option linter.unusedVariables false
namespace Mine
section
open PySem.Calls Builtin.ObjectAttr Builtin.Getset_descriptor
variable {prog : Program} {w : World} {A : Around} {K : Frag} {x C : Addr} {s : Shared} {R : Result -> Shared -> Prop}
theorem zY {ox : Obj} {od : Option Obj} {v : Value} {p i : Nat} (X : K.In s.heap) (I : PySem.W.InstAt s.heap x ox C od)
  (hp : slotIn K p C = some i) (hi : i < 1000) (hf : ox.isFreed = false)
  (h : ∀ h', h'.get? x = some { ox with slots := (ox.slots ++ Array.replicate (i + 1 - ox.slots.size) none).setIfInBounds i (some v) } -> Heap.SameBut x s.heap h' -> R (.ok (.ret .none)) { s with heap := h' }) :
  codeAny (model prog w) A (.call (.builtin "member_descriptor.__set__") ⟨[.ref p, .ref x, v], []⟩) R s := by
 obtain ⟨n, tn, owner, behind, tb, d, sl, cd, ho, hc, hm, hb, rfl⟩ := slot_of X hp
 obtain ⟨hh, g, dr, t, os⟩ := s
 have L0 := I.type (M := model prog w)
 have L1 := looks_mroIn (M := model prog w) X hm
 have L2 : Looks (model prog w) hh (Slots.slotNamesOf (.ref C)) cd.slotNames := (looks_clsIn X hc).andThen .now
 have hx := I.at_
 dsimp only at ho hx L0 L1
 have f0 := looks_field (M := model prog w) ho 0 (v := .str n tn) rfl
 have f1 := looks_field (M := model prog w) ho 1 (v := owner) rfl
 have f3 := looks_field (M := model prog w) ho 3 (v := .builtin "proto.slot#set") rfl
 have f4 := looks_field (M := model prog w) ho 4 (v := .int behind tb) rfl
 refine codeAny_call_builtin KF.slot_mset.plain KF.entry_mset (KF.slot_mset.check _ _ _ _ _ _ _ _ ⟨_, ho, rfl⟩ (KF.args_mset _ _ _) ?_)
 unfold Builtin.«member_descriptor.__set__» descrSet descrStoreThrough descrCheckInstance descrNameAndClass isInstance
 have f5 : Looks (model prog w) hh (descrItself (.ref p)) [.ref p] := ((Looks.ld (part := none) ho).andThen .now).andThen (Looks.of_pure (by kernel_rfl))
 repeat lk
 refine ⟨Code.quiet_builtin _ (by decide +kernel), codeAny_builtin KF.entry_slotset ?_⟩
 unfold Builtin.«proto.slot#set» Slots.target
 repeat lk
 rw [if_neg hb]
 refine wpAny_pure (wpAny_bind ?_)
 unfold setSlotAt
 dsimp only
 rw [if_neg (by rw [sizeLine_eq]; omega)]
 refine wpAny_updatePart hx (wpAny_pure (h _ (Heap.get?_update_self _ hx ?_) (Heap.SameBut.update ..)))
 obtain ⟨a, b, c, d⟩ := ox
 cases c <;> first | rfl | cases hf
end
section
variable {prog : Program} {w : World} {B : Bs} {C : Ctx} {n : Nat}
theorem zaX {A : Around} {E : Value -> Shared -> Prop} {cw : Bool} {env : Env} {G : GM} {st : St} {s : Shared} {a c i : Nat} {fs : List (Option PV)} {name : Str} {v : Value} {p : PV} (hB : BsOk B) (hC : CtxOk prog w B C n) (O : Ok B w.params G env st s)
  (hσ : st.σ a = some (.ins c fs)) (hs : C.slot c name = some i) (hi : i < fs.length) (hv : VRel w.params G v p) :
  wpAny (model prog w) A (setAttr (.ref a) name v) (Lands B w.params cw env G st s (fun _ st' _ => st' = ⟨st.ρ, bD st.σ a (.ins c (fs.set i (some p)))⟩)) E s := by
 obtain ⟨_, _, q, _, s4, s5, s6, s7, s8, s9⟩ := hC.slot c name i hs
 obtain ⟨⟨dx, sl, h1, h2, h3, h4⟩, g1, g2, g3⟩ := O.rep.cells a _ hσ
 have X : B.K.In s.heap := hB.kin.keeps fun b o e => O.rep.inh.at_ _ _ (O.over _ _ e)
 have I : PySem.W.InstAt s.heap a _ c (some gU) := ⟨h1, rfl, rfl, O.rep.inh.at_ _ _ h2⟩
 refine set_plain X I s5 (osa_descr (s := { s with toks := s.toks + 1 }) (od := some gU) KF.slot_mset X ⟨I.at_, I.cls, I.no, O.rep.inh.at_ _ _ h2⟩ s6 s7 s8 ?_)
 refine zY (s := { s with toks := s.toks + 1 }) (od := some gU) X ⟨I.at_, I.cls, I.no, O.rep.inh.at_ _ _ h2⟩ s4 s9 rfl fun h' hx hsb => ?_
 have cr : CellRel w.params G h' a (.ins c (fs.set i (some p))) := by
  refine ⟨dx, _, hx, h2, ?_, fun j q hj => ?_⟩
  ·simp only [Array.size_setIfInBounds, Array.size_append, Array.size_replicate, List.length_set]; omega
  ·by_cases e : j = i
   ·subst e
    rw [List.getElem?_set_self hi] at hj
    cases hj
    refine ⟨v, ?_, hv⟩
    rw [Array.getElem?_setIfInBounds_self_of_lt]
    simp only [Array.size_append, Array.size_replicate]; omega
   ·rw [List.getElem?_set_ne (Ne.symm e)] at hj
    obtain ⟨u, e1, e2⟩ := h4 j q hj
    refine ⟨u, ?_, e2⟩
    rw [Array.getElem?_setIfInBounds_ne (Ne.symm e)]
    have hlt := (Array.getElem?_eq_some_iff.mp e1).1
    rw [Array.getElem?_append_left hlt]; exact e1
 obtain ⟨R', T'⟩ := O.rep.setCell (cw := cw) hσ hsb cr (show 1 <= s.toks + 1 by omega)
 exact ⟨G, _, rfl, ⟨O.over, R', O.ct.same hsb (by rw [hx]; rfl)⟩, T'⟩
end
end Mine
end
section
open PySem PySem.W PyProof.Rows
open Builtin Builtin.Str
set_option Elab.async false
set_option autoImplicit false
set_option linter.unusedVariables false
namespace Mine
noncomputable def FX (P : Params) (Q : Fl -> St -> Prop) : GM -> St -> Flow -> Prop := fun G' st' f => match f with
 | .next => Q .next st'
 | .brk => Q .brk st'
 | .cont => Q .cont st'
 | .ret v => ∃ p, Q (.ret p) st' /\ VRel P G' v p
noncomputable def nU (prog : Program) (w : World) (B : Bs) (C : Ctx) (n : Nat) (s : Stmt) : Prop :=
 ∀ (A : Around) (E : Value -> Shared -> Prop) (env : Env) (κ : Kn) (G : GM) (st : St) (sh : Shared) (Q : Fl -> St -> Prop), Room n A -> EnvOk env -> KOk κ env -> Ok B w.params G env st sh ->
  wS C κ s Q st -> wpAny (model prog w) A (exec s env) (Lands B w.params true env G st sh (FX w.params Q)) E sh
noncomputable def f8 (prog : Program) (w : World) (B : Bs) (C : Ctx) (n : Nat) (ss : List Stmt) : Prop :=
 ∀ (A : Around) (E : Value -> Shared -> Prop) (env : Env) (κ : Kn) (G : GM) (st : St) (sh : Shared) (Q : Fl -> St -> Prop), Room n A -> EnvOk env -> KOk κ env -> Ok B w.params G env st sh ->
  wSs C κ ss Q st -> wpAny (model prog w) A (execs ss env) (Lands B w.params true env G st sh (FX w.params Q)) E sh
section
variable {prog : Program} {w : World} {B : Bs} {C : Ctx} {n : Nat}
theorem zJ : f8 prog w B C n [] := by
 intro A E env κ G st s Q hA hE hκ O hw
 exact wpAny_execs_nil (aH O hw)
theorem vP {s : Stmt} {ss : List Stmt} (h : nU prog w B C n s) (hs : f8 prog w B C n ss) : f8 prog w B C n (s :: ss) := by
 intro A E env κ G st sh Q hA hE hκ O hw
 refine wpAny_execs_cons (aF (h A E env κ G st sh _ hA hE hκ O hw) fun f G1 st1 s1 hq O1 T1 => ?_)
 cases f with
 | next => exact aL T1 (hs A E env κ G1 st1 s1 Q hA hE hκ O1 hq)
 | brk => exact (aH (X := FX w.params Q) (a := Flow.brk) O1 hq).after T1
 | cont => exact (aH (X := FX w.params Q) (a := Flow.cont) O1 hq).after T1
 | ret v => exact (aH (X := FX w.params Q) (a := Flow.ret v) O1 (by obtain ⟨p, h1, h2⟩ := hq; exact ⟨p, h1, h2⟩)).after T1
theorem tK {p : Pos} : nU prog w B C n (.Break p) := by
 intro A E env κ G st s Q hA hE hκ O hw
 exact wpAny_Break (aH (X := FX w.params Q) (a := Flow.brk) O hw)
theorem vO {p : Pos} : nU prog w B C n (.Continue p) := by
 intro A E env κ G st s Q hA hE hκ O hw
 rw [show exec (.Continue p) env = (do standAt p; pure .cont) from rfl]
 exact wpAny_bind (wpAny_standAt (wpAny_pure (aH (X := FX w.params Q) (a := Flow.cont) O hw)))
theorem pZ {e : Expr} {p : Pos} (he : bT prog w B C n e) : nU prog w B C n (.Return (some e) p) := by
 intro A E env κ G st s Q hA hE hκ O hw
 exact wpAny_Return_some (aF (he A E true env κ G st s _ hA hE hκ O hw) fun v G1 st1 s1 ⟨u, hq, hv⟩ O1 T1 =>
  (aH (X := FX w.params Q) (a := Flow.ret v) O1 ⟨u, hq, hv⟩).after T1)
theorem qB {t : Expr} {m : Option Expr} {p : Pos} (ht : kW prog w B C n t) : nU prog w B C n (.Assert t m p) := by
 intro A E env κ G st s Q hA hE hκ O hw
 exact wpAny_Assert_holds (aF (ht A E true env κ G st s _ hA hE hκ O hw) fun c G1 st1 s1 hq O1 T1 =>
  ⟨hq.1, (aH (X := FX w.params Q) (a := Flow.next) O1 hq.2).after T1⟩)
theorem rZ {env : Env} (hE : EnvOk env) : interactive env = false := by unfold interactive; rw [hE.kind]; rfl
theorem tG {e : Expr} (h : jG e = false) (line : Nat) (env : Env) : swapsWith e none line env = pure false := by
 cases e <;> first | rfl | cases h
theorem vN {e : Expr} {p : Pos} (he : bT prog w B C n e) (hi : dC e = none) : nU prog w B C n (.Expr e p) := by
 intro A E env κ G st s Q hA hE hκ O hw
 rw [l7, hi] at hw
 exact wpAny_Expr_any (aF (he A E true env κ G st s _ hA hE hκ O hw.2) fun v G1 st1 s1 ⟨u, hq, hv⟩ O1 T1 =>
  (aH (X := FX w.params Q) (a := Flow.next) O1 hq).after T1) (rZ hE) (tG hw.1 _ _)
theorem zbP {t : Expr} {b o : List Stmt} {p : Pos} (ht : kW prog w B C n t) (hb : f8 prog w B C n b) (ho : f8 prog w B C n o) : nU prog w B C n (.If t b o p) := by
 intro A E env κ G st s Q hA hE hκ O hw
 refine wpAny_If (aF (ht A E true env κ G st s _ hA hE hκ O hw) fun c G1 st1 s1 hq O1 T1 => ?_)
 cases c
 ·exact aL T1 (ho A E env κ G1 st1 s1 Q hA hE hκ O1 hq)
 ·exact aL T1 (hb A E env κ G1 st1 s1 Q hA hE hκ O1 hq)
theorem zI {b o : List Stmt} {h₀ : ExceptHandler} {hs : List ExceptHandler} {p : Pos} (hb : f8 prog w B C n b) (ho : f8 prog w B C n o) : nU prog w B C n (.Try b (h₀ :: hs) o [] p) := by
 intro A E env κ G st s Q hA hE hκ O hw
 rw [show exec (.Try b (h₀ :: hs) o [] p) env = (do standAt p; tryStmt false (execs b env) (h₀ :: hs) (execs o env) [] env) from rfl]
 refine wpAny_bind (wpAny_standAt (wpAny_tryStmt_except (aF (hb A _ env κ G st s _ hA hE hκ O hw.2.2) fun f G1 st1 s1 hq O1 T1 => ?_)))
 cases f with
 | next => exact aL T1 (ho A E env κ G1 st1 s1 Q hA hE hκ O1 hq)
 | brk => exact (aH (X := FX w.params Q) (a := Flow.brk) O1 hq).after T1
 | cont => exact (aH (X := FX w.params Q) (a := Flow.cont) O1 hq).after T1
 | ret v => exact (aH (X := FX w.params Q) (a := Flow.ret v) O1 (by obtain ⟨p, h1, h2⟩ := hq; exact ⟨p, h1, h2⟩)).after T1
theorem zdz {A : Around} {E : Value -> Shared -> Prop} {G : GM} {s : Shared} {op : Operator} {a b : Value} {p q : PV} {K : PV -> Prop} (hi : InH G s.heap) (ha : VRel w.params G a p) (hb : VRel w.params G b q) (h : inP op p q K) :
  GW (model prog w) A w.params E G s (inplaceOp op a b) K := by
 have twoI : ∀ {r : Int -> Int -> Int}, (asI p fun x => asI q fun y => K (.int (r x y))) -> (∀ x t y u (Q : Value -> Shared -> Prop), Q (.int (r x y) s.toks) { s with toks := s.toks + 1 } -> wpAny (model prog w) A (inplaceOp op (.int x t) (.int y u)) Q E s) -> GW (model prog w) A w.params E G s (inplaceOp op a b) K := by
  intro r h k
  obtain ⟨x, rfl, h1⟩ := bP (v := p) h
  obtain ⟨y, rfl, h2⟩ := bP (v := q) h1
  simp only [VRel] at ha hb
  obtain ⟨t, rfl⟩ := ha; obtain ⟨u, rfl⟩ := hb
  exact lS hi h2 fun Q q => k x t y u Q q
 cases op <;> first | exact False.elim h | skip
 ·cases p <;> first | exact False.elim h | skip
  ·exact twoI (r := fun x y => x + y) h fun _ _ _ _ Q q => iadd_int q
  ·obtain ⟨y, rfl, hz, hk⟩ := cZ (v := q) h
   simp only [VRel] at ha hb
   obtain ⟨t, rfl, hx⟩ := ha
   obtain ⟨u, rfl, hy⟩ := hb
   refine SB.iadd (fun t' k => ?_) (by rw [bW, bW]; exact hz)
   refine ⟨_, G, hk, GS.toks hi _, ?_⟩
   simp only [VRel]
   exact ⟨t', by rw [lF], jE hx hy hz⟩
 ·exact twoI (r := fun x y => x - y) h fun _ _ _ _ Q q => isub_int q
theorem mG {κ : Kn} {env : Env} (hκ : KOk κ env) {x : Str} (h : dX κ x = true) : zcY true env x := by
 unfold dX at h
 simp only [Bool.or_eq_true, beq_iff_eq] at h
 rcases h with h | h
 ·exact .inl (hκ.loc h)
 ·exact .inr ⟨rfl, hκ.cell (.inl h)⟩
theorem zL {x : Str} {px p : Pos} {op : Operator} {e : Expr} (hB : BsOk B) (hC : CtxOk prog w B C n) (he : bT prog w B C n e) (ok2 : (x == ("__classdict__" : Str)) = false) : nU prog w B C n (.AugAssign (.Name x px) op e p) := by
 intro A E env κ G st s Q hA hE hκ O hw
 obtain ⟨hst, hw⟩ := (show dX κ x = true /\ opt (st.ρ x) _ from hw)
 have hst' := hst
 unfold dX at hst
 obtain ⟨old, e0, hw⟩ := bQ hw
 refine wpAny_AugAssign_Name ?_
 have hN' := qO (p := px) hB hC ok2 A E true env κ G st s (fun v st' => v = old /\ st' = st) hE hκ O (by rw [gW, if_neg (fun q => by rw [q] at hst; cases hst), e0]; exact ⟨rfl, rfl⟩)
 refine aF hN' fun ov G1 st1 s1 ⟨u, ⟨hu, hst1⟩, hv⟩ O1 T1 => ?_
 subst hu hst1
 refine aF (he A E true env κ G1 st1 s1 _ hA hE hκ O1 hw) fun v G2 st2 s2 ⟨u2, hq2, hv2⟩ O2 T2 => ?_
 refine aF (cw := true) (bL (Q := fun r st' => Q .next ⟨upd st'.ρ x r, st'.σ⟩) O2 (zdz O2.rep.inh (hv.mono T2.ext) hv2 hq2)) fun r G3 st3 s3 ⟨u3, hq3, hv3⟩ O3 T3 => ?_
 refine aF (mF (cw := true) hE O3 (mG hκ hst') hv3) fun _ G4 st4 s4 e4 O4 T4 => ?_
 subst e4
 exact (aH (X := FX w.params Q) (a := Flow.next) O4 hq3).after (T1.trans (T2.trans (T3.trans T4)))
end
section
variable {prog : Program} {w : World} {B : Bs} {C : Ctx} {n : Nat}
theorem Tr.at1 {cw : Bool} {env : Env} {G G' : GM} {st st' : St} {s s' : Shared} (T : Tr cw env G st s G' st' s') {I : Addr} (hI : s.heap.get? I = none) {h' : Heap} {k : Nat} (hk : ∀ b o, b ≠ I -> s'.heap.get? b = some o -> h'.get? b = some o) : Tr cw env G st s G' st' { s' with heap := h', toks := k } where
 ext := T.ext
 new := T.new
 keep := fun a o n e h1 h2 h3 => hk a o (fun q => by rw [q, hI] at e; cases e) (T.keep a o n e h1 h2 h3)
 alive := fun a e => by
  obtain ⟨o, ho⟩ := Option.isSome_iff_exists.mp (T.alive a e)
  show (h'.get? a).isSome = true
  rw [hk a o (fun q => by rw [q, hI] at e; cases e) ho]; rfl
 dom := T.dom
 fresh := T.fresh
 os := T.os
 gens := T.gens
theorem tI {t : Expr} {b o : List Stmt} {p : Pos} (ht : kW prog w B C n t) (hb : f8 prog w B C n b) (ho : f8 prog w B C n o) : nU prog w B C n (.While t b o p) := by
 intro A E env κ G st s Q hA hE hκ O hw
 obtain ⟨m, hw⟩ := hw
 refine wpAny_While (codeAny_whileLoop (fun k s' => ∃ Gj stj, Ok B w.params Gj env stj s' /\ eK (wE C t κ) (wSs C κ b) (wSs C κ o) Q k stj /\ Tr true env G st s Gj stj s') ?_ m ⟨G, st, O, hw, .refl⟩)
 rintro k s' ⟨Gj, stj, Oj, hwj, Tj⟩
 cases k with
 | zero => exact hwj.elim
 | succ k =>
  refine aF (ht A _ true env κ Gj stj s' _ hA hE hκ Oj hwj) fun c G1 st1 s1 hq O1 T1 => ?_
  cases c with
  | false =>
   refine aF (ho A _ env κ G1 st1 s1 Q hA hE hκ O1 hq) fun f G2 st2 s2 hq2 O2 T2 => ?_
   exact (aH (X := FX w.params Q) (a := f) O2 hq2).after (Tj.trans (T1.trans T2))
  | true =>
   refine aF (hb A _ env κ G1 st1 s1 _ hA hE hκ O1 hq) fun f G2 st2 s2 hq2 O2 T2 => ?_
   have T := Tj.trans (T1.trans T2)
   cases f with
   | next => exact ⟨k, Nat.lt_succ_self _, G2, st2, O2, hq2, T⟩
   | cont => exact ⟨k, Nat.lt_succ_self _, G2, st2, O2, hq2, T⟩
   | brk => exact (aH (X := FX w.params Q) (a := Flow.next) O2 hq2).after T
   | ret v => exact (aH (X := FX w.params Q) (a := Flow.ret v) O2 (by obtain ⟨p, h1, h2⟩ := hq2; exact ⟨p, h1, h2⟩)).after T
noncomputable def F3 (R : Result -> Shared -> Prop) (N : Shared -> Prop) (f : Flow) (s : Shared) : Prop := match f with
 | .next | .cont => N s
 | .brk => R (.ok .next) s
 | .ret v => R (.ok (.ret v)) s
noncomputable def F1 (prog : Program) (w : World) (A : Around) (R : Result -> Shared -> Prop) (env : Env) (tgt : Expr) (b : List Stmt) (N : Shared -> Prop) (v : Value) : Unit -> Shared -> Prop := fun _ s =>
 wpAny (model prog w) A (assign tgt env v) (fun _ s => wpAny (model prog w) A (execs b env) (F3 R N) (TE prog w A R env) s) (TE prog w A R env) s
noncomputable def F0 (prog : Program) (w : World) (A : Around) (R : Result -> Shared -> Prop) (env : Env) (it : Value) (tgt : Expr) (b o : List Stmt) (N : Shared -> Prop) (r : Option Value) (s : Shared) : Prop := match r with
 | none => wpAny (model prog w) A (execs o env) (fun f s => R (.ok f) s) (TE prog w A R env) s
 | some v => wpAny (model prog w) A (letOwnedTupleGo tgt it v) (F1 prog w A R env tgt b N v) (TE prog w A R env) s
theorem xI {A : Around} {R : Result -> Shared -> Prop} {s : Shared} {tgt : Expr} {b o : List Stmt} {it : Value} {env : Env} (I : Nat -> Shared -> Prop)
  (turn : ∀ n s, I n s -> wpAny (model prog w) A (pyNext it) (F0 prog w A R env it tgt b o fun s => ∃ m, m < n /\ I m s) (TE prog w A R env) s) (n : Nat) (h : I n s) : codeAny (model prog w) A (.forLoop tgt it b o env) R s :=
 codeAny_forLoop_any I (fun n s h => wpAny_mono (turn n s h) (fun r _ x => by cases r <;> exact x) fun _ _ e => e) n h
theorem zK {tgt iter : Expr} {b o : List Stmt} {p : Pos} (hi : bT prog w B C n iter) (hb : f8 prog w B C n b) (ho : f8 prog w B C n o) (hs : qG iter = true) : nU prog w B C n (.For tgt iter b o p) := by
 intro A E env κ G st s Q hA hE hκ O hw
 obtain ⟨hn, hw⟩ := hw
 have hn' : ∀ x ∈ bY tgt, zcY true env x := fun x hx => mG hκ (List.all_eq_true.mp hn x hx)
 refine wpAny_For (aF (hi A E true env κ G st s _ hA hE hκ O hw) fun xv G1 st1 s1 ⟨u, hq, hv⟩ O1 T1 => ?_) (fun x => kB hs env x)
 obtain ⟨items, hit, hz, hq⟩ := bQ hq
 obtain ⟨ρ1, σ1⟩ := st1
 refine w6 O1.rep.inh hv hit fun I h' Ws g hI hlt hT hws => ?_
 have hTA := hT A hA.handled
 have O2 := O1.grow g O1.rep.tk
 have i1 := O1.g0 hI
 have i2 := O1.s0 hI
 have i3 := O1.l0 hI
 have i4 := O1.c0 hI
 have i5 := O1.rep.inh.tab.ne hI
 let J : Nat -> Shared -> Prop := (fun k s' => ∃ done rest Gj ρj σj, items = done ++ rest /\ k = rest.length + 1 /\ Ws done.length s'.heap /\ Ok B w.params Gj env ⟨ρj, σj⟩ s' /\ hU tgt (wSs C κ b) (wSs C κ o) Q rest ⟨ρj, σj⟩ /\
  Tr true env G1 ⟨ρ1, σ1⟩ s1 Gj ⟨ρj, σj⟩ s' /\ Gj I = none /\ σj I = none)
 refine xI J ?_ (items.length + 1) ⟨[], items, G1, ρ1, σ1, rfl, rfl, hws, O2, hq, g.tr, i1, i2⟩
 refine fun k s' => x5 fun done rest Gj ρj σj => a8 fun hit' hk' hwsj Oj hqj Tj j1 j2 => ?_
 cases rest with
 | nil =>
  rw [List.append_nil] at hit'
  subst hit'
  refine wpAny_with_toks (n := 1) Oj.rep.tk (hTA.done s' _ _ hwsj fun h2 tk hk htk => ?_)
  refine aF (ho A _ env κ Gj _ _ Q hA hE hκ (Oj.at1 j1 j2 i3 i4 i5 htk hk) hqj) fun f G2 st2 s2 hq2 O2 T2 => ?_
  exact (aH (X := FX w.params Q) (a := f) O2 hq2).after (T1.trans ((Tj.at1 hI hk).trans T2))
 | cons v rest =>
  obtain ⟨ρb, hbind, hqj⟩ := bQ hqj
  refine wpAny_with_toks (n := 1) Oj.rep.tk (hTA.item done.length v s' _ _ (by rw [hit']; simp) hwsj fun val h2 tk hval hws2 hk hgo htk => ?_)
  have O3 := Oj.at1 j1 j2 i3 i4 i5 htk hk
  have T3 := Tj.at1 (k := tk) hI hk
  obtain ⟨oI, aI⟩ := hTA.alive _ _ hws2
  refine hgo _ _ _ ?_
  refine aF (kP (cw := true) hA.handled hE O3 hn' (hval.mono Tj.ext) hbind) fun _ G4 st4 s4 e4 O4 T4 => ?_
  subst e4
  refine aF (hb A _ env κ G4 _ s4 _ hA hE hκ O4 hqj) fun f G5 st5 s5 hq5 O5 T5 => ?_
  have T45 := T4.trans T5
  have T := T3.trans T45
  obtain ⟨ρ5, σ5⟩ := st5
  have inv : hU tgt (wSs C κ b) (wSs C κ o) Q rest ⟨ρ5, σ5⟩ -> ∃ m, m < k /\ J m s5 := fun hq6 => by
   refine ⟨rest.length + 1, hk' ▸ Nat.lt_succ_self _, done ++ [v], rest, G5, ρ5, σ5, by rw [hit']; simp, rfl, ?_, O5, hq6, T, gX T45 aI j1, dW T45 aI j2⟩
   rw [List.length_append, List.length_singleton]
   exact hTA.frame _ _ _ hws2 (fun o e => T45.keep I o i5 e i3 (fun _ x => i4 x) j2) (O5.rep.inh.sub T.ext)
  cases f with
  | next => exact inv hq5
  | cont => exact inv hq5
  | brk => exact (aH (X := FX w.params Q) (a := Flow.next) O5 hq5).after (T1.trans T)
  | ret v => exact (aH (X := FX w.params Q) (a := Flow.ret v) O5 (by obtain ⟨p, h1, h2⟩ := hq5; exact ⟨p, h1, h2⟩)).after (T1.trans T)
end
noncomputable def zds (ts : List Expr) (v : Expr) : Bool := (zc2 v).isNone || ts.all fun t => (nmE t).isSome
theorem jC {ts : List Expr} {v : Expr} (h : zds ts v = true) (env : Env) : swappedStores ts v env = pure none := by
 match ts with
 | [] => rfl
 | a :: b :: r => cases a <;> first | rfl | (cases v <;> rfl)
 | [t] => cases t <;> first | rfl | (cases v <;> first | rfl | cases h)
theorem zb9 {β : Type} {t : Expr} (h : nmE t = none) (a : β) (f : Str -> Pos -> β) (b : β) : (match (some t : Option Expr) with | none => a | some (.Name x p) => f x p | some _ => b) = b := by
 cases t <;> first | rfl | cases h
theorem zbO {v t : Expr} {line : Nat} {env : Env} (h : jG v = true) : ∃ b, swapsWith v (some t) line env = pure b /\ (b = true -> ∃ x p, t = .Name x p /\ env.kindOf x = some .local) := by
 cases hn : nmE t with
 | some x =>
  obtain ⟨p, rfl⟩ := eY hn
  cases v <;> first | (cases h; done) | (refine ⟨_, rfl, fun h => ⟨x, p, rfl, ?_⟩⟩; simp only [Bool.and_eq_true, beq_iff_eq] at h; exact h.1.1.2)
 | none =>
  refine ⟨false, ?_, fun h => by cases h⟩
  cases v <;> first | (cases h; done) | exact zb9 hn _ _ _
theorem lE (ts : List Expr) (v : Expr) (line : Nat) (env : Env) : ∃ b, swapsWithSole ts v line env = pure b /\ (b = true -> ∃ x px, ts = [.Name x px] /\ env.kindOf x = some .local /\ jG v = true) := by
 match ts with
 | [] => exact ⟨false, rfl, fun h => by cases h⟩
 | _ :: _ :: _ => exact ⟨false, rfl, fun h => by cases h⟩
 | [t] =>
  by_cases hv : jG v = true
  ·obtain ⟨b, h1, h2⟩ := zbO (t := t) (line := line) (env := env) hv
   exact ⟨b, h1, fun h => let ⟨x, p, e, k⟩ := h2 h; ⟨x, p, by rw [e], k, hv⟩⟩
  ·refine ⟨false, ?_, fun h => by cases h⟩
   cases v <;> first | rfl | exact absurd rfl hv
section
variable {prog : Program} {w : World} {B : Bs} {C : Ctx} {n : Nat}
theorem kH {t : Expr} (h : b9 t = true) {ts : List Expr} {env : Env} : assignEach (t :: ts) env = (false, assign t env) :: assignEach ts env := by cases t <;> first | rfl | cases h
theorem f7 {A : Around} {E : Value -> Shared -> Prop} {env : Env} {P : Params} (hh : A.handled = none) (hE : EnvOk env) : ∀ (ts : List Expr) (G : GM) (st : St) (s : Shared) (v : Value) (p : PV) (ρ' : d9), Ok B P G env st s -> (∀ t ∈ ts, ∀ x ∈ bY t, zcY true env x) -> ts.all b9 = true ->
  VRel P G v p -> nQ ts p st.ρ = some ρ' -> wpAny (model prog w) A (assignAll v ((assignEach ts env).map (·.2))) (Lands B P true env G st s (fun _ st' _ => st' = ⟨ρ', st.σ⟩)) E s
 | [], G, st, s, v, p, ρ', O, hx, hs, hv, h => by
  cases h
  exact wpAny_pure (aH O rfl)
 | [t], G, st, s, v, p, ρ', O, hx, hs, hv, h => by
  obtain ⟨ρ1, e, h⟩ := Option.bind_eq_some_iff.mp h
  cases h
  rw [kH (aW hs).1]
  exact kP hh hE O (hx t List.mem_cons_self) hv e
 | t :: t' :: ts, G, st, s, v, p, ρ', O, hx, hs, hv, h => by
  obtain ⟨ρ1, e, h⟩ := Option.bind_eq_some_iff.mp h
  have hs' := (aW hs).2
  have e2 := kH (env := env) (aW hs').1 (ts := ts)
  rw [kH (aW hs).1, List.map_cons, e2, List.map_cons]
  show wpAny _ _ (do holding [v] (assign t env v); assignAll v (assign t' env :: (assignEach ts env).map (·.2))) _ _ _
  refine wpAny_bind (wpAny_holding (aF (kP (cw := true) hh hE O (hx t List.mem_cons_self) hv e) fun _ G1 st1 s1 e3 O1 T1 => ?_))
  subst e3
  have := f7 (E := E) hh hE (t' :: ts) G1 _ s1 v p ρ' O1 (fun y hy => hx y (List.mem_cons_of_mem _ hy)) hs' (hv.mono T1.ext) h
  rw [e2] at this
  exact aL T1 this
theorem yC {C : Ctx} {κ : Kn} {Q : PV -> St -> Prop} {st : St} {e : Expr} (h : jG e = true) (hw : wE C e κ Q st) : ∃ elt gens sc cp, e = .ListComp elt gens sc cp := by
 cases e <;> first | (cases h; done) | exact False.elim hw | exact ⟨_, _, _, _, rfl⟩
theorem zaV {C : Ctx} {κ : Kn} {Q : PV -> St -> Prop} {st : St} {elt : Expr} {gens : List Comprehension} {sc : Scope} {cp : Pos} (hw : wE C (.ListComp elt gens sc cp) κ Q st) : ∃ tgt iter ifs asy, gens = [⟨tgt, iter, ifs, asy⟩] := by
 match gens, hw with
 | [], hw => exact False.elim hw
 | ⟨_, _, _, _⟩ :: _ :: _, hw => exact False.elim hw
 | [⟨_, _, _, _⟩], _ => exact ⟨_, _, _, _, rfl⟩
theorem uS {ts : List Expr} {x name : Str} (h : pJ ts = some (x, name)) : ∃ px p, ts = [.Attribute (.Name x px) name p] := by
 match ts, h with
 | [t], h =>
  cases ht : atN t with
  | none =>
   have : pJ [t] = none := by
    revert ht
    exact dF (P := fun t => atN t = none -> pJ [t] = none) (fun _ _ _ _ => rfl) (fun _ _ _ => rfl) (fun _ _ _ _ => rfl) (fun _ _ _ h => by cases h) (fun _ _ _ _ _ => rfl) (fun _ _ _ _ _ => rfl) (fun _ _ _ _ _ => rfl) (fun _ _ _ _ => rfl) (fun e he _ _ => he _ _ _ _ _ _ _ _) t
   rw [this] at h; cases h
  | some n =>
   obtain ⟨o, p, rfl⟩ := nR ht
   obtain ⟨y, hy, e⟩ := Option.map_eq_some_iff.mp h
   cases e
   obtain ⟨p, rfl⟩ := eY hy
   exact ⟨_, _, rfl⟩
theorem qA {ts : List Expr} {e : Expr} {p : Pos} (hB : BsOk B) (hC : CtxOk prog w B C n) (he : bT prog w B C n e) (hsw : zds ts e = true) (hs : ts.all b9 = true)
  (hx : ∀ x name, pJ ts = some (x, name) -> (x == ("__debug__" : Str)) = false /\ (x == ("__classdict__" : Str)) = false) (hsub : zdZ prog w B C n e) : nU prog w B C n (.Assign ts e p) := by
 intro A E env κ G st s Q hA hE hκ O hw
 have hw : wE C e κ (fun v st1 => eJ C κ ts v st1 fun st2 => Q .next st2) st := hw
 obtain ⟨b, hb, hb'⟩ := lE ts e p.line env
 cases b with
 | false =>
  refine wpAny_Assign_stores (aF (he A E true env κ G st s _ hA hE hκ O hw) fun v G1 st1 s1 ⟨u, hq, hv⟩ O1 T1 => ?_) hb (jC hsw env)
  cases ht : pJ ts with
  | some xn =>
   obtain ⟨x, name⟩ := xn
   dsimp only [eJ] at hq
   rw [ht] at hq
   obtain ⟨px, pa, rfl⟩ := uS ht
   obtain ⟨ok1, ok2⟩ := hx x name ht
   obtain ⟨y, ha, hq1⟩ := bQ hq
   obtain ⟨a, rfl, c, fs, i, h1, h2, h3, h4⟩ := pL hq1
   clear hq hq1
   show wpAny _ _ (assign (.Attribute (.Name x px) name pa) env v) _ _ _
   rw [show assign (.Attribute (.Name x px) name pa) env v = (do
    let ov <- holding [v] (PySem.eval (.Name x px) env)
    standAt pa.atName
    holding [v, ov] (setAttr ov name v)
    release [v, ov] []) from rfl]
   refine wpAny_bind (wpAny_holding (wpAny_Name (aF (qO (p := px) hB hC ok2 A E true env κ G1 st1 s1 (fun q st' => q = .ptr a /\ st' = st1) hE hκ O1 (by rw [gW, if_neg (fun q => by have h1 := hκ.glob q; rcases O1.rep.kind x _ ha with h | h | h <;> rw [h1] at h <;> cases h), ha]; exact ⟨rfl, rfl⟩)) fun ov G2 st2 s2 ⟨q, ⟨hq1, hq2⟩, hov⟩ O2 T2 => ?_) ok1))
   subst hq1 hq2
   simp only [VRel] at hov; subst hov
   refine wpAny_bind (wpAny_standAt (wpAny_bind (wpAny_holding ?_)))
   refine aF (zaX (cw := true) hB hC O2 h1 h2 h3 (hv.mono T2.ext)) fun _ G3 st3 s3 e3 O3 T3 => wpAny_release' ?_
   subst e3
   exact (aH (X := FX w.params Q) (a := Flow.next) O3 h4).after (T1.trans (T2.trans T3))
  | none =>
   dsimp only [eJ] at hq
   rw [ht] at hq
   obtain ⟨hn, hq⟩ := hq
   obtain ⟨ρ', hbnd, hq⟩ := bQ hq
   refine aF (f7 hA.handled hE ts G1 st1 s1 v u ρ' O1 (fun t ht x hx => mG hκ (List.all_eq_true.mp (List.all_eq_true.mp hn t ht) x hx)) hs hv hbnd) fun _ G2 st2 s2 e2 O2 T2 => ?_
   subst e2
   exact (aH (X := FX w.params Q) (a := Flow.next) O2 hq).after (T1.trans T2)
 | true =>
  obtain ⟨x, px, rfl, hl, hcm⟩ := hb' rfl
  obtain ⟨elt, gens, sc, cp, rfl⟩ := yC hcm hw
  obtain ⟨tgt, iter, ifs, asy, rfl⟩ := zaV hw
  obtain ⟨s1, s2, s3, s4⟩ := hsub _ _ _ _ rfl
  clear hsub he hsw hb'
  obtain ⟨rfl, hsc, hn, hw⟩ := (show asy = 0 /\ cW κ sc = true /\ (bY tgt).all (fun x => sc.names.lookup x == some .local) = true /\ wE C iter κ _ st from hw)
  have hn' : ∀ x ∈ bY tgt, sc.names.lookup x = some .local := fun x hx => by simpa using List.all_eq_true.mp hn x hx
  have hclos := lW (scope := sc) (env := env) fun m hm hf => by
   obtain ⟨c, v, h1, h2⟩ := O.rep.cell0 m.1 (iZ hκ hsc m hm hf)
   exact ⟨c, h1⟩
  rw [exec_Assign_arm]
  refine wpAny_bind (wpAny_standAt ?_)
  rw [hb]
  refine wpAny_bind (wpAny_pure ?_)
  rw [if_pos rfl]
  show wpAny _ A (do
   (do let _ <- comprehension (.ListComp elt [⟨tgt, iter, ifs, 0⟩] sc cp) sc env iter.pos (newList []) false (PySem.eval iter env) (some (assign (.Name x px) env)))
   pure Flow.next) _ _ s
  refine wpAny_bind (wpAny_bind (wpAny_mono (wpAny_comprehension_free (use := some (assign (.Name x px) env)) (Q := fun _ s' => Lands B w.params true env G st s (FX w.params Q) Flow.next s') rfl (fun x => kB s4 env x) hclos (mJ hsc) (rT hsc) ?_) (fun _ s' hq => wpAny_pure (wpAny_pure hq)) fun _ _ e => e))
  refine aF (s2 A E true env κ G st s _ hA hE hκ O hw) fun xv G1 st1 s1' ⟨u, hq, hv⟩ O1 T1 => ?_
  obtain ⟨ρ1, σ1⟩ := st1
  obtain ⟨items, hit, hq⟩ := bQ hq
  ·refine lV s1 s3 hA hE hκ hsc hn' O1 hv hit hq.1 hq.2 fun D L G' σ' s' acc ys m hq' O' F' hp hr d1 d2 d3 hm hL l1 l2 hDL hz => ?_
   obtain ⟨p', G'', σ'', hQ, O2, F2, hv2, l3, l4⟩ := sU O1 hq' O' F' hp hr d1 d2 d3 l1 l2 hDL hz
   show wpAny _ A (assign (.Name x px) env (.ref D)) _ _ _
   have hbnd : eJ C κ [.Name x px] p' ⟨ρ1, σ''⟩ (fun st2 => Q .next st2) := hQ
   obtain ⟨_, hbnd⟩ := (show _ /\ opt _ fun ρ' => Q .next ⟨ρ', σ''⟩ from hbnd)
   have hstor : zcY true env x := .inl hl
   obtain ⟨oL, eL⟩ : ∃ o, s'.heap.get? L = some o := by obtain ⟨o, _, _, h1, _⟩ := hm; exact ⟨o, h1⟩
   refine aF (kP (cw := true) (t := .Name x px) (ρ' := upd ρ1 x p') hA.handled hE O2 (fun y hy => by have e := List.mem_singleton.mp (show y ∈ [x] from hy); subst e; exact hstor) hv2 rfl) fun _ G3 st3 s3' e3 O3 T3 => ?_
   subst e3
   refine ⟨m, hm.at' fun o e => T3.keep L o (O1.rep.inh.tab.ne hL) e (O1.l0 hL) (fun _ y => O1.c0 hL y) l4, fun h' hs' => ?_⟩
   have O4 := yP O3.rep.tk O1 hL O3 (gX T3 eL l3) (dW T3 eL l4) hs'
   refine ⟨G3, _, hbnd, O4, ?_⟩
   exact T1.trans ((F2.tr.trans T3).at1 hL fun b o hb e => (hs'.2 b hb).trans e)
end
section
variable {prog : Program} {w : World} {B : Bs} {C : Ctx} {n : Nat}
theorem qN (hB : BsOk B) {env : Env} (hE : EnvOk env) (id : Str) (p : Pos) : ∃ b, Looks (model prog w) B.h₀ (do return (<- importBound (.Name id p) env).getD true) b := by
 have ns : ∀ s : Shared, (∀ a o, B.h₀.get? a = some o -> s.heap.get? a = some o) -> s.heap.Ns env.globals B.mg := fun s k => by rw [hE.glob]; exact hB.g.keeps k
 have triv : ∀ v, (∀ x t, v ≠ some (.str x t)) -> B.mg "__name__" = v -> Looks (model prog w) B.h₀ (do return (<- importBound (.Name id p) env).getD true) true := by
  intro v hv e A Q E s k q
  unfold importBound
  refine wpAny_bind (wpAny_bind (wpAny_askSetting (wpAny_bind (wpAny_nsGet (ns s k) ?_))))
  rw [e]
  cases v with
  | none => exact wpAny_pure (wpAny_pure q)
  | some v => cases v <;> first | exact wpAny_pure (wpAny_pure q) | exact absurd rfl (hv _ _)
 cases e : B.mg "__name__" with
 | none => exact ⟨true, triv none (fun _ _ h => by cases h) e⟩
 | some v =>
  cases v with
  | str x t =>
   refine ⟨((if (x == ("__main__" : Str)) = true then some prog.main else (prog.modules.lookup x).map (·.2)).map fun top => importsBind id top.body).getD true, fun A Q E s k q => ?_⟩
   unfold importBound
   refine wpAny_bind (wpAny_bind (wpAny_askSetting (wpAny_bind (wpAny_nsGet (ns s k) ?_))))
   rw [e]
   exact wpAny_pure (wpAny_pure q)
  | _ => exact ⟨true, triv _ (fun _ _ h => by cases h) e⟩
theorem mY {e : Expr} {args : List Expr} : dC e = some args -> ∃ np ap p, e = .Call (.Attribute (.Name "Node" np) "__init__" ap) args [] p := by
 refine dF (P := fun e => dC e = some args -> ∃ np ap p, e = .Call (.Attribute (.Name "Node" np) "__init__" ap) args [] p) ?_ ?_ ?_ ?_ ?_ ?_ (fun f as kws p h => ?_) ?_ (fun e _ he h => by rw [dC, he] at h; cases h) e
 case refine_7 =>
  cases hf : atN f with
  | none =>
   refine absurd h ?_
   have : exc none (fun _ => none) (fun _ => none) (fun _ => none) (fun o m _ => if nmE o = some "Node" /\ m = "__init__" /\ kws.isEmpty = true then some as else none) (fun _ _ => none) (fun _ _ => none) f = (none : Option (List Expr)) := by
    revert hf
    exact dF (P := fun f => atN f = none -> exc none (fun _ => none) (fun _ => none) (fun _ => none) (fun o m _ => if nmE o = some "Node" /\ m = "__init__" /\ kws.isEmpty = true then some as else none) (fun _ _ => none) (fun _ _ => none) f = (none : Option (List Expr))) (fun _ _ _ _ => rfl) (fun _ _ _ => rfl) (fun _ _ _ _ => rfl) (fun _ _ _ h => by cases h) (fun _ _ _ _ _ => rfl) (fun _ _ _ _ _ => rfl) (fun _ _ _ _ _ => rfl) (fun _ _ _ _ => rfl) (fun e he _ _ => he _ _ _ _ _ _ _ _) f
   show ¬ (exc none (fun _ => none) (fun _ => none) (fun _ => none) (fun o m _ => if nmE o = some "Node" /\ m = "__init__" /\ kws.isEmpty = true then some as else none) (fun _ _ => none) (fun _ _ => none) f = some args)
   rw [this]; intro q; cases q
  | some m =>
   obtain ⟨o, ap, rfl⟩ := nR hf
   have h : (if nmE o = some "Node" /\ m = "__init__" /\ kws.isEmpty = true then some as else none) = some args := h
   by_cases q : nmE o = some "Node" /\ m = "__init__" /\ kws.isEmpty = true
   ·rw [if_pos q] at h
    cases h
    obtain ⟨q1, rfl, q3⟩ := q
    obtain ⟨np, rfl⟩ := eY q1
    cases List.isEmpty_iff.mp q3
    exact ⟨_, _, _, rfl⟩
   ·rw [if_neg q] at h; cases h
 all_goals (intros; rename_i h; cases h)
theorem vM {args : List Expr} {np ap cp p : Pos} (hB : BsOk B) (hC : CtxOk prog w B C n) (h : ∀ e ∈ args, bT prog w B C n e) (hs : args.all b9 = true) (hlen : args.length < 30) (hline : (ap.endLine == cp.line) = true) :
  nU prog w B C n (.Expr (.Call (.Attribute (.Name "Node" np) "__init__" ap) args [] cp) p) := by
 intro A E env κ G st s Q hA hE hκ O hw
 obtain ⟨hi, hk, hw⟩ : C.ini = true /\ κ "Node" = some .globalImplicit /\ wEs C args κ (fun vs st1 => w8 C vs st1 fun st2 => Q .next st2) st := by
  have e : (if nmE (.Name "Node" np) = some "Node" /\ ("__init__" : Str) = "__init__" /\ ([] : List Keyword).isEmpty = true then some args else none) = some args := if_pos ⟨rfl, rfl, rfl⟩
  rw [l7, show dC (.Call (.Attribute (.Name "Node" np) "__init__" ap) args [] cp) = some args from e] at hw
  exact hw
 obtain ⟨nodeV, fV, i1, i2, i3, i4⟩ := hC.ini hi
 obtain ⟨b, hb⟩ := qN (prog := prog) (w := w) hB hE "Node" np
 refine wpAny_Expr_any ?_ (rZ hE) rfl
 have hform : methodCallForm (args.length + ([] : List Keyword).length) (backTo cp (starEach args env)) (backToKw cp (keywordEach [] env)) = true := by
  unfold methodCallForm
  rw [g9 args env hs]
  exact yQ rfl (decide_eq_true hlen)
 have hpos : methodCallPos true (.Name "Node" np) env ap cp = pure cp := by unfold methodCallPos; simp [hline]
 rw [arm_eval_Call, rC rfl]
 refine wpAny_bind (wpAny_Name ?_ (by decide +kernel))
 rw [loadName_read hE.kind (hκ.glob hk)]
 refine dB hB hE O.rep.inh O.over i1 ?_
 refine wpAny_bind (wpAny_standAt ?_)
 unfold methodCall
 rw [hform]
 refine wpAny_bind (wpAny_holding (i3 A E s _ _ b (fun a o e => O.rep.inh.at_ _ _ (O.over _ _ e)) hb fun k hk' => ?_))
 refine wpAny_bind (wpAny_of_eq hpos ?_)
 have g := GS.toks O.rep.inh k
 have O0 := O.grow g (show 1 <= k from Nat.le_trans O.rep.tk hk')
 refine dH (jU args env hs) (wpAny_mono (mH args h hs A E true env κ G st _ _ hA hE hκ O0 hw) (fun a s1 ⟨vs, ha, G1, st1, ⟨ps, hq, hv⟩, O1, T1⟩ => ?_) fun _ _ e => e)
 subst ha
 refine ⟨O1.keepsAt i2, ?_⟩
 obtain ⟨p, pa, pb, rfl, hq1⟩ := mC hq
 obtain ⟨ad, rfl, hq2⟩ := pL hq1
 clear hq hq1
 obtain ⟨v, _, rfl, h0, va, _, rfl, h1, vb, _, rfl, h2, rfl⟩ := hv
 simp only [VRel] at h0
 subst h0
 refine wpAny_mono (i4 A E true env G1 st1 s1 ad va vb pa pb _ hA O1 h1 h2 hq2) (fun v s2 ⟨G2, st2, hq2, O2, T2⟩ => ?_) fun _ _ e => e
 exact (aH (X := FX w.params Q) (a := Flow.next) O2 hq2).after (g.tr.trans (T1.trans T2))
noncomputable def zbh (ts : List Expr) : Bool := match pJ ts with
 | some xn => okN xn.1
 | none => true
mutual
noncomputable def okS : Stmt -> Bool
 | .Expr e _ => okE e
 | .Return e _ => okO e
 | .Assign ts e _ => okE e && (zds ts e && (ts.all b9 && zbh ts))
 | .AugAssign t _ e _ => okE e && okE t
 | .If t b o _ => okE t && (oG b && oG o)
 | .While t b o _ => okE t && (oG b && oG o)
 | .For _ iter b o _ => okE iter && (qG iter && (oG b && oG o))
 | .Try b _ o _ _ => oG b && oG o
 | .Assert t _ _ => okE t
 | _ => true
noncomputable def oG : List Stmt -> Bool
 | [] => true
 | s :: ss => okS s && oG ss
end
theorem lB {s : Stmt} (h : ∀ κ Q st, ¬ wS C κ s Q st) : nU prog w B C n s := fun _ _ _ _ _ _ _ _ _ _ _ _ hw => (h _ _ _ hw).elim
theorem tJ {e : Expr} {p : Pos} (hB : BsOk B) (hC : CtxOk prog w B C n) (h : okE e = true) : nU prog w B C n (.Expr e p) := by
 cases hi : dC e with
 | none => exact vN (snd hB hC h) hi
 | some args =>
  obtain ⟨np, ap, cp, rfl⟩ := mY hi
  have h := (aW (aW h).2)
  exact vM hB hC (fun e he => (fG hB hC args h.1 e he).1) (aW h.2).1 (of_decide_eq_true (aW (aW h.2).2).1) (aW (aW h.2).2).2
theorem vQ {t e : Expr} {op : Operator} {p : Pos} (hB : BsOk B) (hC : CtxOk prog w B C n) (h : okE e = true) (ht : okE t = true) : nU prog w B C n (.AugAssign t op e p) := by
 cases hn : nmE t with
 | none => exact lB fun κ Q st hw => by have hw : opt (nmE t) _ := hw; rw [hn] at hw; exact hw
 | some x =>
  obtain ⟨px, rfl⟩ := eY hn
  exact zL hB hC (snd hB hC h) (eC (aW ht).2)
theorem vL {b o f : List Stmt} {hs : List ExceptHandler} {p : Pos} (hb : f8 prog w B C n b) (ho : f8 prog w B C n o) : nU prog w B C n (.Try b hs o f p) := by
 cases hs with
 | nil => exact lB fun κ Q st hw => Bool.noConfusion hw.1
 | cons h hs => cases f with
  | nil => exact zI hb ho
  | cons f fs => exact lB fun κ Q st hw => Bool.noConfusion hw.2.1
theorem n7 {ts : List Expr} {e : Expr} {p : Pos} (hB : BsOk B) (hC : CtxOk prog w B C n) (h : okE e = true) (h1 : zds ts e = true) (h2 : ts.all b9 = true) (h3 : zbh ts = true) : nU prog w B C n (.Assign ts e p) :=
 qA hB hC (snd hB hC h) h1 h2 (fun x name hx => by
  have h3 : (match pJ ts with
   | some xn => okN xn.1
   | none => true) = true := h3
  rw [hx] at h3; exact ⟨eC (aW h3).1, eC (aW h3).2⟩) (dJ hB hC e h).2.2
mutual
theorem zeg (hB : BsOk B) (hC : CtxOk prog w B C n) : ∀ s : Stmt, okS s = true -> nU prog w B C n s
 | .Expr _ _, h => tJ hB hC h
 | .Break _, _ => tK
 | .Continue _, _ => vO
 | .Return (some _) _, h => pZ (snd hB hC h)
 | .Return none _, _ => lB fun _ _ _ h => h
 | .Assign _ _ _, h => n7 hB hC (aW h).1 (aW (aW h).2).1 (aW (aW (aW h).2).2).1 (aW (aW (aW h).2).2).2
 | .AugAssign _ _ _ _, h => vQ hB hC (aW h).1 (aW h).2
 | .If _ b o _, h => zbP (zeh hB hC (aW h).1) (gQ hB hC b (aW (aW h).2).1) (gQ hB hC o (aW (aW h).2).2)
 | .While _ b o _, h => tI (zeh hB hC (aW h).1) (gQ hB hC b (aW (aW h).2).1) (gQ hB hC o (aW (aW h).2).2)
 | .For _ _ b o _, h => zK (snd hB hC (aW h).1) (gQ hB hC b (aW (aW (aW h).2).2).1) (gQ hB hC o (aW (aW (aW h).2).2).2) (aW (aW h).2).1
 | .Try b _ o _ _, h => vL (gQ hB hC b (aW h).1) (gQ hB hC o (aW h).2)
 | .FunctionDef _ _ _ _ _ _ _ _ _ _, _ => lB fun _ _ _ h => h
 | .AsyncFunctionDef _ _ _ _ _ _ _ _ _ _, _ => lB fun _ _ _ h => h
 | .ClassDef _ _ _ _ _ _ _ _ _ _ _, _ => lB fun _ _ _ h => h
 | .Delete _ _, _ => lB fun _ _ _ h => h
 | .TypeAlias _ _ _ _ _ _ _, _ => lB fun _ _ _ h => h
 | .AnnAssign _ _ _ _ _, _ => lB fun _ _ _ h => h
 | .AsyncFor _ _ _ _ _, _ => lB fun _ _ _ h => h
 | .With _ _ _, _ => lB fun _ _ _ h => h
 | .AsyncWith _ _ _, _ => lB fun _ _ _ h => h
 | .Match _ _ _, _ => lB fun _ _ _ h => h
 | .Raise _ _ _, _ => lB fun _ _ _ h => h
 | .TryStar _ _ _ _ _, _ => lB fun _ _ _ h => h
 | .Assert _ _ _, h => qB (zeh hB hC h)
 | .Import _ _, _ => lB fun _ _ _ h => h
 | .ImportFrom _ _ _ _, _ => lB fun _ _ _ h => h
 | .Global _ _, _ => lB fun _ _ _ h => h
 | .Nonlocal _ _, _ => lB fun _ _ _ h => h
 | .Pass _, _ => lB fun _ _ _ h => h
theorem gQ (hB : BsOk B) (hC : CtxOk prog w B C n) : ∀ ss : List Stmt, oG ss = true -> f8 prog w B C n ss
 | [], _ => zJ
 | s :: ss, h => vP (zeg hB hC s (aW h).1) (gQ hB hC ss (aW h).2)
end
theorem zef (hB : BsOk B) (hC : CtxOk prog w B C n) {ss : List Stmt} (h : oG ss = true) : f8 prog w B C n ss := gQ hB hC ss h
end
theorem eH {P : Params} {G : GM} {σ : Nat -> Option Cell} {h : Heap} (hc : ∀ a c, σ a = some c -> CellRel P G h a c /\ G a = none) : Sub G (frz G σ h) := sJ fun a c e => (hc a c e).2
mutual
theorem v7 {P : Params} {G : GM} {σ : Nat -> Option Cell} {h : Heap} (hc : ∀ a c, σ a = some c -> CellRel P G h a c /\ G a = none) : ∀ (t : PV) {p : PV} {v : Value}, VRel P G v p -> Res σ p t -> VRel P (frz G σ h) v t
 | .tup ts, p, v, hv, r => by
  simp only [Res] at r
  obtain ⟨xs, rfl, r⟩ := r
  simp only [VRel] at hv ⊢
  obtain ⟨a, o, vs, n, h1, h2, h3, h4, h5, h6⟩ := hv
  exact ⟨a, o, vs, n, h1, eH hc _ _ h2, h3, h4, h5, iH hc ts h6 r⟩
 | .list ts, p, v, hv, r => by
  simp only [Res] at r
  rcases r with ⟨xs, rfl, r⟩ | ⟨a, xs, rfl, e, r⟩
  ·simp only [VRel] at hv ⊢
   obtain ⟨a, o, vs, n, h1, h2, h3, h3', h4, h5, h6⟩ := hv
   exact ⟨a, o, vs, n, h1, eH hc _ _ h2, h3, h3', h4, h5, iH hc ts h6 r⟩
  ·simp only [VRel] at hv; subst hv
   obtain ⟨⟨vs, m, g1, g2, g3⟩, _⟩ := hc a _ e
   simp only [VRel]
   exact ⟨a, _, vs, m, rfl, (if_pos (by rw [e]; rfl)).trans g1, rfl, rfl, rfl, g2, iH hc ts g3 r⟩
 | .inst c ts, p, v, hv, r => by
  simp only [Res] at r
  obtain ⟨xs, rfl, r⟩ := r
  simp only [VRel] at hv ⊢
  obtain ⟨vs, h1, h2⟩ := hv
  exact ⟨vs, h1.mono (eH hc), iH hc ts h2 r⟩
 | .none, p, v, hv, r => by simp only [Res] at r; subst r; exact hv.mono (eH hc)
 | .bool _, p, v, hv, r => by simp only [Res] at r; subst r; exact hv.mono (eH hc)
 | .int _, p, v, hv, r => by simp only [Res] at r; subst r; exact hv.mono (eH hc)
 | .str _, p, v, hv, r => by simp only [Res] at r; subst r; exact hv.mono (eH hc)
 | .rng _ _, p, v, hv, r => by simp only [Res] at r; subst r; exact hv.mono (eH hc)
 | .ptr _, p, v, hv, r => by simp only [Res] at r
 | .dict _, p, v, hv, r => by simp only [Res] at r; subst r; exact hv.mono (eH hc)
theorem iH {P : Params} {G : GM} {σ : Nat -> Option Cell} {h : Heap} (hc : ∀ a c, σ a = some c -> CellRel P G h a c /\ G a = none) : ∀ (ts : List PV) {ps : List PV} {vs : List Value}, VRels P G vs ps -> u4 σ ps ts -> VRels P (frz G σ h) vs ts
 | [], ps, vs, hv, r => by
  simp only [u4] at r; subst r
  simp only [VRels] at hv ⊢; exact hv
 | t :: ts, ps, vs, hv, r => by
  simp only [u4] at r
  obtain ⟨y, ys, rfl, r1, r2⟩ := r
  simp only [VRels] at hv ⊢
  obtain ⟨v, us, rfl, h1, h2⟩ := hv
  exact ⟨v, us, rfl, v7 hc t h1 r1, iH hc ts h2 r2⟩
end
noncomputable def bJ : List (Str × PV) -> d9 -> d9
 | [], ρ => ρ
 | (x, p) :: r, ρ => bJ r (upd ρ x p)
theorem lY {kindOf : Str -> Option NameKind} : ∀ (l : List (Str × PV)) (ρ : d9), (∀ x p, ρ x = some p -> kindOf x = some .local \/ kindOf x = some .cell) -> (∀ y ∈ l, kindOf y.1 = some .local \/ kindOf y.1 = some .cell) ->
  ∀ x p, bJ l ρ x = some p -> kindOf x = some .local \/ kindOf x = some .cell
 | [], ρ, h, _, x, p, e => h x p e
 | (n, q) :: r, ρ, h, hl, x, p, e => by
  refine lY r (upd ρ n q) (fun y p e => ?_) (fun y hy => hl y (List.mem_cons_of_mem _ hy)) x p e
  unfold upd at e
  split at e
  ·rename_i hh; subst hh; exact hl (_, q) (by simp)
  ·exact h y p e
theorem sY {P : Params} {G : GM} {kindOf : Str -> Option NameKind} : ∀ (l : List (Str × Value)) (pl : List (Str × PV)) (ρ : d9) (m cm : Str -> Option Value),
  (∀ x p, ρ x = some p -> kindOf x = some .local -> ∃ v, m x = some v /\ VRel P G v p) -> (∀ x p, ρ x = some p -> kindOf x ≠ some .local -> ∃ v, cm x = some v /\ VRel P G v p) ->
  l.map (·.1) = pl.map (·.1) -> VRels P G (l.map (·.2)) (pl.map (·.2)) ->
  (∀ x p, bJ pl ρ x = some p -> kindOf x = some .local -> ∃ v, bindL kindOf l m x = some v /\ VRel P G v p) /\ (∀ x p, bJ pl ρ x = some p -> kindOf x ≠ some .local -> ∃ v, bindC kindOf l cm x = some v /\ VRel P G v p)
 | [], [], ρ, m, cm, h1, h2, _, _ => ⟨h1, h2⟩
 | [], _ :: _, _, _, _, _, _, h, _ => by simp at h
 | _ :: _, [], _, _, _, _, _, h, _ => by simp at h
 | (n, v) :: l, (n', p) :: pl, ρ, m, cm, h1, h2, h3, h4 => by
  simp only [List.map_cons, List.cons.injEq] at h3
  obtain ⟨rfl, h3⟩ := h3
  simp only [List.map_cons, VRels] at h4
  obtain ⟨v', r, e, hv, h4⟩ := h4
  cases e
  refine sY l pl (upd ρ n p) _ _ (fun x q e hk => ?_) (fun x q e hk => ?_) h3 h4
  ·unfold upd at e
   split at e
   ·rename_i hx; subst hx; cases e
    exact ⟨v, by rw [if_pos hk]; simp, hv⟩
   ·rename_i hx
    obtain ⟨u, a, b⟩ := h1 x q e hk
    refine ⟨u, ?_, b⟩
    split
    ·show (if x = n then some v else m x) = _
     rw [if_neg hx]; exact a
    ·exact a
  ·unfold upd at e
   split at e
   ·rename_i hx; subst hx; cases e
    exact ⟨v, by rw [if_neg hk]; simp, hv⟩
   ·rename_i hx
    obtain ⟨u, a, b⟩ := h2 x q e hk
    refine ⟨u, ?_, b⟩
    split
    ·exact a
    ·show (if x = n then some v else cm x) = _
     rw [if_neg hx]; exact a
theorem i7 : ∀ (names : List (Str × NameKind)) (n : Nat) (acc : List (Str × Addr)) (x : Str), (List.lookup x acc).isSome = true -> (List.lookup x (cellsFrom n names acc)).isSome = true
 | [], _, _, _, h => h
 | (m, k) :: r, n, acc, x, h => by
  unfold cellsFrom
  split
  ·refine i7 r _ _ x ?_
   rw [List.lookup_cons]
   split
   ·rfl
   ·exact h
  ·exact i7 r _ _ x h
theorem eR : ∀ (names : List (Str × NameKind)) (n : Nat) (acc : List (Str × Addr)) (x : Str), (x, NameKind.cell) ∈ names -> (List.lookup x (cellsFrom n names acc)).isSome = true
 | [], _, _, _, h => by simp at h
 | (m, k) :: r, n, acc, x, h => by
  unfold cellsFrom
  rcases List.mem_cons.mp h with e | e
  ·cases e
   rw [if_pos (by decide)]
   exact i7 r _ _ _ (by simp [List.lookup_cons])
  ·split
   ·exact eR r _ _ x e
   ·exact eR r _ _ x e
noncomputable def kZ (K : PV -> Prop) : Fl -> St -> Prop
 | .ret v, st => ∃ t, Res st.σ v t /\ K t
 | .next, _ => K .none
 | .brk, _ => False
 | .cont, _ => False
structure FunAt (K : Frag) (a : Addr) (fd : FuncData) (body : List Stmt) : Prop where
 at_ : ∃ c d sl, K.lookup a = some ⟨c, d, .func fd, sl⟩
 body : fd.body = .stmts body
 clo : fd.closure = []
 glob : fd.globals = mainGlobals
 bi : fd.builtins = builtinsNs
 code : codeIn K fd.code fd.qualname = true
 co : fd.scope.isCoroutine = false
 gen : fd.scope.isGenerator = false
 kind : fd.scope.kind = .function
 free : fd.scope.names.all (fun n => !(n.2 == .free)) = true
section
variable {prog : Program} {w : World} {B : Bs} {C : Ctx} {n : Nat}
theorem fR {a : Addr} {fd : FuncData} {body : List Stmt} (hB : BsOk B) (hF : FunAt B.K a fd body) : KeepsAt prog w B.h₀ (.ref a) := by
 obtain ⟨c, d, sl, h⟩ := hF.at_
 refine ⟨.frame, fun A Q E s k q => ?_⟩
 unfold keeperOf
 exact wpAny_bind (wpAny_load (k _ _ (hB.kin _ _ h)) (wpAny_pure q))
end
section
variable {prog : Program} {w : World} {B : Bs} {C : Ctx} {n : Nat}
theorem pH {P : Params} {G : GM} {s s₁ : Shared} {fd : FuncData} {a : Addr} {params : List Str} {vals : List Value} {ps : List PV} (hi : InH G s.heap) (tk : 1 <= s₁.toks) (ho : Over B G)
  (hpar : ∀ x ∈ params, fd.scope.names.lookup x = some .local \/ fd.scope.names.lookup x = some .cell) (hlen : params.length = ps.length) (hv : VRels P G vals ps) {σ : Nat -> Option Cell} (hσ : ∀ a c, σ a = some c -> CellRel P G s.heap a c /\ G a = none)
  (x : InCallC s (callEnvC fd s.heap.objs.size a).locals (bindL (callEnvC fd s.heap.objs.size a).kindOf (params.zip vals) fun _ => none) (callEnvC fd s.heap.objs.size a).cells (bindC (callEnvC fd s.heap.objs.size a).kindOf (params.zip vals) fun _ => none) s₁) :
  Ok B P G (callEnvC fd s.heap.objs.size a) ⟨bJ (params.zip ps) fun _ => none, σ⟩ s₁ := by
 have hlv := hv.length
 have e1 : (params.zip vals).map (·.1) = (params.zip ps).map (·.1) := by
  rw [List.map_fst_zip (by omega), List.map_fst_zip (by omega)]
 have e2 : VRels P G ((params.zip vals).map (·.2)) ((params.zip ps).map (·.2)) := by
  rw [List.map_snd_zip (by omega), List.map_snd_zip (by omega)]; exact hv
 have kp := x.toInCall.keep
 obtain ⟨hL, hC⟩ := sY (P := P) (G := G) (kindOf := (callEnvC fd s.heap.objs.size a).kindOf) (params.zip vals) (params.zip ps) (fun _ => none) (fun _ => none) (fun _ => none) (fun _ _ e => by cases e) (fun _ _ e => by cases e) e1 e2
 have hk : ∀ y p, bJ (params.zip ps) (fun _ => none) y = some p -> (callEnvC fd s.heap.objs.size a).kindOf y = some .local \/ (callEnvC fd s.heap.objs.size a).kindOf y = some .cell :=
  lY _ _ (fun _ _ e => by cases e) fun y hy => hpar y.1 (List.of_mem_zip hy).1
 have fresh : ∀ c, s.heap.objs.size <= c -> s.heap.get? c = none := fun c h => mU h
 have cellsAt : ∀ y c, (callEnvC fd s.heap.objs.size a).cells.lookup y = some c -> s.heap.get? c = none /\ c ≠ s.heap.objs.size := fun y c e => by
  have := x.above y c (PySem.mem_of_lookup e)
  exact ⟨fresh c (Nat.le_of_lt this), Nat.ne_of_gt this⟩
 have hG : ∀ c, s.heap.get? c = none -> G c = none := fun c h => by
  cases q : G c with
  | none => rfl
  | some o => have := hi.at_ c o q; rw [h] at this; cases this
 have have_cell : ∀ y, (callEnvC fd s.heap.objs.size a).kindOf y = some .cell -> ∃ c, (callEnvC fd s.heap.objs.size a).cells.lookup y = some c := fun y e =>
  Option.isSome_iff_exists.mp (eR fd.scope.names _ [] y (mem_of_lookup e))
 refine ⟨ho, ⟨hi.keeps kp, tk, ⟨_, x.toInCall.ns, hL⟩, fun y p e => (hk y p e).elim .inl fun q => .inr (.inl q), ?_, ?_, hG _ (fresh _ (Nat.le_refl _)), fun y c e => ⟨hG c (cellsAt y c e).1, (cellsAt y c e).2⟩, ?_, fun b c e => ?_⟩, ?_⟩
 ·intro y p e q
  rcases hk y p e with q1 | q1
  ·exact absurd q1 q
  ·obtain ⟨c, hc⟩ := have_cell y q1
   obtain ⟨v, h1, h2⟩ := hC y p e q
   exact ⟨c, v, hc, by have := x.cell y c hc; rwa [h1] at this, h2⟩
 ·intro y e
  obtain ⟨c, hc⟩ := have_cell y e
  exact ⟨c, _, hc, x.cell y c hc⟩
 ·intro y z c e1 e2
  exact name_of_addr x.apart (PySem.mem_of_lookup e1) (PySem.mem_of_lookup e2)
 ·obtain ⟨h1, h2⟩ := hσ b c e
  obtain ⟨o, hob⟩ := h1.alive
  refine ⟨h1.mono (.refl _) fun o e => kp b o e, h2, fun q => ?_, fun y q => ?_⟩
  ·rw [show b = s.heap.objs.size from q, dE] at hob; cases hob
  ·rw [(cellsAt y b q).1] at hob; cases hob
 ·intro y c e
  obtain ⟨o, ho, _⟩ := x.cell y c e
  exact ⟨o, ho⟩
noncomputable def Ok0 (B : Bs) (P : Params) (G : GM) (env : Env) (st : St) (s : Shared) : Prop := ∀ k, 1 <= k -> Ok B P G env st { s with toks := k }
theorem m0 {tk0 : Prop} {W : (Fl -> St -> Prop) -> St -> Prop} {a : Addr} {fd : FuncData} {body : List Stmt} {params : List Str} {k : Nat} {dv : List Value} {dp : List PV} (hB : BsOk B) (hF : FunAt B.K a fd body)
  (hb : ∀ (A : Around) (E : Value -> Shared -> Prop) (env : Env) (G : GM) (st : St) (sh : Shared) (Q : Fl -> St -> Prop), Room n A -> EnvOk env -> KOk (cF fd.scope.names) env -> env.code = fd.code -> Ok0 B w.params G env st sh -> (tk0 -> 1 <= sh.toks) ->
   W Q st -> wpAny (model prog w) A (execs body env) (Lands B w.params true env G st sh (FX w.params Q)) E sh)
  (hpar : ∀ x ∈ params, fd.scope.names.lookup x = some .local \/ fd.scope.names.lookup x = some .cell) (hlen : params.length = k + dp.length)
  (hd : ∀ G, VRels w.params G dv dp)
  (hbind : ∀ (s : Shared) (vals : List Value), B.K.In s.heap -> vals.length = k -> BindsTo s fd ⟨vals, []⟩ (params.zip (vals ++ dv))) :
  ∀ (A : Around) (E : Value -> Shared -> Prop) (G : GM) (s : Shared) (args : List Value) (ps : List PV) (K : PV -> Prop), Room (n + 1) A -> InH G s.heap -> (tk0 -> 1 <= s.toks) -> Over B G -> VRels w.params G args ps ->
   ps.length = k /\ W (kZ K) ⟨bJ (params.zip (ps ++ dp)) fun _ => none, fun _ => none⟩ -> GW (model prog w) A w.params E G s (call (.ref a) args) K := by
 intro A E G s args ps K hA hi tk ho hv ⟨hl, hw⟩
 obtain ⟨c, d, sl, hat⟩ := hF.at_
 have hin : B.K.In s.heap := hB.kin.keeps fun b o e => hi.at_ _ _ (ho _ _ e)
 have hv' := hv.append (hd G)
 have hlv := hv'.length
 unfold GW
 refine wpAny_call (codeAny_call_function (body := body) (by have := hA.depth; show A.depth < 1000; omega) (hin _ _ hat) rfl hF.co hF.gen hF.body (codeRec_of hin hF.code) (hbind s args hin (by rw [hv.length, hl]) _ _ _ _ ?_))
 rw [hF.clo]
 refine wpAny_with_toks (n := s.toks) (Nat.le_refl _) (wpAny_newFunctionEnv_cells hF.kind (fun y hy => ?_) fun env he s₁ x htk => ?_)
 ·rcases hpar y.1 (List.of_mem_zip hy).1 with q | q
  ·exact .inl q
  ·exact .inr ⟨q, eR _ _ [] _ (mem_of_lookup q)⟩
 rw [<- show callEnvC fd s.heap.objs.size a = newEnv fd.scope s.heap.objs.size fd.globals (cellsFrom (s.heap.objs.size + 1) fd.scope.names []) (fd.qualname ++ ".<locals>.") (some a) fd.code none fd.builtins from rfl] at he
 subst he
 have kp := x.toInCall.keep
 refine ⟨(hB.lim.keeps fun b o e => hi.at_ _ _ (ho _ _ e)).keeps kp, codeAny_func ?_⟩
 have O : Ok0 B w.params G _ _ s₁ := fun t ht => pH (B := B) (s₁ := { s₁ with toks := t }) hi ht ho hpar (by rw [hlen, List.length_append, hl]) hv' (σ := fun _ => none) (fun _ _ e => by cases e) (x.tok t)
 have hκ : KOk (cF fd.scope.names) (callEnvC fd s.heap.objs.size a) := fun y => by
  rw [if_neg]
  ·rfl
  ·intro e
   have := List.all_eq_true.mp hF.free _ (mem_of_lookup (show List.lookup y fd.scope.names = some .free from e))
   simp at this
 have hE : EnvOk (callEnvC fd s.heap.objs.size a) := ⟨hF.kind, hF.glob, hF.bi⟩
 refine aF (hb (A.deeper (callEnvC fd s.heap.objs.size a)) _ _ G _ s₁ (kZ K) hA.deeper hE hκ rfl O (fun h => Nat.le_trans (tk h) htk) hw) fun f G2 st2 s2 hq O2 T2 => ?_
 have hc : ∀ a c, st2.σ a = some c -> CellRel w.params G2 s2.heap a c /\ G2 a = none := fun a c e => let h := O2.rep.cells a c e; ⟨h.1, h.2.1⟩
 have F : GS G s (frz G2 st2.σ s2.heap) s2 := by
  have keep : ∀ b o, b ≠ PX -> s.heap.get? b = some o -> s2.heap.get? b = some o := fun b o n e => by
   refine T2.keep b o n (kp b o e) (fun q => ?_) (fun _ y q => ?_) rfl
   ·have := Heap.lt_size e; rw [q] at this; exact Nat.lt_irrefl _ this
   ·have h1 := x.above y b (PySem.mem_of_lookup q)
    have h2 := Heap.lt_size e
    exact Nat.lt_irrefl _ (Nat.lt_trans h1 h2)
  have back : ∀ b, s₁.heap.get? b = none -> s.heap.get? b = none := fun b e => eQ (s := s) (s' := s₁) (fun q => by
   obtain ⟨o, ho⟩ := Option.isSome_iff_exists.mp q
   rw [kp b o ho]; rfl) e
  refine ⟨T2.ext.trans (eH hc), zbl O2.rep, fun b o e => ?_, keep, ?_, ?_⟩
  ·unfold frz at e
   by_cases q : (fA (st2.σ b)).isSome = true
   ·obtain ⟨xs, q⟩ := gH q
    rcases T2.fresh b (by rw [q]; rfl) with r | r
    ·cases r
    ·exact .inr (back b r)
   ·rw [if_neg q] at e
    rcases T2.new b o e with r | r
    ·exact .inl r
    ·exact .inr (back b r)
  ·obtain ⟨h', t', rfl⟩ := x.toInCall.same
   exact T2.os
  ·obtain ⟨h', t', rfl⟩ := x.toInCall.same
   exact T2.gens
 cases f with
 | next => exact ⟨.none, _, hq, F, by simp only [VRel]⟩
 | brk => exact hq.elim
 | cont => exact hq.elim
 | ret v =>
  obtain ⟨p, ⟨t, h1, h2⟩, h3⟩ := hq
  exact ⟨t, _, h2, F, v7 hc t h3 h1⟩
theorem xG {a : Addr} {fd : FuncData} {body : List Stmt} {params : List Str} {k : Nat} {dv : List Value} {dp : List PV} (hB : BsOk B) (hC : CtxOk prog w B C n) (hF : FunAt B.K a fd body) (hok : oG body = true)
  (hpar : ∀ x ∈ params, fd.scope.names.lookup x = some .local \/ fd.scope.names.lookup x = some .cell) (hlen : params.length = k + dp.length)
  (hd : ∀ G, VRels w.params G dv dp)
  (hbind : ∀ (s : Shared) (vals : List Value), B.K.In s.heap -> vals.length = k -> BindsTo s fd ⟨vals, []⟩ (params.zip (vals ++ dv))) :
  Meets prog w B (n + 1) (.ref a) (fun ps K => ps.length = k /\ wSs C (cF fd.scope.names) body (kZ K) ⟨bJ (params.zip (ps ++ dp)) fun _ => none, fun _ => none⟩) :=
 ⟨fR hB hF, fun A E G s args ps K hA hi tk ho hv h => m0 (tk0 := True) (W := wSs C (cF fd.scope.names) body) hB hF (fun A E env G st sh Q hA hE hκ _ O t hw => zef hB hC hok A E env _ G st sh Q hA hE hκ (O sh.toks (t trivial)) hw) hpar hlen hd hbind A E G s args ps K hA hi (fun _ => tk) ho hv h⟩
end
noncomputable def zcG (K : PV -> (Nat -> Option Cell) -> Prop) : Fl -> St -> Prop
 | .ret v, st => K v st.σ
 | .next, st => K .none st.σ
 | _, _ => False
section
variable {prog : Program} {w : World} {B : Bs} {C : Ctx} {n : Nat}
theorem oE {A : Around} {R : Result -> Shared -> Prop} {G : GM} {σ : Nat -> Option Cell} {s : Shared} {a : Addr} {fd : FuncData} {body : List Stmt} {params : List Str} {vals : List Value} {ps : List PV} {K : PV -> (Nat -> Option Cell) -> Prop}
  (hB : BsOk B) (hC : CtxOk prog w B C n) (hF : FunAt B.K a fd body) (hok : oG body = true) (hA : Room (n + 1) A)
  (hpar : ∀ x ∈ params, fd.scope.names.lookup x = some .local \/ fd.scope.names.lookup x = some .cell) (hlen : params.length = ps.length)
  (hbind : ∀ (s : Shared), B.K.In s.heap -> BindsTo s fd ⟨vals, []⟩ (params.zip vals))
  (hi : InH G s.heap) (tk : 1 <= s.toks) (ho : Over B G) (hσ : ∀ a c, σ a = some c -> CellRel w.params G s.heap a c /\ G a = none) (hv : VRels w.params G vals ps)
  (hw : wSs C (cF fd.scope.names) body (zcG K) ⟨bJ (params.zip ps) fun _ => none, σ⟩)
  (hR : ∀ p G' σ' s' v, K p σ' -> Fr G σ s G' σ' s' -> InH G' s'.heap -> 1 <= s'.toks -> Over B G' -> (∀ a c, σ' a = some c -> CellRel w.params G' s'.heap a c /\ G' a = none) -> VRel w.params G' v p -> R (.ok (.ret v)) s') :
  codeAny (model prog w) A (.call (.ref a) ⟨vals, []⟩) R s := by
 obtain ⟨c, d, sl, hat⟩ := hF.at_
 have hin : B.K.In s.heap := hB.kin.keeps fun b o e => hi.at_ _ _ (ho _ _ e)
 have hlv := hv.length
 refine codeAny_call_function (body := body) (by have := hA.depth; show A.depth < 1000; omega) (hin _ _ hat) rfl hF.co hF.gen hF.body (codeRec_of hin hF.code) (hbind s hin _ _ _ _ ?_)
 rw [hF.clo]
 refine wpAny_with_toks (n := 1) tk (wpAny_newFunctionEnv_cells hF.kind (fun y hy => ?_) fun env he s₁ x htk => ?_)
 ·rcases hpar y.1 (List.of_mem_zip hy).1 with q | q
  ·exact .inl q
  ·exact .inr ⟨q, eR _ _ [] _ (mem_of_lookup q)⟩
 rw [<- show callEnvC fd s.heap.objs.size a = newEnv fd.scope s.heap.objs.size fd.globals (cellsFrom (s.heap.objs.size + 1) fd.scope.names []) (fd.qualname ++ ".<locals>.") (some a) fd.code none fd.builtins from rfl] at he
 subst he
 have kp := x.toInCall.keep
 refine ⟨(hB.lim.keeps fun b o e => hi.at_ _ _ (ho _ _ e)).keeps kp, codeAny_func ?_⟩
 have O := pH (B := B) hi htk ho hpar hlen hv hσ x
 have hκ : KOk (cF fd.scope.names) (callEnvC fd s.heap.objs.size a) := fun y => by
  rw [if_neg]
  ·rfl
  ·intro e
   have := List.all_eq_true.mp hF.free _ (mem_of_lookup (show List.lookup y fd.scope.names = some .free from e))
   simp at this
 have hE : EnvOk (callEnvC fd s.heap.objs.size a) := ⟨hF.kind, hF.glob, hF.bi⟩
 refine aF (zef hB hC hok (A.deeper (callEnvC fd s.heap.objs.size a)) _ _ _ G _ s₁ (zcG K) hA.deeper hE hκ O hw) fun f G2 st2 s2 hq O2 T2 => ?_
 have hc : ∀ a c, st2.σ a = some c -> CellRel w.params G2 s2.heap a c /\ G2 a = none := fun a c e => let h := O2.rep.cells a c e; ⟨h.1, h.2.1⟩
 have alive₁ : ∀ b, (s.heap.get? b).isSome = true -> (s₁.heap.get? b).isSome = true := fun b q => by
  obtain ⟨o, ho⟩ := Option.isSome_iff_exists.mp q
  rw [kp b o ho]; rfl
 have back : ∀ b, s₁.heap.get? b = none -> s.heap.get? b = none := fun b e => eQ (s := s) (s' := s₁) (alive₁ b) e
 have F : Fr G σ s G2 st2.σ s2 := by
  refine ⟨T2.ext, fun b o e => ?_, fun b o n e h => ?_, fun b e => T2.alive b (alive₁ b e), T2.dom, fun b e => ?_, ?_, ?_⟩
  ·rcases T2.new b o e with r | r
   ·exact .inl r
   ·exact .inr (back b r)
  ·refine T2.keep b o n (kp b o e) (fun q => ?_) (fun _ y q => ?_) h
   ·have := Heap.lt_size e; rw [q] at this; exact Nat.lt_irrefl _ this
   ·have h1 := x.above y b (PySem.mem_of_lookup q)
    have h2 := Heap.lt_size e
    exact Nat.lt_irrefl _ (Nat.lt_trans h1 h2)
  ·rcases T2.fresh b e with r | r
   ·exact .inl r
   ·exact .inr (back b r)
  ·obtain ⟨h', t', rfl⟩ := x.toInCall.same
   exact T2.os
  ·obtain ⟨h', t', rfl⟩ := x.toInCall.same
   exact T2.gens
 cases f with
 | next => exact hR .none G2 st2.σ s2 .none hq F O2.rep.inh O2.rep.tk O2.over hc (by simp [VRel])
 | brk => exact hq.elim
 | cont => exact hq.elim
 | ret v =>
  obtain ⟨p, h1, h3⟩ := hq
  exact hR p G2 st2.σ s2 v h1 F O2.rep.inh O2.rep.tk O2.over hc h3
theorem Room.creation {A : Around} {C : Addr} {rest : List Value} {kw : List (Str × Value)} (h : Room (n + 2) A) : Room (n + 1) (A.under (.builtin "type.__call__" ⟨.ref C :: rest, kw⟩)) := by
 have e1 : (Code.builtin "type.__call__" ⟨.ref C :: rest, kw⟩).weight = 1 := by kernel_rfl
 have e2 : (Code.builtin "type.__call__" ⟨.ref C :: rest, kw⟩).cUnits = 1 := by kernel_rfl
 refine ⟨h.handled, ?_, ?_⟩
 ·show A.depth + _ + (n + 1) <= 900
  rw [e1]; have := h.depth; omega
 ·show A.units + _ + 20 * (n + 1) <= 5000
  rw [e2]; have := h.units; omega
theorem yG {Ca fI : Addr} {fd : FuncData} {body : List Stmt} {params : List Str} {k m : Nat} (hB : BsOk B) (hC : CtxOk prog w B C n) (hm : makesIn B.K Ca = true)
  (hin : findIn B.K (.ref Ca) "__init__" = some (some (.ref fI))) (hty : typeIn B.K (.ref fI) = some (.type "function")) (hkp : KeepsAt prog w B.h₀ (.ref Ca)) (hF : FunAt B.K fI fd body) (hok : oG body = true)
  (hpar : ∀ x ∈ params, fd.scope.names.lookup x = some .local \/ fd.scope.names.lookup x = some .cell) (hlen : params.length = k + 1)
  (hbind : ∀ (s : Shared) (vals : List Value), B.K.In s.heap -> vals.length = k + 1 -> BindsTo s fd ⟨vals, []⟩ (params.zip vals)) :
  Meets prog w B (n + 2) (.ref Ca) (fun ps K => ps.length = k /\ ∀ x : Nat, wSs C (cF fd.scope.names) body (zcG fun p σ' => p = .none /\ ∃ fs : List PV, σ' x = some (.ins Ca (fs.map some)) /\ K (.inst Ca fs))
   ⟨bJ (params.zip (.ptr x :: ps)) fun _ => none, bD (fun _ => none) x (.ins Ca (List.replicate m none))⟩) := by
 refine ⟨hkp, fun A E G s args ps K hA hi tk ho hv ⟨hl, hw⟩ => ?_⟩
 have hink : B.K.In s.heap := hB.kin.keeps fun b o e => hi.at_ _ _ (ho _ _ e)
 obtain ⟨hh, g, d, t, os⟩ := s
 unfold GW
 refine wpAny_call (make_core (makes_of hink hm) (looks_findIn hink hin) (fun self => bind_fn hink self hty) (.inl rfl) ?_)
 dsimp only at hi tk hink
 have d0 : hh.get? hh.objs.size = none := dE
 have d1 : hh.get? (hh.objs.size + 1) = none := mU (Nat.le_succ _)
 have gn : ∀ a, hh.get? a = none -> G a = none := fun a h => by
  cases q : G a with
  | none => rfl
  | some o => have := hi.at_ a o q; rw [h] at this; cases this
 have gs1 := GS.push (s := ⟨hh, g, d, t, os⟩) hi emptyDict rfl t
 have hgx : hX G hh.objs.size emptyDict (hh.objs.size + 1) = none := by
  unfold hX; rw [if_neg (Nat.succ_ne_self _)]; exact gn _ d1
 have k2 : ∀ b o, hh.get? b = some o -> ((hh.push emptyDict).push (instObj Ca hh.objs.size)).get? b = some o := fun b o e => Heap.get?_push_of_some _ (Heap.get?_push_of_some _ e)
 have hi2 : InH (hX G hh.objs.size emptyDict) ((hh.push emptyDict).push (instObj Ca hh.objs.size)) := gs1.inh.keeps fun a o e => Heap.get?_push_of_some _ e
 have hx : ((hh.push emptyDict).push (instObj Ca hh.objs.size)).get? (hh.objs.size + 1) = some (instObj Ca hh.objs.size) := by
  have := Heap.get?_push_size (hh.push emptyDict) (o := instObj Ca hh.objs.size) rfl
  rwa [Heap.size_push] at this
 refine oE (σ := bD (fun _ => none) (hh.objs.size + 1) (.ins Ca (List.replicate m none))) hB hC hF hok hA.creation hpar (ps := .ptr (hh.objs.size + 1) :: ps) (by simp [hlen, hl]) (fun s' h' => hbind s' _ h' (by simp [hv.length, hl])) hi2 tk (ho.ext gs1.ext) (fun a c e => ?_)
  (.cons (by simp [VRel]) (hv.mono gs1.ext)) (hw (hh.objs.size + 1)) fun p G' σ' s' v ⟨hp, fs, hfs, hK⟩ F hi' tk' ho' hσ' hvp => ?_
 ·unfold bD at e
  split at e
  ·rename_i q; subst q; cases e
   refine ⟨⟨hh.objs.size, #[], hx, b5, by simp, fun i p e => ?_⟩, hgx⟩
   rw [List.getElem?_replicate] at e
   split at e <;> cases e
  ·cases e
 ·subst hp
  simp only [VRel] at hvp; subst hvp
  refine ⟨rfl, ?_⟩
  obtain ⟨⟨dx, sl, h1, h2, h3, h4⟩, h5⟩ := hσ' _ _ hfs
  have hsl : ∃ vs : List Value, sl = (vs.map some).toArray /\ VRels w.params G' vs fs := by
   have go : ∀ (fs : List PV) (sl : List (Option Value)), sl.length <= fs.length -> (∀ (i : Nat) (p : PV), fs[i]? = some p -> ∃ v, sl[i]? = some (some v) /\ VRel w.params G' v p) -> ∃ vs : List Value, sl = vs.map some /\ VRels w.params G' vs fs := by
    intro fs
    induction fs with
    | nil => intro sl h _; exact ⟨[], by simpa using h, .nil⟩
    | cons f fs ih =>
     intro sl h hh
     obtain ⟨v, e1, e2⟩ := hh 0 f (by simp)
     cases sl with
     | nil => simp at e1
     | cons y ys =>
      simp only [List.getElem?_cons_zero, Option.some.injEq] at e1
      subst e1
      obtain ⟨vs, e3, e4⟩ := ih ys (by simpa using h) fun i p e => by simpa using hh (i + 1) p (by simpa using e)
      exact ⟨v :: vs, by rw [e3]; rfl, .cons e2 e4⟩
   obtain ⟨vs, e1, e2⟩ := go fs sl.toList (by simpa using h3) fun i p e => by
    obtain ⟨v, e1, e2⟩ := h4 i p (by rw [List.getElem?_map, e]; rfl)
    exact ⟨v, by simpa using e1, e2⟩
   exact ⟨vs, by rw [<- e1], e2⟩
  obtain ⟨vs, rfl, hvs⟩ := hsl
  have hsub : Sub G' (hX G' (hh.objs.size + 1) { cls := .ref Ca, dict := some dx, data := .plain, slots := (vs.map some).toArray }) := fun a o e => by
   unfold hX; split
   ·rename_i q; rw [q, h5] at e; cases e
   ·exact e
  refine ⟨.inst Ca fs, hX G' (hh.objs.size + 1) { cls := .ref Ca, dict := some dx, data := .plain, slots := (vs.map some).toArray }, hK, ⟨(gs1.ext.trans F.ext).trans hsub, hi'.add h1 (hi.tab.ne d1), fun a o e => ?_, fun a o nx e => ?_, F.os, F.gens⟩, ?_⟩
  ·unfold hX at e; split at e
   ·rename_i q; subst q; exact .inr d1
   ·rcases F.new a o e with q | q
    ·unfold hX at q; split at q
     ·rename_i q1; subst q1; exact .inr d0
     ·exact .inl q
    ·refine .inr ?_
     show hh.get? a = none
     cases e2 : hh.get? a with
     | none => rfl
     | some o2 => have := k2 a o2 e2; dsimp only at q; rw [this] at q; cases q
  ·refine F.keep a o nx (k2 a o e) ?_
   have ha : a ≠ hh.objs.size + 1 := fun q => by dsimp only at e; rw [q, d1] at e; cases e
   unfold bD; rw [if_neg ha]
  ·simp only [VRel]
   exact ⟨vs, ⟨hh.objs.size + 1, dx, rfl, b5, hsub _ _ h2⟩, hvs.mono hsub⟩
end
section
variable {prog : Program} {w : World} {B : Bs} {n : Nat}
theorem Meets.weaken {v : Value} {F F' : Fn} (h : Meets prog w B n v F) (k : ∀ ps K, F' ps K -> F ps K) : Meets prog w B n v F' :=
 ⟨h.1, fun A E G s args ps K hA hi tk ho hv hF => h.2 A E G s args ps K hA hi tk ho hv (k ps K hF)⟩
theorem zcl {C C0 : Ctx} {Cn f : Addr} {mc : Value} {fd : FuncData} {body : List Stmt} {params : List Str} (hB : BsOk B) (hC0 : CtxOk prog w B C0 n) (hg : B.mg "Node" = some (.ref Cn))
  (hsg : specialIn B.K (.ref Cn) "__getattribute__" = some (some (.builtin "type.__getattribute__"))) (hr : readsIn B.K Cn mc = true) (hf : findCls B.K (.ref Cn) mc "__init__" = some (.val (.ref f)))
  (hF : FunAt B.K f fd body) (hok : oG body = true) (hpar : ∀ x ∈ params, fd.scope.names.lookup x = some .local \/ fd.scope.names.lookup x = some .cell) (hlen : params.length = 3)
  (hbind : ∀ (s : Shared) (vals : List Value), B.K.In s.heap -> vals.length = 3 -> BindsTo s fd ⟨vals, []⟩ (params.zip vals))
  (hbody : ∀ (ad : Nat) (pa pb : PV) (st : St) (K : St -> Prop), (setCell C ad "source_line" pa st fun st1 => setCell C ad "source_column" pb st1 K) ->
   wSs C0 (cF fd.scope.names) body (zcG fun p σ' => p = .none /\ K ⟨st.ρ, σ'⟩) ⟨bJ (params.zip [.ptr ad, pa, pb]) fun _ => none, st.σ⟩) : tD prog w B C (n + 1) := by
 refine ⟨.ref Cn, .ref f, hg, fR hB hF, fun A E s Q pl b hk hl hq => ?_, fun A E cw env G st s ad va vb pa pb K hA O ha hb hK => ?_⟩
 ·have X : B.K.In s.heap := hB.kin.keeps hk
  exact method_cls X hsg (cls_value X hr hf rfl (hq (s.toks + 1) (Nat.le_succ _)))
 ·obtain ⟨ρ, σ⟩ := st
  refine wpAny_call (oE (σ := σ) (ps := [.ptr ad, pa, pb]) hB hC0 hF hok hA hpar (by simpa using hlen) (fun s' h' => hbind s' _ h' rfl) O.rep.inh O.rep.tk O.over (fun a c e => let h := O.rep.cells a c e; ⟨h.1, h.2.1⟩)
   (.cons (by simp [VRel]) (.cons ha (.one hb))) (hbody ad pa pb ⟨ρ, σ⟩ K hK) fun p G' σ' s' v ⟨hp, hk'⟩ F hi' tk' ho' hσ' hv => ?_)
  refine ⟨G', ⟨ρ, σ'⟩, hk', ?_, F.tr⟩
  have R := O.rep
  obtain ⟨m, hn, hx⟩ := R.ns
  have hl : ∃ o, s.heap.get? env.locals = some o := by obtain ⟨o, _, _, h1, _⟩ := hn; exact ⟨o, h1⟩
  have σl : σ env.locals = none := by
   cases e : σ env.locals with
   | none => rfl
   | some c => exact absurd rfl (R.cells _ c e).2.2.1
  have σc : ∀ x c, env.cells.lookup x = some c -> σ c = none := by
   intro x c e
   cases q : σ c with
   | none => rfl
   | some d => exact absurd e ((R.cells _ d q).2.2.2 x)
  refine ⟨ho', ⟨hi', tk', ⟨m, hn.at' fun o e => F.keep _ o R.lx e σl, fun x p e hk => let ⟨v, h1, h2⟩ := hx x p e hk; ⟨v, h1, h2.mono F.ext⟩⟩, R.kind, ?_, ?_, ?_, ?_, R.cinj, ?_⟩, ?_⟩
  ·intro x p e hk
   obtain ⟨c, v, h1, h2, h3⟩ := R.cel x p e hk
   exact ⟨c, v, h1, bO h2 fun o e => F.keep c o (R.inh.tab.cell h2) e (σc x c h1), h3.mono F.ext⟩
  ·intro x e
   obtain ⟨c, v, h1, h2⟩ := R.cell0 x e
   exact ⟨c, v, h1, bO h2 fun o e => F.keep c o (R.inh.tab.cell h2) e (σc x c h1)⟩
  ·cases e : G' env.locals with
   | none => rfl
   | some o =>
    obtain ⟨o', ho⟩ := hl
    rcases F.new _ o e with q | q
    ·rw [R.gl] at q; cases q
    ·rw [ho] at q; cases q
  ·intro x c e
   refine ⟨?_, (R.gc x c e).2⟩
   cases q : G' c with
   | none => rfl
   | some o =>
    obtain ⟨o', ho⟩ := O.ct x c e
    rcases F.new _ o q with q1 | q1
    ·rw [(R.gc x c e).1] at q1; cases q1
    ·rw [ho] at q1; cases q1
  ·intro a c e
   obtain ⟨h1, h2⟩ := hσ' a c e
   refine ⟨h1, h2, ?_⟩
   rcases F.fresh a (by dsimp only at e; rw [e]; rfl) with q | q
   ·obtain ⟨d, hd⟩ := Option.isSome_iff_exists.mp q
    exact (R.cells a d hd).2.2
   ·refine ⟨fun q1 => ?_, fun x q1 => ?_⟩
    ·obtain ⟨o', ho⟩ := hl; rw [q1, ho] at q; cases q
    ·obtain ⟨o', ho⟩ := O.ct x a q1; rw [ho] at q; cases q
  ·intro x c e
   obtain ⟨o, ho⟩ := O.ct x c e
   exact Option.isSome_iff_exists.mp (F.alive c (by rw [ho]; rfl))
end
noncomputable def xK (K : Frag) (a : Addr) : Option FuncData := match K.lookup a with
 | some ⟨_, _, .func fd, _⟩ => some fd
 | _ => none
noncomputable def aN (K : Frag) (a : Addr) : List Stmt := match xK K a with
 | some fd => (match fd.body with
  | .stmts b => b
  | _ => [])
 | none => []
noncomputable def aP (K : Frag) (a : Addr) : List (Str × NameKind) := match xK K a with
 | some fd => fd.scope.names
 | none => []
theorem sEq (a b : String) : (Str.ofString a = Str.ofString b) = (a = b) := by
 apply propext
 constructor
 ·intro e
  rw [Str.ofString_eq_toList, Str.ofString_eq_toList] at e
  have e' : a.toList.map Char.toNat = b.toList.map Char.toNat := by simpa using congrArg (fun s : Str => s.cps.toList) e
  have inj : Function.Injective Char.toNat := fun c d h => Char.toNat_inj.mp h
  exact String.toList_inj.mp ((List.map_inj_right inj).mp e')
 ·intro e; rw [e]
section
variable {C : Ctx} {κ : Kn}
theorem u5 {t : Expr} {b o : List Stmt} {p : Pos} {Q : Fl -> St -> Prop} (M : CtxMono C) (I : Nat -> St -> Prop)
  (turn : ∀ n st, I n st -> wE C t κ (tst fun c st1 => if c = true then wSs C κ b (oS (fun st2 => ∃ m, m < n /\ I m st2) Q) st1 else wSs C κ o Q st1) st) (n : Nat) (st : St) (h : I n st) : wS C κ (.While t b o p) Q st := by
 have go : ∀ k n st, I n st -> n < k -> eK (wE C t κ) (wSs C κ b) (wSs C κ o) Q k st := by
  intro k
  induction k with
  | zero => intro n st _ h; exact absurd h (Nat.not_lt_zero _)
  | succ k ih =>
   intro n st hI hm
   exact aT M t (eU fun c s => aV (cG M b (gF (fun s ⟨m, h1, h2⟩ => ih m s h2 (Nat.lt_of_lt_of_le h1 (Nat.le_of_lt_succ hm))) fun _ _ x => x)) fun x => x) (turn n st hI)
 exact ⟨n + 1, go _ n st h (Nat.lt_succ_self _)⟩
noncomputable def ev (C : Ctx) (κ : Kn) (e : Expr) (st : St) (v : PV) : Prop := wE C e κ (fun r st1 => r = v /\ st1 = st) st
noncomputable def tv (C : Ctx) (κ : Kn) (e : Expr) (st : St) (b : Bool) : Prop := wE C e κ (tst fun c st1 => c = b /\ st1 = st) st
theorem zD {e : Expr} {st : St} {v : PV} {b : Bool} (M : CtxMono C) (h : ev C κ e st v) (hb : rP (der st.σ v) = some b) : tv C κ e st b :=
 aT M e (fun r st1 ⟨h1, h2⟩ => by subst h1 h2; rw [eT hb]; exact ⟨rfl, rfl⟩) h
theorem nZ {e : Expr} {st : St} {b : Bool} {K : Bool -> St -> Prop} (M : CtxMono C) (h : tv C κ e st b) (k : K b st) : wE C e κ (tst K) st :=
 aT M e (eU fun c s ⟨h1, h2⟩ => by subst h1 h2; exact k) h
theorem aM {e : Expr} {st : St} {v : PV} {Q : PV -> St -> Prop} (M : CtxMono C) (h : ev C κ e st v) (k : Q v st) : wE C e κ Q st :=
 aT M e (fun r st1 ⟨h1, h2⟩ => by subst h1 h2; exact k) h
theorem cY {t : Expr} {b o : List Stmt} {p : Pos} {Q : Fl -> St -> Prop} {st : St} (M : CtxMono C) (c : Bool) (h : tv C κ t st c) (hb : c = true -> wSs C κ b Q st) (ho : c = false -> wSs C κ o Q st) : wS C κ (.If t b o p) Q st := by
 refine nZ M h ?_
 cases c
 ·exact ho rfl
 ·exact hb rfl
theorem aG {x : Str} {e : Expr} {px p : Pos} {Q : Fl -> St -> Prop} {st : St} (M : CtxMono C) (v : PV) (h : ev C κ e st v) (hs : dX κ x = true) (k : Q .next ⟨upd st.ρ x v, st.σ⟩) : wS C κ (.Assign [.Name x px] e p) Q st := by
 refine aM M h ?_
 exact ⟨Bool.and_eq_true_iff.mpr ⟨Bool.and_eq_true_iff.mpr ⟨hs, rfl⟩, rfl⟩, k⟩
theorem aO {e : Expr} {p : Pos} {Q : Fl -> St -> Prop} {st : St} (M : CtxMono C) (v : PV) (h : ev C κ e st v) (k : Q (.ret v) st) : wS C κ (.Return (some e) p) Q st := by
 exact aM M h k
theorem fL {x : Str} {op : Operator} {e : Expr} {px p : Pos} {Q : Fl -> St -> Prop} {st : St} (M : CtxMono C) (old v : PV) (h0 : st.ρ x = some old) (h : ev C κ e st v) (hs : dX κ x = true) (k : inP op old v fun r => Q .next ⟨upd st.ρ x r, st.σ⟩) : wS C κ (.AugAssign (.Name x px) op e p) Q st := by
 refine ⟨hs, ?_⟩
 show opt (st.ρ x) _
 rw [h0]
 exact aM M h k
theorem gY {t : Expr} {b o : List Stmt} {p : Pos} {Q : Fl -> St -> Prop} (M : CtxMono C) (I : Nat -> St -> Prop)
  (turn : ∀ n st, I n st -> ∃ c, tv C κ t st c /\ (c = true -> wSs C κ b (oS (fun st2 => ∃ m, m < n /\ I m st2) Q) st) /\ (c = false -> wSs C κ o Q st)) (n : Nat) (st : St) (h : I n st) : wS C κ (.While t b o p) Q st :=
 u5 M I (fun n st hI => by
  obtain ⟨c, h1, h2, h3⟩ := turn n st hI
  refine nZ M h1 ?_
  cases c
  ·exact h3 rfl
  ·exact h2 rfl) n st h
theorem eM {e e' : Expr} {es : List Expr} {p : Pos} {st : St} {c d : Bool} (M : CtxMono C) (h : tv C κ e st c) (h' : c = true -> tv C κ (.BoolOp .And (e' :: es) p) st d) : tv C κ (.BoolOp .And (e :: e' :: es) p) st (c && d) := by
 refine aT M e (fun r st1 x => ?_) h
 obtain ⟨b, hb, rfl, rfl⟩ := bQ x
 show opt (rP (der st1.σ r)) _
 rw [hb]
 cases b with
 | false => rw [gB, if_pos (by decide), eT hb]; exact ⟨rfl, rfl⟩
 | true => exact h' rfl
theorem zbH {e e' : Expr} {es : List Expr} {p : Pos} {st : St} {c d : Bool} (M : CtxMono C) (h : tv C κ e st c) (h' : c = false -> tv C κ (.BoolOp .Or (e' :: es) p) st d) : tv C κ (.BoolOp .Or (e :: e' :: es) p) st (c || d) := by
 refine aT M e (fun r st1 x => ?_) h
 obtain ⟨b, hb, rfl, rfl⟩ := bQ x
 show opt (rP (der st1.σ r)) _
 rw [hb]
 cases b with
 | true => rw [gB, if_pos (by decide), eT hb]; exact ⟨rfl, rfl⟩
 | false => exact h' rfl
theorem fB {op : BoolOp} {e : Expr} {p : Pos} {st : St} {c : Bool} (h : tv C κ e st c) : tv C κ (.BoolOp op [e] p) st c := h
theorem vD {e : Expr} {p : Pos} {st : St} {c : Bool} (M : CtxMono C) (h : tv C κ e st c) : tv C κ (.UnaryOp .Not e p) st (!c) := by
 refine aT M e (fun r st1 x => ?_) h
 obtain ⟨b, hb, rfl, rfl⟩ := bQ x
 show opt (rP (der st1.σ r)) _
 rw [hb]
 exact ⟨rfl, rfl⟩
noncomputable def at1 (x : List Nat) (i : Nat) : List Nat := (x.drop i).take 1
theorem v1 (x : List Nat) (i j : Nat) (h : i <= j) : slc x (some (i : Int)) (some (j : Int)) = (x.drop i).take (j - i) := by
 unfold slc gK
 simp only [Option.map_some, Option.getD_some]
 rw [if_neg (by omega), if_neg (by omega)]
 simp only [Int.toNat_natCast]
 by_cases h1 : i <= x.length
 ·rw [Nat.min_eq_left h1]
  by_cases h2 : j <= x.length
  ·rw [Nat.min_eq_left h2]
  ·rw [Nat.min_eq_right (by omega)]
   rw [List.take_of_length_le (by simp), List.take_of_length_le (by simp; omega)]
 ·rw [show min i x.length = x.length from Nat.min_eq_right (by omega), List.drop_of_length_le (Nat.le_refl _), List.drop_of_length_le (by omega)]; simp
theorem zaH (x : List Nat) (i : Nat) : sI x (i : Int) = x[i]? := by
 unfold sI; rw [if_neg (by omega)]; simp
theorem sD (c : Nat) : ∀ x : List Nat, w9 [c] x = decide (c ∈ x)
 | [] => by simp [w9]
 | d :: x => by
  rw [w9, sD c x]
  by_cases h : c = d
  ·subst h; simp [List.isPrefixOf]
  ·have : (c == d) = false := by simpa using h
   simp [List.isPrefixOf, this, h]
theorem dO {Q : Fl -> St -> Prop} {st : St} (h : Q .next st) : wSs C κ [] Q st := h
theorem aB {s : Stmt} {ss : List Stmt} {Q : Fl -> St -> Prop} {st : St} (h : wS C κ s (gA (fun st1 => wSs C κ ss Q st1) Q) st) : wSs C κ (s :: ss) Q st := h
theorem dY {s : Stmt} {ss : List Stmt} {Q : Fl -> St -> Prop} {st : St} (M : CtxMono C) (R : St -> Prop) (h : wS C κ s (gA R Q) st) (k : ∀ st1, R st1 -> wSs C κ ss Q st1) : wSs C κ (s :: ss) Q st :=
 aB (u6 M s (j0 k fun _ _ x => x) h)
end
/-! what a reduction by the kernel needs: the form is found by simp (its proof is thrown away), the kernel checks it -/
theorem j8 {α : Sort _} {a b : α} : (if some NameKind.local = some NameKind.globalImplicit then a else b) = b := rfl
theorem zaz {α : Sort _} {a b : α} : (if some NameKind.cell = some NameKind.globalImplicit then a else b) = b := rfl
theorem zay {α : Sort _} {a b : α} : (if some NameKind.free = some NameKind.globalImplicit then a else b) = b := rfl
theorem r9 {α : Sort _} {a b : α} : (if true = true then a else b) = a := rfl
theorem iP {α : Sort _} {a b : α} : (if false = true then a else b) = b := rfl
noncomputable def PostV (v : PV) (st : St) (r : PV) (st1 : St) : Prop := r = v /\ st1 = st
noncomputable def PostB (v : Bool) (st : St) (r : Bool) (st1 : St) : Prop := r = v /\ st1 = st
section
variable {C : Ctx} {κ : Kn} {e : Expr} {st : St}
end
theorem aC {C : Ctx} {κ : Kn} {c : Const} {k : Nat} {p : Pos} {st : St} {v : PV} (h : kJ c = some v) : ev C κ (.Constant c k p) st v := by show opt (kJ c) _; rw [h]; exact ⟨rfl, rfl⟩
theorem of_eq {A B : Prop} (h : A = B) (b : B) : A := h ▸ b
noncomputable def dD (L : List (Str × PV)) (ρ : d9) : Prop := L.map (fun e => ρ e.1) = L.map (fun e => some e.2)
theorem bA : ∀ (L : List (Str × PV)) {ρ : d9}, dD L ρ -> ρ = bJ L ρ
 | [], _, _ => rfl
 | (x, v) :: r, ρ, h => by
  obtain ⟨h1, h2⟩ := List.cons.inj h
  have e : upd ρ x v = ρ := by
   funext y; unfold upd; split
   ·rename_i e; rw [e]; exact h1.symm
   ·rfl
  show ρ = bJ r (upd ρ x v)
  rw [e]; exact bA r h2
theorem fE {C : Ctx} {κ : Kn} {ss : List Stmt} {Q : Fl -> St -> Prop} {L : List (Str × PV)} {ρ : d9} {σ : Nat -> Option Cell} (h : dD L ρ) (k : wSs C κ ss Q ⟨bJ L ρ, σ⟩) : wSs C κ ss Q ⟨ρ, σ⟩ := by
 rw [<- bA L h] at k; exact k
theorem zes {C : Ctx} {κ : Kn} {s : Stmt} {Q : Fl -> St -> Prop} {L : List (Str × PV)} {ρ : d9} {σ : Nat -> Option Cell} (h : dD L ρ) (k : wS C κ s Q ⟨bJ L ρ, σ⟩) : wS C κ s Q ⟨ρ, σ⟩ := by
 rw [<- bA L h] at k; exact k
@[elab_as_elim] theorem keepP {P : St -> Prop} {L : List (Str × PV)} (st : St) (h : dD L st.ρ) (k : P ⟨bJ L st.ρ, st.σ⟩) : P st := by
 rw [<- bA L h] at k; exact k
section
variable {C : Ctx} {κ : Kn}
theorem bR {a b : Bool} (h : a = true) (k : b = true) : (a && b) = true := by rw [h, k]; rfl
theorem b6 {x : Str} {e : Expr} {p1 p2 p3 p4 : Pos} {a : Nat} {xs : List PV} {Q : Fl -> St -> Prop} {st : St} (M : CtxMono C) (v : PV) (hk : κ x = some .local) (hx : st.ρ x = some (.ptr a)) (hc : st.σ a = some (.lst xs)) (he : ev C κ e st v)
  (hr : cK [e] = none) (hl : xs.length < aQ) (k : Q .next ⟨st.ρ, bD st.σ a (.lst (xs ++ [v]))⟩) :
  wS C κ (.Expr (.Call (.Attribute (.Name x p1) (Str.ofString "append") p2) [e] [] p3) p4) Q st := by
 have hn : Str.ofString "append" ≠ Str.ofString "__init__" := by rw [Ne, sEq]; decide
 have h0 : dC (.Call (.Attribute (.Name x p1) (Str.ofString "append") p2) [e] [] p3) = none := if_neg fun h => hn h.2.1
 rw [l7, h0]
 refine ⟨rfl, ?_⟩
 rw [iW, hr]
 refine ⟨rfl, ?_⟩
 rw [fN, gW, hk, j8, hx, gB]
 refine ⟨?_, aM M he ?_⟩
 ·show (Str.ofString "append" == Str.ofString "append" && (fA (st.σ a)).isSome) = true
  rw [hc, beq_self_eq_true]; rfl
 ·rw [iV]
  show (if Str.ofString "append" = Str.ofString "append" then _ else _)
  rw [if_pos rfl]
  exact ⟨xs, hc, hl, k⟩
theorem oB {x : Str} {px p : Pos} {pos : Pos} {Q : Fl -> St -> Prop} {st : St} (hm : C.mutL pos.line = true) (hs : dX κ x = true) (h : ∀ a, st.σ a = none -> Q .next ⟨upd st.ρ x (.ptr a), bD st.σ a (.lst [])⟩) :
  wS C κ (.Assign [.Name x px] (.List [] pos) p) Q st := by
 show bH C pos [] (fun v st1 => eJ C κ [.Name x px] v st1 fun st2 => Q .next st2) st
 unfold bH
 rw [if_pos hm]
 exact fun a ha => ⟨bR (bR hs rfl) rfl, h a ha⟩
theorem zbY {x y : Str} {px py p : Pos} {pos : Pos} {Q : Fl -> St -> Prop} {st : St} (hm : C.mutL pos.line = true) (hs : dX κ x = true) (hs' : dX κ y = true) (h : ∀ a, st.σ a = none -> Q .next ⟨upd (upd st.ρ x (.ptr a)) y (.ptr a), bD st.σ a (.lst [])⟩) :
  wS C κ (.Assign [.Name x px, .Name y py] (.List [] pos) p) Q st := by
 show bH C pos [] (fun v st1 => eJ C κ [.Name x px, .Name y py] v st1 fun st2 => Q .next st2) st
 unfold bH
 rw [if_pos hm]
 exact fun a ha => ⟨bR (bR hs rfl) (bR (bR hs' rfl) rfl), h a ha⟩
theorem mM {x y : Str} {e : Expr} {px py p : Pos} {Q : Fl -> St -> Prop} {st : St} (M : CtxMono C) (v : PV) (h : ev C κ e st v) (hs : dX κ x = true) (hs' : dX κ y = true) (k : Q .next ⟨upd (upd st.ρ x v) y v, st.σ⟩) : wS C κ (.Assign [.Name x px, .Name y py] e p) Q st := by
 exact aM M h ⟨bR (bR hs rfl) (bR (bR hs' rfl) rfl), k⟩
theorem iF {x y : Str} {e : Expr} {kk : Nat} {px py pt p : Pos} {Q : Fl -> St -> Prop} {st : St} (M : CtxMono C) (v w : PV) (h : ev C κ e st (.tup [v, w])) (hs : dX κ x = true) (hs' : dX κ y = true) (k : Q .next ⟨upd (upd st.ρ x v) y w, st.σ⟩) : wS C κ (.Assign [.Tuple [.Name x px, .Name y py] kk pt] e p) Q st := by
 exact aM M h ⟨bR (bR hs (bR hs' rfl)) rfl, k⟩
theorem v5 {x y z : Str} {e : Expr} {kk : Nat} {px py pz pt p : Pos} {Q : Fl -> St -> Prop} {st : St} (M : CtxMono C) (v w u : PV) (h : ev C κ e st (.tup [v, w, u])) (hs : dX κ x = true) (hs' : dX κ y = true) (hs'' : dX κ z = true) (k : Q .next ⟨upd (upd (upd st.ρ x v) y w) z u, st.σ⟩) :
  wS C κ (.Assign [.Tuple [.Name x px, .Name y py, .Name z pz] kk pt] e p) Q st := by
 exact aM M h ⟨bR (bR hs (bR hs' (bR hs'' rfl))) rfl, k⟩
theorem mK {p : Pos} {Q : Fl -> St -> Prop} {st : St} (h : Q .brk st) : wS C κ (.Break p) Q st := h
theorem i0 {p : Pos} {Q : Fl -> St -> Prop} {st : St} (h : Q .cont st) : wS C κ (.Continue p) Q st := h
theorem zej {b o : List Stmt} {hd : ExceptHandler} {hs : List ExceptHandler} {p : Pos} {Q : Fl -> St -> Prop} {st : St} (h : wSs C κ b (gA (fun st1 => wSs C κ o Q st1) Q) st) : wS C κ (.Try b (hd :: hs) o [] p) Q st := ⟨rfl, rfl, h⟩
theorem bB (σ : Nat -> Option Cell) (a : Nat) (c : Cell) : bD σ a c a = some c := by unfold bD; rw [if_pos rfl]
theorem zdg (σ : Nat -> Option Cell) {a b : Nat} (h : b ≠ a) (c : Cell) : bD σ a c b = σ b := by unfold bD; rw [if_neg h]
theorem vB (σ : Nat -> Option Cell) (a : Nat) (c d : Cell) : bD (bD σ a c) a d = bD σ a d := by funext b; unfold bD; split <;> rfl
theorem iX : ∀ zs : List (List Nat), eA (zs.map .str) = some zs
 | [] => rfl
 | z :: r => by show (eA (r.map .str)).map (z :: ·) = _; rw [iX r]; rfl
theorem nF {x : Str} {k : Nat} {p1 p2 p3 p4 : Pos} {a : Nat} {st : St} {v : List Nat} (zs : List (List Nat)) (hk : κ x = some .local) (hx : st.ρ x = some (.ptr a)) (hc : st.σ a = some (.lst (zs.map .str))) (hv : zs.flatten = v) (hl : v.length <= aQ) :
  ev C κ (.Call (.Attribute (.Constant (.str (Str.ofString "")) k p1) (Str.ofString "join") p2) [.Name x p3] [] p4) st (.str v) := by
 subst hv
 unfold ev
 rw [iW]
 refine ⟨rfl, ?_⟩
 rw [show cK [Expr.Name x p3] = none from rfl, fN, y7, show kJ (.str (Str.ofString "")) = some (.str []) from rfl, gB]
 refine ⟨rfl, ?_⟩
 rw [f9, gW, hk, j8, hx, gB, iV]
 have hn : ∀ y, y ≠ "join" -> ¬ (Str.ofString "join" = Str.ofString y) := fun y h q => h ((sEq _ _).mp q).symm
 show iN st.σ (Str.ofString "join") (.str []) [.ptr a] _
 unfold iN
 rw [if_neg (hn _ (by decide)), if_neg (hn _ (by decide)), if_neg (hn _ (by decide)), if_neg (hn _ (by decide)), if_neg (hn _ (by decide)), if_pos rfl]
 refine ⟨rfl, ?_⟩
 show asL (Option.casesOn (motive := fun _ => PV) (fA (st.σ a)) (.ptr a) .list) _
 rw [hc]
 exact ⟨zs, iX zs, hl, rfl, rfl⟩
end
section
variable {C : Ctx}
theorem nK {elt tgt : Expr} {ks : Kn} {ρ0 : d9} {Q : List PV -> (Nat -> Option Cell) -> Prop} (M : CtxMono C) (f : PV -> PV) (σ : Nat -> Option Cell) : ∀ (items acc : List PV), (∀ v ∈ items, ∃ ρ1, gM tgt v ρ0 = some ρ1 /\ ev C ks elt ⟨ρ1, σ⟩ (f v)) -> Q (acc ++ items.map f) σ ->
  bX (fun K s' => wIf C [] ks K s') (fun K s' => wE C elt ks K s') tgt ρ0 Q items acc σ
 | [], acc, h, q => by rw [List.map_nil, List.append_nil] at q; exact q
 | v :: vs, acc, h, q => by
  obtain ⟨ρ1, h1, h2⟩ := h v List.mem_cons_self
  show opt (gM tgt v ρ0) _
  rw [h1]
  exact aM M h2 (nK M f σ vs (acc ++ [f v]) (fun v hv => h v (List.mem_cons_of_mem _ hv)) (by rw [List.append_assoc]; exact q))
theorem kK {elt tgt t : Expr} {ks : Kn} {ρ0 : d9} {Q : List PV -> (Nat -> Option Cell) -> Prop} (M : CtxMono C) (f : PV -> PV) (g : PV -> Bool) (σ : Nat -> Option Cell) : ∀ (items acc : List PV), (∀ v ∈ items, ∃ ρ1, gM tgt v ρ0 = some ρ1 /\ tv C ks t ⟨ρ1, σ⟩ (g v) /\ (g v = true -> ev C ks elt ⟨ρ1, σ⟩ (f v))) -> Q (acc ++ (items.filter g).map f) σ ->
  bX (fun K s' => wIf C [t] ks K s') (fun K s' => wE C elt ks K s') tgt ρ0 Q items acc σ
 | [], acc, h, q => by rw [List.filter_nil, List.map_nil, List.append_nil] at q; exact q
 | v :: vs, acc, h, q => by
  obtain ⟨ρ1, h1, h2, h3⟩ := h v List.mem_cons_self
  have hr := fun v hv => h v (List.mem_cons_of_mem _ hv)
  show opt (gM tgt v ρ0) _
  rw [h1]
  refine nZ (K := fun b st1 => if b = true then wIf C [] ks _ st1 else (fun ok st1 => if ok = true then wE C elt ks (fun r st2 => bX (fun K s' => wIf C [t] ks K s') (fun K s' => wE C elt ks K s') tgt ρ0 Q vs (acc ++ [r]) st2.σ) st1
    else bX (fun K s' => wIf C [t] ks K s') (fun K s' => wE C elt ks K s') tgt ρ0 Q vs acc st1.σ) false st1) M h2 ?_
  cases hb : g v with
  | true =>
   rw [List.filter_cons, hb] at q
   exact aM M (h3 hb) (kK M f g σ vs (acc ++ [f v]) hr (by rw [List.append_assoc]; exact q))
  | false =>
   rw [List.filter_cons, hb] at q
   exact kK M f g σ vs acc hr q
end
section
variable {C : Ctx} {κ : Kn}
theorem tN {x name : Str} {e : Expr} {p1 p2 p3 : Pos} {a c i : Nat} {fs : List (Option PV)} {Q : Fl -> St -> Prop} {st : St} (M : CtxMono C) (v : PV) (h : ev C κ e st v) (hx : st.ρ x = some (.ptr a)) (hc : st.σ a = some (.ins c fs)) (hs : C.slot c name = some i) (hi : i < fs.length)
  (k : Q .next ⟨st.ρ, bD st.σ a (.ins c (fs.set i (some v)))⟩) : wS C κ (.Assign [.Attribute (.Name x p1) name p2] e p3) Q st := by
 refine aM M h ?_
 show opt (st.ρ x) fun p => asP p fun a => setCell C a name v st fun st2 => Q .next st2
 rw [hx]
 exact ⟨c, fs, i, hc, hs, hi, k⟩
theorem zbf {e0 e1 e2 : Expr} {p1 p2 p3 p4 : Pos} {a c i j : Nat} {fs : List (Option PV)} {Q : Fl -> St -> Prop} {st : St} (M : CtxMono C) (l k : PV) (hini : C.ini = true) (hκ : κ "Node" = some .globalImplicit) (h0 : ev C κ e0 st (.ptr a)) (h1 : ev C κ e1 st l) (h2 : ev C κ e2 st k)
  (hc : st.σ a = some (.ins c fs)) (hs : C.slot c "source_line" = some i) (hi : i < fs.length) (hs' : C.slot c "source_column" = some j) (hj : j < fs.length)
  (hQ : Q .next ⟨st.ρ, bD (bD st.σ a (.ins c (fs.set i (some l)))) a (.ins c ((fs.set i (some l)).set j (some k)))⟩) :
  wS C κ (.Expr (.Call (.Attribute (.Name (Str.ofString "Node") p1) (Str.ofString "__init__") p2) [e0, e1, e2] [] p3) p4) Q st := by
 have e : (if nmE (.Name "Node" p1) = some "Node" /\ ("__init__" : Str) = "__init__" /\ ([] : List Keyword).isEmpty = true then some [e0, e1, e2] else none) = some [e0, e1, e2] := if_pos ⟨rfl, rfl, rfl⟩
 rw [l7, show dC (.Call (.Attribute (.Name (Str.ofString "Node") p1) (Str.ofString "__init__") p2) [e0, e1, e2] [] p3) = some [e0, e1, e2] from e]
 refine ⟨hini, hκ, aM M h0 (aM M h1 (aM M h2 ?_))⟩
 exact ⟨c, fs, i, hc, hs, hi, c, fs.set i (some l), j, bB _ _ _, hs', by rw [List.length_set]; exact hj, hQ⟩
end
section
variable {C : Ctx} {κ : Kn}
theorem zbm {tgt : Expr} {b o : List Stmt} {Q : Fl -> St -> Prop} (M : CtxMono C) (items : List PV) (I : Nat -> St -> Prop)
  (turn : ∀ i (h : i < items.length) st, I i st -> ∃ ρ1, gM tgt items[i] st.ρ = some ρ1 /\ wSs C κ b (oS (I (i + 1)) Q) ⟨ρ1, st.σ⟩)
  (fin : ∀ st, I items.length st -> wSs C κ o Q st) : ∀ (n i : Nat) (st : St), i + n = items.length -> I i st -> hU tgt (wSs C κ b) (wSs C κ o) Q (items.drop i) st
 | 0, i, st, h, hI => by
  have : i = items.length := by omega
  subst this
  rw [List.drop_length]
  exact fin st hI
 | n + 1, i, st, h, hI => by
  have hl : i < items.length := by omega
  obtain ⟨ρ1, h1, h2⟩ := turn i hl st hI
  rw [List.drop_eq_getElem_cons hl]
  show opt (gM tgt items[i] st.ρ) _
  rw [h1]
  exact cG M b (gF (fun s x => zbm M items I turn fin n (i + 1) s (by omega) x) fun _ _ x => x) h2
theorem zab {tgt iter : Expr} {b o : List Stmt} {p : Pos} {Q : Fl -> St -> Prop} {st : St} (M : CtxMono C) (v : PV) (items : List PV) (hv : gS v = some items) (hn : items.length <= aQ) (hs : (bY tgt).all (dX κ) = true) (h : ev C κ iter st v) (I : Nat -> St -> Prop)
  (turn : ∀ i (h : i < items.length) st, I i st -> ∃ ρ1, gM tgt items[i] st.ρ = some ρ1 /\ wSs C κ b (oS (I (i + 1)) Q) ⟨ρ1, st.σ⟩)
  (fin : ∀ st, I items.length st -> wSs C κ o Q st) (h0 : I 0 st) : wS C κ (.For tgt iter b o p) Q st := by
 refine ⟨hs, aM M h ?_⟩
 show opt (gS v) _
 rw [hv]
 exact ⟨hn, zbm M items I turn fin items.length 0 st (by omega) h0⟩
end
section
variable {prog : Program} {w : World} {B : Bs} {C : Ctx} {n : Nat}
noncomputable def SndE0 (prog : Program) (w : World) (B : Bs) (C : Ctx) (n : Nat) (loc : Str) (e : Expr) : Prop :=
 ∀ (A : Around) (E : Value -> Shared -> Prop) (cw : Bool) (env : Env) (κ : Kn) (G : GM) (st : St) (s : Shared) (Q : PV -> St -> Prop), κ loc = some .local -> Room n A -> EnvOk env -> KOk κ env -> Ok0 B w.params G env st s ->
  wE C e κ Q st -> wpAny (model prog w) A (eval e env) (Lands B w.params cw env G st s (VX w.params Q)) E s
noncomputable def SndS0 (prog : Program) (w : World) (B : Bs) (C : Ctx) (n : Nat) (loc : Str) (s : Stmt) : Prop :=
 ∀ (A : Around) (E : Value -> Shared -> Prop) (env : Env) (κ : Kn) (G : GM) (st : St) (sh : Shared) (Q : Fl -> St -> Prop), κ loc = some .local -> Room n A -> EnvOk env -> KOk κ env -> Ok0 B w.params G env st sh ->
  wS C κ s Q st -> wpAny (model prog w) A (exec s env) (Lands B w.params true env G st sh (FX w.params Q)) E sh
noncomputable def SndSs0 (prog : Program) (w : World) (B : Bs) (C : Ctx) (n : Nat) (loc : Str) (ss : List Stmt) : Prop :=
 ∀ (A : Around) (E : Value -> Shared -> Prop) (env : Env) (κ : Kn) (G : GM) (st : St) (sh : Shared) (Q : Fl -> St -> Prop), κ loc = some .local -> Room n A -> EnvOk env -> KOk κ env -> Ok0 B w.params G env st sh ->
  wSs C κ ss Q st -> wpAny (model prog w) A (execs ss env) (Lands B w.params true env G st sh (FX w.params Q)) E sh
theorem zep {x : Str} {p : Pos} {A : Around} {E : Value -> Shared -> Prop} {env : Env} {κ : Kn} {G : GM} {st : St} {s : Shared} {Q : PV -> St -> Prop} {R : Value -> Shared -> Prop} (hE : EnvOk env) (hκ : KOk κ env) (O : Ok0 B w.params G env st s) (ok : (x == ("__debug__" : Str)) = false)
  (hx : κ x = some .local) (hw : wE C (.Name x p) κ Q st) (k : ∀ u v, Q u st -> VRel w.params G v u -> R v s) : wpAny (model prog w) A (eval (.Name x p) env) R E s := by
 rw [gW, if_neg (by rw [hx]; decide)] at hw
 obtain ⟨v, e, hw⟩ := bQ hw
 have O1 := (O 1 (Nat.le_refl 1)).rep
 have hl : env.kindOf x = some .local := hκ.loc hx
 obtain ⟨m, hm, hx⟩ := O1.ns
 obtain ⟨u, h1, h2⟩ := hx x v e hl
 exact wpAny_Name (wpAny_loadName_local hE.kind hl hm h1 (k _ _ hw h2)) ok
noncomputable def zd0 (prog : Program) (w : World) (B : Bs) (n : Nat) (v : Value) (F : Fn) : Prop :=
 KeepsAt prog w B.h₀ v /\ ∀ (A : Around) (E : Value -> Shared -> Prop) (G : GM) (s : Shared) (args : List Value) (ps : List PV) (K : PV -> Prop),
  Room n A -> InH G s.heap -> Over B G -> VRels w.params G args ps -> F ps K -> GW (model prog w) A w.params E G s (call v args) K
end
section
variable {C : Ctx} {κ : Kn}
theorem zcx {elt tgt iter : Expr} {sc : Scope} {pos : Pos} {st : St} {v : PV} {items : List PV} (M : CtxMono C) (f : PV -> PV) (hsc : cW κ sc = true) (hn : (bY tgt).all (fun x => sc.names.lookup x == some .local) = true) (hit : ev C κ iter st v) (hi : gS v = some items) (hl : items.length <= aQ) (hm : C.mutL pos.line = false)
  (h : ∀ w ∈ items, ∃ ρ1, gM tgt w (fS sc.names st.ρ) = some ρ1 /\ ev C (cF sc.names) elt ⟨ρ1, st.σ⟩ (f w)) : ev C κ (.ListComp elt [⟨tgt, iter, [], 0⟩] sc pos) st (.list (items.map f)) := by
 refine ⟨rfl, hsc, hn, aM M hit ?_⟩
 show opt (gS v) _
 rw [hi]
 refine ⟨hl, nK M f _ _ _ h ?_⟩
 unfold bH
 rw [if_neg (by rw [hm]; decide)]
 exact ⟨rfl, rfl⟩
end
noncomputable def zdr (x : List Nat) : Prop := ∀ c ∈ x, c < 1114112
noncomputable def FS (y : Value) : Prop := ∃ (x : List Nat) (t : Tok), y = .str ⟨x.toArray⟩ t /\ okStr x /\ x.length <= 4
section
variable {prog : Program} {w : World}
noncomputable def uY (prog : Program) (w : World) (e : Expr) (cenv : Env) (c : Str) : Prop := ∀ (A : Around) (E : Value -> Shared -> Prop) (s : Shared) (m : Str -> Option Value) (a : List Nat) (t : Tok), okStr a -> a.length <= 1 -> s.heap.Ns cenv.locals m -> m c = some (.str ⟨a.toArray⟩ t) ->
 wpAny (model prog w) A (PySem.eval e cenv) (fun y s' => FS y /\ ∃ k, s' = { s with toks := k }) E s
theorem zaQ {cenv : Env} {c : Str} {p : Pos} (hk : cenv.scope.kind = .function) (hl : cenv.scope.names.lookup c = some .local) (hd : (c == ("__debug__" : Str)) = false) : uY prog w (.Name c p) cenv c :=
 fun A E s m a t ha hz hn hv => ldG hn hv ⟨⟨a, t, rfl, ha, Nat.le_trans hz (by decide)⟩, s.toks, rfl⟩ hk hl hd
theorem zdN {cenv : Env} {c q r : Str} {p1 p2 p3 p4 p5 : Pos} {k1 k2 : Nat} {o : Expr} (hk : cenv.scope.kind = .function) (hl : cenv.scope.names.lookup c = some .local) (hd : (c == ("__debug__" : Str)) = false) (hr : (r.cps.toList.all (· < 1114112) && decide (r.cps.toList.length <= 4)) = true)
  (h : uY prog w o cenv c) : uY prog w (.IfExp (.Compare (.Name c p1) [.Eq] [.Constant (.str q) k1 p2] p3) (.Constant (.str r) k2 p4) o p5) cenv c := by
 intro A E s m a t ha hz hn hv
 refine IfExp_ (wpAny_isTrue_Compare1 (ldG hn hv (Calls.Constant_str (P.eq_str (wpAny_truthy_bool ?_))) hk hl hd) rfl)
 split
 ·obtain ⟨h1, h2⟩ := Bool.and_eq_true_iff.mp hr
  have h2 := of_decide_eq_true h2
  exact Calls.Constant_str ⟨⟨r.cps.toList, _, rfl, ⟨fun x hx => of_decide_eq_true (List.all_eq_true.mp h1 x hx), Nat.le_trans h2 (by decide)⟩, h2⟩, _, rfl⟩
 ·exact wpAny_mono (h A E { s with toks := s.toks + 1 } m a t ha hz hn hv) (fun y s' ⟨h1, k, h2⟩ => ⟨h1, k, h2⟩) fun _ _ e => e
theorem qE (n : Nat) : passing (fun _ => true) n 0 = List.range n := by unfold passing; rw [List.drop_zero]; exact List.filter_eq_self.mpr fun _ _ => rfl
theorem xH : ∀ (l : List (Str × Tok)), (∀ v ∈ strValues l, FS v) -> ∃ zs : List (List Nat), l.map (·.1) = zs.map (fun z => ⟨z.toArray⟩) /\ zdr zs.flatten /\ zs.flatten.length <= 4 * l.length
 | [], _ => ⟨[], rfl, fun c h => (by cases h), Nat.le_refl _⟩
 | (y, t) :: l, h => by
  obtain ⟨x, u, e, h1, h2⟩ := h (.str y t) List.mem_cons_self
  obtain ⟨zs, e1, h3, h4⟩ := xH l fun v hv => h v (List.mem_cons_of_mem _ hv)
  injection e with e _
  refine ⟨x :: zs, by rw [List.map_cons, List.map_cons, e1, <- e], fun c hc => ?_, ?_⟩
  ·rw [List.flatten_cons] at hc
   exact (List.mem_append.mp hc).elim (h1.1 c) (h3 c)
  ·rw [List.flatten_cons, List.length_append, List.length_cons, Nat.mul_succ, Nat.add_comm]
   exact Nat.add_le_add h4 h2
theorem zci {zs : List (List Nat)} (h : zs.flatten.length <= aQ) : JoinOk ⟨#[]⟩ (zs.map fun z => ⟨z.toArray⟩) = true := by
 unfold JoinOk tooLong
 rw [StrLaws.joinTotal]
 simp only [Bool.not_eq_true', decide_eq_false_iff_not, gt_iff_lt, Nat.not_lt]
 have : ((zs.map fun z => (⟨z.toArray⟩ : Str)).map (·.length)).sum = zs.flatten.length := by
  rw [List.length_flatten, List.map_map]
  exact congrArg List.sum (List.map_congr_left fun z _ => by simp [Str.length])
 rw [this]
 have h0 : (⟨#[]⟩ : Str).length = 0 := rfl
 rw [h0, Nat.mul_zero, Nat.add_zero]
 exact h
theorem tR {A : Around} {E : Value -> Shared -> Prop} {s : Shared} {x : Str} {t : Tok} {Q : Value -> Shared -> Prop}
  (hQ : ∀ (o : Obj) (St : Nat -> Heap -> Prop), o.isFreed = false -> (∀ A' : Around, A'.handled = none -> Walks prog w A' s.heap.objs.size [s.heap.objs.size] [s.heap.objs.size] x.cps.size (SignAt x) St) -> St 0 (s.heap.push o) ->
   Q (.ref s.heap.objs.size) { s with heap := s.heap.push o }) : wpAny (model prog w) A (pyIter (.str x t)) Q E s := by
 cases ha : x.cps.all (· < 128)
 ·exact wpAny_pyIter_wide ha (hQ _ _ rfl (fun A' hA => Walks.strWide hA _ x t) ⟨_, Heap.get?_push_size _ rfl, rfl, rfl⟩)
 ·exact wpAny_pyIter_ascii ha (hQ _ _ rfl (fun A' hA => Walks.strAscii hA _ x t) ⟨_, Heap.get?_push_size _ rfl, rfl, rfl⟩)
theorem za8 {h : Heap} {c : Nat} {ps : Array Value} (x : h.IsCode c PX ps) (t : h.TableAt c PX ps) : TabX h := by
 obtain ⟨o, vs, file, tf, flags, tg, inF, text, tt, op, _, _, _, _, _, _, _, h1, h2, h3, _⟩ := x
 exact ⟨_, ps, t.2, rfl, h3, rfl⟩
theorem qS {A : Around} {E : Value -> Shared -> Prop} {s : Shared} {env : Env} {c P : Addr} {ps : Array Value} {pos : Pos} {qualname : Str} {scope : Scope} {Q : Value -> Shared -> Prop} (hc : env.code = .ref c) (hok : s.heap.IsCode c P ps) (htab : s.heap.TableAt c P ps)
  (hQ : ∀ code h' tk ps', Heap.ExtBut P s.heap h' -> h'.IsCode c P ps' -> h'.TableAt c P ps' -> Q code { s with heap := h', toks := tk }) : wpAny (model prog w) A (genexprCode env pos qualname scope) Q E s := by
 cases hnf : codeAmong pos ps.toList with
 | some cv => exact wpAny_genexprCode_hit hc hok hnf (hQ cv s.heap s.toks ps (Heap.ExtBut.refl _ _) hok htab)
 | none => exact wpAny_genexprCodeX hc hok htab hnf fun c' h' tk hx _ _ h1 _ h2 _ => hQ _ _ _ _ hx h1 h2
noncomputable def zc1 (s : Shared) (n : Nat) (Q : Value -> Shared -> Prop) : Prop := ∀ (y : List Nat) (t : Tok) (s' : Shared), zdr y -> y.length <= 4 * n -> (∀ b o, b ≠ PX -> s.heap.get? b = some o -> s'.heap.get? b = some o) -> TabX s'.heap -> (AllBare s.gens -> AllBare s'.gens) -> s'.os = s.os -> Q (.str ⟨y.toArray⟩ t) s'
theorem w3 {A : Around} {E : Value -> Shared -> Prop} {s : Shared} {env : Env} {elt iter : Expr} {c : Str} {px : Pos} {scope : Scope} {pos : Pos} {Q : Value -> Shared -> Prop} {x : List Nat} {t t0 : Tok} {cX bm : Nat} {ps : Array Value} {mg : Str -> Option Value} {ob : Obj}
  (hh : A.handled = none) (hroom : A.depth < recursionLimit) (hco : scope.isCoroutine = false) (hclos : closureFor scope env = pure []) (hcell : ∀ y ∈ scope.names, y.2 ≠ .cell) (h0 : scope.names.lookup (".0" : Str) = some NameKind.local)
  (hx : scope.names.lookup c = some .local) (hkind : scope.kind = .function) (hcode : env.code = .ref cX) (hok : s.heap.IsCode cX PX ps) (htb : s.heap.TableAt cX PX ps) (hM : BMod s.heap env.globals mg bm ob) (hlim : s.heap.NoLimit) (hxs : okStr x) (hxl : x.length <= 100000)
  (hload : ∀ Q : Value -> Shared -> Prop, Q (.str ⟨x.toArray⟩ t) s -> wpAny (model prog w) A (PySem.eval iter env) Q E s) (hs : ∀ x, genFold iter env x = pure x)
  (helt : ∀ C code, uY prog w elt (genEnv scope [] C code builtinsNs env) c) (hQ : zc1 s x.length Q) :
  wpAny (model prog w) A (PySem.eval (.GeneratorExp elt [⟨.Name c px, iter, [], 0⟩] scope pos) env) (fun v s' => wpAny (model prog w) A (call (.builtin "str.join") [.str ⟨#[]⟩ t0, v]) Q E s') E s := by
 have hPX : ∃ o, s.heap.get? PX = some o /\ o.data = .fields ps := by
  obtain ⟨o, vs, file, tf, flags, tg, inF, text, tt, op, _, _, _, _, _, _, _, h1, h2, _⟩ := hok; exact ⟨op, h1, h2⟩
 obtain ⟨oP, hoP, hdP⟩ := hPX
 have htab : TabX s.heap := za8 hok htb
 have hg : env.globals ≠ PX := htab.ns hM.ns
 have hbm : bm ≠ PX := htab.nd hM.obj fun ps q => by rw [hM.data] at q; cases q
 have hcs : cStatics ≠ PX := by decide
 have hI : s.heap.objs.size ≠ PX := htab.ne (Heap.none_size _)
 refine wpAny_GeneratorExp_walksQ hh hco hclos hcell h0 hx hkind hroom (hload _ (tR fun o St hf W hst => ⟨hlim.push _, qS hcode (hok.push o) (htb.push o) fun code h₃ tk ps' hx₃ hok₃ htb₃ => ?_⟩)) hs
 have k₃ : ∀ b o', b ≠ PX -> s.heap.get? b = some o' -> h₃.get? b = some o' := fun b o' hb e => hx₃ b o' hb (Heap.get?_push_of_some _ e)
 refine wpAny_builtinsFor (hM.ns.at' fun o' e => k₃ _ o' hg e) hM.name hM.ne (k₃ _ _ hbm hM.obj) hM.cls hM.dict hM.data ?_
 have hIg := hx₃ _ _ hI (Heap.get?_push_size _ hf)
 have hIs : s.heap.objs.size < h₃.objs.size := Heap.lt_size hIg
 have hcsI : cStatics < s.heap.objs.size := let ⟨_, hn, _⟩ := hlim; hn.lt
 have hsz : x.toArray.size = x.length := rfl
 have tab₃ : TabX h₃ := za8 hok₃ htb₃
 refine ⟨s.heap.objs.size, [s.heap.objs.size], [s.heap.objs.size], _, _, St, fun _ => true, fun _ y => FS y, rfl, W, (W A hh).frame _ _ _ hst fun b hb o' e => ?_, fun b hb => ?_, (hlim.push o).extBut hx₃ hcs, fun hm => ?_, fun href hkr => ⟨?_, ?_⟩, ?_⟩
 ·rw [List.mem_singleton.mp hb] at e ⊢; exact hx₃ _ _ hI e
 ·rw [List.mem_singleton.mp hb]; exact hIs
 ·exact absurd (List.mem_singleton.mp hm) (Nat.ne_of_lt hcsI)
 ·intro A' E' i v s₂ m₂ _ _ _ _ _
  exact wpAny_pure ⟨rfl, s₂.heap, s₂.toks, rfl, fun _ _ e => e⟩
 ·intro A' E' i v s₂ m₂ hA hP _ hn hm hkp
  obtain ⟨d, u, hd, rfl⟩ := hP
  have hd' : x[i]? = some d := List.getElem?_toArray.symm.trans hd
  exact wpAny_mono (helt _ _ A' E' s₂ m₂ [d] u (mS (hxs.1 d (List.mem_of_getElem? hd'))) (Nat.le_refl 1) hn hm) (fun y s' ⟨h1, k, h2⟩ => ⟨h1, s₂.heap, k, h2, fun _ _ e => e⟩) fun _ _ e => e
 ·intro a h₅ tk' gs hb hla hs5 hk5 Wg hst5
  have hn : (passing (fun _ => true) (⟨x.toArray⟩ : Str).cps.size 0).length = x.length := by rw [qE, List.length_range]; rfl
  refine SC.joinGen Wg.in4_2 (fun i s' st => st.1.typeIs) hst5 (fun b hbm => ?_) List.mem_cons_self (fun i v ⟨j, _, y, u, e, _⟩ => ⟨_, u, e⟩) (fun s' l hm hacc => ?_) (by rw [hn]; exact Nat.le_trans hxl (by decide))
  ·show b < h₅.objs.size
   rw [hs5]
   rcases List.mem_cons.mp hbm with rfl | hbm
   ·exact Nat.lt_succ_self _
   ·rcases List.mem_cons.mp hbm with rfl | hbm
    ·exact Nat.lt_succ_of_lt hla
    ·exact Nat.lt_succ_of_lt (Nat.lt_trans (List.mem_range.mp hbm) hla)
  ·obtain ⟨zs, e1, e2, e3⟩ := xH l fun v hv => by
    obtain ⟨j, hj, rfl⟩ := List.mem_iff_getElem.mp hv
    obtain ⟨_, _, h⟩ := hacc.2 j _ (by rw [List.getElem?_toArray, List.getElem?_eq_getElem hj])
    exact h
   have hl : l.length = x.length := by rw [<- hn, <- hacc.1]; unfold strValues; rw [List.size_toArray, List.length_map]
   rw [hl] at e3
   have ne : ∀ {b : Nat} {o' : Obj}, s.heap.get? b = some o' -> b ∉ [h₃.objs.size, s.heap.objs.size] := fun {b o'} e hm => by
    have hlt := Heap.lt_size e
    rcases List.mem_cons.mp hm with rfl | hm
    ·exact absurd hlt (Nat.not_lt.mpr (Nat.le_of_lt hIs))
    ·rw [List.mem_singleton.mp hm] at hlt; exact absurd hlt (Nat.lt_irrefl _)
   rw [e1]
   refine ⟨zci (Nat.le_trans e3 (Nat.le_trans (Nat.mul_le_mul_left 4 hxl) (by decide))), fun t' k => ?_⟩
   unfold Txt.join
   rw [StrLaws.glued_eq_join, mX zs]
   refine hQ zs.flatten t' { s' with toks := k } e2 e3 (fun b o' hb e => hm.heap b o' (ne e) (hk5 _ _ (k₃ b o' hb e))) (tab₃.keeps fun o' e => hm.heap PX o' (ne hoP) (hk5 _ _ e)) (fun hG => ?_) hm.os
   exact AllBare.moved (hG.push hb) hm.gens
end
end Mine
end
section
open PySem PySem.W PyProof.Rows
open Builtin Builtin.Str
set_option Elab.async false
set_option autoImplicit false
set_option maxRecDepth 100000
set_option linter.unusedVariables false
namespace Mine
section
variable {prog : Program} {w : World} {B : Bs}
noncomputable def CodeAt (h : Heap) (cX : Nat) : Prop := ∃ o vs file tf flags tg inF text tt, h.get? cX = some o /\ o.cls = .type "code" /\ o.data = .fields vs /\ vs.getD 11 .none = .ref PX /\ vs.getD 18 .none = .str file tf /\ vs.getD 7 .none = .int flags tg /\ vs.getD 9 .none = .bool inF /\ vs.getD 10 .none = .int text tt /\ cX ≠ PX
theorem CodeAt.isCode {h h' : Heap} {cX : Nat} (x : CodeAt h cX) (k : ∀ a o, h.get? a = some o -> h'.get? a = some o) (t : TabX h') : ∃ ps, h'.IsCode cX PX ps /\ h'.TableAt cX PX ps := by
 obtain ⟨o, vs, file, tf, flags, tg, inF, text, tt, h1, hc, r1, r2, r3, r4, r5, r6, ne⟩ := x
 obtain ⟨op, ps, h2, h3, h4, h5⟩ := t
 refine ⟨ps, ⟨o, vs, file, tf, flags, tg, inF, text, tt, op, k _ _ h1, r1, r2, r3, r4, r5, r6, h2, h3, h4, ne⟩, ⟨o, vs, k _ _ h1, hc, r1, ?_⟩, h5 ▸ h2⟩
 unfold Array.getD at r2
 split at r2
 ·rename_i q; rw [Array.getElem?_eq_getElem q]; exact congrArg some r2
 ·cases r2
noncomputable def zcZ (B : Bs) : Prop := ∃ bm ob, B.mg "__builtins__" = some (.ref bm) /\ bm ≠ builtinsNs /\ B.h₀.get? bm = some ob /\ ob.cls = .type "module" /\ ob.dict = some builtinsNs /\ ob.data = .plain
theorem zdD {A : Around} {E : Value -> Shared -> Prop} {G : GM} {st : St} {s : Shared} {env : Env} {elt : Expr} {c v : Str} {px pv p1 p2 p3 pos : Pos} {k1 n : Nat} {scope : Scope} {x : List Nat} {cX : Nat} {K : PV -> Prop}
  (hB : BsOk B) (hm : zcZ B) (hc : CodeAt B.h₀ cX) (hA : Room n A) (hE : EnvOk env) (hcode : env.code = .ref cX) (O : Ok B w.params G env st s) (hline : (p2.endLine == p3.line) = true)
  (hco : scope.isCoroutine = false) (hfree : ∀ y ∈ scope.names, y.2 ≠ .free) (hcell : ∀ y ∈ scope.names, y.2 ≠ .cell) (h0 : scope.names.lookup (".0" : Str) = some NameKind.local) (hx : scope.names.lookup c = some .local) (hkind : scope.kind = .function)
  (helt : ∀ C code, uY prog w elt (genEnv scope [] C code builtinsNs env) c) (hv : st.ρ v = some (.str x)) (hl : env.kindOf v = some .local) (hd : (v == ("__debug__" : Str)) = false) (hxl : x.length <= 100000)
  (hK : ∀ y, okStr y -> y.length <= 4 * x.length -> K (.str y)) :
  GW (model prog w) A w.params E G s (PySem.eval (.Call (.Attribute (.Constant (.str ⟨#[]⟩) k1 p1) (Str.ofString "join") p2) [.GeneratorExp elt [⟨.Name c px, .Name v pv, [], 0⟩] scope pos] [] p3) env) K := by
 obtain ⟨m, hn, hmv⟩ := O.rep.ns
 obtain ⟨u, h1, h2⟩ := hmv v _ hv hl
 obtain ⟨t, rfl, okx⟩ := (show ∃ t, u = .str ⟨x.toArray⟩ t /\ okStr x from h2)
 have up : ∀ a o, B.h₀.get? a = some o -> s.heap.get? a = some o := fun a o e => O.rep.inh.at_ a o (O.over a o e)
 obtain ⟨ps, hok, htb⟩ := hc.isCode up O.rep.inh.tab
 obtain ⟨bm, ob, m1, m2, m3, m4, m5, m6⟩ := hm
 have hM : BMod s.heap env.globals B.mg bm ob := ⟨by rw [hE.glob]; exact hB.g.keeps up, m1, m2, up _ _ m3, m4, m5, m6⟩
 refine kN rfl rfl (show 1 < 30 by decide) hline (Calls.Constant_str ⟨"str", "str.join", PySem.F.plainAttrs_str, PySem.F.slot_str_join, PySem.F.type_str_join, typeIs_str _ _ _, (fun a e => by cases e), ?_⟩)
 refine dH rfl (Calls.evalArgs_plain (Calls.spliced_cons (wpAny_mono (w3 (Q := fun v s' => ∃ r G', K r /\ GS G s G' s' /\ VRel w.params G' v r) (s := { s with toks := s.toks + 1 }) (x := x) (t := t) hA.handled (Nat.lt_of_le_of_lt (Nat.le_trans (Nat.le_add_right _ n) hA.depth) (show 900 < recursionLimit by decide)) hco (closureFor_none hfree) hcell h0 hx hkind hcode hok htb hM (hB.lim.keeps up) okx hxl
  (fun Q h => wpAny_Name (wpAny_loadName_local hE.kind hl hn h1 h) hd) (fun _ => rfl) helt ?_) (fun v s' h => Calls.spliced_nil ⟨dR _ _, h⟩) fun _ _ e => e)))
 intro y t' s' hy hyl kp tab gens os
 have oky : okStr y := ⟨hy, Nat.le_trans hyl (Nat.le_trans (Nat.mul_le_mul_left 4 hxl) (by decide))⟩
 exact ⟨.str y, G, hK y oky hyl, ⟨.refl _, ⟨fun a o e => kp a o (fun q => by rw [q, O.rep.inh.px] at e; cases e) (O.rep.inh.at_ a o e), O.rep.inh.px, tab⟩, fun _ _ e => .inl e, kp, os, gens⟩, t', rfl, oky⟩
noncomputable def yX : Fn := fun ps K => ∃ x : List Nat, ps = [.str x] /\ x.length <= 100000 /\ ∀ y, okStr y -> y.length <= 4 * x.length -> K (.str y)
theorem xF {n cX a : Nat} {fd : FuncData} {elt : Expr} {c v : Str} {px pv p1 p2 p3 p4 pos : Pos} {k1 : Nat} {scope : Scope} (hB : BsOk B) (hm : zcZ B) (hc : CodeAt B.h₀ cX)
  (hF : FunAt B.K a fd [.Return (some (.Call (.Attribute (.Constant (.str ⟨#[]⟩) k1 p1) (Str.ofString "join") p2) [.GeneratorExp elt [⟨.Name c px, .Name v pv, [], 0⟩] scope pos] [] p3)) p4]) (hcode : fd.code = .ref cX)
  (hline : (p2.endLine == p3.line) = true) (hco : scope.isCoroutine = false) (hfree : ∀ y ∈ scope.names, y.2 ≠ .free) (hcell : ∀ y ∈ scope.names, y.2 ≠ .cell) (h0 : scope.names.lookup (".0" : Str) = some NameKind.local) (hx : scope.names.lookup c = some .local) (hkind : scope.kind = .function)
  (helt : ∀ (env : Env) C code, uY prog w elt (genEnv scope [] C code builtinsNs env) c) (hl : fd.scope.names.lookup v = some .local) (hd : (v == ("__debug__" : Str)) = false)
  (hbind : ∀ (s : Shared) (vals : List Value), B.K.In s.heap -> vals.length = 1 -> BindsTo s fd ⟨vals, []⟩ ([v].zip (vals ++ []))) : Meets prog w B (n + 1) (.ref a) yX := by
 refine ⟨fR hB hF, fun A E G s args ps K hA hi tk ho hv => x1 fun x => a3 fun e hxl hK => ?_⟩
 subst e
 refine m0 (n := n) (tk0 := True) (k := 1) (dv := []) (dp := []) (params := [v]) (W := fun Q st => ∃ x, st.ρ v = some (.str x) /\ x.length <= 100000 /\ ∀ y, okStr y -> y.length <= 4 * x.length -> Q (.ret (.str y)) st) hB hF (fun A E env G st sh Q hA hE hκ hcd O t => x1 fun x => a3 fun hv hxl hQ => ?_)
  (fun y hy => .inl (by rw [List.mem_singleton.mp hy]; exact hl)) rfl (fun _ => .nil) hbind A E G s args [.str x] K hA hi (fun _ => tk) ho hv ⟨rfl, x, ?_, hxl, fun y h1 h2 => ⟨.str y, rfl, hK y h1 h2⟩⟩
 ·have O := O sh.toks (t trivial)
  refine wpAny_execs_cons (wpAny_Return_some (aF (bL (cw := true) (Q := fun r st' => Q (.ret r) st') O (zdD (elt := elt) hB hm hc hA hE (hcd.trans hcode) O hline hco hfree hcell h0 hx hkind (helt env) hv (hκ.loc hl) hd hxl hQ)) fun u G1 st1 s1 ⟨r, hq, hr⟩ O1 T1 => ?_))
  exact (aH (X := FX w.params Q) (a := Flow.ret u) O1 ⟨r, hq, hr⟩).after T1
 ·show upd (fun _ => none) v (.str x) v = _
  unfold upd; rw [if_pos rfl]
end
end Mine
end
section
open PySem PySem.W PySem.Calls PyProof.Rows
set_option Elab.async false
set_option maxRecDepth 1000000
set_option maxHeartbeats 8000000
namespace MH
noncomputable abbrev pw : Program := PySem.Challenge.pw_te0060_03
noncomputable abbrev rwL : OpenLaw := PySem.Challenge.rw_te0060_03
noncomputable def pB : List Stmt := pw.main.body
noncomputable def nS (i : Nat) (l : List Stmt) : Stmt := match l.drop i with
 | s :: _ => s
 | [] => .Pass default
noncomputable def cB : Stmt -> List Stmt
 | .ClassDef _ _ _ b _ _ _ _ _ _ _ => b
 | _ => []
noncomputable abbrev Z (s : String) : Str := Str.ofString s
noncomputable abbrev S (s : String) (t : Nat) : Value := .str (Z s) t
noncomputable abbrev I (i : Int) (t : Nat) : Value := .int i t
noncomputable abbrev D (P : Params) (k : String) (t : Nat) (v : Value) : DictEntry := ⟨PyData.keyHash P (Z k), S k t, v⟩
noncomputable def fO (s : Stmt) (n q : String) (g : Nat) (dv kv doc pm cd ct : Value) (bi : Nat) : Obj := match s with
 | .FunctionDef _ a b _ _ _ sc _ _ _ => ⟨.type "function", none, .func ⟨Z n, Z q, a, .stmts b, sc, g, [], dv, kv, doc, pm, none, cd, ct, bi⟩, #[]⟩
 | _ => default
noncomputable def kO (s : Stmt) (n q : String) (g : Nat) (dv kv doc pm cd ct : Value) (bi : Nat) : Obj := match s with
 | .FunctionDef _ a b _ _ _ sc _ _ _ => ⟨.none, none, .func ⟨Z n, Z q, a, .stmts b, sc, g, [], dv, kv, doc, pm, none, cd, ct, bi⟩, #[]⟩
 | _ => default
noncomputable def HK (P : Params) : Frag := [
 (2, ⟨.none, none, .dict #[] 0, #[]⟩),
 (3, ⟨(.type "dict"), none, .dict #[D P "__name__" 165 (S "law_te0060_03" 1242), D P "__doc__" 166 .none, D P "__package__" 167 .none, D P "__loader__" 168 (.builtin "__main__.__loader__#opaque"), D P "__spec__" 169 .none, D P "__annotations__" 170 (.ref 6), D P "__builtins__" 171 (.ref 4), D P "__file__" 173 (S "/claim/cut.py" 172), D P "__cached__" 174 .none, D P "_wall" 193 (.ref 21), D P "ascii_lower" 201 (.ref 26), D P "_replacement_string_value" 219 (.ref 27), D P "serialize_string_value" 226 (.ref 34), D P "serialize_url" 233 (.ref 41), D P "Node" 284 (.ref 74), D P "ParseError" 330 (.ref 104), D P "Comment" 371 (.ref 134), D P "WhitespaceToken" 412 (.ref 163), D P "LiteralToken" 470 (.ref 206), D P "IdentToken" 515 (.ref 235), D P "AtKeywordToken" 560 (.ref 265), D P "HashToken" 606 (.ref 295), D P "StringToken" 652 (.ref 325), D P "URLToken" 698 (.ref 355), D P "UnicodeRangeToken" 744 (.ref 385), D P "NumberToken" 799 (.ref 415), D P "PercentageToken" 854 (.ref 447), D P "DimensionToken" 918 (.ref 479), D P "ParenthesesBlock" 959 (.ref 513), D P "SquareBracketsBlock" 1000 (.ref 542), D P "CurlyBracketsBlock" 1041 (.ref 571), D P "FunctionBlock" 1091 (.ref 600), D P "_DIGITS" 1104 (.ref 606), D P "_number_end" 1116 (.ref 613), D P "_hex_end" 1125 (.ref 620), D P "parse_component_value_list" 1160 (.ref 628), D P "_is_name_start" 1169 (.ref 635), D P "_is_ident_start" 1177 (.ref 642), D P "_consume_ident" 1189 (.ref 649), D P "_consume_quoted_string" 1203 (.ref 656), D P "_consume_escape" 1213 (.ref 663), D P "_consume_url" 1227 (.ref 670), D P "_consume_unicode_range" 1241 (.ref 677), D P "_law_ENDS" 1249 (.ref 684), D P "_law_BLANKS" 1255 (.ref 691), D P "_law_HEX" 1261 (.ref 698), D P "_law_PLAIN" 1267 (.ref 705), D P "_law_ESCAPED" 1273 (.ref 712), D P "_law_FAULTS" 1279 (.ref 719), D P "_law_URLS" 1285 (.ref 726), D P "_law_blank" 1294 (.ref 733), D P "_law_hex" 1308 (.ref 740), D P "_law_opened" 1314 (.ref 745), D P "_law_entries" 1324 (.ref 752), D P "_law_places" 1335 (.ref 759), D P "_law_read" 1345 (.ref 766), D P "law" 1351 (.ref 771)] 57, #[]⟩),
 (4, ⟨(.type "module"), (some 0), .plain, #[]⟩),
 (20, ⟨(.type "code"), none, .fields #[(S "_wall" 187), (S "_wall" 188), (S "/claim/cut.py" 189), (I 1 0), (I 1 0), (I 0 0), (I 0 0), (I 3 0), (.ref 15), (.bool true), (I 181 0), (.ref 16), .none, (.ref 17), (.ref 18), (.ref 19), (I 191 0), (I 1 0), (S "/claim/cut.py" 192)], #[]⟩),
 (21, fO (nS 0 pB) "_wall" "_wall" 3 .none .none .none (S "__main__" 164) (.ref 20) .none 0),
 (25, ⟨(.type "code"), none, .fields #[(S "ascii_lower" 196), (S "ascii_lower" 197), (S "/claim/cut.py" 198), (I 5 0), (I 1 0), (I 0 0), (I 0 0), (I 3 0), (.ref 22), (.bool true), (I 181 0), (.ref 23), .none, .none, .none, (.ref 24), (I 199 0), (I 5 0), (S "/claim/cut.py" 200)], #[]⟩),
 (26, fO (nS 2 pB) "ascii_lower" "ascii_lower" 3 .none .none .none (S "tinycss2.ast" 194) (.ref 25) .none 0),
 (27, ⟨(.type "dict"), none, .dict #[D P "\"" 204 (S "\\\"" 205), D P "\\" 206 (S "\\\\" 207), D P "\n" 208 (S "\\A " 209), D P "\x0d" 210 (S "\\D " 211), D P "\x0c" 212 (S "\\C " 213)] 5, #[]⟩),
 (33, ⟨(.type "code"), none, .fields #[(S "serialize_string_value" 220), (S "serialize_string_value" 221), (S "/claim/cut.py" 222), (I 9 0), (I 1 0), (I 0 0), (I 0 0), (I 3 0), (.ref 28), (.bool true), (I 181 0), (.ref 29), .none, (.ref 30), (.ref 31), (.ref 32), (I 224 0), (I 9 0), (S "/claim/cut.py" 225)], #[]⟩),
 (34, fO (nS 5 pB) "serialize_string_value" "serialize_string_value" 3 .none .none .none (S "tinycss2.serializer" 202) (.ref 33) .none 0),
 (40, ⟨(.type "code"), none, .fields #[(S "serialize_url" 227), (S "serialize_url" 228), (S "/claim/cut.py" 229), (I 11 0), (I 1 0), (I 0 0), (I 0 0), (I 3 0), (.ref 35), (.bool true), (I 181 0), (.ref 36), .none, (.ref 37), (.ref 38), (.ref 39), (I 231 0), (I 11 0), (S "/claim/cut.py" 232)], #[]⟩),
 (41, fO (nS 6 pB) "serialize_url" "serialize_url" 3 .none .none .none (S "tinycss2.serializer" 202) (.ref 40) .none 0),
 (55, ⟨(.type "code"), none, .fields #[(S "__init__" 251), (S "Node.__init__" 252), (S "/claim/cut.py" 253), (I 17 0), (I 3 0), (I 0 0), (I 0 0), (I 3 0), (.ref 50), (.bool true), (I 181 0), (.ref 51), .none, (.ref 52), (.ref 53), (.ref 54), (I 257 0), (I 17 0), (S "/claim/cut.py" 258)], #[]⟩),
 (56, fO (nS 1 (cB (nS 8 pB))) "__init__" "Node.__init__" 3 .none .none .none (S "tinycss2.ast" 234) (.ref 55) .none 0),
 (62, ⟨(.type "code"), none, .fields #[(S "serialize" 260), (S "Node.serialize" 261), (S "/claim/cut.py" 262), (I 21 0), (I 1 0), (I 0 0), (I 0 0), (I 3 0), (.ref 57), (.bool true), (I 181 0), (.ref 58), .none, (.ref 59), (.ref 60), (.ref 61), (I 264 0), (I 21 0), (S "/claim/cut.py" 265)], #[]⟩),
 (63, fO (nS 2 (cB (nS 8 pB))) "serialize" "Node.serialize" 3 .none .none .none (S "tinycss2.ast" 234) (.ref 62) .none 0),
 (69, ⟨(.type "code"), none, .fields #[(S "_serialize_to" 267), (S "Node._serialize_to" 268), (S "/claim/cut.py" 269), (I 24 0), (I 2 0), (I 0 0), (I 0 0), (I 3 0), (.ref 64), (.bool true), (I 181 0), (.ref 65), .none, (.ref 66), (.ref 67), (.ref 68), (I 272 0), (I 24 0), (S "/claim/cut.py" 273)], #[]⟩),
 (70, fO (nS 3 (cB (nS 8 pB))) "_serialize_to" "Node._serialize_to" 3 .none .none .none (S "tinycss2.ast" 234) (.ref 69) .none 0),
 (73, ⟨(.type "dict"), none, .dict #[D P "__module__" 243 (S "tinycss2.ast" 234), D P "__firstlineno__" 247 (I 14 246), D P "__slots__" 250 (.ref 49), D P "__init__" 259 (.ref 56), D P "serialize" 266 (.ref 63), D P "_serialize_to" 274 (.ref 70), D P "__static_attributes__" 277 (.ref 71), D P "source_column" 279 (.ref 75), D P "source_line" 281 (.ref 76), D P "__doc__" 282 .none] 4, #[]⟩),
 (74, ⟨(.type "type"), none, .cls ⟨Z "Node", [(.type "object")], [(.ref 74), (.type "object")], 73, Z "Node", false, [Z "source_column", Z "source_line"], [(.ref 104), (.ref 134), (.ref 163), (.ref 206), (.ref 235), (.ref 265), (.ref 295), (.ref 325), (.ref 355), (.ref 385), (.ref 415), (.ref 447), (.ref 479), (.ref 513), (.ref 542), (.ref 571), (.ref 600)], false, none, false⟩, #[none, none, some (S "Node" 236), some (S "Node" 244), some (.builtin "object.__new__"), some (.bool false)]⟩),
 (75, ⟨(.type "member_descriptor"), none, .fields #[(S "source_column" 278), (.ref 74), (.builtin "proto.slot"), (.builtin "proto.slot#set"), (I 1 0)], #[]⟩),
 (76, ⟨(.type "member_descriptor"), none, .fields #[(S "source_line" 280), (.ref 74), (.builtin "proto.slot"), (.builtin "proto.slot#set"), (I 0 0)], #[]⟩),
 (92, ⟨(.type "code"), none, .fields #[(S "__init__" 302), (S "ParseError.__init__" 303), (S "/claim/cut.py" 304), (I 30 0), (I 5 0), (I 0 0), (I 0 0), (I 3 0), (.ref 87), (.bool true), (I 181 0), (.ref 88), .none, (.ref 89), (.ref 90), (.ref 91), (I 310 0), (I 30 0), (S "/claim/cut.py" 311)], #[]⟩),
 (93, fO (nS 2 (cB (nS 9 pB))) "__init__" "ParseError.__init__" 3 .none .none .none (S "tinycss2.ast" 234) (.ref 92) .none 0),
 (99, ⟨(.type "code"), none, .fields #[(S "_serialize_to" 313), (S "ParseError._serialize_to" 314), (S "/claim/cut.py" 315), (I 35 0), (I 2 0), (I 0 0), (I 0 0), (I 3 0), (.ref 94), (.bool true), (I 181 0), (.ref 95), .none, (.ref 96), (.ref 97), (.ref 98), (I 318 0), (I 35 0), (S "/claim/cut.py" 319)], #[]⟩),
 (100, fO (nS 3 (cB (nS 9 pB))) "_serialize_to" "ParseError._serialize_to" 3 .none .none .none (S "tinycss2.ast" 234) (.ref 99) .none 0),
 (103, ⟨(.type "dict"), none, .dict #[D P "__module__" 292 (S "tinycss2.ast" 234), D P "__firstlineno__" 296 (I 26 295), D P "__slots__" 299 (.ref 86), D P "type" 301 (S "error" 300), D P "__init__" 312 (.ref 93), D P "_serialize_to" 320 (.ref 100), D P "__static_attributes__" 323 (.ref 101), D P "kind" 325 (.ref 105), D P "message" 327 (.ref 106), D P "__doc__" 328 .none] 4, #[]⟩),
 (104, ⟨(.type "type"), none, .cls ⟨Z "ParseError", [(.ref 74)], [(.ref 104), (.ref 74), (.type "object")], 103, Z "ParseError", false, [Z "source_column", Z "source_line", Z "kind", Z "message"], [], false, none, false⟩, #[some (.ref 79), none, some (S "ParseError" 285), some (S "ParseError" 293), some (.builtin "object.__new__"), some (.bool false)]⟩),
 (105, ⟨(.type "member_descriptor"), none, .fields #[(S "kind" 324), (.ref 104), (.builtin "proto.slot"), (.builtin "proto.slot#set"), (I 3 0)], #[]⟩),
 (106, ⟨(.type "member_descriptor"), none, .fields #[(S "message" 326), (.ref 104), (.builtin "proto.slot"), (.builtin "proto.slot#set"), (I 2 0)], #[]⟩),
 (122, ⟨(.type "code"), none, .fields #[(S "__init__" 347), (S "Comment.__init__" 348), (S "/claim/cut.py" 349), (I 41 0), (I 4 0), (I 0 0), (I 0 0), (I 3 0), (.ref 117), (.bool true), (I 181 0), (.ref 118), .none, (.ref 119), (.ref 120), (.ref 121), (I 354 0), (I 41 0), (S "/claim/cut.py" 355)], #[]⟩),
 (123, fO (nS 2 (cB (nS 10 pB))) "__init__" "Comment.__init__" 3 .none .none .none (S "tinycss2.ast" 234) (.ref 122) .none 0),
 (129, ⟨(.type "code"), none, .fields #[(S "_serialize_to" 357), (S "Comment._serialize_to" 358), (S "/claim/cut.py" 359), (I 45 0), (I 2 0), (I 0 0), (I 0 0), (I 3 0), (.ref 124), (.bool true), (I 181 0), (.ref 125), .none, (.ref 126), (.ref 127), (.ref 128), (I 362 0), (I 45 0), (S "/claim/cut.py" 363)], #[]⟩),
 (130, fO (nS 3 (cB (nS 10 pB))) "_serialize_to" "Comment._serialize_to" 3 .none .none .none (S "tinycss2.ast" 234) (.ref 129) .none 0),
 (133, ⟨(.type "dict"), none, .dict #[D P "__module__" 338 (S "tinycss2.ast" 234), D P "__firstlineno__" 342 (I 37 341), D P "__slots__" 344 (.ref 116), D P "type" 346 (S "comment" 345), D P "__init__" 356 (.ref 123), D P "_serialize_to" 364 (.ref 130), D P "__static_attributes__" 366 (.ref 131), D P "value" 368 (.ref 135), D P "__doc__" 369 .none] 3, #[]⟩),
 (134, ⟨(.type "type"), none, .cls ⟨Z "Comment", [(.ref 74)], [(.ref 134), (.ref 74), (.type "object")], 133, Z "Comment", false, [Z "source_column", Z "source_line", Z "value"], [], false, none, false⟩, #[some (.ref 109), none, some (S "Comment" 331), some (S "Comment" 339), some (.builtin "object.__new__"), some (.bool false)]⟩),
 (135, ⟨(.type "member_descriptor"), none, .fields #[(S "value" 367), (.ref 134), (.builtin "proto.slot"), (.builtin "proto.slot#set"), (I 2 0)], #[]⟩),
 (151, ⟨(.type "code"), none, .fields #[(S "__init__" 388), (S "WhitespaceToken.__init__" 389), (S "/claim/cut.py" 390), (I 51 0), (I 4 0), (I 0 0), (I 0 0), (I 3 0), (.ref 146), (.bool true), (I 181 0), (.ref 147), .none, (.ref 148), (.ref 149), (.ref 150), (I 395 0), (I 51 0), (S "/claim/cut.py" 396)], #[]⟩),
 (152, fO (nS 2 (cB (nS 11 pB))) "__init__" "WhitespaceToken.__init__" 3 .none .none .none (S "tinycss2.ast" 234) (.ref 151) .none 0),
 (158, ⟨(.type "code"), none, .fields #[(S "_serialize_to" 398), (S "WhitespaceToken._serialize_to" 399), (S "/claim/cut.py" 400), (I 55 0), (I 2 0), (I 0 0), (I 0 0), (I 3 0), (.ref 153), (.bool true), (I 181 0), (.ref 154), .none, (.ref 155), (.ref 156), (.ref 157), (I 403 0), (I 55 0), (S "/claim/cut.py" 404)], #[]⟩),
 (159, fO (nS 3 (cB (nS 11 pB))) "_serialize_to" "WhitespaceToken._serialize_to" 3 .none .none .none (S "tinycss2.ast" 234) (.ref 158) .none 0),
 (162, ⟨(.type "dict"), none, .dict #[D P "__module__" 379 (S "tinycss2.ast" 234), D P "__firstlineno__" 383 (I 47 382), D P "__slots__" 385 (.ref 145), D P "type" 387 (S "whitespace" 386), D P "__init__" 397 (.ref 152), D P "_serialize_to" 405 (.ref 159), D P "__static_attributes__" 407 (.ref 160), D P "value" 409 (.ref 164), D P "__doc__" 410 .none] 3, #[]⟩),
 (163, ⟨(.type "type"), none, .cls ⟨Z "WhitespaceToken", [(.ref 74)], [(.ref 163), (.ref 74), (.type "object")], 162, Z "WhitespaceToken", false, [Z "source_column", Z "source_line", Z "value"], [], false, none, false⟩, #[some (.ref 138), none, some (S "WhitespaceToken" 372), some (S "WhitespaceToken" 380), some (.builtin "object.__new__"), some (.bool false)]⟩),
 (164, ⟨(.type "member_descriptor"), none, .fields #[(S "value" 408), (.ref 163), (.builtin "proto.slot"), (.builtin "proto.slot#set"), (I 2 0)], #[]⟩),
 (180, ⟨(.type "code"), none, .fields #[(S "__init__" 429), (S "LiteralToken.__init__" 430), (S "/claim/cut.py" 431), (I 61 0), (I 4 0), (I 0 0), (I 0 0), (I 3 0), (.ref 175), (.bool true), (I 181 0), (.ref 176), .none, (.ref 177), (.ref 178), (.ref 179), (I 436 0), (I 61 0), (S "/claim/cut.py" 437)], #[]⟩),
 (181, fO (nS 2 (cB (nS 12 pB))) "__init__" "LiteralToken.__init__" 3 .none .none .none (S "tinycss2.ast" 234) (.ref 180) .none 0),
 (187, ⟨(.type "code"), none, .fields #[(S "__eq__" 439), (S "LiteralToken.__eq__" 440), (S "/claim/cut.py" 441), (I 65 0), (I 2 0), (I 0 0), (I 0 0), (I 3 0), (.ref 182), (.bool true), (I 181 0), (.ref 183), .none, (.ref 184), (.ref 185), (.ref 186), (I 444 0), (I 65 0), (S "/claim/cut.py" 445)], #[]⟩),
 (188, fO (nS 3 (cB (nS 12 pB))) "__eq__" "LiteralToken.__eq__" 3 .none .none .none (S "tinycss2.ast" 234) (.ref 187) .none 0),
 (194, ⟨(.type "code"), none, .fields #[(S "__ne__" 447), (S "LiteralToken.__ne__" 448), (S "/claim/cut.py" 449), (I 68 0), (I 2 0), (I 0 0), (I 0 0), (I 3 0), (.ref 189), (.bool true), (I 181 0), (.ref 190), .none, (.ref 191), (.ref 192), (.ref 193), (I 452 0), (I 68 0), (S "/claim/cut.py" 453)], #[]⟩),
 (195, fO (nS 4 (cB (nS 12 pB))) "__ne__" "LiteralToken.__ne__" 3 .none .none .none (S "tinycss2.ast" 234) (.ref 194) .none 0),
 (201, ⟨(.type "code"), none, .fields #[(S "_serialize_to" 455), (S "LiteralToken._serialize_to" 456), (S "/claim/cut.py" 457), (I 71 0), (I 2 0), (I 0 0), (I 0 0), (I 3 0), (.ref 196), (.bool true), (I 181 0), (.ref 197), .none, (.ref 198), (.ref 199), (.ref 200), (I 460 0), (I 71 0), (S "/claim/cut.py" 461)], #[]⟩),
 (202, fO (nS 5 (cB (nS 12 pB))) "_serialize_to" "LiteralToken._serialize_to" 3 .none .none .none (S "tinycss2.ast" 234) (.ref 201) .none 0),
 (205, ⟨(.type "dict"), none, .dict #[D P "__module__" 420 (S "tinycss2.ast" 234), D P "__firstlineno__" 424 (I 57 423), D P "__slots__" 426 (.ref 174), D P "type" 428 (S "literal" 427), D P "__init__" 438 (.ref 181), D P "__eq__" 446 (.ref 188), D P "__ne__" 454 (.ref 195), D P "_serialize_to" 462 (.ref 202), D P "__static_attributes__" 464 (.ref 203), D P "value" 466 (.ref 207), D P "__doc__" 467 .none, D P "__hash__" 468 .none] 4, #[]⟩),
 (206, ⟨(.type "type"), none, .cls ⟨Z "LiteralToken", [(.ref 74)], [(.ref 206), (.ref 74), (.type "object")], 205, Z "LiteralToken", false, [Z "source_column", Z "source_line", Z "value"], [], false, none, false⟩, #[some (.ref 167), none, some (S "LiteralToken" 413), some (S "LiteralToken" 421), some (.builtin "object.__new__"), some (.bool false)]⟩),
 (207, ⟨(.type "member_descriptor"), none, .fields #[(S "value" 465), (.ref 206), (.builtin "proto.slot"), (.builtin "proto.slot#set"), (I 2 0)], #[]⟩),
 (223, ⟨(.type "code"), none, .fields #[(S "__init__" 488), (S "IdentToken.__init__" 489), (S "/claim/cut.py" 490), (I 77 0), (I 4 0), (I 0 0), (I 0 0), (I 3 0), (.ref 218), (.bool true), (I 181 0), (.ref 219), .none, (.ref 220), (.ref 221), (.ref 222), (I 495 0), (I 77 0), (S "/claim/cut.py" 496)], #[]⟩),
 (224, fO (nS 2 (cB (nS 13 pB))) "__init__" "IdentToken.__init__" 3 .none .none .none (S "tinycss2.ast" 234) (.ref 223) .none 0),
 (230, ⟨(.type "code"), none, .fields #[(S "_serialize_to" 498), (S "IdentToken._serialize_to" 499), (S "/claim/cut.py" 500), (I 85 0), (I 2 0), (I 0 0), (I 0 0), (I 3 0), (.ref 225), (.bool true), (I 181 0), (.ref 226), .none, (.ref 227), (.ref 228), (.ref 229), (I 503 0), (I 85 0), (S "/claim/cut.py" 504)], #[]⟩),
 (231, fO (nS 3 (cB (nS 13 pB))) "_serialize_to" "IdentToken._serialize_to" 3 .none .none .none (S "tinycss2.ast" 234) (.ref 230) .none 0),
 (234, ⟨(.type "dict"), none, .dict #[D P "__module__" 478 (S "tinycss2.ast" 234), D P "__firstlineno__" 482 (I 73 481), D P "__slots__" 485 (.ref 217), D P "type" 487 (S "ident" 486), D P "__init__" 497 (.ref 224), D P "_serialize_to" 505 (.ref 231), D P "__static_attributes__" 508 (.ref 232), D P "lower_value" 510 (.ref 236), D P "value" 512 (.ref 237), D P "__doc__" 513 .none] 4, #[]⟩),
 (235, ⟨(.type "type"), none, .cls ⟨Z "IdentToken", [(.ref 74)], [(.ref 235), (.ref 74), (.type "object")], 234, Z "IdentToken", false, [Z "source_column", Z "source_line", Z "lower_value", Z "value"], [], false, none, false⟩, #[some (.ref 210), none, some (S "IdentToken" 471), some (S "IdentToken" 479), some (.builtin "object.__new__"), some (.bool false)]⟩),
 (236, ⟨(.type "member_descriptor"), none, .fields #[(S "lower_value" 509), (.ref 235), (.builtin "proto.slot"), (.builtin "proto.slot#set"), (I 3 0)], #[]⟩),
 (237, ⟨(.type "member_descriptor"), none, .fields #[(S "value" 511), (.ref 235), (.builtin "proto.slot"), (.builtin "proto.slot#set"), (I 2 0)], #[]⟩),
 (253, ⟨(.type "code"), none, .fields #[(S "__init__" 533), (S "AtKeywordToken.__init__" 534), (S "/claim/cut.py" 535), (I 91 0), (I 4 0), (I 0 0), (I 0 0), (I 3 0), (.ref 248), (.bool true), (I 181 0), (.ref 249), .none, (.ref 250), (.ref 251), (.ref 252), (I 540 0), (I 91 0), (S "/claim/cut.py" 541)], #[]⟩),
 (254, fO (nS 2 (cB (nS 14 pB))) "__init__" "AtKeywordToken.__init__" 3 .none .none .none (S "tinycss2.ast" 234) (.ref 253) .none 0),
 (260, ⟨(.type "code"), none, .fields #[(S "_serialize_to" 543), (S "AtKeywordToken._serialize_to" 544), (S "/claim/cut.py" 545), (I 99 0), (I 2 0), (I 0 0), (I 0 0), (I 3 0), (.ref 255), (.bool true), (I 181 0), (.ref 256), .none, (.ref 257), (.ref 258), (.ref 259), (I 548 0), (I 99 0), (S "/claim/cut.py" 549)], #[]⟩),
 (261, fO (nS 3 (cB (nS 14 pB))) "_serialize_to" "AtKeywordToken._serialize_to" 3 .none .none .none (S "tinycss2.ast" 234) (.ref 260) .none 0),
 (264, ⟨(.type "dict"), none, .dict #[D P "__module__" 523 (S "tinycss2.ast" 234), D P "__firstlineno__" 527 (I 87 526), D P "__slots__" 530 (.ref 247), D P "type" 532 (S "at-keyword" 531), D P "__init__" 542 (.ref 254), D P "_serialize_to" 550 (.ref 261), D P "__static_attributes__" 553 (.ref 262), D P "lower_value" 555 (.ref 266), D P "value" 557 (.ref 267), D P "__doc__" 558 .none] 4, #[]⟩),
 (265, ⟨(.type "type"), none, .cls ⟨Z "AtKeywordToken", [(.ref 74)], [(.ref 265), (.ref 74), (.type "object")], 264, Z "AtKeywordToken", false, [Z "source_column", Z "source_line", Z "lower_value", Z "value"], [], false, none, false⟩, #[some (.ref 240), none, some (S "AtKeywordToken" 516), some (S "AtKeywordToken" 524), some (.builtin "object.__new__"), some (.bool false)]⟩),
 (266, ⟨(.type "member_descriptor"), none, .fields #[(S "lower_value" 554), (.ref 265), (.builtin "proto.slot"), (.builtin "proto.slot#set"), (I 3 0)], #[]⟩),
 (267, ⟨(.type "member_descriptor"), none, .fields #[(S "value" 556), (.ref 265), (.builtin "proto.slot"), (.builtin "proto.slot#set"), (I 2 0)], #[]⟩),
 (283, ⟨(.type "code"), none, .fields #[(S "__init__" 578), (S "HashToken.__init__" 579), (S "/claim/cut.py" 580), (I 105 0), (I 5 0), (I 0 0), (I 0 0), (I 3 0), (.ref 278), (.bool true), (I 181 0), (.ref 279), .none, (.ref 280), (.ref 281), (.ref 282), (I 586 0), (I 105 0), (S "/claim/cut.py" 587)], #[]⟩),
 (284, fO (nS 2 (cB (nS 15 pB))) "__init__" "HashToken.__init__" 3 .none .none .none (S "tinycss2.ast" 234) (.ref 283) .none 0),
 (290, ⟨(.type "code"), none, .fields #[(S "_serialize_to" 589), (S "HashToken._serialize_to" 590), (S "/claim/cut.py" 591), (I 110 0), (I 2 0), (I 0 0), (I 0 0), (I 3 0), (.ref 285), (.bool true), (I 181 0), (.ref 286), .none, (.ref 287), (.ref 288), (.ref 289), (I 594 0), (I 110 0), (S "/claim/cut.py" 595)], #[]⟩),
 (291, fO (nS 3 (cB (nS 15 pB))) "_serialize_to" "HashToken._serialize_to" 3 .none .none .none (S "tinycss2.ast" 234) (.ref 290) .none 0),
 (294, ⟨(.type "dict"), none, .dict #[D P "__module__" 568 (S "tinycss2.ast" 234), D P "__firstlineno__" 572 (I 101 571), D P "__slots__" 575 (.ref 277), D P "type" 577 (S "hash" 576), D P "__init__" 588 (.ref 284), D P "_serialize_to" 596 (.ref 291), D P "__static_attributes__" 599 (.ref 292), D P "is_identifier" 601 (.ref 296), D P "value" 603 (.ref 297), D P "__doc__" 604 .none] 4, #[]⟩),
 (295, ⟨(.type "type"), none, .cls ⟨Z "HashToken", [(.ref 74)], [(.ref 295), (.ref 74), (.type "object")], 294, Z "HashToken", false, [Z "source_column", Z "source_line", Z "is_identifier", Z "value"], [], false, none, false⟩, #[some (.ref 270), none, some (S "HashToken" 561), some (S "HashToken" 569), some (.builtin "object.__new__"), some (.bool false)]⟩),
 (296, ⟨(.type "member_descriptor"), none, .fields #[(S "is_identifier" 600), (.ref 295), (.builtin "proto.slot"), (.builtin "proto.slot#set"), (I 3 0)], #[]⟩),
 (297, ⟨(.type "member_descriptor"), none, .fields #[(S "value" 602), (.ref 295), (.builtin "proto.slot"), (.builtin "proto.slot#set"), (I 2 0)], #[]⟩),
 (313, ⟨(.type "code"), none, .fields #[(S "__init__" 624), (S "StringToken.__init__" 625), (S "/claim/cut.py" 626), (I 116 0), (I 5 0), (I 0 0), (I 0 0), (I 3 0), (.ref 308), (.bool true), (I 181 0), (.ref 309), .none, (.ref 310), (.ref 311), (.ref 312), (I 632 0), (I 116 0), (S "/claim/cut.py" 633)], #[]⟩),
 (314, fO (nS 2 (cB (nS 16 pB))) "__init__" "StringToken.__init__" 3 .none .none .none (S "tinycss2.ast" 234) (.ref 313) .none 0),
 (320, ⟨(.type "code"), none, .fields #[(S "_serialize_to" 635), (S "StringToken._serialize_to" 636), (S "/claim/cut.py" 637), (I 121 0), (I 2 0), (I 0 0), (I 0 0), (I 3 0), (.ref 315), (.bool true), (I 181 0), (.ref 316), .none, (.ref 317), (.ref 318), (.ref 319), (I 640 0), (I 121 0), (S "/claim/cut.py" 641)], #[]⟩),
 (321, fO (nS 3 (cB (nS 16 pB))) "_serialize_to" "StringToken._serialize_to" 3 .none .none .none (S "tinycss2.ast" 234) (.ref 320) .none 0),
 (324, ⟨(.type "dict"), none, .dict #[D P "__module__" 614 (S "tinycss2.ast" 234), D P "__firstlineno__" 618 (I 112 617), D P "__slots__" 621 (.ref 307), D P "type" 623 (S "string" 622), D P "__init__" 634 (.ref 314), D P "_serialize_to" 642 (.ref 321), D P "__static_attributes__" 645 (.ref 322), D P "representation" 647 (.ref 326), D P "value" 649 (.ref 327), D P "__doc__" 650 .none] 4, #[]⟩),
 (325, ⟨(.type "type"), none, .cls ⟨Z "StringToken", [(.ref 74)], [(.ref 325), (.ref 74), (.type "object")], 324, Z "StringToken", false, [Z "source_column", Z "source_line", Z "representation", Z "value"], [], false, none, false⟩, #[some (.ref 300), none, some (S "StringToken" 607), some (S "StringToken" 615), some (.builtin "object.__new__"), some (.bool false)]⟩),
 (326, ⟨(.type "member_descriptor"), none, .fields #[(S "representation" 646), (.ref 325), (.builtin "proto.slot"), (.builtin "proto.slot#set"), (I 3 0)], #[]⟩),
 (327, ⟨(.type "member_descriptor"), none, .fields #[(S "value" 648), (.ref 325), (.builtin "proto.slot"), (.builtin "proto.slot#set"), (I 2 0)], #[]⟩),
 (343, ⟨(.type "code"), none, .fields #[(S "__init__" 670), (S "URLToken.__init__" 671), (S "/claim/cut.py" 672), (I 127 0), (I 5 0), (I 0 0), (I 0 0), (I 3 0), (.ref 338), (.bool true), (I 181 0), (.ref 339), .none, (.ref 340), (.ref 341), (.ref 342), (I 678 0), (I 127 0), (S "/claim/cut.py" 679)], #[]⟩),
 (344, fO (nS 2 (cB (nS 17 pB))) "__init__" "URLToken.__init__" 3 .none .none .none (S "tinycss2.ast" 234) (.ref 343) .none 0),
 (350, ⟨(.type "code"), none, .fields #[(S "_serialize_to" 681), (S "URLToken._serialize_to" 682), (S "/claim/cut.py" 683), (I 132 0), (I 2 0), (I 0 0), (I 0 0), (I 3 0), (.ref 345), (.bool true), (I 181 0), (.ref 346), .none, (.ref 347), (.ref 348), (.ref 349), (I 686 0), (I 132 0), (S "/claim/cut.py" 687)], #[]⟩),
 (351, fO (nS 3 (cB (nS 17 pB))) "_serialize_to" "URLToken._serialize_to" 3 .none .none .none (S "tinycss2.ast" 234) (.ref 350) .none 0),
 (354, ⟨(.type "dict"), none, .dict #[D P "__module__" 660 (S "tinycss2.ast" 234), D P "__firstlineno__" 664 (I 123 663), D P "__slots__" 667 (.ref 337), D P "type" 669 (S "url" 668), D P "__init__" 680 (.ref 344), D P "_serialize_to" 688 (.ref 351), D P "__static_attributes__" 691 (.ref 352), D P "representation" 693 (.ref 356), D P "value" 695 (.ref 357), D P "__doc__" 696 .none] 4, #[]⟩),
 (355, ⟨(.type "type"), none, .cls ⟨Z "URLToken", [(.ref 74)], [(.ref 355), (.ref 74), (.type "object")], 354, Z "URLToken", false, [Z "source_column", Z "source_line", Z "representation", Z "value"], [], false, none, false⟩, #[some (.ref 330), none, some (S "URLToken" 653), some (S "URLToken" 661), some (.builtin "object.__new__"), some (.bool false)]⟩),
 (356, ⟨(.type "member_descriptor"), none, .fields #[(S "representation" 692), (.ref 355), (.builtin "proto.slot"), (.builtin "proto.slot#set"), (I 3 0)], #[]⟩),
 (357, ⟨(.type "member_descriptor"), none, .fields #[(S "value" 694), (.ref 355), (.builtin "proto.slot"), (.builtin "proto.slot#set"), (I 2 0)], #[]⟩),
 (373, ⟨(.type "code"), none, .fields #[(S "__init__" 716), (S "UnicodeRangeToken.__init__" 717), (S "/claim/cut.py" 718), (I 138 0), (I 5 0), (I 0 0), (I 0 0), (I 3 0), (.ref 368), (.bool true), (I 181 0), (.ref 369), .none, (.ref 370), (.ref 371), (.ref 372), (I 724 0), (I 138 0), (S "/claim/cut.py" 725)], #[]⟩),
 (374, fO (nS 2 (cB (nS 18 pB))) "__init__" "UnicodeRangeToken.__init__" 3 .none .none .none (S "tinycss2.ast" 234) (.ref 373) .none 0),
 (380, ⟨(.type "code"), none, .fields #[(S "_serialize_to" 727), (S "UnicodeRangeToken._serialize_to" 728), (S "/claim/cut.py" 729), (I 143 0), (I 2 0), (I 0 0), (I 0 0), (I 3 0), (.ref 375), (.bool true), (I 181 0), (.ref 376), .none, (.ref 377), (.ref 378), (.ref 379), (I 732 0), (I 143 0), (S "/claim/cut.py" 733)], #[]⟩),
 (381, fO (nS 3 (cB (nS 18 pB))) "_serialize_to" "UnicodeRangeToken._serialize_to" 3 .none .none .none (S "tinycss2.ast" 234) (.ref 380) .none 0),
 (384, ⟨(.type "dict"), none, .dict #[D P "__module__" 706 (S "tinycss2.ast" 234), D P "__firstlineno__" 710 (I 134 709), D P "__slots__" 713 (.ref 367), D P "type" 715 (S "unicode-range" 714), D P "__init__" 726 (.ref 374), D P "_serialize_to" 734 (.ref 381), D P "__static_attributes__" 737 (.ref 382), D P "end" 739 (.ref 386), D P "start" 741 (.ref 387), D P "__doc__" 742 .none] 4, #[]⟩),
 (385, ⟨(.type "type"), none, .cls ⟨Z "UnicodeRangeToken", [(.ref 74)], [(.ref 385), (.ref 74), (.type "object")], 384, Z "UnicodeRangeToken", false, [Z "source_column", Z "source_line", Z "end", Z "start"], [], false, none, false⟩, #[some (.ref 360), none, some (S "UnicodeRangeToken" 699), some (S "UnicodeRangeToken" 707), some (.builtin "object.__new__"), some (.bool false)]⟩),
 (386, ⟨(.type "member_descriptor"), none, .fields #[(S "end" 738), (.ref 385), (.builtin "proto.slot"), (.builtin "proto.slot#set"), (I 3 0)], #[]⟩),
 (387, ⟨(.type "member_descriptor"), none, .fields #[(S "start" 740), (.ref 385), (.builtin "proto.slot"), (.builtin "proto.slot#set"), (I 2 0)], #[]⟩),
 (403, ⟨(.type "code"), none, .fields #[(S "__init__" 764), (S "NumberToken.__init__" 765), (S "/claim/cut.py" 766), (I 149 0), (I 6 0), (I 0 0), (I 0 0), (I 3 0), (.ref 398), (.bool true), (I 181 0), (.ref 399), .none, (.ref 400), (.ref 401), (.ref 402), (I 773 0), (I 149 0), (S "/claim/cut.py" 774)], #[]⟩),
 (404, fO (nS 2 (cB (nS 19 pB))) "__init__" "NumberToken.__init__" 3 .none .none .none (S "tinycss2.ast" 234) (.ref 403) .none 0),
 (410, ⟨(.type "code"), none, .fields #[(S "_serialize_to" 776), (S "NumberToken._serialize_to" 777), (S "/claim/cut.py" 778), (I 156 0), (I 2 0), (I 0 0), (I 0 0), (I 3 0), (.ref 405), (.bool true), (I 181 0), (.ref 406), .none, (.ref 407), (.ref 408), (.ref 409), (I 781 0), (I 156 0), (S "/claim/cut.py" 782)], #[]⟩),
 (411, fO (nS 3 (cB (nS 19 pB))) "_serialize_to" "NumberToken._serialize_to" 3 .none .none .none (S "tinycss2.ast" 234) (.ref 410) .none 0),
 (414, ⟨(.type "dict"), none, .dict #[D P "__module__" 752 (S "tinycss2.ast" 234), D P "__firstlineno__" 756 (I 145 755), D P "__slots__" 761 (.ref 397), D P "type" 763 (S "number" 762), D P "__init__" 775 (.ref 404), D P "_serialize_to" 783 (.ref 411), D P "__static_attributes__" 788 (.ref 412), D P "int_value" 790 (.ref 416), D P "is_integer" 792 (.ref 417), D P "representation" 794 (.ref 418), D P "value" 796 (.ref 419), D P "__doc__" 797 .none] 6, #[]⟩),
 (415, ⟨(.type "type"), none, .cls ⟨Z "NumberToken", [(.ref 74)], [(.ref 415), (.ref 74), (.type "object")], 414, Z "NumberToken", false, [Z "source_column", Z "source_line", Z "int_value", Z "is_integer", Z "representation", Z "value"], [], false, none, false⟩, #[some (.ref 390), none, some (S "NumberToken" 745), some (S "NumberToken" 753), some (.builtin "object.__new__"), some (.bool false)]⟩),
 (416, ⟨(.type "member_descriptor"), none, .fields #[(S "int_value" 789), (.ref 415), (.builtin "proto.slot"), (.builtin "proto.slot#set"), (I 5 0)], #[]⟩),
 (417, ⟨(.type "member_descriptor"), none, .fields #[(S "is_integer" 791), (.ref 415), (.builtin "proto.slot"), (.builtin "proto.slot#set"), (I 4 0)], #[]⟩),
 (418, ⟨(.type "member_descriptor"), none, .fields #[(S "representation" 793), (.ref 415), (.builtin "proto.slot"), (.builtin "proto.slot#set"), (I 3 0)], #[]⟩),
 (419, ⟨(.type "member_descriptor"), none, .fields #[(S "value" 795), (.ref 415), (.builtin "proto.slot"), (.builtin "proto.slot#set"), (I 2 0)], #[]⟩),
 (435, ⟨(.type "code"), none, .fields #[(S "__init__" 819), (S "PercentageToken.__init__" 820), (S "/claim/cut.py" 821), (I 162 0), (I 6 0), (I 0 0), (I 0 0), (I 3 0), (.ref 430), (.bool true), (I 181 0), (.ref 431), .none, (.ref 432), (.ref 433), (.ref 434), (I 828 0), (I 162 0), (S "/claim/cut.py" 829)], #[]⟩),
 (436, fO (nS 2 (cB (nS 20 pB))) "__init__" "PercentageToken.__init__" 3 .none .none .none (S "tinycss2.ast" 234) (.ref 435) .none 0),
 (442, ⟨(.type "code"), none, .fields #[(S "_serialize_to" 831), (S "PercentageToken._serialize_to" 832), (S "/claim/cut.py" 833), (I 169 0), (I 2 0), (I 0 0), (I 0 0), (I 3 0), (.ref 437), (.bool true), (I 181 0), (.ref 438), .none, (.ref 439), (.ref 440), (.ref 441), (I 836 0), (I 169 0), (S "/claim/cut.py" 837)], #[]⟩),
 (443, fO (nS 3 (cB (nS 20 pB))) "_serialize_to" "PercentageToken._serialize_to" 3 .none .none .none (S "tinycss2.ast" 234) (.ref 442) .none 0),
 (446, ⟨(.type "dict"), none, .dict #[D P "__module__" 807 (S "tinycss2.ast" 234), D P "__firstlineno__" 811 (I 158 810), D P "__slots__" 816 (.ref 429), D P "type" 818 (S "percentage" 817), D P "__init__" 830 (.ref 436), D P "_serialize_to" 838 (.ref 443), D P "__static_attributes__" 843 (.ref 444), D P "int_value" 845 (.ref 448), D P "is_integer" 847 (.ref 449), D P "representation" 849 (.ref 450), D P "value" 851 (.ref 451), D P "__doc__" 852 .none] 6, #[]⟩),
 (447, ⟨(.type "type"), none, .cls ⟨Z "PercentageToken", [(.ref 74)], [(.ref 447), (.ref 74), (.type "object")], 446, Z "PercentageToken", false, [Z "source_column", Z "source_line", Z "int_value", Z "is_integer", Z "representation", Z "value"], [], false, none, false⟩, #[some (.ref 422), none, some (S "PercentageToken" 800), some (S "PercentageToken" 808), some (.builtin "object.__new__"), some (.bool false)]⟩),
 (448, ⟨(.type "member_descriptor"), none, .fields #[(S "int_value" 844), (.ref 447), (.builtin "proto.slot"), (.builtin "proto.slot#set"), (I 5 0)], #[]⟩),
 (449, ⟨(.type "member_descriptor"), none, .fields #[(S "is_integer" 846), (.ref 447), (.builtin "proto.slot"), (.builtin "proto.slot#set"), (I 4 0)], #[]⟩),
 (450, ⟨(.type "member_descriptor"), none, .fields #[(S "representation" 848), (.ref 447), (.builtin "proto.slot"), (.builtin "proto.slot#set"), (I 3 0)], #[]⟩),
 (451, ⟨(.type "member_descriptor"), none, .fields #[(S "value" 850), (.ref 447), (.builtin "proto.slot"), (.builtin "proto.slot#set"), (I 2 0)], #[]⟩),
 (467, ⟨(.type "code"), none, .fields #[(S "__init__" 876), (S "DimensionToken.__init__" 877), (S "/claim/cut.py" 878), (I 175 0), (I 7 0), (I 0 0), (I 0 0), (I 3 0), (.ref 462), (.bool true), (I 181 0), (.ref 463), .none, (.ref 464), (.ref 465), (.ref 466), (I 886 0), (I 175 0), (S "/claim/cut.py" 887)], #[]⟩),
 (468, fO (nS 2 (cB (nS 21 pB))) "__init__" "DimensionToken.__init__" 3 .none .none .none (S "tinycss2.ast" 234) (.ref 467) .none 0),
 (474, ⟨(.type "code"), none, .fields #[(S "_serialize_to" 889), (S "DimensionToken._serialize_to" 890), (S "/claim/cut.py" 891), (I 187 0), (I 2 0), (I 0 0), (I 0 0), (I 3 0), (.ref 469), (.bool true), (I 181 0), (.ref 470), .none, (.ref 471), (.ref 472), (.ref 473), (I 894 0), (I 187 0), (S "/claim/cut.py" 895)], #[]⟩),
 (475, fO (nS 3 (cB (nS 21 pB))) "_serialize_to" "DimensionToken._serialize_to" 3 .none .none .none (S "tinycss2.ast" 234) (.ref 474) .none 0),
 (478, ⟨(.type "dict"), none, .dict #[D P "__module__" 862 (S "tinycss2.ast" 234), D P "__firstlineno__" 866 (I 171 865), D P "__slots__" 873 (.ref 461), D P "type" 875 (S "dimension" 874), D P "__init__" 888 (.ref 468), D P "_serialize_to" 896 (.ref 475), D P "__static_attributes__" 903 (.ref 476), D P "int_value" 905 (.ref 480), D P "is_integer" 907 (.ref 481), D P "lower_unit" 909 (.ref 482), D P "representation" 911 (.ref 483), D P "unit" 913 (.ref 484), D P "value" 915 (.ref 485), D P "__doc__" 916 .none] 8, #[]⟩),
 (479, ⟨(.type "type"), none, .cls ⟨Z "DimensionToken", [(.ref 74)], [(.ref 479), (.ref 74), (.type "object")], 478, Z "DimensionToken", false, [Z "source_column", Z "source_line", Z "int_value", Z "is_integer", Z "lower_unit", Z "representation", Z "unit", Z "value"], [], false, none, false⟩, #[some (.ref 454), none, some (S "DimensionToken" 855), some (S "DimensionToken" 863), some (.builtin "object.__new__"), some (.bool false)]⟩),
 (480, ⟨(.type "member_descriptor"), none, .fields #[(S "int_value" 904), (.ref 479), (.builtin "proto.slot"), (.builtin "proto.slot#set"), (I 7 0)], #[]⟩),
 (481, ⟨(.type "member_descriptor"), none, .fields #[(S "is_integer" 906), (.ref 479), (.builtin "proto.slot"), (.builtin "proto.slot#set"), (I 6 0)], #[]⟩),
 (482, ⟨(.type "member_descriptor"), none, .fields #[(S "lower_unit" 908), (.ref 479), (.builtin "proto.slot"), (.builtin "proto.slot#set"), (I 5 0)], #[]⟩),
 (483, ⟨(.type "member_descriptor"), none, .fields #[(S "representation" 910), (.ref 479), (.builtin "proto.slot"), (.builtin "proto.slot#set"), (I 4 0)], #[]⟩),
 (484, ⟨(.type "member_descriptor"), none, .fields #[(S "unit" 912), (.ref 479), (.builtin "proto.slot"), (.builtin "proto.slot#set"), (I 3 0)], #[]⟩),
 (485, ⟨(.type "member_descriptor"), none, .fields #[(S "value" 914), (.ref 479), (.builtin "proto.slot"), (.builtin "proto.slot#set"), (I 2 0)], #[]⟩),
 (501, ⟨(.type "code"), none, .fields #[(S "__init__" 935), (S "ParenthesesBlock.__init__" 936), (S "/claim/cut.py" 937), (I 193 0), (I 4 0), (I 0 0), (I 0 0), (I 3 0), (.ref 496), (.bool true), (I 181 0), (.ref 497), .none, (.ref 498), (.ref 499), (.ref 500), (I 942 0), (I 193 0), (S "/claim/cut.py" 943)], #[]⟩),
 (502, fO (nS 2 (cB (nS 22 pB))) "__init__" "ParenthesesBlock.__init__" 3 .none .none .none (S "tinycss2.ast" 234) (.ref 501) .none 0),
 (508, ⟨(.type "code"), none, .fields #[(S "_serialize_to" 945), (S "ParenthesesBlock._serialize_to" 946), (S "/claim/cut.py" 947), (I 197 0), (I 2 0), (I 0 0), (I 0 0), (I 3 0), (.ref 503), (.bool true), (I 181 0), (.ref 504), .none, (.ref 505), (.ref 506), (.ref 507), (I 950 0), (I 197 0), (S "/claim/cut.py" 951)], #[]⟩),
 (509, fO (nS 3 (cB (nS 22 pB))) "_serialize_to" "ParenthesesBlock._serialize_to" 3 .none .none .none (S "tinycss2.ast" 234) (.ref 508) .none 0),
 (512, ⟨(.type "dict"), none, .dict #[D P "__module__" 926 (S "tinycss2.ast" 234), D P "__firstlineno__" 930 (I 189 929), D P "__slots__" 932 (.ref 495), D P "type" 934 (S "() block" 933), D P "__init__" 944 (.ref 502), D P "_serialize_to" 952 (.ref 509), D P "__static_attributes__" 954 (.ref 510), D P "content" 956 (.ref 514), D P "__doc__" 957 .none] 3, #[]⟩),
 (513, ⟨(.type "type"), none, .cls ⟨Z "ParenthesesBlock", [(.ref 74)], [(.ref 513), (.ref 74), (.type "object")], 512, Z "ParenthesesBlock", false, [Z "source_column", Z "source_line", Z "content"], [], false, none, false⟩, #[some (.ref 488), none, some (S "ParenthesesBlock" 919), some (S "ParenthesesBlock" 927), some (.builtin "object.__new__"), some (.bool false)]⟩),
 (514, ⟨(.type "member_descriptor"), none, .fields #[(S "content" 955), (.ref 513), (.builtin "proto.slot"), (.builtin "proto.slot#set"), (I 2 0)], #[]⟩),
 (530, ⟨(.type "code"), none, .fields #[(S "__init__" 976), (S "SquareBracketsBlock.__init__" 977), (S "/claim/cut.py" 978), (I 203 0), (I 4 0), (I 0 0), (I 0 0), (I 3 0), (.ref 525), (.bool true), (I 181 0), (.ref 526), .none, (.ref 527), (.ref 528), (.ref 529), (I 983 0), (I 203 0), (S "/claim/cut.py" 984)], #[]⟩),
 (531, fO (nS 2 (cB (nS 23 pB))) "__init__" "SquareBracketsBlock.__init__" 3 .none .none .none (S "tinycss2.ast" 234) (.ref 530) .none 0),
 (537, ⟨(.type "code"), none, .fields #[(S "_serialize_to" 986), (S "SquareBracketsBlock._serialize_to" 987), (S "/claim/cut.py" 988), (I 207 0), (I 2 0), (I 0 0), (I 0 0), (I 3 0), (.ref 532), (.bool true), (I 181 0), (.ref 533), .none, (.ref 534), (.ref 535), (.ref 536), (I 991 0), (I 207 0), (S "/claim/cut.py" 992)], #[]⟩),
 (538, fO (nS 3 (cB (nS 23 pB))) "_serialize_to" "SquareBracketsBlock._serialize_to" 3 .none .none .none (S "tinycss2.ast" 234) (.ref 537) .none 0),
 (541, ⟨(.type "dict"), none, .dict #[D P "__module__" 967 (S "tinycss2.ast" 234), D P "__firstlineno__" 971 (I 199 970), D P "__slots__" 973 (.ref 524), D P "type" 975 (S "[] block" 974), D P "__init__" 985 (.ref 531), D P "_serialize_to" 993 (.ref 538), D P "__static_attributes__" 995 (.ref 539), D P "content" 997 (.ref 543), D P "__doc__" 998 .none] 3, #[]⟩),
 (542, ⟨(.type "type"), none, .cls ⟨Z "SquareBracketsBlock", [(.ref 74)], [(.ref 542), (.ref 74), (.type "object")], 541, Z "SquareBracketsBlock", false, [Z "source_column", Z "source_line", Z "content"], [], false, none, false⟩, #[some (.ref 517), none, some (S "SquareBracketsBlock" 960), some (S "SquareBracketsBlock" 968), some (.builtin "object.__new__"), some (.bool false)]⟩),
 (543, ⟨(.type "member_descriptor"), none, .fields #[(S "content" 996), (.ref 542), (.builtin "proto.slot"), (.builtin "proto.slot#set"), (I 2 0)], #[]⟩),
 (559, ⟨(.type "code"), none, .fields #[(S "__init__" 1017), (S "CurlyBracketsBlock.__init__" 1018), (S "/claim/cut.py" 1019), (I 213 0), (I 4 0), (I 0 0), (I 0 0), (I 3 0), (.ref 554), (.bool true), (I 181 0), (.ref 555), .none, (.ref 556), (.ref 557), (.ref 558), (I 1024 0), (I 213 0), (S "/claim/cut.py" 1025)], #[]⟩),
 (560, fO (nS 2 (cB (nS 24 pB))) "__init__" "CurlyBracketsBlock.__init__" 3 .none .none .none (S "tinycss2.ast" 234) (.ref 559) .none 0),
 (566, ⟨(.type "code"), none, .fields #[(S "_serialize_to" 1027), (S "CurlyBracketsBlock._serialize_to" 1028), (S "/claim/cut.py" 1029), (I 217 0), (I 2 0), (I 0 0), (I 0 0), (I 3 0), (.ref 561), (.bool true), (I 181 0), (.ref 562), .none, (.ref 563), (.ref 564), (.ref 565), (I 1032 0), (I 217 0), (S "/claim/cut.py" 1033)], #[]⟩),
 (567, fO (nS 3 (cB (nS 24 pB))) "_serialize_to" "CurlyBracketsBlock._serialize_to" 3 .none .none .none (S "tinycss2.ast" 234) (.ref 566) .none 0),
 (570, ⟨(.type "dict"), none, .dict #[D P "__module__" 1008 (S "tinycss2.ast" 234), D P "__firstlineno__" 1012 (I 209 1011), D P "__slots__" 1014 (.ref 553), D P "type" 1016 (S "{} block" 1015), D P "__init__" 1026 (.ref 560), D P "_serialize_to" 1034 (.ref 567), D P "__static_attributes__" 1036 (.ref 568), D P "content" 1038 (.ref 572), D P "__doc__" 1039 .none] 3, #[]⟩),
 (571, ⟨(.type "type"), none, .cls ⟨Z "CurlyBracketsBlock", [(.ref 74)], [(.ref 571), (.ref 74), (.type "object")], 570, Z "CurlyBracketsBlock", false, [Z "source_column", Z "source_line", Z "content"], [], false, none, false⟩, #[some (.ref 546), none, some (S "CurlyBracketsBlock" 1001), some (S "CurlyBracketsBlock" 1009), some (.builtin "object.__new__"), some (.bool false)]⟩),
 (572, ⟨(.type "member_descriptor"), none, .fields #[(S "content" 1037), (.ref 571), (.builtin "proto.slot"), (.builtin "proto.slot#set"), (I 2 0)], #[]⟩),
 (588, ⟨(.type "code"), none, .fields #[(S "__init__" 1060), (S "FunctionBlock.__init__" 1061), (S "/claim/cut.py" 1062), (I 223 0), (I 5 0), (I 0 0), (I 0 0), (I 3 0), (.ref 583), (.bool true), (I 181 0), (.ref 584), .none, (.ref 585), (.ref 586), (.ref 587), (I 1068 0), (I 223 0), (S "/claim/cut.py" 1069)], #[]⟩),
 (589, fO (nS 2 (cB (nS 25 pB))) "__init__" "FunctionBlock.__init__" 3 .none .none .none (S "tinycss2.ast" 234) (.ref 588) .none 0),
 (595, ⟨(.type "code"), none, .fields #[(S "_serialize_to" 1071), (S "FunctionBlock._serialize_to" 1072), (S "/claim/cut.py" 1073), (I 232 0), (I 2 0), (I 0 0), (I 0 0), (I 3 0), (.ref 590), (.bool true), (I 181 0), (.ref 591), .none, (.ref 592), (.ref 593), (.ref 594), (I 1076 0), (I 232 0), (S "/claim/cut.py" 1077)], #[]⟩),
 (596, fO (nS 3 (cB (nS 25 pB))) "_serialize_to" "FunctionBlock._serialize_to" 3 .none .none .none (S "tinycss2.ast" 234) (.ref 595) .none 0),
 (599, ⟨(.type "dict"), none, .dict #[D P "__module__" 1049 (S "tinycss2.ast" 234), D P "__firstlineno__" 1053 (I 219 1052), D P "__slots__" 1057 (.ref 582), D P "type" 1059 (S "function" 1058), D P "__init__" 1070 (.ref 589), D P "_serialize_to" 1078 (.ref 596), D P "__static_attributes__" 1082 (.ref 597), D P "arguments" 1084 (.ref 601), D P "lower_name" 1086 (.ref 602), D P "name" 1088 (.ref 603), D P "__doc__" 1089 .none] 5, #[]⟩),
 (600, ⟨(.type "type"), none, .cls ⟨Z "FunctionBlock", [(.ref 74)], [(.ref 600), (.ref 74), (.type "object")], 599, Z "FunctionBlock", false, [Z "source_column", Z "source_line", Z "arguments", Z "lower_name", Z "name"], [], false, none, false⟩, #[some (.ref 575), none, some (S "FunctionBlock" 1042), some (S "FunctionBlock" 1050), some (.builtin "object.__new__"), some (.bool false)]⟩),
 (601, ⟨(.type "member_descriptor"), none, .fields #[(S "arguments" 1083), (.ref 600), (.builtin "proto.slot"), (.builtin "proto.slot#set"), (I 4 0)], #[]⟩),
 (602, ⟨(.type "member_descriptor"), none, .fields #[(S "lower_name" 1085), (.ref 600), (.builtin "proto.slot"), (.builtin "proto.slot#set"), (I 3 0)], #[]⟩),
 (603, ⟨(.type "member_descriptor"), none, .fields #[(S "name" 1087), (.ref 600), (.builtin "proto.slot"), (.builtin "proto.slot#set"), (I 2 0)], #[]⟩),
 (606, ⟨(.type "tuple"), none, .seq #[(S "0" 1094), (S "1" 1095), (S "2" 1096), (S "3" 1097), (S "4" 1098), (S "5" 1099), (S "6" 1100), (S "7" 1101), (S "8" 1102), (S "9" 1103)] 0, #[]⟩),
 (612, ⟨(.type "code"), none, .fields #[(S "_number_end" 1105), (S "_number_end" 1106), (S "/claim/cut.py" 1107), (I 236 0), (I 2 0), (I 0 0), (I 0 0), (I 3 0), (.ref 607), (.bool true), (I 181 0), (.ref 608), .none, (.ref 609), (.ref 610), (.ref 611), (I 1114 0), (I 236 0), (S "/claim/cut.py" 1115)], #[]⟩),
 (613, fO (nS 28 pB) "_number_end" "_number_end" 3 .none .none .none (S "tinycss2.tokenizer" 1092) (.ref 612) .none 0),
 (619, ⟨(.type "code"), none, .fields #[(S "_hex_end" 1117), (S "_hex_end" 1118), (S "/claim/cut.py" 1119), (I 261 0), (I 2 0), (I 0 0), (I 0 0), (I 3 0), (.ref 614), (.bool true), (I 181 0), (.ref 615), .none, (.ref 616), (.ref 617), (.ref 618), (I 1123 0), (I 261 0), (S "/claim/cut.py" 1124)], #[]⟩),
 (620, fO (nS 29 pB) "_hex_end" "_hex_end" 3 .none .none .none (S "tinycss2.tokenizer" 1092) (.ref 619) .none 0),
 (621, ⟨(.type "tuple"), none, .seq #[(.bool false)] 0, #[]⟩),
 (627, ⟨(.type "code"), none, .fields #[(S "parse_component_value_list" 1126), (S "parse_component_value_list" 1127), (S "/claim/cut.py" 1128), (I 266 0), (I 2 0), (I 0 0), (I 0 0), (I 3 0), (.ref 622), (.bool true), (I 181 0), (.ref 623), .none, (.ref 624), (.ref 625), (.ref 626), (I 1158 0), (I 266 0), (S "/claim/cut.py" 1159)], #[]⟩),
 (628, fO (nS 30 pB) "parse_component_value_list" "parse_component_value_list" 3 (.ref 621) .none .none (S "tinycss2.tokenizer" 1092) (.ref 627) .none 0),
 (634, ⟨(.type "code"), none, .fields #[(S "_is_name_start" 1161), (S "_is_name_start" 1162), (S "/claim/cut.py" 1163), (I 424 0), (I 2 0), (I 0 0), (I 0 0), (I 3 0), (.ref 629), (.bool true), (I 181 0), (.ref 630), .none, (.ref 631), (.ref 632), (.ref 633), (I 1167 0), (I 424 0), (S "/claim/cut.py" 1168)], #[]⟩),
 (635, fO (nS 31 pB) "_is_name_start" "_is_name_start" 3 .none .none .none (S "tinycss2.tokenizer" 1092) (.ref 634) .none 0),
 (641, ⟨(.type "code"), none, .fields #[(S "_is_ident_start" 1170), (S "_is_ident_start" 1171), (S "/claim/cut.py" 1172), (I 427 0), (I 2 0), (I 0 0), (I 0 0), (I 3 0), (.ref 636), (.bool true), (I 181 0), (.ref 637), .none, (.ref 638), (.ref 639), (.ref 640), (I 1175 0), (I 427 0), (S "/claim/cut.py" 1176)], #[]⟩),
 (642, fO (nS 32 pB) "_is_ident_start" "_is_ident_start" 3 .none .none .none (S "tinycss2.tokenizer" 1092) (.ref 641) .none 0),
 (648, ⟨(.type "code"), none, .fields #[(S "_consume_ident" 1178), (S "_consume_ident" 1179), (S "/claim/cut.py" 1180), (I 436 0), (I 2 0), (I 0 0), (I 0 0), (I 3 0), (.ref 643), (.bool true), (I 181 0), (.ref 644), .none, (.ref 645), (.ref 646), (.ref 647), (I 1187 0), (I 436 0), (S "/claim/cut.py" 1188)], #[]⟩),
 (649, fO (nS 33 pB) "_consume_ident" "_consume_ident" 3 .none .none .none (S "tinycss2.tokenizer" 1092) (.ref 648) .none 0),
 (655, ⟨(.type "code"), none, .fields #[(S "_consume_quoted_string" 1190), (S "_consume_quoted_string" 1191), (S "/claim/cut.py" 1192), (I 453 0), (I 2 0), (I 0 0), (I 0 0), (I 3 0), (.ref 650), (.bool true), (I 181 0), (.ref 651), .none, (.ref 652), (.ref 653), (.ref 654), (I 1201 0), (I 453 0), (S "/claim/cut.py" 1202)], #[]⟩),
 (656, fO (nS 34 pB) "_consume_quoted_string" "_consume_quoted_string" 3 .none .none .none (S "tinycss2.tokenizer" 1092) (.ref 655) .none 0),
 (662, ⟨(.type "code"), none, .fields #[(S "_consume_escape" 1204), (S "_consume_escape" 1205), (S "/claim/cut.py" 1206), (I 485 0), (I 2 0), (I 0 0), (I 0 0), (I 3 0), (.ref 657), (.bool true), (I 181 0), (.ref 658), .none, (.ref 659), (.ref 660), (.ref 661), (I 1211 0), (I 485 0), (S "/claim/cut.py" 1212)], #[]⟩),
 (663, fO (nS 35 pB) "_consume_escape" "_consume_escape" 3 .none .none .none (S "tinycss2.tokenizer" 1092) (.ref 662) .none 0),
 (669, ⟨(.type "code"), none, .fields #[(S "_consume_url" 1214), (S "_consume_url" 1215), (S "/claim/cut.py" 1216), (I 494 0), (I 2 0), (I 0 0), (I 0 0), (I 3 0), (.ref 664), (.bool true), (I 181 0), (.ref 665), .none, (.ref 666), (.ref 667), (.ref 668), (I 1225 0), (I 494 0), (S "/claim/cut.py" 1226)], #[]⟩),
 (670, fO (nS 36 pB) "_consume_url" "_consume_url" 3 .none .none .none (S "tinycss2.tokenizer" 1092) (.ref 669) .none 0),
 (676, ⟨(.type "code"), none, .fields #[(S "_consume_unicode_range" 1228), (S "_consume_unicode_range" 1229), (S "/claim/cut.py" 1230), (I 553 0), (I 2 0), (I 0 0), (I 0 0), (I 3 0), (.ref 671), (.bool true), (I 181 0), (.ref 672), .none, (.ref 673), (.ref 674), (.ref 675), (I 1239 0), (I 553 0), (S "/claim/cut.py" 1240)], #[]⟩),
 (677, fO (nS 37 pB) "_consume_unicode_range" "_consume_unicode_range" 3 .none .none .none (S "tinycss2.tokenizer" 1092) (.ref 676) .none 0),
 (683, ⟨(.type "code"), none, .fields #[(S "_law_ENDS" 1244), (S "_law_ENDS" 1245), (S "/claim/cut.py" 1246), (I 578 0), (I 0 0), (I 0 0), (I 0 0), (I 3 0), (.ref 678), (.bool true), (I 181 0), (.ref 679), .none, (.ref 680), (.ref 681), (.ref 682), (I 1247 0), (I 578 0), (S "/claim/cut.py" 1248)], #[]⟩),
 (684, fO (nS 39 pB) "_law_ENDS" "_law_ENDS" 3 .none .none .none (S "law_te0060_03" 1242) (.ref 683) .none 0),
 (690, ⟨(.type "code"), none, .fields #[(S "_law_BLANKS" 1250), (S "_law_BLANKS" 1251), (S "/claim/cut.py" 1252), (I 580 0), (I 0 0), (I 0 0), (I 0 0), (I 3 0), (.ref 685), (.bool true), (I 181 0), (.ref 686), .none, (.ref 687), (.ref 688), (.ref 689), (I 1253 0), (I 580 0), (S "/claim/cut.py" 1254)], #[]⟩),
 (691, fO (nS 40 pB) "_law_BLANKS" "_law_BLANKS" 3 .none .none .none (S "law_te0060_03" 1242) (.ref 690) .none 0),
 (697, ⟨(.type "code"), none, .fields #[(S "_law_HEX" 1256), (S "_law_HEX" 1257), (S "/claim/cut.py" 1258), (I 582 0), (I 0 0), (I 0 0), (I 0 0), (I 3 0), (.ref 692), (.bool true), (I 181 0), (.ref 693), .none, (.ref 694), (.ref 695), (.ref 696), (I 1259 0), (I 582 0), (S "/claim/cut.py" 1260)], #[]⟩),
 (698, fO (nS 41 pB) "_law_HEX" "_law_HEX" 3 .none .none .none (S "law_te0060_03" 1242) (.ref 697) .none 0),
 (704, ⟨(.type "code"), none, .fields #[(S "_law_PLAIN" 1262), (S "_law_PLAIN" 1263), (S "/claim/cut.py" 1264), (I 584 0), (I 0 0), (I 0 0), (I 0 0), (I 3 0), (.ref 699), (.bool true), (I 181 0), (.ref 700), .none, (.ref 701), (.ref 702), (.ref 703), (I 1265 0), (I 584 0), (S "/claim/cut.py" 1266)], #[]⟩),
 (705, fO (nS 42 pB) "_law_PLAIN" "_law_PLAIN" 3 .none .none .none (S "law_te0060_03" 1242) (.ref 704) .none 0),
 (711, ⟨(.type "code"), none, .fields #[(S "_law_ESCAPED" 1268), (S "_law_ESCAPED" 1269), (S "/claim/cut.py" 1270), (I 586 0), (I 0 0), (I 0 0), (I 0 0), (I 3 0), (.ref 706), (.bool true), (I 181 0), (.ref 707), .none, (.ref 708), (.ref 709), (.ref 710), (I 1271 0), (I 586 0), (S "/claim/cut.py" 1272)], #[]⟩),
 (712, fO (nS 43 pB) "_law_ESCAPED" "_law_ESCAPED" 3 .none .none .none (S "law_te0060_03" 1242) (.ref 711) .none 0),
 (718, ⟨(.type "code"), none, .fields #[(S "_law_FAULTS" 1274), (S "_law_FAULTS" 1275), (S "/claim/cut.py" 1276), (I 588 0), (I 0 0), (I 0 0), (I 0 0), (I 3 0), (.ref 713), (.bool true), (I 181 0), (.ref 714), .none, (.ref 715), (.ref 716), (.ref 717), (I 1277 0), (I 588 0), (S "/claim/cut.py" 1278)], #[]⟩),
 (719, fO (nS 44 pB) "_law_FAULTS" "_law_FAULTS" 3 .none .none .none (S "law_te0060_03" 1242) (.ref 718) .none 0),
 (725, ⟨(.type "code"), none, .fields #[(S "_law_URLS" 1280), (S "_law_URLS" 1281), (S "/claim/cut.py" 1282), (I 590 0), (I 0 0), (I 0 0), (I 0 0), (I 3 0), (.ref 720), (.bool true), (I 181 0), (.ref 721), .none, (.ref 722), (.ref 723), (.ref 724), (I 1283 0), (I 590 0), (S "/claim/cut.py" 1284)], #[]⟩),
 (726, fO (nS 45 pB) "_law_URLS" "_law_URLS" 3 .none .none .none (S "law_te0060_03" 1242) (.ref 725) .none 0),
 (732, ⟨(.type "code"), none, .fields #[(S "_law_blank" 1286), (S "_law_blank" 1287), (S "/claim/cut.py" 1288), (I 592 0), (I 2 0), (I 0 0), (I 0 0), (I 3 0), (.ref 727), (.bool true), (I 181 0), (.ref 728), .none, (.ref 729), (.ref 730), (.ref 731), (I 1292 0), (I 592 0), (S "/claim/cut.py" 1293)], #[]⟩),
 (733, fO (nS 46 pB) "_law_blank" "_law_blank" 3 .none .none .none (S "law_te0060_03" 1242) (.ref 732) .none 0),
 (739, ⟨(.type "code"), none, .fields #[(S "_law_hex" 1295), (S "_law_hex" 1296), (S "/claim/cut.py" 1297), (I 595 0), (I 2 0), (I 0 0), (I 0 0), (I 3 0), (.ref 734), (.bool true), (I 181 0), (.ref 735), .none, (.ref 736), (.ref 737), (.ref 738), (I 1306 0), (I 595 0), (S "/claim/cut.py" 1307)], #[]⟩),
 (740, fO (nS 47 pB) "_law_hex" "_law_hex" 3 .none .none .none (S "law_te0060_03" 1242) (.ref 739) .none 0),
 (744, ⟨(.type "code"), none, .fields #[(S "_law_opened" 1309), (S "_law_opened" 1310), (S "/claim/cut.py" 1311), (I 610 0), (I 2 0), (I 0 0), (I 0 0), (I 3 0), (.ref 741), (.bool true), (I 181 0), (.ref 742), .none, .none, .none, (.ref 743), (I 1312 0), (I 610 0), (S "/claim/cut.py" 1313)], #[]⟩),
 (745, fO (nS 48 pB) "_law_opened" "_law_opened" 3 .none .none .none (S "law_te0060_03" 1242) (.ref 744) .none 0),
 (751, ⟨(.type "code"), none, .fields #[(S "_law_entries" 1315), (S "_law_entries" 1316), (S "/claim/cut.py" 1317), (I 617 0), (I 4 0), (I 0 0), (I 0 0), (I 3 0), (.ref 746), (.bool true), (I 181 0), (.ref 747), .none, (.ref 748), (.ref 749), (.ref 750), (I 1322 0), (I 617 0), (S "/claim/cut.py" 1323)], #[]⟩),
 (752, fO (nS 49 pB) "_law_entries" "_law_entries" 3 .none .none .none (S "law_te0060_03" 1242) (.ref 751) .none 0),
 (758, ⟨(.type "code"), none, .fields #[(S "_law_places" 1325), (S "_law_places" 1326), (S "/claim/cut.py" 1327), (I 623 0), (I 1 0), (I 0 0), (I 0 0), (I 3 0), (.ref 753), (.bool true), (I 181 0), (.ref 754), .none, (.ref 755), (.ref 756), (.ref 757), (I 1333 0), (I 623 0), (S "/claim/cut.py" 1334)], #[]⟩),
 (759, fO (nS 50 pB) "_law_places" "_law_places" 3 .none .none .none (S "law_te0060_03" 1242) (.ref 758) .none 0),
 (765, ⟨(.type "code"), none, .fields #[(S "_law_read" 1336), (S "_law_read" 1337), (S "/claim/cut.py" 1338), (I 634 0), (I 1 0), (I 0 0), (I 0 0), (I 3 0), (.ref 760), (.bool true), (I 181 0), (.ref 761), .none, (.ref 762), (.ref 763), (.ref 764), (I 1343 0), (I 634 0), (S "/claim/cut.py" 1344)], #[]⟩),
 (766, fO (nS 51 pB) "_law_read" "_law_read" 3 .none .none .none (S "law_te0060_03" 1242) (.ref 765) .none 0),
 (770, ⟨(.type "code"), none, .fields #[(S "law" 1346), (S "law" 1347), (S "/claim/cut.py" 1348), (I 644 0), (I 1 0), (I 0 0), (I 0 0), (I 3 0), (.ref 767), (.bool true), (I 181 0), (.ref 768), .none, .none, .none, (.ref 769), (I 1349 0), (I 644 0), (S "/claim/cut.py" 1350)], #[]⟩),
 (771, fO (nS 52 pB) "law" "law" 3 .none .none .none (S "law_te0060_03" 1242) (.ref 770) .none 0)]
noncomputable def HX (P : Params) : Frag := (36, ⟨.none, none, .fields #[], #[]⟩) :: HK P
noncomputable def hkA : List Addr := [36, 2, 3, 4, 20, 21, 25, 26, 27, 33, 34, 40, 41, 55, 56, 62, 63, 69, 70, 73, 74, 75, 76, 92, 93, 99, 100, 103, 104, 105, 106, 122, 123, 129, 130, 133, 134, 135, 151, 152, 158, 159, 162, 163, 164, 180, 181, 187, 188, 194, 195, 201, 202, 205, 206, 207, 223, 224, 230, 231, 234, 235, 236, 237, 253, 254, 260, 261, 264, 265, 266, 267, 283, 284, 290, 291, 294, 295, 296, 297, 313, 314, 320, 321, 324, 325, 326, 327, 343, 344, 350, 351, 354, 355, 356, 357, 373, 374, 380, 381, 384, 385, 386, 387, 403, 404, 410, 411, 414, 415, 416, 417, 418, 419, 435, 436, 442, 443, 446, 447, 448, 449, 450, 451, 467, 468, 474, 475, 478, 479, 480, 481, 482, 483, 484, 485, 501, 502, 508, 509, 512, 513, 514, 530, 531, 537, 538, 541, 542, 543, 559, 560, 566, 567, 570, 571, 572, 588, 589, 595, 596, 599, 600, 601, 602, 603, 606, 612, 613, 619, 620, 621, 627, 628, 634, 635, 641, 642, 648, 649, 655, 656, 662, 663, 669, 670, 676, 677, 683, 684, 690, 691, 697, 698, 704, 705, 711, 712, 718, 719, 725, 726, 732, 733, 739, 740, 744, 745, 751, 752, 758, 759, 765, 766, 770, 771]
theorem zdA (P : Params) : hkA = (HX P).map (·.1) := by kernel_rfl
noncomputable def mkT (l : List Obj) : BT := (l.foldl (fun (p : BT × Nat) o => (p.1.ins p.2 o, p.2 + 1)) (.nil, 0)).1
noncomputable def trA (P : Params) : BT := mkT [boot_o_0 P, boot_o_1 P, boot_o_2 P, boot_o_3 P, boot_o_4 P, boot_o_5 P, boot_o_6 P, boot_o_7 P, boot_o_8 P, boot_o_9 P, boot_o_10 P, ⟨(.type "tuple"), none, .seq #[] 0, #[]⟩, ⟨.none, none, .fields #[], #[]⟩, ⟨(.type "code"), none, .fields #[(S "<module>" 182), (S "<module>" 183), (S "/claim/cut.py" 184), (I 1 0), (I 0 0), (I 0 0), (I 0 0), (I 0 0), (.ref 11), (.bool false), (I 181 0), (.ref 12), .none, .none, .none, .none, (I 185 0), (I 1 0), (S "/claim/cut.py" 186)], #[]⟩, ⟨(.type "frame"), none, .plain, #[some (.ref 13), some (.ref 3), some (.ref 3), none, some (S "__main__" 164), none, some (.ref 0)]⟩]
noncomputable def trM (P : Params) : BT := mkT [boot_o_0 P, boot_o_1 P, boot_o_2 P, ⟨(.type "dict"), none, .dict #[D P "__name__" 165 (S "tinycss2.serializer" 202), D P "__doc__" 166 .none, D P "__package__" 167 .none, D P "__loader__" 168 (.builtin "__main__.__loader__#opaque"), D P "__spec__" 169 .none, D P "__annotations__" 170 (.ref 6), D P "__builtins__" 171 (.ref 4), D P "__file__" 173 (S "/claim/cut.py" 172), D P "__cached__" 174 .none, D P "_wall" 193 (.ref 21), D P "ascii_lower" 201 (.ref 26), D P "_replacement_string_value" 219 (.ref 27)] 12, #[]⟩, boot_o_4 P, boot_o_5 P, boot_o_6 P, boot_o_7 P, boot_o_8 P, boot_o_9 P, boot_o_10 P, ⟨(.type "tuple"), none, .seq #[] 0, #[]⟩, ⟨.none, none, .fields #[(I 1 0), (I 0 0), (.ref 20), (I 5 0), (I 0 0), (.ref 25)], #[]⟩, ⟨(.type "code"), none, .fields #[(S "<module>" 182), (S "<module>" 183), (S "/claim/cut.py" 184), (I 1 0), (I 0 0), (I 0 0), (I 0 0), (I 0 0), (.ref 11), (.bool false), (I 181 0), (.ref 12), .none, .none, .none, .none, (I 185 0), (I 1 0), (S "/claim/cut.py" 186)], #[]⟩, ⟨(.type "frame"), none, .plain, #[some (.ref 13), some (.ref 3), some (.ref 3), none, some (S "__main__" 164), none, some (.ref 0)]⟩, ⟨(.type "tuple"), none, .seq #[] 0, #[]⟩, ⟨.none, none, .fields #[], #[]⟩, ⟨(.type "tuple"), none, .seq #[(S "k" 190)] 0, #[]⟩, ⟨(.type "tuple"), none, .seq #[] 0, #[]⟩, kO (nS 0 pB) "_wall" "_wall" 0 .none .none .none .none .none .none 0, ⟨(.type "code"), none, .fields #[(S "_wall" 187), (S "_wall" 188), (S "/claim/cut.py" 189), (I 1 0), (I 1 0), (I 0 0), (I 0 0), (I 3 0), (.ref 15), (.bool true), (I 181 0), (.ref 16), .none, (.ref 17), (.ref 18), (.ref 19), (I 191 0), (I 1 0), (S "/claim/cut.py" 192)], #[]⟩, fO (nS 0 pB) "_wall" "_wall" 3 .none .none .none (S "__main__" 164) (.ref 20) .none 0, ⟨(.type "tuple"), none, .seq #[] 0, #[]⟩, ⟨.none, none, .fields #[], #[]⟩, kO (nS 2 pB) "ascii_lower" "ascii_lower" 0 .none .none .none .none .none .none 0, ⟨(.type "code"), none, .fields #[(S "ascii_lower" 196), (S "ascii_lower" 197), (S "/claim/cut.py" 198), (I 5 0), (I 1 0), (I 0 0), (I 0 0), (I 3 0), (.ref 22), (.bool true), (I 181 0), (.ref 23), .none, .none, .none, (.ref 24), (I 199 0), (I 5 0), (S "/claim/cut.py" 200)], #[]⟩, fO (nS 2 pB) "ascii_lower" "ascii_lower" 3 .none .none .none (S "tinycss2.ast" 194) (.ref 25) .none 0, ⟨(.type "dict"), none, .dict #[D P "\"" 204 (S "\\\"" 205), D P "\\" 206 (S "\\\\" 207), D P "\n" 208 (S "\\A " 209), D P "\x0d" 210 (S "\\D " 211), D P "\x0c" 212 (S "\\C " 213)] 5, #[]⟩]
noncomputable def zd8 : Env := { scope := pw.main.scope, locals := mainNs, globals := mainNs, cells := [], code := (.ref 13), frame := some 14 }
noncomputable def cE : Code := .body (behindTheImports pw) zd8
noncomputable def p0 : Pos := default
noncomputable def sA (w : World) (os : OsState) : SharedT := ⟨trA w.params, 15, {}, #[], {}, 187, os⟩
noncomputable def sM (w : World) (os : OsState) : SharedT := ⟨trM w.params, 28, {}, #[], {}, 220, os⟩
noncomputable def pM : Pos := ⟨8, 0, 8, 25⟩
noncomputable abbrev st1 : List Stmt := (behindTheImports pw).take 5
noncomputable abbrev st2 : List Stmt := (behindTheImports pw).drop 5
noncomputable abbrev tb := treeTable
theorem zcu {p : Program} {w : World} {n₀ : Nat} {ann : Option Value} {c : Code} {ps : Pos} {env : Env} {s : Shared} : topRun treeTable p w n₀ ann 2 s (restOf [] env c ps [topFrame p0]) = some s := by
 rfl
theorem zcf {p q : Program} {loose : List Str} {Xt : Shared -> Bool} {α : Type} {Yf : Shared -> α} {Ya : World -> α} {N : Nat} {g0 : Bool} {H₀ : Params -> Heap} {gs₀ : Array GenState} {d₀ : Drawn} {k₀ : Nat} {m₀ : Nat} {ann : Option Value} {M : Nat}
  (open_ : ∀ w : World, (fencedOpening treeTable p w N).map (fun s => (s.heap, s.gens, s.drawn, s.toks)) = some (H₀ w.params, gs₀, d₀, k₀))
  (size : ∀ w : World, ((H₀ w.params).isNs mainGlobals && gs₀.size == 0, (H₀ w.params).objs.size, (H₀ w.params).nsMap mainGlobals "__annotations__") = (true, m₀, ann))
  (run : ∀ (w : World) (os : OsState), ∃ s, topRun treeTable p w m₀ ann M ⟨H₀ w.params, gs₀, d₀, k₀, os⟩ (topStub p) = some s /\
   ((staticsOk (importedModules p.main.body) (H₀ w.params) s.heap && namesBound p s.heap && gensDone s && laidKept (H₀ w.params) s.heap), openSeen q loose (importedModules p.main.body) Xt g0 s, Yf s) = (true, openGood q loose, Ya w)) (le : Nat.ble M N = true) : LeftO p q loose Xt Yf Ya N g0 := fun w => by
 obtain ⟨⟨h, gs, d, k, os⟩, e, e'⟩ := Option.map_eq_some_iff.mp (open_ w)
 obtain ⟨rfl, rfl, rfl, rfl⟩ : h = H₀ w.params /\ gs = gs₀ /\ d = d₀ /\ k = k₀ := by simpa using e'
 obtain ⟨z1, z2, z3⟩ : _ /\ _ /\ _ := by simpa only [Prod.mk.injEq] using size w
 obtain ⟨s, r, l⟩ := run w os
 obtain ⟨l1, l2, l3⟩ : _ /\ _ /\ _ := by simpa only [Prod.mk.injEq] using l
 have r := topRun_mono (N - M) _ _ _ _ r
 rw [show M + (N - M) = N by have := Nat.le_of_ble_eq_true le; omega] at r
 have t : topFrom treeTable p w N ⟨H₀ w.params, gs, d, k, os⟩ = some s := by
  unfold topFrom
  dsimp only
  rw [z1, z2, z3, r]
  show (match staticsOk (importedModules p.main.body) (H₀ w.params) s.heap && namesBound p s.heap && gensDone s && laidKept (H₀ w.params) s.heap with | true => _ | false => _) = _
  rw [l1]
 unfold openEnds
 rw [e]
 show (topFrom treeTable p w N _).map _ = _
 rw [t]
 exact congrArg some (Prod.ext l2 l3)
noncomputable def zc7 : Option Value := some (.ref 6)
noncomputable abbrev qL : Program := view pw [52]
noncomputable def Yf0 (s : Shared) : List (Option Obj) := hkA.map s.heap.get?
noncomputable def Ya0 (w : World) : List (Option Obj) := (HX w.params).map fun p => some p.2
noncomputable def oR : List Str := ["_wall", "ascii_lower", "_replacement_string_value", "serialize_string_value", "serialize_url", "Node", "ParseError", "Comment", "WhitespaceToken", "LiteralToken", "IdentToken", "AtKeywordToken", "HashToken", "StringToken", "URLToken", "UnicodeRangeToken", "NumberToken", "PercentageToken", "DimensionToken", "ParenthesesBlock", "SquareBracketsBlock", "CurlyBracketsBlock", "FunctionBlock", "_DIGITS", "_number_end", "_hex_end", "parse_component_value_list", "_is_name_start", "_is_ident_start", "_consume_ident", "_consume_quoted_string", "_consume_escape", "_consume_url", "_consume_unicode_range", "_law_ENDS", "_law_BLANKS", "_law_HEX", "_law_PLAIN", "_law_ESCAPED", "_law_FAULTS", "_law_URLS", "_law_blank", "_law_hex", "_law_opened", "_law_entries", "_law_places", "_law_read"].map Str.ofString
noncomputable def Xt0 (s : Shared) : Bool := recOk (RowW.records (OpenRow.toRowW rwL.row)) s
theorem zem (N : Nat) (h : Nat.ble 600 N = true) : ∀ w : World, (fencedOpening treeTable pw w N).map (fun s => (s.heap, s.gens, s.drawn, s.toks)) = some (boot_heap w.params, #[], boot_drawn, boot_toks) :=
 boot_open (by kernel_rfl) h (fun s => by rfl)
theorem zei (w : World) : ((boot_heap w.params).isNs mainGlobals && (#[] : Array GenState).size == 0, (boot_heap w.params).objs.size, (boot_heap w.params).nsMap mainGlobals "__annotations__") = (true, 11, zc7) := by kernel_rfl
theorem pre0 (w : World) (os : OsState) : topGo treeTable pw w 11 zc7 12 ⟨boot_heap w.params, #[], boot_drawn, boot_toks, os⟩ (topStub pw) = some ((sA w os).abs, ⟨denote treeTable cE, cE, p0, [topFrame p0]⟩) := by
 rw [PySem.W.Fast.te15667345088766844465, PySem.W.Fast.te14364793385576792824, PySem.W.Fast.te11892475500146522536]
 kernel_rfl
theorem zdV (w : World) (os : OsState) : segRun treeTable pw w 11 zc7 1 1 (sA w os).abs (blockOf (behindTheImports pw) zd8 cE p0 [topFrame p0]) = some (.next, (sA w os).abs, cE, p0) := by
 rw [PySem.W.Fast.te14374325043358763698, PySem.W.Fast.te14364793385576792824]
 kernel_rfl
theorem zdE (w : World) (os : OsState) : segRunT treeTable pw w 11 zc7 1 159 (sA w os) (piecesOf st1 zd8 cE p0 [topFrame p0]) = some (.next, sM w os, cE, pM) := by
 rw [PySem.W.Fast.te10110043849684766642, PySem.W.Fast.te14364793385576792824]
 revert w
 refine byRow2 "special-get-raises" (fun w => ?_) (fun w => ?_) <;> kernel_rfl
noncomputable def zen (w : World) (s : Shared) := ((staticsOk (importedModules pw.main.body) (boot_heap w.params) s.heap && namesBound pw s.heap && gensDone s && laidKept (boot_heap w.params) s.heap), openSeen qL oR (importedModules pw.main.body) Xt0 true s, Yf0 s)
theorem zer (w : World) (os : OsState) : (segRunT treeTable pw w 11 zc7 1 7037 (sM w os) (piecesOf st2 zd8 cE pM [topFrame p0])).map (fun r => (r.1, r.2.2.1, zen w r.2.1.abs)) = some (.next, cE, true, openGood qL oR, Ya0 w) := by
 unfold zen
 rw [PySem.W.Fast.te10110043849684766642, PySem.W.Fast.te14364793385576792824, PySem.W.Fast.te4187177175401517315]
 kernel_rfl
theorem zdm : behindTheImports pw = st1 ++ (st2 ++ []) := by rw [List.append_nil]; exact (List.take_append_drop _ _).symm
theorem run0 (w : World) (os : OsState) : ∃ s, topRun treeTable pw w 11 zc7 (12 + (1 + (159 + (7037 + 2)))) ⟨boot_heap w.params, #[], boot_drawn, boot_toks, os⟩ (topStub pw) = some s /\ zen w s = (true, openGood qL oR, Ya0 w) := by
 obtain ⟨⟨f, s', c, p⟩, e, e'⟩ := Option.map_eq_some_iff.mp (zer w os)
 obtain ⟨rfl, e'⟩ := Prod.mk.inj e'
 obtain ⟨h1, h2⟩ := Prod.mk.inj e'
 dsimp only at h1 h2
 subst h1
 refine ⟨s'.abs, go_top (pre0 w os) (piece_block (zdV w os) ?_), h2⟩
 rw [zdm]
 exact piece_app (segRun_of (zdE w os)) (piece_app (segRun_of e) zcu)
theorem zeq : LeftO (OpenRow.toRowW rwL.row).prog qL oR Xt0 Yf0 Ya0 8000 :=
 zcf (p := pw) (zem 8000 (by decide +kernel)) zei run0 (by decide +kernel)
noncomputable def zdx : Stmt -> DefRec
 | .FunctionDef n a b _ _ _ s _ _ p => ⟨n, a, b, s, p⟩
 | _ => ⟨Z "", ⟨[], [], none, [], [], none, []⟩, [], ⟨.function, [], false, false, []⟩, default⟩
noncomputable def dL : DefRec := zdx (nS 52 pB)
theorem hd (call : WalkO qL oR (fun _ _ => True) (fun w h => (HX w.params).In h) (OpenRow.toRowW rwL.row) dL [] fun f vs => PySem.call f vs) : rwL.Holds :=
 holds_law (by rw [PySem.W.Fast.te9446332074065402090]; kernel_rfl) fun said => holds_open (hRf := fun s e => recFacts_of e) zeq (fun w s e => Frag.in_of (zdA _) e) (fun w h h' x k => x.keeps k) (fun _ _ => trivial) (fun _ _ _ _ _ => trivial)
  (by kernel_rfl) (by kernel_rfl) (by kernel_rfl) (by rfl) said (by kernel_rfl) ⟨rfl, rfl, rfl, rfl, rfl, by decide +kernel⟩ ⟨[.list [.int 3, .int 1]], by kernel_rfl, by kernel_rfl⟩ call
end MH
end
section
open PySem PySem.W PyProof.Rows
set_option Elab.async false
set_option maxRecDepth 100000
set_option maxHeartbeats 4000000
set_option linter.unusedSimpArgs false
set_option linter.unusedVariables false
namespace Mine
noncomputable def HMb (mb : Str -> Option Value) : Prop := ∀ x : Str, x ≠ Str.ofString "__name__" -> mb x = bootBuiltins x
variable {prog : Program} {w : World} {h : Heap} {mb : Str -> Option Value}
noncomputable def HK (p : Params) : Frag := MH.HK p
noncomputable def alphaL : List Nat := [48, 49, 50, 51, 52, 53, 54, 55, 56, 57, 65, 66, 67, 68, 69, 70, 76, 82, 85, 97, 98, 99, 100, 101, 102, 103, 108, 114, 117, 120, 121, 122, 201, 128, 65533, 127, 1, 11, 31, 9, 10, 32, 33, 34, 35, 39, 40, 41, 42, 45, 47, 58, 59, 60, 91, 92, 125]
noncomputable def gN (c : Nat) : Bool := alphaL.contains c
noncomputable abbrev Al (x : List Nat) : Prop := ∀ c ∈ x, gN c = true
theorem yR {P : Nat -> Bool} (h : alphaL.all P = true) {c : Nat} (hc : gN c = true) : P c = true := List.all_eq_true.mp h c (by simpa [gN] using hc)
theorem gI {f g : Nat -> Bool} (h : (alphaL.all fun c => f c == g c) = true) {c : Nat} (hc : gN c = true) : f c = g c := beq_iff_eq.mp (yR (P := fun c => f c == g c) h hc)
theorem Al.get {x : List Nat} (h : Al x) {i : Nat} (hi : i < x.length) : gN x[i] = true := h _ (List.getElem_mem hi)
theorem Al.drop {x : List Nat} (h : Al x) (n : Nat) : Al (x.drop n) := fun c hc => h c (List.mem_of_mem_drop hc)
theorem Al.at {x : List Nat} (h : Al x) {i c : Nat} (hi : x[i]? = some c) : gN c = true := h c (List.mem_of_getElem? hi)
noncomputable def tab {α : Type} : List (String × α) -> Str -> Option α
 | [], _ => none
 | (a, x) :: r, s => if s = Str.ofString a then some x else tab r s
theorem fF {α : Type} : ∀ {l : List (String × α)} {s : Str} {x : α}, tab l s = some x -> ∃ a, s = Str.ofString a /\ (a, x) ∈ l
 | [], s, x, h => by cases h
 | (a, y) :: r, s, x, h => by
  unfold tab at h
  split at h
  ·rename_i e; cases h; exact ⟨a, e, by simp⟩
  ·obtain ⟨b, h1, h2⟩ := fF h; exact ⟨b, h1, List.mem_cons_of_mem _ h2⟩
noncomputable def slotsOf : List (Nat × List String) := [
 (74, ["source_column", "source_line"]), (104, ["kind", "message", "source_column", "source_line"]), (134, ["value", "source_column", "source_line"]),
 (163, ["value", "source_column", "source_line"]), (206, ["value", "source_column", "source_line"]), (235, ["lower_value", "value", "source_column", "source_line"]),
 (265, ["lower_value", "value", "source_column", "source_line"]), (295, ["is_identifier", "value", "source_column", "source_line"]),
 (325, ["representation", "value", "source_column", "source_line"]), (355, ["representation", "value", "source_column", "source_line"]), (385, ["end", "start", "source_column", "source_line"]),
 (415, ["int_value", "is_integer", "representation", "value", "source_column", "source_line"]), (447, ["int_value", "is_integer", "representation", "value", "source_column", "source_line"]),
 (479, ["int_value", "is_integer", "lower_unit", "representation", "unit", "value", "source_column", "source_line"]), (513, ["content", "source_column", "source_line"]),
 (542, ["content", "source_column", "source_line"]), (571, ["content", "source_column", "source_line"]), (600, ["arguments", "lower_name", "name", "source_column", "source_line"])]
noncomputable def typesOf : List (Nat × String) := [(104, "error"), (134, "comment"), (163, "whitespace"), (206, "literal"), (235, "ident"), (265, "at-keyword"), (295, "hash"), (325, "string"), (355, "url"), (385, "unicode-range"),
 (415, "number"), (447, "percentage"), (479, "dimension"), (513, "() block"), (542, "[] block"), (571, "{} block"), (600, "function")]
noncomputable def zcD (l : List String) : List (String × Nat) := l.zipIdx
noncomputable def sgP (s : String) : PV := .str (Str.ofString s).cps.toList
noncomputable def zeC : PV := .tup (["0", "1", "2", "3", "4", "5", "6", "7", "8", "9"].map sgP)
noncomputable def kQ : List (String × Unit) := ["len", "ord", "chr", "int", "sum", "range"].map fun s => (s, ())
noncomputable def mkC (fns clss : List (String × Fn)) (ini : Bool) (vals : List (String × PV)) (ls : List Nat) : Ctx where
 val := tab vals
 fn := tab fns
 bi := fun s => (tab kQ s).isSome
 slot := fun c s => (slotsOf.lookup c).bind fun l => tab (zcD l) s
 cval := fun c s => if s = Str.ofString "type" then (typesOf.lookup c).map sgP else none
 mutL := fun n => ls.contains n
 cls := tab clss
 ini := ini
theorem bI {fns clss : List (String × Fn)} {ini : Bool} {vals : List (String × PV)} {ls : List Nat} (h1 : ∀ e ∈ fns, bC e.2) (h2 : ∀ e ∈ clss, bC e.2) : CtxMono (mkC fns clss ini vals ls) :=
 ⟨fun x F h => by obtain ⟨a, _, h⟩ := fF h; exact h1 _ h, fun x F h => by obtain ⟨a, _, h⟩ := fF h; exact h2 _ h⟩
structure World0 (prog : Program) (w : World) (B : Bs) : Prop where
 ok : BsOk B
 k : B.K = HK w.params
 mg : ∀ x, B.mg x = (match (HK w.params).lookup 3 with
  | some ⟨_, _, .dict es _, _⟩ => nsFind es x
  | _ => none)
 mb : ∀ x : Str, x ≠ Str.ofString "__name__" -> B.mb x = bootBuiltins x
noncomputable def qC (K : Frag) (c : Nat) (name : Str) (i : Nat) : Bool :=
 findIn K (.ref c) "__getattribute__" == some (some (.builtin "object.__getattribute__")) && findIn K (.ref c) "__getattr__" == some none && findIn K (.ref c) "__setattr__" == some (some (.builtin "object.__setattr__")) && plainOver K c && decide (i < 1000) &&
 match findObj K c (some gU) name with
  | some (.bind (.builtin g) (.ref p)) => g == "member_descriptor.__get__" && slotIn K p c == some i && takerIn K c name == some (some (.ref p)) && typeIn K (.ref p) == some (.type "member_descriptor")
  | _ => false
theorem zZ {K : Frag} {c : Nat} {name : Str} {i : Nat} (h : qC K c name i = true) : zbC K c name i := by
 unfold qC at h
 simp only [Bool.and_eq_true, beq_iff_eq, decide_eq_true_eq] at h
 obtain ⟨⟨⟨⟨⟨h1, h2⟩, h3⟩, h4⟩, h5⟩, h6⟩ := h
 split at h6
 ·rename_i g p e
  simp only [Bool.and_eq_true, beq_iff_eq] at h6
  obtain ⟨⟨⟨rfl, h7⟩, h8⟩, h9⟩ := h6
  exact ⟨h1, h2, p, e, h7, h3, h4, h8, h9, h5⟩
 ·cases h6
noncomputable def yA (K : Frag) (c : Nat) (x : String) : Bool :=
 findIn K (.ref c) "__getattribute__" == some (some (.builtin "object.__getattribute__")) && match findObj K c (some gU) (Str.ofString "type") with
  | some (.value (.str s _)) => s == Str.ofString x
  | _ => false
set_option maxRecDepth 1000000 in
theorem v0 (p : Params) : (slotsOf.all fun e => (zcD e.2).all fun f => qC (HK p) e.1 (Str.ofString f.1) f.2) = true := by kernel_rfl
theorem x9 (p : Params) : (typesOf.all fun e => yA (HK p) e.1 e.2) = true := by kernel_rfl
noncomputable def mgK (p : Params) : Str -> Option Value := fun x => match (HK p).lookup 3 with
 | some ⟨_, _, .dict es _, _⟩ => nsFind es x
 | _ => none
noncomputable def rR (K : Frag) (a : Addr) : Bool := match K.lookup a with
 | some ⟨_, _, .dict es _, _⟩ => es.toList.all fun e => match e.key with
  | .str _ _ => true
  | _ => false
 | _ => false
theorem zeo {K : Frag} {h : Heap} {a : Addr} (X : K.In h) (e : rR K a = true) : h.Ns a (fun x => match K.lookup a with
  | some ⟨_, _, .dict es _, _⟩ => nsFind es x
  | _ => none) := by
 unfold rR at e
 split at e
 ·rename_i c d es n sl ho
  refine ⟨_, es, n, X _ _ ho, rfl, fun en hen => ?_, fun name => rfl⟩
  have := List.all_eq_true.mp e en (Array.mem_toList_iff.mpr hen)
  split at this
  ·rename_i x t q; exact ⟨x, t, q⟩
  ·cases this
 ·cases e
noncomputable def bs (p : Params) (h : Heap) (mb : Str -> Option Value) : Bs := ⟨HK p, h, mgK p, mb⟩
theorem zcS {p : Params} {h : Heap} {mb : Str -> Option Value} (X : (HK p).In h) (hb : h.Ns builtinsNs mb) (hl : h.NoLimit) : BsOk (bs p h mb) :=
 ⟨X, zeo X (by kernel_rfl), hb, hl⟩
noncomputable def o7 (K : Frag) (a : Addr) : Bool := match xK K a with
 | some fd => (match fd.body with
  | .stmts _ => true
  | _ => false) && fd.closure.isEmpty && (fd.globals == mainGlobals) && (fd.builtins == builtinsNs) && codeIn K fd.code fd.qualname && !fd.scope.isCoroutine && !fd.scope.isGenerator && (fd.scope.kind == .function) && fd.scope.names.all (fun n => !(n.2 == .free))
 | none => false
theorem lT {K : Frag} {a : Addr} (h : o7 K a = true) : ∃ fd, FunAt K a fd (aN K a) /\ xK K a = some fd /\ fd.scope.names = aP K a := by
 unfold o7 at h
 split at h
 ·rename_i fd e
  simp only [Bool.and_eq_true, beq_iff_eq, Bool.not_eq_true'] at h
  obtain ⟨⟨⟨⟨⟨⟨⟨⟨h1, h2⟩, h3⟩, h4⟩, h5⟩, h6⟩, h7⟩, h8⟩, h9⟩ := h
  refine ⟨fd, ⟨?_, ?_, by simpa using h2, h3, h4, h5, h6, h7, h8, h9⟩, e, by unfold aP; rw [e]⟩
  ·unfold xK at e
   split at e
   ·rename_i c d fd' sl q; cases e; exact ⟨c, d, sl, q⟩
   ·cases e
  ·unfold aN
   rw [e]
   dsimp only
   split at h1
   ·rename_i b q; rw [q]
   ·cases h1
 ·cases h
theorem zcT : ∀ e ∈ kQ, bootBuiltins (Str.ofString e.1) = some (i9 (Str.ofString e.1)) /\ Str.ofString e.1 ≠ Str.ofString "__name__" := by
 intro e he
 simp only [kQ, List.map_cons, List.map_nil, List.mem_cons, List.not_mem_nil, or_false] at he
 rcases he with rfl | rfl | rfl | rfl | rfl | rfl <;> exact ⟨by kernel_rfl, by rw [Ne, sEq]; decide⟩
theorem dG {n : Nat} {fns clss : List (String × Fn)} {ini : Bool} {vals : List (String × PV)} {ls : List Nat} (hmb : HMb mb)
  (m1 : ∀ e ∈ fns, bC e.2) (m2 : ∀ e ∈ clss, bC e.2)
  (hv : ∀ e ∈ vals, ∃ u, mgK w.params (Str.ofString e.1) = some u /\ VRel w.params (fun a => h.get? a) u e.2)
  (h1 : ∀ e ∈ fns, ∃ u, mgK w.params (Str.ofString e.1) = some u /\ Meets prog w (bs w.params h mb) n u e.2)
  (h2 : ∀ e ∈ clss, ∃ u, mgK w.params (Str.ofString e.1) = some u /\ Meets prog w (bs w.params h mb) n u e.2)
  (hi : ini = true -> tD prog w (bs w.params h mb) (mkC fns clss ini vals ls) n) : CtxOk prog w (bs w.params h mb) (mkC fns clss ini vals ls) n where
 mono := bI m1 m2
 val := fun x v e => by obtain ⟨a, rfl, q⟩ := fF e; exact hv _ q
 fn := fun x v e => by obtain ⟨a, rfl, q⟩ := fF e; exact h1 _ q
 cls := fun x v e => by obtain ⟨a, rfl, q⟩ := fF e; exact h2 _ q
 bi := fun x e => by
  obtain ⟨u, hu⟩ := Option.isSome_iff_exists.mp (show (tab kQ x).isSome = true from e)
  obtain ⟨a, rfl, q⟩ := fF hu
  obtain ⟨b1, b2⟩ := zcT _ q
  refine ⟨?_, (hmb _ b2).trans b1⟩
  show mgK w.params _ = none
  simp only [kQ, List.map_cons, List.map_nil, List.mem_cons, List.not_mem_nil, or_false, Prod.mk.injEq, and_true] at q
  rcases q with rfl | rfl | rfl | rfl | rfl | rfl <;> kernel_rfl
 slot := fun c x i e => by
  have e : (slotsOf.lookup c).bind (fun l => tab (zcD l) x) = some i := e
  obtain ⟨l, e1, e2⟩ := Option.bind_eq_some_iff.mp e
  obtain ⟨a, rfl, q⟩ := fF e2
  have hm : (c, l) ∈ slotsOf := by
   clear e e2 q
   revert e1
   generalize slotsOf = L
   intro e1
   induction L with
   | nil => cases e1
   | cons y r ih =>
    rw [List.lookup_cons] at e1
    split at e1
    ·rename_i hh; cases e1; have := beq_iff_eq.mp hh; subst this; simp
    ·exact List.mem_cons_of_mem _ (ih e1)
  exact zZ (List.all_eq_true.mp (List.all_eq_true.mp (v0 w.params) _ hm) _ q)
 cval := fun c x v e => by
  have e : (if x = Str.ofString "type" then (typesOf.lookup c).map sgP else none) = some v := e
  split at e
  ·rename_i hx; subst hx
   obtain ⟨l, e1, rfl⟩ := Option.map_eq_some_iff.mp e
   have hm : (c, l) ∈ typesOf := by
    clear e
    revert e1
    generalize typesOf = L
    intro e1
    induction L with
    | nil => cases e1
    | cons y r ih =>
     rw [List.lookup_cons] at e1
     split at e1
     ·rename_i hh; cases e1; have := beq_iff_eq.mp hh; subst this; simp
     ·exact List.mem_cons_of_mem _ (ih e1)
   have hc := List.all_eq_true.mp (x9 w.params) _ hm
   unfold yA at hc
   simp only [Bool.and_eq_true, beq_iff_eq] at hc
   obtain ⟨c1, c2⟩ := hc
   split at c2
   ·rename_i s t q
    have := beq_iff_eq.mp c2; subst this
    refine ⟨c1, _, q, rfl, ?_⟩
    simp only [sgP, VRel]
    refine ⟨t, by simp, ?_⟩
    have : (typesOf.all fun e => (Str.ofString e.2).cps.toList.all (· < 1114112) && decide ((Str.ofString e.2).cps.toList.length <= 1000)) = true := by decide +kernel
    have := List.all_eq_true.mp this _ hm
    simp only [Bool.and_eq_true, List.all_eq_true, decide_eq_true_eq] at this
    exact ⟨this.1, by unfold aQ; omega⟩
   ·cases c2
  ·cases e
 ini := hi
theorem aX {n k : Nat} {C : Ctx} {a : Addr} {params : List String} {dv : List Value} {dp : List PV} {F : Fn} (hB : BsOk (bs w.params h mb)) (hC : CtxOk prog w (bs w.params h mb) C n)
  (hf : o7 (HK w.params) a = true) (hok : oG (aN (HK w.params) a) = true)
  (hpar : (params.all fun x => (aP (HK w.params) a).lookup (Str.ofString x) == some .local || (aP (HK w.params) a).lookup (Str.ofString x) == some .cell) = true)
  (hlen : params.length = k + dp.length) (hd : ∀ G, VRels w.params G dv dp)
  (hbind : ∀ S vals, vals.length = k -> (xK (HK w.params) a).map (fun fd => peek (HK w.params) S (bindArgs fd ⟨vals, []⟩)) = some (some ((params.map Str.ofString).zip (vals ++ dv))))
  (hF : ∀ ps K, F ps K -> ps.length = k /\ wSs C (cF (aP (HK w.params) a)) (aN (HK w.params) a) (kZ K) ⟨bJ ((params.map Str.ofString).zip (ps ++ dp)) fun _ => none, fun _ => none⟩) :
  Meets prog w (bs w.params h mb) (n + 1) (.ref a) F := by
 obtain ⟨fd, h1, h2, h3⟩ := lT hf
 refine (xG (C := C) (params := params.map Str.ofString) (k := k) (dv := dv) (dp := dp) hB hC h1 hok (fun x hx => ?_) (by simpa using hlen) hd (fun s vals X hl => ?_)).weaken fun ps K hp => ?_
 ·obtain ⟨y, hy, rfl⟩ := List.mem_map.mp hx
  have := List.all_eq_true.mp hpar y hy
  rw [h3]
  simpa using this
 ·refine kp_binds X fun S => ?_
  have := hbind S vals hl
  rw [h2] at this
  show peek (HK w.params) S _ = _
  simpa using this
 ·rw [h3]; exact hF ps K hp
theorem nJ {α : Type} {n : Nat} : ∀ {l : List α}, l.length = n + 1 -> ∃ a r, l = a :: r /\ r.length = n
 | a :: r, h => ⟨a, r, rfl, Nat.succ.inj h⟩
theorem rW {α : Type} {l : List α} (h : l.length = 1) : ∃ a, l = [a] := List.length_eq_one_iff.mp h
theorem gP {α : Type} {l : List α} (h : l.length = 2) : ∃ a b, l = [a, b] := by obtain ⟨a, r, e, h⟩ := nJ h; obtain ⟨b, q⟩ := rW h; exact ⟨a, b, by rw [e, q]⟩
theorem rQ {α : Type} {l : List α} (h : l.length = 3) : ∃ a b c, l = [a, b, c] := by obtain ⟨a, r, e, h⟩ := nJ h; obtain ⟨b, c, q⟩ := gP h; exact ⟨a, b, c, by rw [e, q]⟩
theorem four {α : Type} {l : List α} (h : l.length = 4) : ∃ a b c d, l = [a, b, c, d] := by obtain ⟨a, r, e, h⟩ := nJ h; obtain ⟨b, c, d, q⟩ := rQ h; exact ⟨a, b, c, d, by rw [e, q]⟩
theorem five {α : Type} {l : List α} (h : l.length = 5) : ∃ a b c d e, l = [a, b, c, d, e] := by obtain ⟨a, r, e, h⟩ := nJ h; obtain ⟨b, c, d, f, q⟩ := four h; exact ⟨a, b, c, d, f, by rw [e, q]⟩
section
variable {C : Ctx} {κ : Kn}
theorem qT {e e' : Expr} {es : List Expr} {p : Pos} {st : St} {c d : Bool} (M : CtxMono C) (h : ev C κ e st (.bool c)) (h' : c = false -> ev C κ (.BoolOp .Or (e' :: es) p) st (.bool d)) : ev C κ (.BoolOp .Or (e :: e' :: es) p) st (.bool (c || d)) := by
 refine aM (e := e) M h ?_
 cases c with
 | true => exact ⟨rfl, rfl⟩
 | false => exact h' rfl
theorem sQ {e e' : Expr} {es : List Expr} {p : Pos} {st : St} {c d : Bool} (M : CtxMono C) (h : ev C κ e st (.bool c)) (h' : c = true -> ev C κ (.BoolOp .And (e' :: es) p) st (.bool d)) : ev C κ (.BoolOp .And (e :: e' :: es) p) st (.bool (c && d)) := by
 refine aM (e := e) M h ?_
 cases c with
 | false => exact ⟨rfl, rfl⟩
 | true => exact h' rfl
noncomputable def evs (C : Ctx) (κ : Kn) (es : List Expr) (st : St) (vs : List PV) : Prop := wEs C es κ (fun rs st1 => rs = vs /\ st1 = st) st
theorem aJ {st : St} : evs C κ [] st [] := ⟨rfl, rfl⟩
theorem aE {e : Expr} {es : List Expr} {st : St} {v : PV} {vs : List PV} (M : CtxMono C) (h : ev C κ e st v) (hs : evs C κ es st vs) : evs C κ (e :: es) st (v :: vs) :=
 aM (e := e) M h (bV M es (fun rs st1 ⟨h1, h2⟩ => ⟨congrArg _ h1, h2⟩) hs)
theorem bE {es : List Expr} {k : Nat} {p : Pos} {st : St} {vs : List PV} (M : CtxMono C) (h : evs C κ es st vs) : ev C κ (.Tuple es k p) st (.tup vs) :=
 bV M es (fun rs st1 ⟨h1, h2⟩ => ⟨congrArg _ h1, h2⟩) h
theorem dS {t b o : Expr} {p : Pos} {st : St} {c : Bool} {v : PV} (M : CtxMono C) (h : tv C κ t st c) (hb : c = true -> ev C κ b st v) (ho : c = false -> ev C κ o st v) : ev C κ (.IfExp t b o p) st v := by
 refine nZ (e := t) (K := fun c st1 => if c = true then wE C b κ (fun r st1 => r = v /\ st1 = st) st1 else wE C o κ (fun r st1 => r = v /\ st1 = st) st1) M h ?_
 cases c
 ·exact ho rfl
 ·exact hb rfl
theorem jI {op : BoolOp} {e : Expr} {p : Pos} {st : St} {v : PV} (h : ev C κ e st v) : ev C κ (.BoolOp op [e] p) st v := h
theorem bN {e : Expr} {st : St} {c : Bool} (M : CtxMono C) (h : ev C κ e st (.bool c)) : tv C κ e st c := zD M h rfl
theorem zbo {e : Expr} {p : Pos} {st : St} {c : Bool} (M : CtxMono C) (h : ev C κ e st (.bool c)) : ev C κ (.UnaryOp .Not e p) st (.bool !c) := aM (e := e) M h ⟨rfl, rfl⟩
theorem xQ {e : Expr} {p : Pos} {st : St} {i : Int} (M : CtxMono C) (h : ev C κ e st (.int i)) : ev C κ (.UnaryOp .USub e p) st (.int (-i)) := aM (e := e) M h ⟨rfl, rfl⟩
theorem aA {x : Str} {p : Pos} {st : St} {v : PV} (k : κ x = some .local) (h : st.ρ x = some v) : ev C κ (.Name x p) st v := by
 show (if κ x = some .globalImplicit then opt (C.val x) _ else opt (st.ρ x) _)
 rw [k, j8, h]; exact ⟨rfl, rfl⟩
theorem xU {x : Str} {p : Pos} {st : St} {v : PV} (k : κ x = some .free) (h : st.ρ x = some v) : ev C κ (.Name x p) st v := by
 show (if κ x = some .globalImplicit then opt (C.val x) _ else opt (st.ρ x) _)
 rw [k, zay, h]; exact ⟨rfl, rfl⟩
theorem b8 {x : Str} {p : Pos} {st : St} {v : PV} (k : κ x = some .cell) (h : st.ρ x = some v) : ev C κ (.Name x p) st v := by
 show (if κ x = some .globalImplicit then opt (C.val x) _ else opt (st.ρ x) _)
 rw [k, zaz, h]; exact ⟨rfl, rfl⟩
theorem eF {l r : Expr} {p : Pos} {st : St} {i j : Int} (M : CtxMono C) (h : ev C κ l st (.int i)) (h' : ev C κ r st (.int j)) : ev C κ (.BinOp l .Add r p) st (.int (i + j)) :=
 aM (e := l) M h (aM (e := r) M h' ⟨rfl, rfl⟩)
theorem xO {o l u : Expr} {p q : Pos} {st : St} {x : List Nat} {i j : Int} (M : CtxMono C) (h : ev C κ o st (.str x)) (hl : ev C κ l st (.int i)) (hu : ev C κ u st (.int j)) (b : -4611686018427387904 < i /\ i < 4611686018427387904 /\ -4611686018427387904 < j /\ j < 4611686018427387904) :
  ev C κ (.Subscript o (.Slice (some l) (some u) none q) p) st (.str (slc x (some i) (some j))) :=
 aM (e := o) M h ⟨rfl, aM (e := l) M hl ⟨b.1, b.2.1, aM (e := u) M hu ⟨b.2.2.1, b.2.2.2, rfl, rfl⟩⟩⟩
theorem zdi {l r : Expr} {op : CmpOp} {p : Pos} {st : St} {a b : PV} {d : Bool} (M : CtxMono C) (h : ev C κ l st a) (h' : ev C κ r st b) (k : zbv st.σ op a b fun c => true = true /\ c = d /\ st = st) : tv C κ (.Compare l [op] [r] p) st d :=
 aM (e := l) M h (aM (e := r) M h' k)
theorem bZ {x : Str} {es : List Expr} {vs : List PV} {v : PV} {F : Fn} {p q : Pos} {st : St} (M : CtxMono C) (k : κ x = some .globalImplicit) (hf : C.fn x = some F) (hs : evs C κ es st vs) (h : F (vs.map (der st.σ)) fun r => (vs.any oV = false \/ iY r = true) /\ r = v) : ev C κ (.Call (.Name x q) es [] p) st v := by
 refine ⟨rfl, k, by unfold qP; rw [hf]; rfl, bV M es (fun rs st1 ⟨h1, h2⟩ => ?_) hs⟩
 subst h1 h2
 unfold fX
 rw [hf]
 exact M.1 x F hf _ _ _ (fun r ⟨a, b⟩ => ⟨a, b, rfl⟩) h
theorem kF {o i : Expr} {p : Pos} {st : St} {a b v : PV} (M : CtxMono C) (hs : y0 i = false) (h : ev C κ o st a) (h' : ev C κ i st b) (k : zc5 (der st.σ a) b fun r => r = v) : ev C κ (.Subscript o i p) st v := by
 refine aM (e := o) M h ?_
 show (if y0 i = true then _ else wE C i κ _ st)
 rw [hs, iP]
 exact aM (e := i) M h' (oX (fun r e => ⟨e, rfl⟩) k)
theorem zbn {l r : Expr} {p : Pos} {st : St} {i j : Int} (M : CtxMono C) (h : ev C κ l st (.int i)) (h' : ev C κ r st (.int j)) : ev C κ (.BinOp l .Sub r p) st (.int (i - j)) :=
 aM (e := l) M h (aM (e := r) M h' ⟨rfl, rfl⟩)
theorem nG {x : Str} {es : List Expr} {vs : List PV} {v : PV} {p q : Pos} {st : St} (M : CtxMono C) (k : κ x = some .globalImplicit) (hf : C.fn x = none) (hc : C.cls x = none) (hb : C.bi x = true) (hs : evs C κ es st vs) (h : biP x (vs.map (der st.σ)) fun r => r = v) : ev C κ (.Call (.Name x q) es [] p) st v := by
 refine ⟨rfl, k, by unfold qP; rw [hf, hc, hb]; rfl, bV M es (fun rs st1 ⟨h1, h2⟩ => ?_) hs⟩
 subst h1 h2
 unfold fX
 rw [hf, hc]
 exact ⟨hb, sZ (fun r e => ⟨e, rfl⟩) h⟩
theorem bU {es : List Expr} {vs : List PV} {p : Pos} {st : St} (M : CtxMono C) (hm : C.mutL p.line = false) (hs : evs C κ es st vs) : ev C κ (.List es p) st (.list vs) :=
 bV M es (fun rs st1 ⟨h1, h2⟩ => by
  subst h1 h2
  unfold bH
  rw [hm, iP]
  exact ⟨rfl, rfl⟩) hs
theorem qV {l r : Expr} {p : Pos} {st : St} {x y : List PV} (M : CtxMono C) (h : ev C κ l st (.list x)) (h' : ev C κ r st (.list y)) (hl : x.length + y.length <= aQ) : ev C κ (.BinOp l .Add r p) st (.list (x ++ y)) :=
 aM (e := l) M h (aM (e := r) M h' ⟨hl, rfl, rfl⟩)
theorem xR {l r : Expr} {p : Pos} {st : St} {i j : Int} (M : CtxMono C) (h : ev C κ l st (.int i)) (h' : ev C κ r st (.int j)) (hj : 0 < j) : ev C κ (.BinOp l .Mod r p) st (.int (i % j)) :=
 aM (e := l) M h (aM (e := r) M h' ⟨hj, rfl, rfl⟩)
theorem xM {o u : Expr} {p q : Pos} {st : St} {x : List PV} {j : Int} (M : CtxMono C) (h : ev C κ o st (.list x)) (hu : ev C κ u st (.int j)) (h0 : -4611686018427387904 < j) (h1 : j < 4611686018427387904) : ev C κ (.Subscript o (.Slice none (some u) none q) p) st (.list (slc x none (some j))) :=
 aM (e := o) M h ⟨rfl, aM (e := u) M hu ⟨h0, h1, rfl, rfl⟩⟩
theorem bF {l r : Expr} {op : CmpOp} {p : Pos} {st : St} {a b : PV} {d : Bool} (M : CtxMono C) (h1 : ev C κ l st a) (h2 : ev C κ r st b) (h3 : zbv st.σ op a b fun c => c = d) : ev C κ (.Compare l [op] [r] p) st (.bool d) :=
 aM (e := l) M h1 (aM (e := r) M h2 (kL (fun c h => ⟨rfl, congrArg PV.bool h, rfl⟩) h3))
theorem jN {l r : Expr} {p : Pos} {st : St} {a b : Nat} (M : CtxMono C) (h : ev C κ l st (.int a)) (h' : ev C κ r st (.int b)) : ev C κ (.Compare l [.Lt] [r] p) st (.bool (decide (a < b))) := bF M h h' (decide_eq_decide.mpr Int.ofNat_lt)
theorem jJ {l : Expr} {q : String} {k : Nat} {p p' : Pos} {st : St} {x : List Nat} (M : CtxMono C) (h : ev C κ l st (.str x)) : ev C κ (.Compare l [.Eq] [.Constant (.str (Str.ofString q)) k p] p') st (.bool (decide (x = (Str.ofString q).cps.toList))) := bF M h (aC rfl) rfl
theorem zdJ {l : Expr} {q : String} {k : Nat} {p p' : Pos} {st : St} {x : List Nat} (M : CtxMono C) (h : ev C κ l st (.str x)) : ev C κ (.Compare l [.NotEq] [.Constant (.str (Str.ofString q)) k p] p') st (.bool (!decide (x = (Str.ofString q).cps.toList))) := bF M h (aC rfl) rfl
theorem fW {l : Expr} {q : Str} {k : Nat} {p p' : Pos} {st : St} {c d : Nat} (M : CtxMono C) (h : ev C κ l st (.str [c])) (hq : q.cps.toList = [d]) : ev C κ (.Compare l [.Eq] [.Constant (.str q) k p] p') st (.bool (decide (c = d))) :=
 bF (b := .str [d]) M h (aC (by rw [kJ, hq])) (decide_eq_decide.mpr ⟨fun h => (List.cons.inj h).1, fun h => congrArg (fun n => [n]) h⟩)
theorem kE {l : Expr} {q : Str} {k : Nat} {p p' : Pos} {st : St} {c : Nat} (M : CtxMono C) (h : ev C κ l st (.str [c])) : ev C κ (.Compare l [.In] [.Constant (.str q) k p] p') st (.bool (decide (c ∈ q.cps.toList))) := bF M h (aC rfl) (sD _ _)
theorem zbp {e : Expr} {k : Nat} {p p' p2 p3 : Pos} {st : St} {c n : Nat} (M : CtxMono C) (k1 : κ "ord" = some .globalImplicit) (hf : C.fn "ord" = none) (hc : C.cls "ord" = none) (hb : C.bi "ord" = true) (h : ev C κ e st (.str [c])) : ev C κ (.Compare (.Call (.Name (Str.ofString "ord") p) [e] [] p2) [.Gt] [.Constant (.int n) k p3] p') st (.bool (decide (n < c))) :=
 bF (a := .int c) (b := .int n) M (nG M k1 hf hc hb (aE M h aJ) (of_eq (B := PV.int c = .int c) (by kernel_rfl) rfl)) (aC rfl) (decide_eq_decide.mpr Int.ofNat_lt)
theorem d6 {o i : Expr} {p : Pos} {st : St} {x : List Nat} {n c : Nat} (M : CtxMono C) (hs : y0 i = false) (h : ev C κ o st (.str x)) (h' : ev C κ i st (.int n)) (hc : x[n]? = some c) : ev C κ (.Subscript o i p) st (.str [c]) :=
 kF M hs h h' (by show opt (sI x (n : Int)) _; rw [zaH, hc]; rfl)
theorem zd7 (n : Nat) : (-4611686018427387904 : Int) < n := Int.lt_of_lt_of_le (by decide) (Int.natCast_nonneg n)
theorem y1 {n : Nat} (h : n < 2000000) : (n : Int) < 4611686018427387904 := Int.lt_trans (Int.ofNat_lt.mpr h) (by decide)
theorem zaL {o l u : Expr} {p q : Pos} {st : St} {x : List Nat} {i j : Nat} (M : CtxMono C) (h : ev C κ o st (.str x)) (hl : ev C κ l st (.int i)) (hu : ev C κ u st (.int j)) (hij : i <= j) (hj : j < 2000000) : ev C κ (.Subscript o (.Slice (some l) (some u) none q) p) st (.str ((x.drop i).take (j - i))) :=
 v1 x i j hij ▸ xO M h hl hu ⟨zd7 i, y1 (Nat.lt_of_le_of_lt hij hj), zd7 j, y1 hj⟩
theorem wQ {σ : Nat -> Option Cell} {x y : List Nat} {i : Int} {K : PV -> (Nat -> Option Cell) -> Prop} : iN σ "startswith" (.str x) [.str y, .int i] K = okI i (K (.bool (decide (i <= x.length) && y.isPrefixOf (x.drop i.toNat))) σ) := by kernel_rfl
theorem sP {x : Str} {es : List Expr} {vs : List PV} {v : PV} {F : Fn} {p q : Pos} {st : St} (M : CtxMono C) (k : κ x = some .globalImplicit) (hf : C.fn x = none) (hc : C.cls x = some F) (hs : evs C κ es st vs) (h : F vs fun r => r = v) : ev C κ (.Call (.Name x q) es [] p) st v := by
 refine ⟨rfl, k, by unfold qP; rw [hf, hc]; rfl, bV M es (fun rs st1 ⟨h1, h2⟩ => ?_) hs⟩
 subst h1 h2
 unfold fX
 rw [hf, hc]
 exact M.2 x F hc _ _ _ (fun r e => ⟨e, rfl⟩) h
theorem kD {x : Str} {p q p2 : Pos} {st : St} {y : List Nat} (M : CtxMono C) (k : κ "len" = some .globalImplicit) (hf : C.fn "len" = none) (hc : C.cls "len" = none) (hb : C.bi "len" = true) (h : ev C κ (.Name x p) st (.str y)) : ev C κ (.Call (.Name (Str.ofString "len") q) [.Name x p] [] p2) st (.int y.length) :=
 nG M k hf hc hb (aE M h aJ) (of_eq (B := PV.int y.length = .int y.length) (by kernel_rfl) rfl)
theorem nC {o : Expr} {es : List Expr} {vs : List PV} {n : Str} {p p2 : Pos} {st : St} {x : List Nat} {v : PV} (M : CtxMono C) (h : ev C κ o st (.str x)) (hs : evs C κ es st vs) (hr : cK es = none) (hm : mOk st.σ n (.str x) = true) (hv : iN st.σ n (.str x) vs fun r σ' => r = v /\ σ' = st.σ) :
  ev C κ (.Call (.Attribute o n p) es [] p2) st v := by
 rw [ev, iW, hr, fN]
 exact ⟨rfl, aM (e := o) M h ⟨hm, bV M es (fun rs st1 ⟨h1, h2⟩ => by subst h1 h2; exact lM (fun r σ' ⟨e1, e2⟩ => ⟨e1, congrArg (St.mk _) e2⟩) hv) hs⟩⟩
theorem m9 {o i : Expr} {q : Str} {k : Nat} {p p1 p2 : Pos} {st : St} {x : List Nat} {e : Nat} (M : CtxMono C) (h : ev C κ o st (.str x)) (hi : ev C κ i st (.int e)) (he : e <= x.length) (hx : x.length < 2000000) (hc : csE i = none) :
  ev C κ (.Call (.Attribute o (Str.ofString "startswith") p) [.Constant (.str q) k p1, i] [] p2) st (.bool (q.cps.toList.isPrefixOf (x.drop e))) := by
 refine nC M h (aE M (aC rfl) (aE M hi aJ)) ?_ (by kernel_rfl) ?_
 ·show ((some q).bind fun p => (csE i).map fun q => (p, q)) = none
  rw [hc]; rfl
 ·rw [wQ]
  refine ⟨Int.natCast_nonneg e, y1 (Nat.lt_of_le_of_lt he hx), ?_, rfl⟩
  rw [decide_eq_true (Int.ofNat_le.mpr he), Bool.true_and]; rfl
end
mutual
noncomputable def zew : PV -> Bool
 | .none => true
 | .bool _ => true
 | .int _ => true
 | .str _ => true
 | .tup xs => hV xs
 | .list xs => hV xs
 | .inst _ xs => hV xs
 | .rng _ _ => true
 | .ptr _ => false
 | .dict _ => true
noncomputable def hV : List PV -> Bool
 | [] => true
 | x :: xs => zew x && hV xs
end
mutual
theorem aS (σ : Nat -> Option Cell) : ∀ v : PV, zew v = true -> Res σ v v
 | .none, _ => rfl
 | .bool _, _ => rfl
 | .int _, _ => rfl
 | .str _, _ => rfl
 | .tup xs, h => ⟨xs, rfl, dZ σ xs h⟩
 | .list xs, h => .inl ⟨xs, rfl, dZ σ xs h⟩
 | .inst _ xs, h => ⟨xs, rfl, dZ σ xs h⟩
 | .rng _ _, _ => rfl
 | .ptr _, h => Bool.noConfusion h
 | .dict _, _ => rfl
theorem dZ (σ : Nat -> Option Cell) : ∀ vs : List PV, hV vs = true -> u4 σ vs vs
 | [], _ => rfl
 | v :: vs, h => ⟨v, vs, rfl, aS σ v (Bool.and_eq_true_iff.mp h).1, dZ σ vs (Bool.and_eq_true_iff.mp h).2⟩
end
theorem eW (σ : Nat -> Option Cell) (b : Bool) : Res σ (.bool b) (.bool b) := rfl
noncomputable def cM (c : Nat) : Bool := (97 <= c && c <= 122) || (65 <= c && c <= 90) || c == 95 || 127 < c
theorem qJ {c : Nat} (h : gN c = true) : (decide (c ∈ (Str.ofString "abcdefghijklmnopqrstuvwxyzABCDEFGHIJKLMNOPQRSTUVWXYZ_").cps.toList) || decide (127 < c)) = cM c :=
 gI (f := fun c => decide (c ∈ (Str.ofString "abcdefghijklmnopqrstuvwxyzABCDEFGHIJKLMNOPQRSTUVWXYZ_").cps.toList) || decide (127 < c)) (by decide +kernel) h
noncomputable def zeb : Fn := fun ps K => ∃ (css : List Nat) (pos c : Nat), ps = [.str css, .int pos] /\ css[pos]? = some c /\ gN c = true /\ K (.bool (cM c))
theorem pT : bC zeb := fun _ _ _ h => e3 fun _ _ _ => c3 (h _)
theorem zb8 (p : Params) (css : List Nat) (pos c : Nat) (K : PV -> Prop) (hc : css[pos]? = some c) (ha : gN c = true) (hK : K (.bool (cM c))) :
  wSs (mkC [] [] false [] []) (cF (aP (HK p) 635)) (aN (HK p) 635) (kZ K) ⟨bJ [("css", .str css), ("pos", .int pos)] (fun _ => none), fun _ => none⟩ := by
 have M : CtxMono (mkC [] [] false [] []) := bI (by simp) (by simp)
 conv in (aN _ _) => whnf
 refine aB (aG M (.str [c]) (d6 M rfl (by exact aA (by kernel_rfl!) (by kernel_rfl!)) (by exact aA (by kernel_rfl!) (by kernel_rfl!)) hc) (by kernel_rfl) ?_)
 rw [<- qJ ha] at hK
 exact aB (aO M (.bool _) (qT M (kE M (by exact aA (by kernel_rfl!) (by kernel_rfl!))) fun _ => jI (zbp M (by kernel_rfl!) rfl rfl (by kernel_rfl) (by exact aA (by kernel_rfl!) (by kernel_rfl!)))) ⟨_, eW _ _, hK⟩)
theorem zam (hB : BsOk (bs w.params h mb)) (hmb : HMb mb) : Meets prog w (bs w.params h mb) 1 (.ref 635) zeb := by
 have hC : CtxOk prog w (bs w.params h mb) (mkC [] [] false [] []) 0 := dG hmb (by simp) (by simp) (by simp) (by simp) (by simp) (by simp)
 refine aX (k := 2) (params := ["css", "pos"]) (dv := []) (dp := []) hB hC (by kernel_rfl) (by kernel_rfl) (by kernel_rfl) rfl (fun _ => .nil) (fun S vals hl => ?_) fun ps K => x3 fun css pos c => a4 fun h1 h2 h3 h4 => ?_
 ·obtain ⟨a, b, rfl⟩ := gP hl
  kernel_rfl
 ·subst h1
  exact ⟨rfl, zb8 _ css pos c K h2 h3 h4⟩
noncomputable def zet (c : Nat) : Bool := 48 <= c && c <= 57
theorem za2 {x : List Nat} {i : Nat} (h : i < x.length) : (x.drop i).take 1 = [x[i]] := by rw [List.drop_eq_getElem_cons h]; rfl
theorem zcV {x : List Nat} {i : Nat} (h : x.length <= i) : (x.drop i).take 1 = [] := by rw [List.drop_of_length_le h]; rfl
theorem zbA (x : List Nat) (i : Nat) : at1 x i = (x[i]?).toList := by
 by_cases h : i < x.length
 ·rw [at1, za2 h, List.getElem?_eq_getElem h]; rfl
 ·rw [at1, zcV (Nat.le_of_not_lt h), List.getElem?_eq_none (Nat.le_of_not_lt h)]; rfl
section
variable {C : Ctx} {κ : Kn}
theorem sl1 (x : List Nat) (i : Nat) : slc x (some (i : Int)) (some ((i : Int) + 1)) = at1 x i := by
 rw [show (i : Int) + 1 = ((i + 1 : Nat) : Int) from rfl, v1 _ _ _ (Nat.le_succ i), Nat.succ_sub (Nat.le_refl i), Nat.sub_self]; rfl
theorem zbd {i : Nat} (h : i < 1000000) : -4611686018427387904 < (i : Int) /\ (i : Int) < 4611686018427387904 /\ -4611686018427387904 < (i : Int) + 1 /\ (i : Int) + 1 < 4611686018427387904 :=
 ⟨zd7 i, y1 (Nat.lt_trans h (by decide)), zd7 (i + 1), y1 (n := i + 1) (Nat.lt_of_le_of_lt h (by decide))⟩
end
theorem j6 {x : List Nat} {n m : Nat} (h : n <= x.length) (h' : m <= (x.drop n).length) : n + m <= x.length := by
 rw [List.length_drop] at h'
 exact Nat.add_sub_cancel' h ▸ Nat.add_le_add_left h' n
theorem xD {x : List Nat} {i c : Nat} (h : x[i]? = some c) : i < x.length := (List.getElem?_eq_some_iff.mp h).1
theorem xB (x : List Nat) (i : Nat) : (x.drop i)[0]? = x[i]? := List.getElem?_drop
noncomputable def adv (lc : Nat × Nat) : List Nat -> Nat × Nat
 | [] => lc
 | c :: r => adv (if c = 10 then (lc.1 + 1, 1) else (lc.1, lc.2 + 1)) r
noncomputable def zb5 (lc : Nat × Nat) : PV := .tup [.int lc.1, .int lc.2]
theorem jA (lc : Nat × Nat) : ∀ (x y : List Nat), adv lc (x ++ y) = adv (adv lc x) y
 | [], y => rfl
 | c :: x, y => jA (if c = 10 then (lc.1 + 1, 1) else (lc.1, lc.2 + 1)) x y
theorem tB (lc : Nat × Nat) : ∀ (y : List Nat), (adv lc y).1 = lc.1 + y.count 10
 | [] => rfl
 | c :: x => by
  unfold adv
  rw [tB _ x, List.count_cons]
  by_cases h : c = 10
  ·subst h; simp; omega
  ·simp [h]
theorem za4 (lc : Nat × Nat) : ∀ (y : List Nat), 10 ∉ y -> adv lc y = (lc.1, lc.2 + y.length)
 | [], _ => rfl
 | c :: x, h => by
  unfold adv
  rw [if_neg (fun q => h (by rw [q]; simp)), za4 _ x (fun q => h (List.mem_cons_of_mem _ q)), List.length_cons]
  simp; omega
noncomputable def eZ (x : List Nat) : Nat × Nat := adv (1, 1) x
theorem oT (c : Nat) (x : List Nat) : ∀ (n i : Nat) (st : Option Nat), oU c x (n + 1) i st = if x[i + n]? = some c then some (i + n) else oU c x n i st
 | 0, i, st => rfl
 | n + 1, i, st => by
  have h := oT c x n (i + 1) (if x[i]? = some c then some i else st)
  rw [Nat.add_assoc, Nat.add_comm 1] at h
  exact h
theorem tO {c : Nat} {x : List Nat} {i j : Nat} (h : i <= j) (hl : j < x.length) : eO c x i (j + 1) = if x[j] = c then (j : Int) else eO c x i j := by
 unfold eO
 rw [Nat.min_eq_left (show j + 1 <= x.length from hl), Nat.min_eq_left (Nat.le_of_lt hl), Nat.succ_sub h, oT, Nat.add_sub_cancel' h, List.getElem?_eq_getElem hl]
 by_cases hc : x[j] = c
 ·rw [if_pos hc, if_pos (congrArg some hc)]; rfl
 ·rw [if_neg hc, if_neg fun q => hc (Option.some.inj q)]
theorem wX {x : List Nat} {j : Nat} (hl : j < x.length) : eZ (x.take (j + 1)) = if x[j] = 10 then ((eZ (x.take j)).1 + 1, 1) else ((eZ (x.take j)).1, (eZ (x.take j)).2 + 1) := by
 rw [List.take_succ_eq_append_getElem hl, eZ, jA]; rfl
theorem zcg {x : List Nat} {t p : Nat} (h : t <= p) : (eZ (x.take p)).1 = (eZ (x.take t)).1 + ((x.take p).drop t).count 10 := by
 have := List.take_append_drop t (x.take p)
 rw [List.take_take, Nat.min_eq_left h] at this
 rw [<- tB, eZ, eZ, <- jA, this]
theorem r7 {css : List Nat} {t : Nat} : ∀ (d : Nat), t + d <= css.length ->
  (eO 10 css t (t + d) = -1 /\ (eZ (css.take (t + d))).1 = (eZ (css.take t)).1 /\ (eZ (css.take (t + d))).2 = (eZ (css.take t)).2 + d) \/
  ∃ m : Nat, eO 10 css t (t + d) = m /\ (eZ (css.take (t + d))).1 = (eZ (css.take t)).1 + (1 + ((css.take m).drop t).count 10) /\ m + (eZ (css.take (t + d))).2 = t + d
 | 0, h => .inl ⟨by unfold eO; rw [Nat.min_eq_left h, Nat.add_sub_cancel_left]; rfl, rfl, rfl⟩
 | d + 1, h => by
  rw [<- Nat.add_assoc, tO (Nat.le_add_right t d) h, wX (show t + d < css.length from h)]
  by_cases hc : css[t + d] = 10
  ·rw [if_pos hc, if_pos hc]
   exact .inr ⟨t + d, rfl, by rw [Nat.add_comm 1, <- Nat.add_assoc, zcg (Nat.le_add_right t d)], rfl⟩
  ·rw [if_neg hc, if_neg hc]
   rcases r7 d (Nat.le_of_lt h) with ⟨h1, h2, h3⟩ | ⟨m, h1, h2, h3⟩
   ·exact .inl ⟨h1, h2, congrArg Nat.succ h3⟩
   ·exact .inr ⟨m, h1, h2, congrArg Nat.succ h3⟩
noncomputable def zez (x : List Nat) : Bool := [92].isPrefixOf x && !([92, 10].isPrefixOf x)
noncomputable def oY : List Nat -> Bool
 | d :: r => (cM d || d == 45) || zez (d :: r)
 | [] => false
noncomputable def b4 : List Nat -> Bool
 | [] => false
 | c :: r => cM c || ((c == 45 && oY r) || (c == 92 && !([92, 10].isPrefixOf (c :: r))))
noncomputable def cI : Ctx := mkC [("_is_name_start", zeb)] [] false [] []
theorem nN : CtxMono cI := bI (by simp [pT]) (by simp)
theorem zdI {κ : Kn} {st : St} {css : List Nat} {i c : Nat} {p1 p2 p3 p4 : Pos} (k1 : κ "_is_name_start" = some .globalImplicit) (k2 : κ "css" = some .local) (k3 : κ "pos" = some .local) (h1 : st.ρ "css" = some (.str css)) (h2 : st.ρ "pos" = some (.int i)) (hc : css[i]? = some c) (ha : Al css) :
  ev cI κ (.Call (.Name (Str.ofString "_is_name_start") p1) [.Name (Str.ofString "css") p2, .Name (Str.ofString "pos") p3] [] p4) st (.bool (cM c)) :=
 bZ (F := zeb) nN k1 rfl (aE nN (aA k2 h1) (aE nN (aA k3 h2) aJ)) ⟨css, i, c, rfl, hc, ha.at hc, .inl rfl, rfl⟩
theorem rB (a b : Nat) : (a == b) = decide (a = b) := rfl
theorem zcj (p : Params) (css : List Nat) (pos c : Nat) (K : PV -> Prop) (hx : css.length < 1000000) (ha : Al css) (hc : css[pos]? = some c) (hK : K (.bool (b4 (css.drop pos)))) :
  wSs cI (cF (aP (HK p) 642)) (aN (HK p) 642) (kZ K) ⟨bJ [("css", .str css), ("pos", .int pos)] (fun _ => none), fun _ => none⟩ := by
 have M := nN
 have hx2 := Nat.lt_trans hx (show 1000000 < 2000000 by decide)
 obtain ⟨hl, hcc⟩ := List.getElem?_eq_some_iff.mp hc
 have hd : css.drop pos = c :: css.drop (pos + 1) := by rw [List.drop_eq_getElem_cons hl, hcc]
 rw [hd, b4] at hK
 clear hcc
 conv in (aN _ _) => whnf
 refine aB (cY M (cM c) (bN M (zdI (by kernel_rfl!) (by kernel_rfl!) (by kernel_rfl!) (by kernel_rfl!) (by kernel_rfl!) hc ha)) (fun hn => ?_) (fun hn => ?_))
 ·rw [hn] at hK
  exact aB (aO M (.bool true) (aC rfl) ⟨_, eW _ _, hK⟩)
 rw [hn, Bool.false_or] at hK
 refine aB (cY M (decide (c = 45)) (bN M (fW M (d6 M rfl (by exact aA (by kernel_rfl!) (by kernel_rfl!)) (by exact aA (by kernel_rfl!) (by kernel_rfl!)) hc) (by kernel_rfl))) (fun h1 => ?_) (fun h1 => ?_))
 ·rw [of_decide_eq_true h1, show ((45 : Nat) == 45) = true from rfl, Bool.true_and, show ((45 : Nat) == 92) = false from rfl, Bool.false_and, Bool.or_false] at hK
  refine aB (fL M (.int pos) (.int 1) (by kernel_rfl!) (aC rfl) (by kernel_rfl) (of_eq dP ?_))
  by_cases hq : pos + 1 < css.length
  ·have hg : css[pos + 1]? = some css[pos + 1] := List.getElem?_eq_getElem hq
   have hd2 : css.drop (pos + 1) = css[pos + 1] :: css.drop (pos + 2) := List.drop_eq_getElem_cons hq
   refine aB (aO M (.bool ((decide (pos + 1 < css.length) && (cM css[pos + 1] || decide (css[pos + 1] = 45))) || ([92].isPrefixOf (css.drop (pos + 1)) && !([92, 10].isPrefixOf (css.drop (pos + 1)))))) (qT M (sQ M (jN M (by exact aA (by kernel_rfl!) (by kernel_rfl!)) (kD M (by kernel_rfl!) rfl rfl (by kernel_rfl) (by exact aA (by kernel_rfl!) (by kernel_rfl!)))) fun _ => jI (qT M (zdI (by kernel_rfl!) (by kernel_rfl!) (by kernel_rfl!) (by kernel_rfl!) (by kernel_rfl!) hg ha) fun _ => jI (fW M (d6 M rfl (by exact aA (by kernel_rfl!) (by kernel_rfl!)) (by exact aA (by kernel_rfl!) (by kernel_rfl!)) hg) (by kernel_rfl)))) fun _ => jI (sQ M (m9 (q := Str.ofString "\\") M (by exact aA (by kernel_rfl!) (by kernel_rfl!)) (by exact aA (by kernel_rfl!) (by kernel_rfl!)) hl hx2 rfl) fun _ => jI (zbo M (m9 (q := Str.ofString "\\\n") M (by exact aA (by kernel_rfl!) (by kernel_rfl!)) (by exact aA (by kernel_rfl!) (by kernel_rfl!)) hl hx2 rfl)))) ⟨_, eW _ _, ?_⟩)
   rw [decide_eq_true hq, Bool.true_and, <- rB]
   rw [hd2, oY, <- hd2] at hK
   exact hK
  ·rw [List.drop_of_length_le (Nat.le_of_not_lt hq)] at hK
   have hn : ∀ q : Str, q.cps.toList ≠ [] -> (q.cps.toList.isPrefixOf (css.drop (pos + 1))) = false := fun q h => by
    rw [List.drop_of_length_le (Nat.le_of_not_lt hq)]
    cases e : q.cps.toList with
    | nil => exact absurd e h
    | cons => rfl
   refine aB (aO M (.bool ((decide (pos + 1 < css.length) && false) || (false && false))) (qT M (sQ M (jN M (by exact aA (by kernel_rfl!) (by kernel_rfl!)) (kD M (by kernel_rfl!) rfl rfl (by kernel_rfl) (by exact aA (by kernel_rfl!) (by kernel_rfl!)))) fun h => absurd (of_decide_eq_true h) hq) fun _ => jI (sQ M (hn (Str.ofString "\\") (by decide +kernel) ▸ m9 (q := Str.ofString "\\") M (by exact aA (by kernel_rfl!) (by kernel_rfl!)) (by exact aA (by kernel_rfl!) (by kernel_rfl!)) hl hx2 rfl) fun h => by cases h)) ⟨_, eW _ _, ?_⟩)
   rw [Bool.and_false]; exact hK
 ·have h1 := of_decide_eq_false h1
  rw [show (c == 45) = false from beq_eq_false_iff_ne.mpr h1, Bool.false_and, Bool.false_or, <- hd] at hK
  refine aB (cY M (decide (c = 92)) (bN M (fW M (d6 M rfl (by exact aA (by kernel_rfl!) (by kernel_rfl!)) (by exact aA (by kernel_rfl!) (by kernel_rfl!)) hc) (by kernel_rfl))) (fun h2 => ?_) (fun h2 => ?_))
  ·rw [rB, h2, Bool.true_and] at hK
   exact aB (aO M (.bool (!([92, 10].isPrefixOf (css.drop pos)))) (zbo M (m9 (q := Str.ofString "\\\n") M (by exact aA (by kernel_rfl!) (by kernel_rfl!)) (by exact aA (by kernel_rfl!) (by kernel_rfl!)) (Nat.le_of_lt hl) hx2 rfl)) ⟨_, eW _ _, hK⟩)
  ·rw [rB, h2, Bool.false_and] at hK
   exact aB (aO M (.bool false) (aC rfl) ⟨_, eW _ _, hK⟩)
noncomputable def zec : Fn := fun ps K => ∃ (css : List Nat) (pos c : Nat), ps = [.str css, .int pos] /\ css.length < 1000000 /\ Al css /\ css[pos]? = some c /\ K (.bool (b4 (css.drop pos)))
theorem yV : bC zec := fun _ _ _ h => e3 fun _ _ _ => c4 (h _)
theorem zan (hB : BsOk (bs w.params h mb)) (hmb : HMb mb) : Meets prog w (bs w.params h mb) 2 (.ref 642) zec := by
 have hC : CtxOk prog w (bs w.params h mb) cI 1 := dG hmb (by simp [pT]) (by simp) (by simp) (fun e he => by
  simp only [List.mem_singleton] at he; subst he
  exact ⟨.ref 635, by kernel_rfl, zam hB hmb⟩) (by simp) (by simp)
 refine aX (k := 2) (params := ["css", "pos"]) (dv := []) (dp := []) hB hC (by kernel_rfl) (by kernel_rfl) (by kernel_rfl) rfl (fun _ => .nil) (fun S vals hl => ?_) fun ps K => x3 fun css pos c => a5 fun h1 h2 h3 h5 h4 => ?_
 ·obtain ⟨a, b, rfl⟩ := gP hl
  kernel_rfl
 ·subst h1
  exact ⟨rfl, zcj _ css pos c K h2 h3 h5 h4⟩
noncomputable def cN (c : Nat) : Bool := (48 <= c && c <= 57) || (65 <= c && c <= 70) || (97 <= c && c <= 102)
noncomputable def jM : Nat -> List Nat -> Nat
 | 0, _ => 0
 | k + 1, x => x.casesOn 0 fun c r => if cN c = true then jM k r + 1 else 0
theorem zcc {c : Nat} (h : gN c = true) : decide (c ∈ (Str.ofString "0123456789abcdefABCDEF").cps.toList) = cN c :=
 gI (f := fun c => decide (c ∈ (Str.ofString "0123456789abcdefABCDEF").cps.toList)) (by decide +kernel) h
theorem o0 {x : List Nat} {i k : Nat} (hl : i < x.length) : jM (k + 1) (x.drop i) = if cN x[i] = true then jM k (x.drop (i + 1)) + 1 else 0 := by
 rw [List.drop_eq_getElem_cons hl]; rfl
theorem zaE {x : List Nat} {i k : Nat} (hl : x.length <= i) : jM k (x.drop i) = 0 := by
 rw [List.drop_of_length_le hl]; cases k <;> rfl
theorem qR : ∀ (k : Nat) (x : List Nat), jM k x <= x.length
 | 0, x => Nat.zero_le _
 | k + 1, [] => Nat.le_refl _
 | k + 1, c :: r => by
  show (if cN c = true then jM k r + 1 else 0) <= _
  split
  ·exact Nat.succ_le_succ (qR k r)
  ·exact Nat.zero_le _
theorem sG : ∀ (k : Nat) (x : List Nat), jM k x <= k
 | 0, x => Nat.le_refl _
 | k + 1, [] => Nat.zero_le _
 | k + 1, c :: r => by
  show (if cN c = true then jM k r + 1 else 0) <= _
  split
  ·exact Nat.succ_le_succ (sG k r)
  ·exact Nat.zero_le _
theorem zaC (p : Params) (css : List Nat) (pos : Nat) (K : PV -> Prop) (hx : css.length < 1000000) (ha : Al css) (hp : pos <= css.length) (hK : K (.int ((pos + jM 6 (css.drop pos) : Nat)))) :
  wSs (mkC [] [] false [] []) (cF (aP (HK p) 620)) (aN (HK p) 620) (kZ K) ⟨bJ [("css", .str css), ("pos", .int pos)] (fun _ => none), fun _ => none⟩ := by
 have M : CtxMono (mkC [] [] false [] []) := bI (by simp) (by simp)
 conv in (aN _ _) => whnf
 refine aB (aG M (.int pos) (by exact aA (by kernel_rfl!) (by kernel_rfl!)) (by kernel_rfl) ?_)
 generalize hT : pos + jM 6 (css.drop pos) = T at hK
 let R : St -> Prop := fun st => dD [("end", .int T)] st.ρ
 let I : Nat -> St -> Prop := fun k st => ∃ e : Nat, dD [("css", .str css), ("pos", .int pos), ("end", .int e)] st.ρ /\ e <= css.length /\ e + k = pos + 6 /\ e + jM k (css.drop e) = T
 refine dY M R (gY M I ?_ 6 _ ⟨pos, by (show _ = _; first | kernel_rfl! | (rw [<- Nat.add_assoc]; kernel_rfl!) | (rw [<- Nat.add_assoc, <- Nat.add_assoc]; kernel_rfl!)), hp, rfl, hT⟩) ?_
 ·refine fun k st => x1 fun e => a4 fun h1 h6 h7 h8 => keepP st h1 ?_
  have he : e < 1000000 := Nat.lt_of_le_of_lt h6 hx
  have hn : (!decide (slc css (some (e : Int)) (some ((e : Int) + 1)) = [])) = decide (e < css.length) := by
   rw [sl1, zbA, <- decide_not]
   refine decide_eq_decide.mpr ?_
   by_cases hl : e < css.length
   ·rw [List.getElem?_eq_getElem hl]; exact ⟨fun _ => hl, fun _ q => by cases q⟩
   ·rw [List.getElem?_eq_none (Nat.le_of_not_lt hl)]; exact ⟨fun q => absurd rfl q, fun q => absurd q hl⟩
  refine ⟨decide (e < pos + 6) && (decide (e < css.length) && (css[e]?).any cN), eM M (bN M (jN (b := pos + 6) M (by exact aA (by kernel_rfl!) (by kernel_rfl!)) (eF (i := pos) (j := 6) M (by exact aA (by kernel_rfl!) (by kernel_rfl!)) (aC rfl)))) fun _ => ?_, fun hc => ?_, fun hc => ?_⟩
  ·refine hn ▸ eM M (bN M (zdJ (q := "") M (xO M (by exact aA (by kernel_rfl!) (by kernel_rfl!)) (by exact aA (by kernel_rfl!) (by kernel_rfl!)) (eF (i := e) (j := 1) M (by exact aA (by kernel_rfl!) (by kernel_rfl!)) (aC rfl)) (zbd he)))) fun h => fB ?_
   have hl : e < css.length := of_decide_eq_true (hn ▸ h)
   have hg := List.getElem?_eq_getElem hl
   rw [hg, Option.any_some, <- zcc (ha.get hl)]
   exact bN M (kE M (d6 M rfl (by exact aA (by kernel_rfl!) (by kernel_rfl!)) (by exact aA (by kernel_rfl!) (by kernel_rfl!)) hg))
  ·obtain ⟨c1, c2⟩ := Bool.and_eq_true_iff.mp hc
   obtain ⟨c2, c3⟩ := Bool.and_eq_true_iff.mp c2
   have c2 := of_decide_eq_true c2
   rw [List.getElem?_eq_getElem c2, Option.any_some] at c3
   obtain ⟨k', rfl⟩ : ∃ k', k = k' + 1 := ⟨k - 1, by have := of_decide_eq_true c1; omega⟩
   rw [o0 c2, if_pos c3] at h8
   exact aB (fL M (.int e) (.int 1) (by kernel_rfl!) (aC rfl) (by kernel_rfl) (of_eq dP ⟨k', Nat.lt_succ_self k', e + 1, by (show _ = _; first | kernel_rfl! | (rw [<- Nat.add_assoc]; kernel_rfl!) | (rw [<- Nat.add_assoc, <- Nat.add_assoc]; kernel_rfl!)), c2, by rw [<- h7, Nat.add_assoc, Nat.add_comm 1], by rw [<- h8, Nat.add_assoc, Nat.add_comm 1]⟩))
  ·have h0 : jM k (css.drop e) = 0 := by
    cases k with
    | zero => rfl
    | succ k =>
     by_cases hl : e < css.length
     ·rw [o0 hl, if_neg]
      intro q
      rw [List.getElem?_eq_getElem hl, Option.any_some, q, decide_eq_true hl, decide_eq_true (show e < pos + 6 by omega)] at hc
      cases hc
     ·exact zaE (Nat.le_of_not_lt hl)
   rw [h0] at h8
   subst h8
   exact by (show _ = _; first | kernel_rfl! | (rw [<- Nat.add_assoc]; kernel_rfl!) | (rw [<- Nat.add_assoc, <- Nat.add_assoc]; kernel_rfl!))
 ·exact fun st h1 => fE h1 (aB (aO M (.int T) (by exact aA (by kernel_rfl!) (by kernel_rfl!)) ⟨_, aS _ _ rfl, hK⟩))
noncomputable def za7 : Fn := fun ps K => ∃ (css : List Nat) (pos : Nat), ps = [.str css, .int pos] /\ css.length < 1000000 /\ Al css /\ pos <= css.length /\ K (.int ((pos + jM 6 (css.drop pos) : Nat)))
theorem l5 : bC za7 := fun _ _ _ h => e2 fun _ _ => c4 (h _)
theorem wU (hB : BsOk (bs w.params h mb)) (hmb : HMb mb) : Meets prog w (bs w.params h mb) 1 (.ref 620) za7 := by
 have hC : CtxOk prog w (bs w.params h mb) (mkC [] [] false [] []) 0 := dG hmb (by simp) (by simp) (by simp) (by simp) (by simp) (by simp)
 refine aX (k := 2) (params := ["css", "pos"]) (dv := []) (dp := []) hB hC (by kernel_rfl) (by kernel_rfl) (by kernel_rfl) rfl (fun _ => .nil) (fun S vals hl => ?_) fun ps K => x2 fun css pos => a5 fun h1 h2 h3 h5 h4 => ?_
 ·obtain ⟨a, b, rfl⟩ := gP hl
  kernel_rfl
 ·subst h1
  exact ⟨rfl, zaC _ css pos K h2 h3 h5 h4⟩
noncomputable def aR (c : Nat) : Bool := c == 32 || c == 10 || c == 9
noncomputable def eX (x : List Nat) : Nat := x.casesOn 0 fun c _ => if aR c = true then 1 else 0
noncomputable def dQ (k : Nat) : Nat := if (decide (0 < k) && decide (k <= 1114111)) = true then k else 65533
inductive EscAt (x : List Nat) : Nat -> Nat -> Prop
 | hex (k : Nat) : 0 < jM 6 x -> dM 16 0 (x.take (jM 6 x)) = some k -> EscAt x (dQ k) (jM 6 x + eX (x.drop (jM 6 x)))
 | sign (s : Nat) : jM 6 x = 0 -> x[0]? = some s -> EscAt x s 1
 | eof : x = [] -> EscAt x 65533 0
theorem EscAt.le {x : List Nat} {s n : Nat} (h : EscAt x s n) : n <= x.length := by
 cases h with
 | hex _ h1 =>
  have h2 := qR 6 x
  generalize jM 6 x = n at *
  cases hd : x.drop n with
  | nil => exact h2
  | cons c r =>
   have h3 := congrArg List.length hd
   rw [List.length_drop] at h3
   have h3 : x.length - n = r.length + 1 := h3
   show n + (if aR c = true then 1 else 0) <= _
   split <;> omega
 | sign _ _ h => exact (List.getElem?_eq_some_iff.mp h).1
 | eof h => exact Nat.zero_le _
theorem za0 {x : List Nat} (ha : Al x) (i : Nat) : decide (at1 x i ∈ ([[32], [10], [9]] : List (List Nat))) = decide (eX (x.drop i) = 1) := by
 rw [zbA]
 by_cases h : i < x.length
 ·rw [List.drop_eq_getElem_cons h, List.getElem?_eq_getElem h]
  exact gI (f := fun c => decide ([c] ∈ ([[32], [10], [9]] : List (List Nat)))) (g := fun c => decide ((if aR c = true then 1 else 0) = 1)) (by decide +kernel) (ha.get h)
 ·rw [List.drop_of_length_le (Nat.le_of_not_lt h), List.getElem?_eq_none (Nat.le_of_not_lt h)]; rfl
theorem qF (x : List Nat) (h : eX x ≠ 1) : eX x = 0 := by
 cases x with
 | nil => rfl
 | cons c r =>
  show (if aR c = true then 1 else 0) = 0
  split
  ·rename_i q; exact absurd (if_pos q) h
  ·rfl
theorem zbI {C : Ctx} {κ : Kn} {l m r : Expr} {p : Pos} {st : St} {i j k : Nat} (M : CtxMono C) (h1 : ev C κ l st (.int i)) (h2 : ev C κ m st (.int j)) (h3 : ev C κ r st (.int k)) : tv C κ (.Compare l [.Lt, .LtE] [m, r] p) st (decide (i < j) && decide (j <= k)) := by
 refine aM (e := l) M h1 (aM (e := m) M h2 ?_)
 show if decide ((i : Int) < j) = true then wCh C [r] [.LtE] κ (.int j) _ st else _
 rw [decide_eq_decide.mpr (Int.ofNat_lt (n := i) (m := j))]
 cases decide (i < j)
 ·exact ⟨rfl, rfl⟩
 ·exact aM (e := r) M h3 ⟨rfl, decide_eq_decide.mpr Int.ofNat_le, rfl⟩
noncomputable def cE : Ctx := mkC [("_hex_end", za7)] [] false [] []
theorem zcP : CtxMono cE := bI (by simp [l5]) (by simp)
theorem zaP (p : Params) (css : List Nat) (pos s n : Nat) (K : PV -> Prop) (hx : css.length < 1000000) (ha : Al css) (hp : pos <= css.length) (he : EscAt (css.drop pos) s n) (hK : K (.tup [.str [s], .int ((pos + n : Nat))])) :
  wSs cE (cF (aP (HK p) 663)) (aN (HK p) 663) (kZ K) ⟨bJ [("css", .str css), ("pos", .int pos)] (fun _ => none), fun _ => none⟩ := by
 have M := zcP
 conv in (aN _ _) => whnf
 have hle : pos + jM 6 (css.drop pos) <= css.length := j6 hp (qR _ _)
 have h6 := sG 6 (css.drop pos)
 refine aB (aG M (.int ((pos + jM 6 (css.drop pos) : Nat))) (bZ (F := za7) M (by kernel_rfl!) rfl (aE M (v := .str css) (by exact aA (by kernel_rfl!) (by kernel_rfl!)) (aE M (v := .int pos) (by exact aA (by kernel_rfl!) (by kernel_rfl!)) aJ)) ⟨css, pos, rfl, hx, ha, hp, .inl rfl, rfl⟩) (by kernel_rfl) ?_)
 cases he with
 | hex s g1 g2 =>
  rw [List.drop_drop] at hK
  generalize hh : jM 6 (css.drop pos) = h at *
  have ht : (css.drop pos).take (pos + h - pos) = (css.drop pos).take h := by rw [Nat.add_sub_cancel_left]
  have hlt : ((css.drop pos).take h).length = h := List.length_take_of_le (by rw [List.length_drop]; omega)
  have lt2 : pos + h < 1000000 := Nat.lt_of_le_of_lt hle hx
  refine aB (cY M true (bN M (bF (a := .int (pos + h : Nat)) (b := .int pos) M (by exact aA (by kernel_rfl!) (by kernel_rfl!)) (by exact aA (by kernel_rfl!) (by kernel_rfl!)) (decide_eq_true (Int.ofNat_lt.mpr (Nat.lt_add_of_pos_right g1))))) (fun _ => ?_) (fun h => by cases h))
  refine aB (aG M (.int s) (nG M (by kernel_rfl!) rfl rfl (by kernel_rfl) (aE M (v := .str ((css.drop pos).take h)) (ht ▸ zaL M (by exact aA (by kernel_rfl!) (by kernel_rfl!)) (by exact aA (by kernel_rfl!) (by kernel_rfl!)) (by exact aA (by kernel_rfl!) (by kernel_rfl!)) (Nat.le_add_right _ _) (Nat.lt_trans lt2 (by decide))) (aE M (v := .int 16) (aC rfl) aJ)) (of_eq (B := (16 : Int) = 16 /\ (css.drop pos).take h ≠ [] /\ ((css.drop pos).take h).length <= 640 /\ ∃ n, dM 16 0 ((css.drop pos).take h) = some n /\ PV.int n = .int s) (by kernel_rfl) ⟨rfl, fun q => by rw [q] at hlt; rw [<- hlt] at g1; exact absurd g1 (Nat.lt_irrefl 0), by rw [hlt]; exact Nat.le_trans h6 (by decide), s, g2, rfl⟩)) (by kernel_rfl) ?_)
  refine aB (aO M (.tup [.str [dQ s], .int ((pos + (h + eX (css.drop (pos + h))) : Nat))]) ?_ ⟨_, aS _ _ rfl, hK⟩)
  refine bE M (aE M (dS (c := decide (0 < s) && decide (s <= 1114111)) M ?_ (fun q => ?_) (fun q => ?_)) (aE M (dS (c := decide (eX (css.drop (pos + h)) = 1)) M ?_ (fun hc => ?_) (fun hc => ?_)) aJ))
  ·exact zbI M (i := 0) (k := 1114111) (aC rfl) (by exact aA (by kernel_rfl!) (by kernel_rfl!)) (aC rfl)
  ·have g4 : s <= 1114111 := of_decide_eq_true (Bool.and_eq_true_iff.mp q).2
   rw [dQ, if_pos q]
   exact nG M (by kernel_rfl!) rfl rfl (by kernel_rfl) (aE M (v := .int s) (by exact aA (by kernel_rfl!) (by kernel_rfl!)) aJ) (of_eq (B := 0 <= (s : Int) /\ (s : Int) < 0x110000 /\ PV.str [s] = .str [s]) (by kernel_rfl) ⟨Int.natCast_nonneg s, Int.ofNat_lt.mpr (Nat.lt_succ_of_le g4), rfl⟩)
  ·rw [dQ, if_neg (by rw [q]; decide)]; exact aC rfl
  ·rw [<- za0 ha]
   exact zdi M (xO (x := css) M (by exact aA (by kernel_rfl!) (by kernel_rfl!)) (by exact aA (by kernel_rfl!) (by kernel_rfl!)) (eF (i := (pos + h : Nat)) (j := 1) M (by exact aA (by kernel_rfl!) (by kernel_rfl!)) (aC rfl)) (zbd lt2)) (bE M (aE M (aC rfl) (aE M (aC rfl) (aE M (aC rfl) aJ)))) ⟨[[32], [10], [9]], by decide +kernel, rfl, by rw [sl1], rfl⟩
  ·rw [of_decide_eq_true hc]
   show ev _ _ _ _ (.int (((pos + h : Nat) : Int) + 1))
   exact eF (i := (pos + h : Nat)) (j := 1) M (by exact aA (by kernel_rfl!) (by kernel_rfl!)) (aC rfl)
  ·rw [qF _ (of_decide_eq_false hc)]
   exact (by exact aA (by kernel_rfl!) (by kernel_rfl!))
 | eof g =>
  rw [g] at hle ⊢
  have hl : css.length <= pos := by
   have := congrArg List.length g
   rw [List.length_drop] at this; exact Nat.le_of_sub_eq_zero this
  refine aB (cY M false (bN M (bF (a := .int (pos + 0 : Nat)) (b := .int pos) M (by exact aA (by kernel_rfl!) (by kernel_rfl!)) (by exact aA (by kernel_rfl!) (by kernel_rfl!)) (decide_eq_false (fun q => Int.lt_irrefl _ q)))) (fun h => by cases h) (fun _ => ?_))
  refine aB (cY M false ((decide_eq_false (Nat.not_lt.mpr hl)) ▸ bN M (jN M (by exact aA (by kernel_rfl!) (by kernel_rfl!)) (kD M (by kernel_rfl!) rfl rfl (by kernel_rfl) (by exact aA (by kernel_rfl!) (by kernel_rfl!))))) (fun h => by cases h) (fun _ => ?_))
  exact aB (aO M (.tup [.str [65533], .int pos]) (bE M (aE M (aC rfl) (aE M (by exact aA (by kernel_rfl!) (by kernel_rfl!)) aJ))) ⟨_, aS _ _ rfl, hK⟩)
 | sign s g1 g2 =>
  rw [g1] at hle ⊢
  rw [xB] at g2
  have hl := (List.getElem?_eq_some_iff.mp g2).1
  refine aB (cY M false (bN M (bF (a := .int (pos + 0 : Nat)) (b := .int pos) M (by exact aA (by kernel_rfl!) (by kernel_rfl!)) (by exact aA (by kernel_rfl!) (by kernel_rfl!)) (decide_eq_false (fun q => Int.lt_irrefl _ q)))) (fun h => by cases h) (fun _ => ?_))
  refine aB (cY M true (decide_eq_true hl ▸ bN M (jN M (by exact aA (by kernel_rfl!) (by kernel_rfl!)) (kD M (by kernel_rfl!) rfl rfl (by kernel_rfl) (by exact aA (by kernel_rfl!) (by kernel_rfl!))))) (fun _ => ?_) (fun h => by cases h))
  exact aB (aO M (.tup [.str [s], .int ((pos + 1 : Nat))]) (bE M (aE M (d6 M rfl (by exact aA (by kernel_rfl!) (by kernel_rfl!)) (by exact aA (by kernel_rfl!) (by kernel_rfl!)) g2) (aE M (eF (i := pos) (j := 1) M (by exact aA (by kernel_rfl!) (by kernel_rfl!)) (aC rfl)) aJ))) ⟨_, aS _ _ rfl, hK⟩)
noncomputable def uX : Fn := fun ps K => ∃ (css : List Nat) (pos s n : Nat), ps = [.str css, .int pos] /\ css.length < 1000000 /\ Al css /\ pos <= css.length /\ EscAt (css.drop pos) s n /\ K (.tup [.str [s], .int ((pos + n : Nat))])
theorem gJ : bC uX := fun _ _ _ h => e4 fun _ _ _ _ => c5 (h _)
theorem oQ (hB : BsOk (bs w.params h mb)) (hmb : HMb mb) : Meets prog w (bs w.params h mb) 2 (.ref 663) uX := by
 have hC : CtxOk prog w (bs w.params h mb) cE 1 := dG hmb (by simp [l5]) (by simp) (by simp) (fun e he => by
  simp only [List.mem_singleton] at he; subst he
  exact ⟨.ref 620, by kernel_rfl, wU hB hmb⟩) (by simp) (by simp)
 refine aX (k := 2) (params := ["css", "pos"]) (dv := []) (dp := []) hB hC (by kernel_rfl) (by kernel_rfl) (by kernel_rfl) rfl (fun _ => .nil) (fun S vals hl => ?_) fun ps K => x4 fun css pos s n => a6 fun h1 h2 h3 h5 h6 h4 => ?_
 ·obtain ⟨a, b, rfl⟩ := gP hl
  kernel_rfl
 ·subst h1
  exact ⟨rfl, zaP _ css pos s n K h2 h3 h5 h6 h4⟩
noncomputable def eD (c : Nat) : Bool := cM c || c == 45 || zet c
theorem zak {c : Nat} (h : gN c = true) : (decide (c ∈ (Str.ofString "abcdefghijklmnopqrstuvwxyz-_0123456789ABCDEFGHIJKLMNOPQRSTUVWXYZ").cps.toList) || decide (127 < c)) = eD c :=
 gI (f := fun c => decide (c ∈ (Str.ofString "abcdefghijklmnopqrstuvwxyz-_0123456789ABCDEFGHIJKLMNOPQRSTUVWXYZ").cps.toList) || decide (127 < c)) (by decide +kernel) h
inductive NameAt : List Nat -> List Nat -> Nat -> Prop
 | stop (x : List Nat) : (∀ c r, x = c :: r -> eD c = false /\ c ≠ 92) -> NameAt x [] 0
 | sign (c : Nat) (r v : List Nat) (n : Nat) : eD c = true -> NameAt r v n -> NameAt (c :: r) (c :: v) (n + 1)
 | esc (r v : List Nat) (s k n : Nat) : [92, 10].isPrefixOf (92 :: r) = false -> EscAt r s k -> NameAt (r.drop k) v n -> NameAt (92 :: r) (s :: v) (n + (k + 1))
theorem NameAt.le {x v : List Nat} {n : Nat} (h : NameAt x v n) : n <= x.length /\ v.length <= n := by
 induction h with
 | stop => exact ⟨Nat.zero_le _, Nat.le_refl _⟩
 | sign c r v n _ _ ih => exact ⟨Nat.succ_le_succ ih.1, Nat.succ_le_succ ih.2⟩
 | esc r v s k n _ he _ ih =>
  have h2 := he.le
  rw [List.length_drop] at ih
  simp only [List.length_cons]
  omega
noncomputable def zeH (x v : List Nat) (n : Nat) : Prop :=
 List.casesOn (motive := fun _ => Prop) x (v = [] /\ n = 0) fun c r => (eD c = true /\ ∃ w k, v = c :: w /\ n = k + 1 /\ NameAt r w k) \/ ((c = 92 /\ [92, 10].isPrefixOf (c :: r) = false) /\ ∃ s w k m, v = s :: w /\ n = m + (k + 1) /\ EscAt r s k /\ NameAt (r.drop k) w m) \/ ((eD c = false /\ c ≠ 92) /\ v = [] /\ n = 0)
theorem NameAt.d {x v : List Nat} {n : Nat} (h : NameAt x v n) : zeH x v n := by
 cases h with
 | stop _ h =>
  cases x with
  | nil => exact ⟨rfl, rfl⟩
  | cons c r => exact .inr (.inr ⟨h c r rfl, rfl, rfl⟩)
 | sign c r w k hb h => exact .inl ⟨hb, w, k, rfl, rfl, h⟩
 | esc r w s k m hp he h => exact .inr (.inl ⟨⟨rfl, hp⟩, s, w, k, m, rfl, rfl, he, h⟩)
theorem NameAt.iv_name {c : Nat} {r v : List Nat} {n : Nat} (h : NameAt (c :: r) v n) (hb : eD c = true) : ∃ w k, v = c :: w /\ n = k + 1 /\ NameAt r w k :=
 h.d.elim (fun g => g.2) fun g => g.elim (fun g => by rw [g.1.1] at hb; cases hb) fun g => by rw [g.1.1] at hb; cases hb
theorem NameAt.iv_esc {r v : List Nat} {n : Nat} (h : NameAt (92 :: r) v n) : ∃ s w k m, v = s :: w /\ n = m + (k + 1) /\ EscAt r s k /\ NameAt (r.drop k) w m :=
 h.d.elim (fun g => by cases g.1) fun g => g.elim (fun g => g.2) fun g => absurd rfl g.1.2
theorem NameAt.iv_stop {c : Nat} {r v : List Nat} {n : Nat} (h : NameAt (c :: r) v n) (hb : eD c = false) (hq : (decide (c = 92) && !([92, 10].isPrefixOf (c :: r))) = false) : v = [] /\ n = 0 :=
 h.d.elim (fun g => by rw [hb] at g; cases g.1) fun g => g.elim (fun g => by rw [g.1.2, decide_eq_true g.1.1] at hq; cases hq) fun g => g.2
theorem NameAt.iv_nil {v : List Nat} {n : Nat} (h : NameAt [] v n) : v = [] /\ n = 0 := h.d
theorem tC {x : List Nat} {i k : Nat} (hi : i <= x.length) (h : k <= (x.drop i).length) : i + k <= x.length := by
 rw [List.length_drop] at h; omega
theorem yK {ch : List (List Nat)} {s n : Nat} (h : ch.length <= 2 * s) (hs : s <= n) (hn : n < 1000000) : (ch.map PV.str).length < aQ := by
 rw [List.length_map]; unfold aQ; omega
theorem yJ {ch : List (List Nat)} {s n : Nat} {x : PV} (h : ch.length <= 2 * s) (hs : s <= n) (hn : n < 1000000) : (ch.map PV.str ++ [x]).length < aQ := by
 rw [List.length_append, List.length_map]; show ch.length + 1 < _; unfold aQ; omega
theorem yI {ch : List (List Nat)} {x y : List Nat} {s e k : Nat} (h : ch.length <= 2 * s) (hs : s <= e) : (ch ++ [x] ++ [y]).length <= 2 * (e + 1 + k) := by
 simp only [List.length_append, List.length_cons, List.length_nil]; omega
theorem vJ (e k n : Nat) : e + 1 + k + n = e + (n + (k + 1)) := by omega
theorem zcB {css v : List Nat} {p n : Nat} (h : NameAt (css.drop p) v n) : v.length <= css.length := Nat.le_trans h.le.2 (Nat.le_trans h.le.1 (by rw [List.length_drop]; exact Nat.sub_le _ _))
noncomputable def cD : Ctx := mkC [("_consume_escape", uX)] [] false [] [272, 274, 327, 363, 370, 377, 437, 458, 507]
theorem zcQ : CtxMono cD := bI (by simp [gJ]) (by simp)
theorem n5 {x : List Nat} {s p : Nat} (h1 : s <= p) (h2 : p < x.length) : (x.drop s).take (p + 1 - s) = (x.drop s).take (p - s) ++ [x[p]] := by
 rw [Nat.succ_sub h1, List.take_succ_eq_append_getElem (by rw [List.length_drop]; omega)]
 congr 2
 rw [List.getElem_drop]; congr 1; omega
theorem eE (zs : List (List Nat)) (a : List Nat) : (zs ++ [a]).flatten = zs.flatten ++ a := by rw [List.flatten_append]; exact congrArg _ (List.append_nil a)
theorem uH (p : Params) (css : List Nat) (pos : Nat) (v : List Nat) (m : Nat) (K : PV -> Prop) (hx : css.length < 1000000) (ha : Al css) (hp : pos <= css.length) (hv : NameAt (css.drop pos) v m) (hK : K (.tup [.str v, .int ((pos + m : Nat))])) :
  wSs cD (cF (aP (HK p) 649)) (aN (HK p) 649) (kZ K) ⟨bJ [("css", .str css), ("pos", .int pos)] (fun _ => none), fun _ => none⟩ := by
 have M := zcQ
 have hx2 := Nat.lt_trans hx (show 1000000 < 2000000 by decide)
 conv in (aN _ _) => whnf
 refine aB (oB (by kernel_rfl) (by kernel_rfl) fun a _ => ?_)
 refine aB (aG M (.int css.length) (kD M (by kernel_rfl!) rfl rfl (by kernel_rfl) (by exact aA (by kernel_rfl!) (by kernel_rfl!))) (by kernel_rfl) ?_)
 refine aB (aG M (.int pos) (by exact aA (by kernel_rfl!) (by kernel_rfl!)) (by kernel_rfl) ?_)
 generalize e0 : pos + m = T at hK
 have hvl := zcB hv
 let R : St -> Prop := fun st => ∃ (s : Nat) (ch : List (List Nat)), dD [("css", .str css), ("start_pos", .int s), ("pos", .int T), ("chunks", .ptr a)] st.ρ /\ st.σ a = some (.lst (ch.map .str)) /\ s <= T /\ T <= css.length /\ ch.length <= 2 * s /\ ch.flatten ++ (css.drop s).take (T - s) = v
 let I : Nat -> St -> Prop := fun n st => ∃ (s e : Nat) (ch : List (List Nat)) (w : List Nat) (k : Nat), n = css.length - e /\ dD [("css", .str css), ("length", .int css.length), ("start_pos", .int s), ("pos", .int e), ("chunks", .ptr a)] st.ρ /\ st.σ a = some (.lst (ch.map .str)) /\ s <= e /\ e <= css.length /\ ch.length <= 2 * s /\
   NameAt (css.drop e) w k /\ e + k = T /\ ch.flatten ++ (css.drop s).take (e - s) ++ w = v
 refine dY M R (gY M I ?_ (css.length - pos) _ ⟨pos, pos, [], v, m, rfl, by (show _ = _; first | kernel_rfl! | (rw [<- Nat.add_assoc]; kernel_rfl!) | (rw [<- Nat.add_assoc, <- Nat.add_assoc]; kernel_rfl!)), bB _ _ _, Nat.le_refl _, hp, Nat.zero_le _, hv, e0, by rw [Nat.sub_self]; rfl⟩) ?_
 ·refine fun n st => x5 fun s e ch w k => a9 fun hnn h1 h6 h7 h8 h9 hn hT hw => keepP st h1 ?_
  refine ⟨decide (e < css.length), bN M (jN M (by exact aA (by kernel_rfl!) (by kernel_rfl!)) (by exact aA (by kernel_rfl!) (by kernel_rfl!))), fun hc => ?_, fun hc => ?_⟩
  ·have hc := of_decide_eq_true hc
   have hd : css.drop e = css[e] :: css.drop (e + 1) := List.drop_eq_getElem_cons hc
   rw [hd] at hn
   refine aB (aG M (.str [css[e]]) (d6 M rfl (by exact aA (by kernel_rfl!) (by kernel_rfl!)) (by exact aA (by kernel_rfl!) (by kernel_rfl!)) (List.getElem?_eq_getElem hc)) (by kernel_rfl) ?_)
   refine aB (cY M (eD css[e]) (zak (ha.get hc) ▸ bN M (qT M (kE M (by exact aA (by kernel_rfl!) (by kernel_rfl!))) fun _ => jI (zbp M (by kernel_rfl!) rfl rfl (by kernel_rfl) (by exact aA (by kernel_rfl!) (by kernel_rfl!))))) (fun hb => ?_) (fun hb => ?_))
   ·refine x2 (fun w' k' => a3 fun hv' hk' hn' => ?_) (hn.iv_name hb)
    refine aB (fL M (.int e) (.int 1) (by kernel_rfl!) (aC rfl) (by kernel_rfl) (of_eq dP ⟨css.length - (e + 1), hnn ▸ Nat.sub_lt_sub_left hc (Nat.lt_succ_self e), s, e + 1, ch, w', k', rfl, by (show _ = _; first | kernel_rfl! | (rw [<- Nat.add_assoc]; kernel_rfl!) | (rw [<- Nat.add_assoc, <- Nat.add_assoc]; kernel_rfl!)), h6, Nat.le_succ_of_le h7, hc, h9, hn', by rw [<- hT, hk', Nat.add_assoc, Nat.add_comm 1], ?_⟩))
    rw [n5 h7 hc, <- hw, hv']
    simp only [List.append_assoc]; rfl
   ·refine aB (cY M (decide (css[e] = 92) && !([92, 10].isPrefixOf (css.drop e))) (eM M (bN M (fW M (by exact aA (by kernel_rfl!) (by kernel_rfl!)) (by kernel_rfl))) fun _ => fB (vD M (bN M (m9 (q := Str.ofString "\\\n") M (by exact aA (by kernel_rfl!) (by kernel_rfl!)) (by exact aA (by kernel_rfl!) (by kernel_rfl!)) h8 hx2 rfl)))) (fun hq => ?_) (fun hq => ?_))
    ·rw [hd] at hq
     rw [of_decide_eq_true (Bool.and_eq_true_iff.mp hq).1] at hn
     refine x4 (fun z w' k' n' => a4 fun hv' hk' he hn' => ?_) hn.iv_esc
     rw [List.drop_drop] at hn'
     have le : e + 1 + k' <= css.length := tC hc he.le
     refine aB (b6 M (.str ((css.drop s).take (e - s))) (by kernel_rfl) (by kernel_rfl!) h6 (zaL M (by exact aA (by kernel_rfl!) (by kernel_rfl!)) (by exact aA (by kernel_rfl!) (by kernel_rfl!)) (by exact aA (by kernel_rfl!) (by kernel_rfl!)) h7 (Nat.lt_of_le_of_lt h8 hx2)) rfl (yK h9 (Nat.le_trans h7 h8) hx) ?_)
     refine aB (iF M (.str [z]) (.int ((e + 1 + k' : Nat))) (bZ (F := uX) M (by kernel_rfl!) rfl (aE M (v := .str css) (by exact aA (by kernel_rfl!) (by kernel_rfl!)) (aE M (v := .int (e + 1 : Nat)) (eF (i := e) (j := 1) M (by exact aA (by kernel_rfl!) (by kernel_rfl!)) (aC rfl)) aJ)) ⟨css, e + 1, z, k', rfl, hx, ha, hc, he, .inl rfl, rfl⟩) (by kernel_rfl) (by kernel_rfl) ?_)
     refine aB (b6 M (.str [z]) (by kernel_rfl) (by kernel_rfl!) (bB _ _ _) (by exact aA (by kernel_rfl!) (by kernel_rfl!)) rfl (yJ h9 (Nat.le_trans h7 h8) hx) ?_)
     refine aB (aG M (.int ((e + 1 + k' : Nat))) (by exact aA (by kernel_rfl!) (by kernel_rfl!)) (by kernel_rfl) ?_)
     refine ⟨css.length - (e + 1 + k'), hnn ▸ Nat.sub_lt_sub_left hc (Nat.lt_of_lt_of_le (Nat.lt_succ_self e) (Nat.le_add_right _ _)), e + 1 + k', e + 1 + k', ch ++ [(css.drop s).take (e - s)] ++ [[z]], w', n', rfl, by (show _ = _; first | kernel_rfl! | (rw [<- Nat.add_assoc]; kernel_rfl!) | (rw [<- Nat.add_assoc, <- Nat.add_assoc]; kernel_rfl!)), ?_, Nat.le_refl _, le, yI h9 h7, hn', by rw [<- hT, hk']; exact vJ _ _ _, ?_⟩
     ·dsimp only
      rw [vB, bB, List.map_append, List.map_append]; rfl
     ·rw [eE, eE, Nat.sub_self, List.take_zero, List.append_nil, <- hw, hv']
      simp only [List.append_assoc]; rfl
    ·have hz := hn.iv_stop hb (hd ▸ hq)
     rw [hz.1, List.append_nil] at hw
     rw [hz.2] at hT
     exact aB (mK ⟨s, ch, by rw [<- hT]; (show _ = _; first | kernel_rfl! | (rw [<- Nat.add_assoc]; kernel_rfl!) | (rw [<- Nat.add_assoc, <- Nat.add_assoc]; kernel_rfl!)), h6, hT ▸ h7, hT ▸ h8, h9, hT ▸ hw⟩)
  ·rw [List.drop_of_length_le (Nat.le_of_not_lt (of_decide_eq_false hc))] at hn
   have hz := hn.iv_nil
   rw [hz.1, List.append_nil] at hw
   rw [hz.2] at hT
   exact ⟨s, ch, by rw [<- hT]; (show _ = _; first | kernel_rfl! | (rw [<- Nat.add_assoc]; kernel_rfl!) | (rw [<- Nat.add_assoc, <- Nat.add_assoc]; kernel_rfl!)), h6, hT ▸ h7, hT ▸ h8, h9, hT ▸ hw⟩
 ·refine fun st => x2 fun s ch => a6 fun h1 h5 h6 h7 h9 hw => keepP st h1 ?_
  refine aB (b6 M (.str ((css.drop s).take (T - s))) (by kernel_rfl) (by kernel_rfl!) h5 (zaL M (by exact aA (by kernel_rfl!) (by kernel_rfl!)) (by exact aA (by kernel_rfl!) (by kernel_rfl!)) (by exact aA (by kernel_rfl!) (by kernel_rfl!)) h6 (Nat.lt_of_le_of_lt h7 hx2)) rfl (yK h9 (Nat.le_trans h6 h7) hx) ?_)
  refine aB (aO M (.tup [.str v, .int T]) (bE M (aE M (nF (a := a) (ch ++ [(css.drop s).take (T - s)]) (by kernel_rfl) (by kernel_rfl!) (by dsimp only; rw [bB, List.map_append]; rfl) (by rw [eE]; exact hw) (Nat.le_trans hvl (Nat.le_trans (Nat.le_of_lt hx) (by decide)))) (aE M (by exact aA (by kernel_rfl!) (by kernel_rfl!)) aJ))) ⟨_, aS _ _ rfl, hK⟩)
noncomputable def zed : Fn := fun ps K => ∃ (css : List Nat) (pos : Nat) (v : List Nat) (m : Nat), ps = [.str css, .int pos] /\ css.length < 1000000 /\ Al css /\ pos <= css.length /\ NameAt (css.drop pos) v m /\ K (.tup [.str v, .int ((pos + m : Nat))])
theorem yW : bC zed := fun _ _ _ h => e4 fun _ _ _ _ => c5 (h _)
theorem zao (hB : BsOk (bs w.params h mb)) (hmb : HMb mb) : Meets prog w (bs w.params h mb) 3 (.ref 649) zed := by
 have hC : CtxOk prog w (bs w.params h mb) cD 2 := dG hmb (by simp [gJ]) (by simp) (by simp) (fun e he => by
  simp only [List.mem_singleton] at he; subst he
  exact ⟨.ref 663, by kernel_rfl, oQ hB hmb⟩) (by simp) (by simp)
 refine aX (k := 2) (params := ["css", "pos"]) (dv := []) (dp := []) hB hC (by kernel_rfl) (by kernel_rfl) (by kernel_rfl) rfl (fun _ => .nil) (fun S vals hl => ?_) fun ps K => x4 fun css pos v m => a6 fun h1 h2 h3 h5 h6 h4 => ?_
 ·obtain ⟨a, b, rfl⟩ := gP hl
  kernel_rfl
 ·subst h1
  exact ⟨rfl, uH _ css pos v m K h2 h3 h5 h6 h4⟩
noncomputable def cR : Ctx := mkC [] [] false [] []
theorem yM : CtxMono cR := bI (by simp) (by simp)
noncomputable def uZ (c : Nat) : Nat := if 65 <= c /\ c <= 90 then c + 32 else c
theorem sN (f : Nat -> Nat) (x : List Nat) : (x.map fun c => [f c]).flatten = x.map f := by
 induction x with
 | nil => rfl
 | cons c r ih => simp [ih]
theorem lN {σ : Nat -> Option Cell} {xs : List PV} {K : PV -> (Nat -> Option Cell) -> Prop} : iN σ "join" (.str (Str.ofString "").cps.toList) [.list xs] K = (([] : List Nat) = [] /\ ∃ zs, eA xs = some zs /\ zs.flatten.length <= aQ /\ K (.str zs.flatten) σ) := by kernel_rfl
theorem leS1 (a c : Nat) : leS [a] [c] = decide (a <= c) := by
 show (if a = c then true else decide (a < c)) = _
 split
 ·rename_i h; rw [h, decide_eq_true (Nat.le_refl c)]
 ·rename_i h; exact decide_eq_decide.mpr ⟨Nat.le_of_lt, fun q => Nat.lt_of_le_of_ne q h⟩
theorem zbK {C : Ctx} {κ : Kn} {l m r : Expr} {p : Pos} {st : St} {a b e : List Nat} (M : CtxMono C) (h1 : ev C κ l st (.str a)) (h2 : ev C κ m st (.str b)) (h3 : ev C κ r st (.str e)) : tv C κ (.Compare l [.LtE, .LtE] [m, r] p) st (leS a b && leS b e) := by
 refine aM (e := l) M h1 (aM (e := m) M h2 ?_)
 show if leS a b = true then wCh C [r] [.LtE] κ (.str b) _ st else _
 cases leS a b
 ·exact ⟨rfl, rfl⟩
 ·exact aM (e := r) M h3 ⟨rfl, rfl, rfl⟩
theorem zaq (p : Params) (x : List Nat) (K : PV -> Prop) (hx : x.length < 1000000) (hK : K (.str (x.map uZ))) :
  wSs cR (cF (aP (HK p) 26)) (aN (HK p) 26) (kZ K) ⟨bJ [("text", .str x)] (fun _ => none), fun _ => none⟩ := by
 have M := yM
 conv in (aN _ _) => whnf
 conv in (aP _ _) => whnf
 refine aB (aO M (.str (x.map uZ)) ?_ ⟨_, aS _ _ rfl, hK⟩)
 refine ⟨rfl, ?_⟩
 refine aM M (v := .str (Str.ofString "").cps.toList) (aC rfl) ?_
 refine ⟨by kernel_rfl, ?_⟩
 rw [f9]
 rw [u8]
 refine ⟨rfl, by decide +kernel, by decide +kernel, aM (v := .str x) M (aA (by kernel_rfl!) (by kernel_rfl!)) ?_⟩
 refine ⟨by rw [List.length_map]; unfold aQ; omega, ?_⟩
 refine nK M (fun v => .str (((zd4 v).getD []).map uZ)) _ _ _ (fun v hv => ?_) ?_
 ·obtain ⟨c, hc, rfl⟩ := List.mem_map.mp hv
  refine ⟨_, rfl, ?_⟩
  refine dS (c := decide (65 <= c) && decide (c <= 90)) M ?_ (fun h => ?_) (fun h => ?_)
  ·rw [<- leS1, <- leS1]
   exact zbK M (aC rfl) (aA (by kernel_rfl!) (by kernel_rfl!)) (aC rfl)
  ·have h := (Bool.and_eq_true_iff.mp h)
   rw [decide_eq_true_eq, decide_eq_true_eq] at h
   rw [show PV.str (((zd4 (.str [c])).getD []).map uZ) = .str [c + 32] from congrArg (fun n => PV.str [n]) (if_pos h)]
   refine nG M (by kernel_rfl!) rfl rfl (by kernel_rfl) (aE M (v := .int ((c : Int) + 32)) (eF (i := c) (j := 32) M (nG M (by kernel_rfl!) rfl rfl (by kernel_rfl) (aE M (v := .str [c]) (by exact aA (by kernel_rfl!) (by kernel_rfl!)) aJ) (of_eq (B := PV.int c = .int c) (by kernel_rfl) rfl)) (aC rfl)) aJ) (of_eq (B := 0 <= (c : Int) + 32 /\ (c : Int) + 32 < 0x110000 /\ PV.str [c + 32] = .str [c + 32]) (by kernel_rfl) ⟨Int.natCast_nonneg (c + 32), Int.ofNat_lt.mpr (Nat.lt_of_le_of_lt (Nat.add_le_add h.2 (Nat.le_refl 32)) (by decide)), rfl⟩)
  ·have h : ¬ (65 <= c /\ c <= 90) := fun q => by rw [decide_eq_true q.1, decide_eq_true q.2] at h; cases h
   rw [show PV.str (((zd4 (.str [c])).getD []).map uZ) = .str [c] from congrArg (fun n => PV.str [n]) (if_neg h)]
   exact aA (by kernel_rfl!) (by kernel_rfl!)
 ·unfold bH
  rw [if_neg (by decide)]
  dsimp only [iV]
  rw [lN]
  refine ⟨rfl, x.map fun c => [uZ c], ?_, ?_, ?_, rfl⟩
  ·rw [<- iX, List.map_map, List.map_map]; rfl
  ·rw [sN, List.length_map]; unfold aQ; omega
  ·rw [sN]
noncomputable def yU : Fn := fun ps K => ∃ x : List Nat, ps = [.str x] /\ x.length < 1000000 /\ K (.str (x.map uZ))
theorem jB : bC yU := fun _ _ _ h => e1 fun _ => c2 (h _)
theorem oN (hB : BsOk (bs w.params h mb)) (hmb : HMb mb) : Meets prog w (bs w.params h mb) 1 (.ref 26) yU := by
 have hC : CtxOk prog w (bs w.params h mb) cR 0 := dG hmb (by simp) (by simp) (by simp) (by simp) (by simp) (by simp)
 refine aX (k := 1) (params := ["text"]) (dv := []) (dp := []) hB hC (by kernel_rfl) (by kernel_rfl) (by kernel_rfl) rfl (fun _ => .nil) (fun S vals hl => ?_) fun ps K => x1 fun x => a3 fun h1 h2 h3 => ?_
 ·obtain ⟨a, rfl⟩ := List.length_eq_one_iff.mp hl
  kernel_rfl
 ·subst h1
  exact ⟨rfl, zaq _ x K h2 h3⟩
theorem yF {n k m : Nat} {C : Ctx} {Ca fI : Addr} {params : List String} {F : Fn} (hB : BsOk (bs w.params h mb)) (hC : CtxOk prog w (bs w.params h mb) C n)
  (hm : makesIn (HK w.params) Ca = true) (hin : findIn (HK w.params) (.ref Ca) "__init__" = some (some (.ref fI))) (hty : typeIn (HK w.params) (.ref fI) = some (.type "function")) (hkp : keepIn (HK w.params) (.ref Ca) = true)
  (hf : o7 (HK w.params) fI = true) (hok : oG (aN (HK w.params) fI) = true)
  (hpar : (params.all fun x => (aP (HK w.params) fI).lookup (Str.ofString x) == some .local || (aP (HK w.params) fI).lookup (Str.ofString x) == some .cell) = true)
  (hlen : params.length = k + 1)
  (hbind : ∀ S vals, vals.length = k + 1 -> (xK (HK w.params) fI).map (fun fd => peek (HK w.params) S (bindArgs fd ⟨vals, []⟩)) = some (some ((params.map Str.ofString).zip vals)))
  (hF : ∀ ps K, F ps K -> ps.length = k /\ ∀ x : Nat, wSs C (cF (aP (HK w.params) fI)) (aN (HK w.params) fI) (zcG fun p σ' => p = .none /\ ∃ fs : List PV, σ' x = some (.ins Ca (fs.map some)) /\ K (.inst Ca fs))
   ⟨bJ ((params.map Str.ofString).zip (.ptr x :: ps)) fun _ => none, bD (fun _ => none) x (.ins Ca (List.replicate m none))⟩) :
  Meets prog w (bs w.params h mb) (n + 2) (.ref Ca) F := by
 obtain ⟨fd, h1, h2, h3⟩ := lT hf
 have hk : KeepsAt prog w h (.ref Ca) := by
  obtain ⟨q, _, e⟩ := looks_keep (M := model prog w) hkp (show (HK w.params).In h from hB.kin)
  exact ⟨q, e⟩
 refine (yG (C := C) (params := params.map Str.ofString) (k := k) (m := m) hB hC hm hin hty hk h1 hok (fun x hx => ?_) (by simpa using hlen) (fun s vals X hl => ?_)).weaken fun ps K hp => ?_
 ·obtain ⟨y, hy, rfl⟩ := List.mem_map.mp hx
  have := List.all_eq_true.mp hpar y hy
  rw [h3]
  simpa using this
 ·refine kp_binds X fun S => ?_
  have := hbind S vals hl
  rw [h2] at this
  show peek (HK w.params) S _ = _
  simpa using this
 ·rw [h3]; exact hF ps K hp
theorem wH {C : Ctx} (hB : BsOk (bs w.params h mb)) (hmb : HMb mb) (hs : C.slot = cR.slot) : tD prog w (bs w.params h mb) C 1 := by
 have hC : CtxOk prog w (bs w.params h mb) cR 0 := dG hmb (by simp) (by simp) (by simp) (by simp) (by simp) (by simp)
 obtain ⟨fd, h1, h2, h3⟩ := lT (K := HK w.params) (a := 56) (by kernel_rfl)
 refine zcl (Cn := 74) (f := 56) (mc := .type "type") (params := ["self", "source_line", "source_column"].map Str.ofString) hB hC (by kernel_rfl) (by kernel_rfl) (by kernel_rfl) (by kernel_rfl) h1 (by kernel_rfl) (fun x hx => ?_) rfl (fun s vals X hl => ?_) fun ad pa pb st K hK => ?_
 ·rw [h3]
  have : ∀ x ∈ ["self", "source_line", "source_column"].map Str.ofString, (aP (HK w.params) 56).lookup x = some .local := by
   intro x hx
   simp only [List.map_cons, List.map_nil, List.mem_cons, List.not_mem_nil, or_false] at hx
   rcases hx with rfl | rfl | rfl <;> kernel_rfl
  exact .inl (this x hx)
 ·refine kp_binds X fun S => ?_
  obtain ⟨a, b, c, rfl⟩ := rQ hl
  have : (xK (HK w.params) 56).map (fun fd => peek (HK w.params) S (bindArgs fd ⟨[a, b, c], []⟩)) = some (some ((["self", "source_line", "source_column"].map Str.ofString).zip [a, b, c])) := by kernel_rfl
  rw [h2] at this
  show peek (HK w.params) S _ = _
  simpa using this
 ·rw [h3]
  obtain ⟨c, fs, i, g1, g2, g3, c', fs', j, g4, g5, g6, g7⟩ := hK
  rw [hs] at g2 g5
  conv in (aN _ _) => whnf
  conv in (aP _ _) => whnf
  have M := yM
  refine aB (tN M pa ?_ (by kernel_rfl!) g1 g2 g3 ?_)
  ·exact aA (by kernel_rfl!) (by kernel_rfl!)
  dsimp only [gA]
  refine aB (tN M pb ?_ (by kernel_rfl!) g4 g5 g6 ?_)
  ·exact aA (by kernel_rfl!) (by kernel_rfl!)
  dsimp only [gA]
  refine dO ⟨rfl, g7⟩
noncomputable def cT : Ctx := mkC [("ascii_lower", yU)] [] true [] []
theorem yL : CtxMono cT := bI (by simp [jB]) (by simp)
theorem zdQ (hB : BsOk (bs w.params h mb)) (hmb : HMb mb) : CtxOk prog w (bs w.params h mb) cT 1 :=
 dG hmb (by simp [jB]) (by simp) (by simp) (fun e he => by
  simp only [List.mem_singleton] at he; subst he
  exact ⟨.ref 26, by kernel_rfl, oN hB hmb⟩) (by simp) (fun _ => wH hB hmb rfl)
noncomputable def pP : Fn := fun ps K => ∃ (vl : PV) (vk : PV) (vv : PV) (vb : PV), ps = [vl, vk, vv, vb] /\ K (.inst 355 [vb, vv, vk, vl])
theorem rD : bC pP := fun _ _ _ h => e4 fun _ _ _ _ => c1 (h _)
theorem vF (p : Params) (vl : PV) (vk : PV) (vv : PV) (vb : PV) (K : PV -> Prop) (x : Nat) (hK : K (.inst 355 [vb, vv, vk, vl])) :
  wSs cT (cF (aP (HK p) 344)) (aN (HK p) 344) (zcG fun p σ' => p = .none /\ ∃ fs : List PV, σ' x = some (.ins 355 (fs.map some)) /\ K (.inst 355 fs))
   ⟨bJ ((["self", "line", "column", "value", "representation"].map Str.ofString).zip (.ptr x :: [vl, vk, vv, vb])) fun _ => none, bD (fun _ => none) x (.ins 355 (List.replicate 4 none))⟩ := by
 have M := yL
 conv in (aN _ _) => whnf
 conv in (aP _ _) => whnf
 refine aB (zbf (a := x) (c := 355) (fs := List.replicate 4 none) (i := 3) (j := 2) M vl vk rfl (by decide +kernel) ?_ ?_ ?_ (by dsimp only; exact bB _ _ _) (by decide +kernel) (by simp) (by decide +kernel) (by simp) ?_)
 ·(first | exact aC rfl | exact aA (by kernel_rfl!) (by kernel_rfl!))
 ·(first | exact aC rfl | exact aA (by kernel_rfl!) (by kernel_rfl!))
 ·(first | exact aC rfl | exact aA (by kernel_rfl!) (by kernel_rfl!))
 dsimp only [gA]
 refine aB (tN (a := x) (c := 355) (i := 1) M vv ?_ (by kernel_rfl!) (bB _ _ _) (by decide +kernel) (by simp) ?_)
 ·(first | exact aC rfl | exact aA (by kernel_rfl!) (by kernel_rfl!))
 dsimp only [gA]
 refine aB (tN (a := x) (c := 355) (i := 0) M vb ?_ (by kernel_rfl!) (bB _ _ _) (by decide +kernel) (by simp) ?_)
 ·(first | exact aC rfl | exact aA (by kernel_rfl!) (by kernel_rfl!))
 dsimp only [gA]
 (repeat (first | refine dO ?_ | dsimp only [gA]))
 exact ⟨rfl, [vb, vv, vk, vl], by dsimp only; rw [bB]; rfl, hK⟩
theorem tY (hB : BsOk (bs w.params h mb)) (hmb : HMb mb) : Meets prog w (bs w.params h mb) 3 (.ref 355) pP := by
 refine yF (k := 4) (m := 4) (fI := 344) (params := ["self", "line", "column", "value", "representation"]) hB (zdQ hB hmb) (by kernel_rfl) (by kernel_rfl) (by kernel_rfl) (by kernel_rfl) (by kernel_rfl) (by kernel_rfl) (by kernel_rfl) rfl (fun S vals hl => ?_) fun ps K => x4 fun vl vk vv vb => a2 fun h1 hk => ?_
 ·obtain ⟨a, b, c, d, e, rfl⟩ := five hl
  kernel_rfl
 ·subst h1
  exact ⟨rfl, fun x => vF _ vl vk vv vb K x hk⟩
noncomputable def pQ : Fn := fun ps K => ∃ (vl : PV) (vk : PV) (vv : PV) (vb : PV), ps = [vl, vk, vv, vb] /\ K (.inst 104 [vv, vb, vk, vl])
theorem rE : bC pQ := fun _ _ _ h => e4 fun _ _ _ _ => c1 (h _)
theorem vH (p : Params) (vl : PV) (vk : PV) (vv : PV) (vb : PV) (K : PV -> Prop) (x : Nat) (hK : K (.inst 104 [vv, vb, vk, vl])) :
  wSs cT (cF (aP (HK p) 93)) (aN (HK p) 93) (zcG fun p σ' => p = .none /\ ∃ fs : List PV, σ' x = some (.ins 104 (fs.map some)) /\ K (.inst 104 fs))
   ⟨bJ ((["self", "line", "column", "kind", "message"].map Str.ofString).zip (.ptr x :: [vl, vk, vv, vb])) fun _ => none, bD (fun _ => none) x (.ins 104 (List.replicate 4 none))⟩ := by
 have M := yL
 conv in (aN _ _) => whnf
 conv in (aP _ _) => whnf
 refine aB (zbf (a := x) (c := 104) (fs := List.replicate 4 none) (i := 3) (j := 2) M vl vk rfl (by decide +kernel) ?_ ?_ ?_ (by dsimp only; exact bB _ _ _) (by decide +kernel) (by simp) (by decide +kernel) (by simp) ?_)
 ·(first | exact aC rfl | exact aA (by kernel_rfl!) (by kernel_rfl!))
 ·(first | exact aC rfl | exact aA (by kernel_rfl!) (by kernel_rfl!))
 ·(first | exact aC rfl | exact aA (by kernel_rfl!) (by kernel_rfl!))
 dsimp only [gA]
 refine aB (tN (a := x) (c := 104) (i := 0) M vv ?_ (by kernel_rfl!) (bB _ _ _) (by decide +kernel) (by simp) ?_)
 ·(first | exact aC rfl | exact aA (by kernel_rfl!) (by kernel_rfl!))
 dsimp only [gA]
 refine aB (tN (a := x) (c := 104) (i := 1) M vb ?_ (by kernel_rfl!) (bB _ _ _) (by decide +kernel) (by simp) ?_)
 ·(first | exact aC rfl | exact aA (by kernel_rfl!) (by kernel_rfl!))
 dsimp only [gA]
 (repeat (first | refine dO ?_ | dsimp only [gA]))
 exact ⟨rfl, [vv, vb, vk, vl], by dsimp only; rw [bB]; rfl, hK⟩
theorem tZ (hB : BsOk (bs w.params h mb)) (hmb : HMb mb) : Meets prog w (bs w.params h mb) 3 (.ref 104) pQ := by
 refine yF (k := 4) (m := 4) (fI := 93) (params := ["self", "line", "column", "kind", "message"]) hB (zdQ hB hmb) (by kernel_rfl) (by kernel_rfl) (by kernel_rfl) (by kernel_rfl) (by kernel_rfl) (by kernel_rfl) (by kernel_rfl) rfl (fun S vals hl => ?_) fun ps K => x4 fun vl vk vv vb => a2 fun h1 hk => ?_
 ·obtain ⟨a, b, c, d, e, rfl⟩ := five hl
  kernel_rfl
 ·subst h1
  exact ⟨rfl, fun x => vH _ vl vk vv vb K x hk⟩
theorem zdu {w : World} {h : Heap} {mb : Str -> Option Value} (hB : BsOk (bs w.params h mb)) : zcZ (bs w.params h mb) := by
 have e : (HK w.params).lookup 4 = some { cls := .type "module", dict := some 0, data := .plain } := by kernel_rfl
 exact ⟨4, _, (by kernel_rfl), (by decide), hB.kin _ _ e, rfl, rfl, rfl⟩
theorem yE {w : World} {h : Heap} {mb : Str -> Option Value} (hB : BsOk (bs w.params h mb)) : CodeAt h 40 := by
 obtain ⟨o, e⟩ : ∃ o, (HK w.params).lookup 40 = some o := ⟨_, rfl⟩
 have e' := e
 conv at e' => lhs; whnf
 cases e'
 exact ⟨_, _, _, _, _, _, _, _, _, hB.kin _ _ e, rfl, rfl, rfl, rfl, rfl, rfl, rfl, by decide⟩
theorem t4 (hB : BsOk (bs w.params h mb)) : Meets prog w (bs w.params h mb) 1 (.ref 41) yX := by
 obtain ⟨fd, h1, h2, h3⟩ := lT (K := HK w.params) (a := 41) (by kernel_rfl)
 have hcode : fd.code = .ref 40 := by
  have e : (xK (HK w.params) 41).map (·.code) = some (.ref 40) := by kernel_rfl
  rw [h2] at e; exact Option.some.inj e
 have hl : fd.scope.names.lookup (Str.ofString "value") = some NameKind.local := by rw [h3]; kernel_rfl
 conv at h1 => arg 4; whnf
 refine xF (n := 0) (cX := 40) (v := Str.ofString "value") (c := Str.ofString "c") hB (zdu hB) (yE hB) h1 hcode rfl rfl (by decide +kernel) (by decide +kernel) (by kernel_rfl) (by kernel_rfl) rfl (fun env C code => ?_) hl (by decide +kernel) (fun s vals X hl => ?_)
 ·repeat' refine zdN rfl (by kernel_rfl) (by decide +kernel) (by decide +kernel) ?_
  exact zaQ rfl (by kernel_rfl) (by decide +kernel)
 ·refine kp_binds X fun S => ?_
  obtain ⟨a, rfl⟩ := rW hl
  have : (xK (HK w.params) 41).map (fun fd => peek (HK w.params) S (bindArgs fd ⟨[a], []⟩)) = some (some ((["value"].map Str.ofString).zip [a])) := by kernel_rfl
  rw [h2] at this
  show peek (HK w.params) S _ = _
  simpa using this
noncomputable def tA (c : Nat) : Bool := c == 34 || c == 39 || c == 40 || c == 11 || c == 127 || decide (c < 9) || (decide (13 < c) && decide (c < 32))
theorem zal {c : Nat} (h : gN c = true) : decide (c ∈ (Str.ofString "\"'(\x00\x01\x02\x03\x04\x05\x06\x07\x08\x0b\x0e\x0f\x10\x11\x12\x13\x14\x15\x16\x17\x18\x19\x1a\x1b\x1c\x1d\x1e\x1f\x7f").cps.toList) = tA c :=
 gI (f := fun c => decide (c ∈ (Str.ofString "\"'(\x00\x01\x02\x03\x04\x05\x06\x07\x08\x0b\x0e\x0f\x10\x11\x12\x13\x14\x15\x16\x17\x18\x19\x1a\x1b\x1c\x1d\x1e\x1f\x7f").cps.toList)) (by decide +kernel) h
theorem lO {c : Nat} (h : gN c = true) : decide (c ∈ (Str.ofString " \n\t").cps.toList) = aR c :=
 gI (f := fun c => decide (c ∈ (Str.ofString " \n\t").cps.toList)) (by decide +kernel) h
inductive UEnd where
 | eof | close | blank | bad
inductive UrlV : List Nat -> List Nat -> Nat -> UEnd -> Prop
 | eof : UrlV [] [] 0 .eof
 | close (r : List Nat) : UrlV (41 :: r) [] 1 .close
 | blank (c : Nat) (r : List Nat) : aR c = true -> UrlV (c :: r) [] 1 .blank
 | bad (c : Nat) (r : List Nat) : tA c = true -> UrlV (c :: r) [] 1 .bad
 | plain (c : Nat) (r v : List Nat) (n : Nat) (e : UEnd) : c ≠ 41 -> aR c = false -> c ≠ 92 -> tA c = false -> UrlV r v n e -> UrlV (c :: r) (c :: v) (n + 1) e
 | esc (r v : List Nat) (s k n : Nat) (e : UEnd) : [92, 10].isPrefixOf (92 :: r) = false -> EscAt r s k -> UrlV (r.drop k) v n e -> UrlV (92 :: r) (s :: v) (n + (k + 1)) e
noncomputable def UrlD (x v : List Nat) (n : Nat) (e : UEnd) : Prop :=
 List.casesOn (motive := fun _ => Prop) x (v = [] /\ n = 0 /\ e = .eof) fun c r =>
  if c = 41 then v = [] /\ n = 1 /\ e = .close
  else if aR c = true then v = [] /\ n = 1 /\ e = .blank
  else if c = 92 then [92, 10].isPrefixOf (c :: r) = false /\ ∃ s w k m, v = s :: w /\ n = m + (k + 1) /\ EscAt r s k /\ UrlV (r.drop k) w m e
  else if tA c = true then v = [] /\ n = 1 /\ e = .bad
  else ∃ w m, v = c :: w /\ n = m + 1 /\ UrlV r w m e
theorem d8 : ∀ c, aR c = true -> c ≠ 41 /\ c ≠ 92 := fun c h => ⟨fun e => (by subst e; cases h), fun e => (by subst e; cases h)⟩
theorem fZ (c : Nat) (h : tA c = true) : c ≠ 41 /\ aR c = false /\ c ≠ 92 := by
 refine ⟨fun e => (by subst e; cases h), ?_, fun e => (by subst e; cases h)⟩
 cases hb : aR c with
 | false => rfl
 | true =>
  have : c = 32 \/ c = 10 \/ c = 9 := by simpa [aR, or_assoc] using hb
  rcases this with rfl | rfl | rfl <;> cases h
theorem UrlV.d {x v : List Nat} {n : Nat} {e : UEnd} (h : UrlV x v n e) : UrlD x v n e := by
 cases h with
 | eof => exact ⟨rfl, rfl, rfl⟩
 | close r => exact ⟨rfl, rfl, rfl⟩
 | blank c r hb => show if c = 41 then _ else _; rw [if_neg (d8 c hb).1, if_pos hb]; exact ⟨rfl, rfl, rfl⟩
 | bad c r hb => show if c = 41 then _ else _; rw [if_neg (fZ c hb).1, if_neg (by rw [(fZ c hb).2.1]; decide), if_neg (fZ c hb).2.2, if_pos hb]; exact ⟨rfl, rfl, rfl⟩
 | plain c r w m _ h1 h2 h3 h4 h => show if c = 41 then _ else _; rw [if_neg h1, if_neg (by rw [h2]; decide), if_neg h3, if_neg (by rw [h4]; decide)]; exact ⟨w, m, rfl, rfl, h⟩
 | esc r w s k m _ hp he h => exact ⟨hp, s, w, k, m, rfl, rfl, he, h⟩
theorem UrlV.le {x v : List Nat} {n : Nat} {e : UEnd} (h : UrlV x v n e) : n <= x.length /\ v.length <= n := by
 induction h with
 | eof => exact ⟨Nat.zero_le _, Nat.zero_le _⟩
 | close => exact ⟨Nat.succ_le_succ (Nat.zero_le _), Nat.zero_le _⟩
 | blank => exact ⟨Nat.succ_le_succ (Nat.zero_le _), Nat.zero_le _⟩
 | bad => exact ⟨Nat.succ_le_succ (Nat.zero_le _), Nat.zero_le _⟩
 | plain c r v n e _ _ _ _ _ ih => exact ⟨Nat.succ_le_succ ih.1, Nat.succ_le_succ ih.2⟩
 | esc r v s k n e _ he _ ih =>
  have h2 := he.le
  rw [List.length_drop] at ih
  simp only [List.length_cons]
  omega
noncomputable def cJ : Nat -> List Nat -> Nat
 | 0, _ => 0
 | k + 1, x => List.casesOn (motive := fun _ => Nat) x 0 fun c r => if [92, 41].isPrefixOf (c :: r) = true then cJ k (r.drop 1) + 2 else if c = 41 then 1 else cJ k r + 1
noncomputable def aK (x : List Nat) : Nat := (x.takeWhile aR).length
noncomputable def UrlR (x : List Nat) (v : Option (List Nat)) (err : Option Bool) (n : Nat) : Prop :=
 (∃ r, x.drop (aK x) = 41 :: r /\ v = some [] /\ err = none /\ n = aK x + 1) \/
 ∃ w m e, x.drop (aK x) ≠ 41 :: (x.drop (aK x)).tail /\ UrlV (x.drop (aK x)) w m e /\
  ((e = .eof /\ v = some w /\ err = some true /\ n = aK x + m) \/ (e = .close /\ v = some w /\ err = none /\ n = aK x + m) \/
   (e = .blank /\ ∃ b, b = aK (x.drop (aK x + m)) /\ ((x.drop (aK x + m + b) = [] /\ v = some w /\ err = some true /\ n = aK x + m + b) \/ (∃ r, x.drop (aK x + m + b) = 41 :: r /\ v = some w /\ err = none /\ n = aK x + m + b + 1) \/
    ∃ c r, x.drop (aK x + m + b) = c :: r /\ c ≠ 41 /\ v = none /\ err = some false /\ n = aK x + m + b + cJ (c :: r).length (c :: r))) \/
   (e = .bad /\ v = none /\ err = some false /\ n = aK x + m + cJ (x.drop (aK x + m)).length (x.drop (aK x + m))))
noncomputable def nO (x : List Nat) (i : Nat) : Bool := (x[i]?).any aR
theorem zcU (x : List Nat) (i : Nat) : ([[32], [10], [9]] : List (List Nat)).any (fun p => p.isPrefixOf (x.drop i)) = nO x i := by
 unfold nO
 by_cases h : i < x.length
 ·rw [List.drop_eq_getElem_cons h, List.getElem?_eq_getElem h, Option.any_some]
  show ((32 == x[i] && true) || ((10 == x[i] && true) || ((9 == x[i] && true) || false))) = _
  rw [Bool.and_true, Bool.and_true, Bool.and_true, Bool.or_false, BEq.comm, BEq.comm (a := 10), BEq.comm (a := 9), <- Bool.or_assoc]; rfl
 ·rw [List.drop_of_length_le (Nat.le_of_not_lt h), List.getElem?_eq_none (Nat.le_of_not_lt h)]; rfl
theorem rA {x : List Nat} {i : Nat} (h : nO x i = true) : i < x.length /\ aK (x.drop i) = aK (x.drop (i + 1)) + 1 := by
 by_cases hl : i < x.length
 ·rw [nO, List.getElem?_eq_getElem hl] at h
  refine ⟨hl, ?_⟩
  rw [List.drop_eq_getElem_cons hl, aK, List.takeWhile_cons_of_pos (p := aR) h]; rfl
 ·rw [nO, List.getElem?_eq_none (Nat.le_of_not_lt hl)] at h; cases h
theorem q9 {x : List Nat} {i : Nat} (h : nO x i = false) : aK (x.drop i) = 0 := by
 by_cases hl : i < x.length
 ·rw [nO, List.getElem?_eq_getElem hl] at h
  rw [List.drop_eq_getElem_cons hl, aK, List.takeWhile_cons_of_neg (fun q => by rw [Option.any_some, q] at h; cases h)]; rfl
 ·rw [List.drop_of_length_le (Nat.le_of_not_lt hl)]; rfl
theorem fY (x : List Nat) : aK x <= x.length := (List.takeWhile_sublist aR).length_le
theorem updU (ρ : d9) (x : Str) (a b : PV) : upd (upd ρ x a) x b = upd ρ x b := by
 funext y; unfold upd; by_cases h : y = x <;> simp [h]
section
variable {C : Ctx} {κ : Kn}
theorem wP {σ : Nat -> Option Cell} {x : List Nat} {i : Int} {ps : List PV} {K : PV -> (Nat -> Option Cell) -> Prop} : iN σ "startswith" (.str x) [.tup ps, .int i] K = okI i (∃ zs, eA ps = some zs /\ K (.bool (decide (i <= x.length) && zs.any fun p => p.isPrefixOf (x.drop i.toNat))) σ) := by kernel_rfl
theorem zdF {a i : Str} {p p1 p2 p3 p4 p5 p6 p7 : Pos} {k1 k2 k3 k4 : Nat} {st : St} {x : List Nat} {e : Nat} (M : CtxMono C) (k1' : κ a = some .local) (k2' : κ i = some .local) (h1 : st.ρ a = some (.str x)) (h2 : st.ρ i = some (.int e)) (he : e <= x.length) (hx : x.length < 1000000) :
  ev C κ (.Call (.Attribute (.Name a p1) (Str.ofString "startswith") p2) [.Tuple [.Constant (.str (Str.ofString " ")) k1 p3, .Constant (.str (Str.ofString "\n")) k2 p4, .Constant (.str (Str.ofString "\t")) k3 p5] k4 p6, .Name i p7] [] p) st (.bool (nO x e)) := by
 rw [<- zcU]
 refine nC M (aA k1' h1) (aE M (bE M (aE M (aC rfl) (aE M (aC rfl) (aE M (aC rfl) aJ)))) (aE M (aA k2' h2) aJ)) rfl (by kernel_rfl) (of_eq wP ⟨Int.natCast_nonneg e, y1 (Nat.lt_of_le_of_lt he (Nat.lt_trans hx (by decide))), [[32], [10], [9]], by decide +kernel, ?_, rfl⟩)
 exact congrArg PV.bool (by rw [decide_eq_true (Int.ofNat_le.mpr he)]; rfl)
theorem mL {a i : Str} {p p1 p2 p3 p4 p5 p6 p7 q1 q2 q3 q4 : Pos} {k1 k2 k3 k4 k5 : Nat} {st : St} {x : List Nat} {e : Nat} {Q : Fl -> St -> Prop} (M : CtxMono C) (k1' : κ a = some .local) (k2' : κ i = some .local) (hai : a ≠ i)
  (h1 : st.ρ a = some (.str x)) (h2 : st.ρ i = some (.int e)) (hx : x.length < 1000000) (he : e <= x.length)
  (hQ : Q .next ⟨upd st.ρ i (.int ((e + aK (x.drop e) : Nat))), st.σ⟩) :
  wS C κ (.While (.Call (.Attribute (.Name a p1) (Str.ofString "startswith") p2) [.Tuple [.Constant (.str (Str.ofString " ")) k1 p3, .Constant (.str (Str.ofString "\n")) k2 p4, .Constant (.str (Str.ofString "\t")) k3 p5] k4 p6, .Name i p7] [] p)
   [.AugAssign (.Name i q1) .Add (.Constant (.int 1) k5 q2) q3] [] q4) Q st := by
 have us : ∀ {ρ : d9} {v : PV}, ρ i = some v -> upd ρ i v = ρ := fun {ρ v} h => by
  funext y; unfold upd; split
  ·rename_i q; rw [q, h]
  ·rfl
 let I : Nat -> St -> Prop := fun n s => ∃ f : Nat, s = ⟨upd st.ρ i (.int f), st.σ⟩ /\ f <= x.length /\ n = x.length - f /\ f + aK (x.drop f) = e + aK (x.drop e)
 refine gY M I ?_ (x.length - e) st ⟨e, by rw [us h2], he, rfl, rfl⟩
 rintro n s ⟨f, rfl, hf, rfl, hs⟩
 have g1 : (upd st.ρ i (.int f)) a = some (.str x) := by unfold upd; rw [if_neg hai]; exact h1
 have g2 : (upd st.ρ i (.int f)) i = some (.int f) := by unfold upd; rw [if_pos rfl]
 refine ⟨nO x f, bN M (zdF M k1' k2' g1 g2 hf hx), fun hc => ?_, fun hc => ?_⟩
 ·obtain ⟨hl, hd⟩ := rA hc
  refine aB (fL M (.int f) (.int 1) g2 (aC rfl) (by unfold dX; rw [k2']; decide) (of_eq dP ?_))
  exact ⟨x.length - (f + 1), Nat.sub_lt_sub_left hl (Nat.lt_succ_self f), f + 1, congrArg (St.mk · st.σ) (updU _ _ _ _), hl, rfl, by rw [<- hs, hd, Nat.add_right_comm]; rfl⟩
 ·rw [q9 hc] at hs
  rw [<- hs] at hQ
  exact hQ
end
noncomputable def yT : Fn := fun _ _ => False
theorem kT : bC yT := fun _ _ _ _ h => h
noncomputable def cU : Ctx := mkC [("_consume_escape", uX), ("_consume_quoted_string", yT)] [] false [] [307, 327, 363, 370, 377, 437, 458, 507]
theorem q8 : CtxMono cU := bI (by simp [gJ, kT]) (by simp)
noncomputable def lcS (s : String) : List Nat := (Str.ofString s).cps.toList
noncomputable def y4 : PV := .tup [.str (lcS "bad-url"), .str (lcS "bad URL token")]
theorem z5 (k : Nat) : cJ k [] = 0 := by cases k <;> rfl
theorem rU {c : Nat} {r : List Nat} (h : [92, 41].isPrefixOf (c :: r) = true) : ∃ t, r = 41 :: t := by
 cases r with
 | nil => simp at h
 | cons d t =>
  have : (92 == c && (41 == d && true)) = true := h
  simp at this
  exact ⟨t, by rw [this.2]⟩
theorem y9 (p : Params) (css : List Nat) (e : Nat) (K : PV -> Prop) {st : St} (hx : css.length < 1000000) (he : e <= css.length) (hρ : dD [("css", .str css), ("length", .int css.length), ("pos", .int e)] st.ρ)
  (hK : K (.tup [.none, .int ((e + cJ (css.drop e).length (css.drop e) : Nat)), y4])) : wSs cU (cF (aP (HK p) 670)) ((aN (HK p) 670).drop 7) (kZ K) st := by
 have M := q8
 have hx2 := Nat.lt_trans hx (show 1000000 < 2000000 by decide)
 refine fE hρ ?_
 clear hρ
 conv in (List.drop _ _) => whnf
 generalize hT : e + cJ (css.drop e).length (css.drop e) = T at hK
 let R : St -> Prop := fun st => dD [("pos", .int T)] st.ρ
 let I : Nat -> St -> Prop := fun n st => ∃ f k : Nat, dD [("css", .str css), ("length", .int css.length), ("pos", .int f)] st.ρ /\ n = css.length - f /\ (css.drop f).length <= k /\ f <= css.length /\ f + cJ k (css.drop f) = T
 refine dY M R (gY M I ?_ (css.length - e) _ ⟨e, _, by (show _ = _; first | kernel_rfl! | (rw [<- Nat.add_assoc]; kernel_rfl!) | (rw [<- Nat.add_assoc, <- Nat.add_assoc]; kernel_rfl!)), rfl, Nat.le_refl _, he, hT⟩) ?_
 ·refine fun n st => x2 fun f k => a5 fun h1 hn hk hf hs => keepP st h1 ?_
  refine ⟨decide (f < css.length), bN M (jN M (by exact aA (by kernel_rfl!) (by kernel_rfl!)) (by exact aA (by kernel_rfl!) (by kernel_rfl!))), fun hc => ?_, fun hc => ?_⟩
  ·have hc := of_decide_eq_true hc
   have hd : css.drop f = css[f] :: css.drop (f + 1) := List.drop_eq_getElem_cons hc
   rw [hd] at hs hk
   obtain ⟨k, rfl⟩ : ∃ j, k = j + 1 := ⟨k - 1, by rw [List.length_cons] at hk; omega⟩
   have hk := Nat.le_of_succ_le_succ hk
   have hs : f + (if [92, 41].isPrefixOf (css[f] :: css.drop (f + 1)) = true then cJ k ((css.drop (f + 1)).drop 1) + 2 else if css[f] = 41 then 1 else cJ k (css.drop (f + 1)) + 1) = T := hs
   refine aB (cY M ([92, 41].isPrefixOf (css.drop f)) (bN M (m9 (q := Str.ofString "\\)") M (by exact aA (by kernel_rfl!) (by kernel_rfl!)) (by exact aA (by kernel_rfl!) (by kernel_rfl!)) hf hx2 rfl)) (fun hb => ?_) (fun hb => ?_))
   ·rw [hd] at hb
    rw [if_pos hb, List.drop_drop] at hs
    obtain ⟨t, ht⟩ := rU hb
    have h2 : f + 2 <= css.length := by
     have := congrArg List.length ht
     rw [List.length_drop, List.length_cons] at this; omega
    refine aB (fL M (.int f) (.int 2) (by kernel_rfl!) (aC rfl) (by kernel_rfl) (of_eq dP ?_))
    exact ⟨css.length - (f + 2), hn ▸ Nat.sub_lt_sub_left hc (Nat.lt_add_of_pos_right (by decide)), f + 2, k, by (show _ = _; first | kernel_rfl! | (rw [<- Nat.add_assoc]; kernel_rfl!) | (rw [<- Nat.add_assoc, <- Nat.add_assoc]; kernel_rfl!)), rfl, by rw [List.length_drop] at hk ⊢; omega, h2, by rw [<- hs, Nat.add_assoc, Nat.add_comm 2]⟩
   ·rw [hd] at hb
    rw [if_neg (by rw [hb]; decide)] at hs
    refine aB (cY M (decide (css[f] = 41)) (bN M (fW M (d6 M rfl (by exact aA (by kernel_rfl!) (by kernel_rfl!)) (by exact aA (by kernel_rfl!) (by kernel_rfl!)) (List.getElem?_eq_getElem hc)) (by kernel_rfl))) (fun h4 => ?_) (fun h4 => ?_))
    ·rw [if_pos (of_decide_eq_true h4)] at hs
     refine aB (fL M (.int f) (.int 1) (by kernel_rfl!) (aC rfl) (by kernel_rfl) (of_eq dP ?_))
     exact aB (mK (show dD [("pos", .int T)] _ by rw [<- hs]; (show _ = _; first | kernel_rfl! | (rw [<- Nat.add_assoc]; kernel_rfl!) | (rw [<- Nat.add_assoc, <- Nat.add_assoc]; kernel_rfl!))))
    ·rw [if_neg (of_decide_eq_false h4)] at hs
     refine aB (fL M (.int f) (.int 1) (by kernel_rfl!) (aC rfl) (by kernel_rfl) (of_eq dP ?_))
     exact ⟨css.length - (f + 1), hn ▸ Nat.sub_lt_sub_left hc (Nat.lt_succ_self f), f + 1, k, by (show _ = _; first | kernel_rfl! | (rw [<- Nat.add_assoc]; kernel_rfl!) | (rw [<- Nat.add_assoc, <- Nat.add_assoc]; kernel_rfl!)), rfl, hk, hc, by rw [<- hs, Nat.add_assoc, Nat.add_comm 1]⟩
  ·rw [List.drop_of_length_le (Nat.le_of_not_lt (of_decide_eq_false hc)), z5] at hs
   have hs : f = T := hs
   exact (show dD [("pos", .int T)] _ by rw [<- hs]; (show _ = _; first | kernel_rfl! | (rw [<- Nat.add_assoc]; kernel_rfl!) | (rw [<- Nat.add_assoc, <- Nat.add_assoc]; kernel_rfl!)))
 ·exact fun st h1 => fE h1 (aB (aO M (.tup [.none, .int T, y4]) (bE M (aE M (aC rfl) (aE M (by exact aA (by kernel_rfl!) (by kernel_rfl!)) (aE M (bE M (aE M (aC rfl) (aE M (aC rfl) aJ))) aJ)))) ⟨_, aS _ _ rfl, hK⟩))
noncomputable def uM : PV := .tup [.str (lcS "eof-in-url"), .str (lcS "EOF in URL")]
noncomputable def optT (v : Option (List Nat)) : PV := v.elim .none .str
noncomputable def zea (x : List Nat) (v : Option (List Nat)) (K : PV -> Nat -> PV -> Prop) : Prop :=
 Option.casesOn (motive := fun _ => Prop) v (K .none (cJ x.length x) y4) fun w =>
  List.casesOn (motive := fun _ => Prop) (x.drop (aK x)) (K (.str w) (aK x) uM) fun c r =>
   if c = 41 then K (.str w) (aK x + 1) .none else K .none (aK x + cJ (c :: r).length (c :: r)) y4
theorem zbF (p : Params) (css : List Nat) (e : Nat) (v : Option (List Nat)) (K : PV -> Prop) {st : St} (hx : css.length < 1000000) (he : e <= css.length) (hρ : dD [("css", .str css), ("length", .int css.length), ("pos", .int e), ("value", optT v), ("error", .none)] st.ρ)
  (hK : zea (css.drop e) v fun a n b => K (.tup [a, .int ((e + n : Nat)), b])) (hf : ∀ w, v = some w -> w.length < 1000000) : wSs cU (cF (aP (HK p) 670)) ((aN (HK p) 670).drop 6) (kZ K) st := by
 have M := q8
 have hx2 := Nat.lt_trans hx (show 1000000 < 2000000 by decide)
 have tail := fun e (he : e <= css.length) (st : St) h => @y9 p css e K st hx he h
 refine fE hρ ?_
 clear hρ
 rw [show (aN (HK p) 670).drop 7 = (((aN (HK p) 670).drop 6).drop 1) by rw [List.drop_drop]] at tail
 generalize hb : (aN (HK p) 670).drop 6 = bd at tail ⊢
 conv at hb => lhs; whnf
 subst hb
 cases v with
 | none =>
  refine aB (cY M false (bN M (bF (a := .none) (b := .none) M (by exact aA (by kernel_rfl!) (by kernel_rfl!)) (aC rfl) rfl)) (fun h => by cases h) (fun _ => ?_))
  exact tail e he _ (by (show _ = _; first | kernel_rfl! | (rw [<- Nat.add_assoc]; kernel_rfl!) | (rw [<- Nat.add_assoc, <- Nat.add_assoc]; kernel_rfl!))) hK
 | some w =>
  refine aB (cY M true (bN M (bF (a := .str w) (b := .none) M (by exact aA (by kernel_rfl!) (by kernel_rfl!)) (aC rfl) rfl)) (fun _ => ?_) (fun h => by cases h))
  refine aB (mL M (by kernel_rfl!) (by kernel_rfl!) (by rw [Ne, sEq]; decide) (by kernel_rfl!) (by kernel_rfl!) hx he ?_)
  have hb := fY (css.drop e)
  have hle : e + aK (css.drop e) <= css.length := j6 he hb
  have hK : List.casesOn (motive := fun _ => Prop) ((css.drop e).drop (aK (css.drop e))) (K (.tup [.str w, .int ((e + aK (css.drop e) : Nat)), uM])) fun c r =>
   if c = 41 then K (.tup [.str w, .int ((e + (aK (css.drop e) + 1) : Nat)), .none]) else K (.tup [.none, .int ((e + (aK (css.drop e) + cJ (c :: r).length (c :: r)) : Nat)), y4]) := hK
  rw [List.drop_drop] at hK
  simp only [<- Nat.add_assoc] at hK
  generalize e + aK (css.drop e) = f at hK hle
  refine aB (cY M (decide (f < css.length)) (bN M (jN M (by exact aA (by kernel_rfl!) (by kernel_rfl!)) (by exact aA (by kernel_rfl!) (by kernel_rfl!)))) (fun h => ?_) (fun h => ?_))
  ·have h := of_decide_eq_true h
   have hd : css.drop f = css[f] :: css.drop (f + 1) := List.drop_eq_getElem_cons h
   rw [hd] at hK
   refine aB (cY M (decide (css[f] = 41)) (bN M (fW M (d6 M rfl (by exact aA (by kernel_rfl!) (by kernel_rfl!)) (by exact aA (by kernel_rfl!) (by kernel_rfl!)) (List.getElem?_eq_getElem h)) (by kernel_rfl))) (fun h4 => ?_) (fun h4 => ?_))
   ·have hK : if css[f] = 41 then K (.tup [.str w, .int ((f + 1 : Nat)), .none]) else _ := hK
    rw [if_pos (of_decide_eq_true h4)] at hK
    exact aB (aO M (.tup [.str w, .int ((f + 1 : Nat)), .none]) (bE M (aE M (by exact aA (by kernel_rfl!) (by kernel_rfl!)) (aE M (eF (i := f) (j := 1) M (by exact aA (by kernel_rfl!) (by kernel_rfl!)) (aC rfl)) (aE M (by exact aA (by kernel_rfl!) (by kernel_rfl!)) aJ)))) ⟨_, aS _ _ rfl, hK⟩)
   ·have hK : if css[f] = 41 then _ else K (.tup [.none, .int ((f + cJ (css[f] :: css.drop (f + 1)).length (css[f] :: css.drop (f + 1)) : Nat)), y4]) := hK
    rw [if_neg (of_decide_eq_false h4), <- hd] at hK
    (repeat (first | refine dO ?_ | dsimp only [gA]))
    exact tail f hle _ (by (show _ = _; first | kernel_rfl! | (rw [<- Nat.add_assoc]; kernel_rfl!) | (rw [<- Nat.add_assoc, <- Nat.add_assoc]; kernel_rfl!))) hK
  ·rw [List.drop_of_length_le (Nat.le_of_not_lt (of_decide_eq_false h))] at hK
   refine aB (cY M true (bN M (bF (a := .none) (b := .none) M (by exact aA (by kernel_rfl!) (by kernel_rfl!)) (aC rfl) rfl)) (fun _ => ?_) (fun h => by cases h))
   refine aB (aG M uM (bE M (aE M (aC rfl) (aE M (aC rfl) aJ))) (by kernel_rfl) ?_)
   (repeat (first | refine dO ?_ | dsimp only [gA]))
   exact aB (aO M (.tup [.str w, .int f, uM]) (bE M (aE M (by exact aA (by kernel_rfl!) (by kernel_rfl!)) (aE M (by exact aA (by kernel_rfl!) (by kernel_rfl!)) (aE M (by exact aA (by kernel_rfl!) (by kernel_rfl!)) aJ)))) ⟨_, aS _ _ rfl, hK⟩)
inductive Rs where
 | good (w : List Nat) | ended (w : List Nat) | fault
noncomputable def rsV (R : Rs) : PV := Rs.casesOn (motive := fun _ => PV) R .str .str .none
noncomputable def rsE (R : Rs) : PV := Rs.casesOn (motive := fun _ => PV) R (fun _ => .none) (fun _ => uM) y4
noncomputable def hZ (x : List Nat) (v : Option (List Nat)) : Rs × Nat :=
 Option.casesOn (motive := fun _ => Rs × Nat) v (.fault, cJ x.length x) fun w => List.casesOn (motive := fun _ => Rs × Nat) (x.drop (aK x)) (.ended w, aK x) fun c r =>
  if c = 41 then (.good w, aK x + 1) else (.fault, aK x + cJ (c :: r).length (c :: r))
theorem zca {x : List Nat} {v : Option (List Nat)} {K : PV -> Nat -> PV -> Prop} (h : K (rsV (hZ x v).1) (hZ x v).2 (rsE (hZ x v).1)) : zea x v K := by
 unfold zea
 unfold hZ at h
 cases v with
 | none => exact h
 | some w =>
  dsimp only at h ⊢
  generalize x.drop (aK x) = y at h ⊢
  cases y with
  | nil => exact h
  | cons c r =>
   dsimp only at h ⊢
   by_cases q : c = 41
   ·rw [if_pos q] at h ⊢; exact h
   ·rw [if_neg q] at h ⊢; exact h
noncomputable def zeA (x w : List Nat) (m : Nat) (e : UEnd) : Rs × Nat :=
 UEnd.casesOn (motive := fun _ => Rs × Nat) e (.ended w, m) (.good w, m) ((hZ (x.drop m) (some w)).1, m + (hZ (x.drop m) (some w)).2) ((hZ (x.drop m) none).1, m + (hZ (x.drop m) none).2)
noncomputable def UrlA (x : List Nat) (R : Rs) (n : Nat) : Prop := ∃ w m e, UrlV x w m e /\ zeA x w m e = (R, n)
theorem UrlV.nil {v : List Nat} {n : Nat} {e : UEnd} (h : UrlV [] v n e) : v = [] /\ n = 0 /\ e = .eof := h.d
theorem UrlV.iv_close {r v : List Nat} {n : Nat} {e : UEnd} (h : UrlV (41 :: r) v n e) : v = [] /\ n = 1 /\ e = .close := h.d
theorem UrlV.iv_blank {c : Nat} {r v : List Nat} {n : Nat} {e : UEnd} (h : UrlV (c :: r) v n e) (hb : aR c = true) : v = [] /\ n = 1 /\ e = .blank := by
 have h := h.d
 have h : if c = 41 then _ else _ := h
 rw [if_neg (d8 c hb).1, if_pos hb] at h; exact h
theorem UrlV.iv_esc {r v : List Nat} {n : Nat} {e : UEnd} (h : UrlV (92 :: r) v n e) : [92, 10].isPrefixOf (92 :: r) = false /\ ∃ s w k m, v = s :: w /\ n = m + (k + 1) /\ EscAt r s k /\ UrlV (r.drop k) w m e := h.d
theorem UrlV.iv_bad {c : Nat} {r v : List Nat} {n : Nat} {e : UEnd} (h : UrlV (c :: r) v n e) (hb : tA c = true) : v = [] /\ n = 1 /\ e = .bad := by
 have h := h.d
 have h : if c = 41 then _ else _ := h
 have f := fZ c hb
 rw [if_neg f.1, if_neg (by rw [f.2.1]; decide), if_neg f.2.2, if_pos hb] at h; exact h
theorem UrlV.iv_plain {c : Nat} {r v : List Nat} {n : Nat} {e : UEnd} (h : UrlV (c :: r) v n e) (h1 : c ≠ 41) (h2 : aR c = false) (h3 : c ≠ 92) (h4 : tA c = false) : ∃ w m, v = c :: w /\ n = m + 1 /\ UrlV r w m e := by
 have h := h.d
 have h : if c = 41 then _ else _ := h
 rw [if_neg h1, if_neg (by rw [h2]; decide), if_neg h3, if_neg (by rw [h4]; decide)] at h; exact h
theorem UrlV.len {css v : List Nat} {p n : Nat} {e : UEnd} (h : UrlV (css.drop p) v n e) : v.length <= css.length := Nat.le_trans h.le.2 (Nat.le_trans h.le.1 (by rw [List.length_drop]; exact Nat.sub_le _ _))
theorem zcz {C : Ctx} {κ : Kn} {l r : Expr} {p : Pos} {st : St} {a b : Nat} (M : CtxMono C) (h : ev C κ l st (.int a)) (h' : ev C κ r st (.int b)) : ev C κ (.Compare l [.GtE] [r] p) st (.bool (decide (b <= a))) := bF M h h' (decide_eq_decide.mpr Int.ofNat_le)
theorem oD (c : Nat) : decide ([c] ∈ ([[34], [39]] : List (List Nat))) = (decide (c = 34) || decide (c = 39)) := by
 rw [<- Bool.decide_or]
 exact decide_eq_decide.mpr ⟨fun h => by simpa using h, fun h => by simpa using h⟩
theorem zdG {C : Ctx} {κ : Kn} {x : Str} {p1 p2 p3 p4 p : Pos} {k1 k2 k3 : Nat} {st : St} {c : Nat} (M : CtxMono C) (h : ev C κ (.Name x p1) st (.str [c])) :
  ev C κ (.Compare (.Name x p1) [.In] [.Tuple [.Constant (.str (Str.ofString "\"")) k1 p2, .Constant (.str (Str.ofString "'")) k2 p3] k3 p4] p) st (.bool (decide (c = 34) || decide (c = 39))) :=
 bF (a := .str [c]) M h (bE M (aE M (aC rfl) (aE M (aC rfl) aJ))) ⟨[[34], [39]], by decide +kernel, oD c⟩
theorem zA (p : Params) (css : List Nat) (pos : Nat) (R : Rs) (n : Nat) (K : PV -> Prop) (hx : css.length < 1000000) (ha : Al css) (hp : pos <= css.length)
  (hq : ∀ c r, css.drop (pos + aK (css.drop pos)) = c :: r -> c ≠ 34 /\ c ≠ 39) (hu : UrlA (css.drop (pos + aK (css.drop pos))) R n) (hK : K (.tup [rsV R, .int ((pos + aK (css.drop pos) + n : Nat)), rsE R])) :
  wSs cU (cF (aP (HK p) 670)) (aN (HK p) 670) (kZ K) ⟨bJ [("css", .str css), ("pos", .int pos)] (fun _ => none), fun _ => none⟩ := by
 have M := q8
 have hx2 := Nat.lt_trans hx (show 1000000 < 2000000 by decide)
 have mid := fun (e : Nat) (v : Option (List Nat)) (he : e <= css.length) (st : St) h1 h2 h3 => @zbF p css e v K st hx he h1 h2 h3
 generalize hb : aN (HK p) 670 = bd at mid ⊢
 conv at hb => lhs; whnf
 subst hb
 refine aB (aG M .none (aC rfl) (by kernel_rfl) ?_)
 refine aB (aG M (.int css.length) (kD M (by kernel_rfl!) rfl rfl (by kernel_rfl) (by exact aA (by kernel_rfl!) (by kernel_rfl!))) (by kernel_rfl) ?_)
 refine aB (mL M (by kernel_rfl!) (by kernel_rfl!) (by rw [Ne, sEq]; decide) (by kernel_rfl!) (by kernel_rfl!) hx hp ?_)
 have hle := j6 hp (fY (css.drop pos))
 generalize pos + aK (css.drop pos) = q at hq hu hK hle ⊢
 refine x3 (fun V m E0 => a2 fun hu he => ?_) hu
 refine aB (cY M (decide (css.length <= q)) (bN M (zcz M (by exact aA (by kernel_rfl!) (by kernel_rfl!)) (by exact aA (by kernel_rfl!) (by kernel_rfl!)))) (fun h => ?_) (fun h => ?_))
 ·rw [List.drop_of_length_le (of_decide_eq_true h)] at hu
  have z := hu.nil
  rw [z.1, z.2.1, z.2.2] at he
  cases he
  exact aB (aO M (.tup [.str [], .int q, uM]) (bE M (aE M (aC rfl) (aE M (by exact aA (by kernel_rfl!) (by kernel_rfl!)) (aE M (bE M (aE M (aC rfl) (aE M (aC rfl) aJ))) aJ)))) ⟨_, aS _ _ rfl, hK⟩)
 have hl : q < css.length := Nat.lt_of_not_le (of_decide_eq_false h)
 clear h
 have hd : css.drop q = css[q] :: css.drop (q + 1) := List.drop_eq_getElem_cons hl
 have hqq := hq _ _ hd
 refine aB (aG M (.str [css[q]]) (d6 M rfl (by exact aA (by kernel_rfl!) (by kernel_rfl!)) (by exact aA (by kernel_rfl!) (by kernel_rfl!)) (List.getElem?_eq_getElem hl)) (by kernel_rfl) ?_)
 have hT : q + m <= css.length := j6 hle hu.le.1
 have k1 : E0 = .eof -> K (.tup [.str V, .int ((q + m : Nat)), uM]) := fun e => by rw [e] at he; cases he; exact hK
 have k2 : E0 = .close -> K (.tup [.str V, .int ((q + m : Nat)), .none]) := fun e => by rw [e] at he; cases he; exact hK
 have k3 : ∀ v, (v = some V /\ E0 = .blank) \/ (v = none /\ E0 = .bad) -> zea (css.drop (q + m)) v fun a n b => K (.tup [a, .int ((q + m + n : Nat)), b]) := fun v h => by
  refine zca ?_
  rcases h with ⟨h1, h2⟩ | ⟨h1, h2⟩ <;> (subst h1; rw [h2] at he; cases he; rw [List.drop_drop, <- Nat.add_assoc] at hK; exact hK)
 clear he hK hq
 generalize hTe : q + m = T at hT k1 k2 k3
 let Rr : St -> Prop := fun st => ∃ v : Option (List Nat), dD [("css", .str css), ("length", .int css.length), ("pos", .int T), ("value", optT v), ("error", .none)] st.ρ /\ ((v = some V /\ E0 = .blank) \/ (v = none /\ E0 = .bad))
 have hVl := hu.len
 refine dY M Rr (cY M (decide (css[q] = 34) || decide (css[q] = 39)) (bN M (zdG M (by exact aA (by kernel_rfl!) (by kernel_rfl!)))) (fun h => ?_) (fun h => ?_)) ?_
 ·rw [decide_eq_false hqq.1, decide_eq_false hqq.2] at h; cases h
 ·refine aB (cY M (decide (css[q] = 41)) (bN M (fW M (by exact aA (by kernel_rfl!) (by kernel_rfl!)) (by kernel_rfl))) (fun h4 => ?_) (fun h4 => ?_))
  ·rw [hd, of_decide_eq_true h4] at hu
   have z := hu.iv_close
   have k2 := k2 z.2.2
   rw [z.1, <- hTe, z.2.1] at k2
   exact aB (aO M (.tup [.str [], .int ((q + 1 : Nat)), .none]) (bE M (aE M (aC rfl) (aE M (eF (i := q) (j := 1) M (by exact aA (by kernel_rfl!) (by kernel_rfl!)) (aC rfl)) (aE M (by exact aA (by kernel_rfl!) (by kernel_rfl!)) aJ)))) ⟨_, aS _ _ rfl, k2⟩)
  ·clear h h4 hqq hd mid k3
   refine aB (oB (by kernel_rfl) (by kernel_rfl) fun a _ => ?_)
   refine aB (aG M (.int q) (by exact aA (by kernel_rfl!) (by kernel_rfl!)) (by kernel_rfl) ?_)
   let I : Nat -> St -> Prop := fun n st => ∃ (s e : Nat) (ch : List (List Nat)) (w : List Nat) (k : Nat), n = css.length - e /\ dD [("css", .str css), ("length", .int css.length), ("start_pos", .int s), ("pos", .int e), ("chunks", .ptr a), ("error", .none)] st.ρ /\ st.σ a = some (.lst (ch.map .str)) /\ s <= e /\ e <= css.length /\ ch.length <= 2 * s /\
    UrlV (css.drop e) w k E0 /\ e + k = T /\ ch.flatten ++ (css.drop s).take (e - s) ++ w = V
   refine aB (gY M I ?_ (css.length - q) _ ⟨q, q, [], V, m, rfl, by (show _ = _; first | kernel_rfl! | (rw [<- Nat.add_assoc]; kernel_rfl!) | (rw [<- Nat.add_assoc, <- Nat.add_assoc]; kernel_rfl!)), bB _ _ _, Nat.le_refl _, hle, Nat.zero_le _, hu, hTe, by rw [Nat.sub_self]; rfl⟩)
   refine fun n st => x5 fun s e ch w k => a9 fun hnn h1 h6 h7 h8 h9 hn hT' hw => keepP st h1 ?_
   clear h1
   refine ⟨true, zD M (aC rfl) rfl, fun _ => ?_, fun h => by cases h⟩
   have sl : ∀ ρ, ρ "css" = some (.str css) -> ρ "start_pos" = some (.int s) -> ρ "pos" = some (.int e) -> ∀ σ p1 p2 p3 p4 p5, ev cU (cF (aP (HK p) 670)) (.Subscript (.Name "css" p1) (.Slice (some (.Name "start_pos" p2)) (some (.Name "pos" p3)) none p4) p5) ⟨ρ, σ⟩ (.str ((css.drop s).take (e - s))) := fun ρ g1 g2 g3 σ p1 p2 p3 p4 p5 => zaL M (aA (by kernel_rfl!) g1) (aA (by kernel_rfl!) g2) (aA (by kernel_rfl!) g3) h7 (Nat.lt_of_le_of_lt h8 hx2)
   have vl : V.length <= aQ := Nat.le_trans hVl (Nat.le_trans (Nat.le_of_lt hx) (by decide))
   have cl := yK h9 (Nat.le_trans h7 h8) hx
   refine aB (cY M (decide (css.length <= e)) (bN M (zcz M (by exact aA (by kernel_rfl!) (by kernel_rfl!)) (by exact aA (by kernel_rfl!) (by kernel_rfl!)))) (fun h => ?_) (fun h => ?_))
   ·rw [List.drop_of_length_le (of_decide_eq_true h)] at hn
    have z := hn.nil
    rw [z.1, List.append_nil] at hw
    rw [z.2.1] at hT'
    have k1 := k1 z.2.2
    rw [<- hT'] at k1
    refine aB (b6 M (.str ((css.drop s).take (e - s))) (by kernel_rfl) (by kernel_rfl!) h6 (sl _ (by kernel_rfl!) (by kernel_rfl!) (by kernel_rfl!) _ _ _ _ _ _) rfl cl ?_)
    exact aB (aO M (.tup [.str V, .int e, uM]) (bE M (aE M (nF (a := a) (ch ++ [(css.drop s).take (e - s)]) (by kernel_rfl) (by kernel_rfl!) (by dsimp only; rw [bB, List.map_append]; rfl) (by rw [eE]; exact hw) vl) (aE M (by exact aA (by kernel_rfl!) (by kernel_rfl!)) (aE M (bE M (aE M (aC rfl) (aE M (aC rfl) aJ))) aJ)))) ⟨_, aS _ _ rfl, k1⟩)
   have hc : e < css.length := Nat.lt_of_not_le (of_decide_eq_false h)
   clear h k1
   have hd : css.drop e = css[e] :: css.drop (e + 1) := List.drop_eq_getElem_cons hc
   rw [hd] at hn
   have hac := ha.get hc
   refine aB (aG M (.str [css[e]]) (d6 M rfl (by exact aA (by kernel_rfl!) (by kernel_rfl!)) (by exact aA (by kernel_rfl!) (by kernel_rfl!)) (List.getElem?_eq_getElem hc)) (by kernel_rfl) ?_)
   refine aB (cY M (decide (css[e] = 41)) (bN M (fW M (by exact aA (by kernel_rfl!) (by kernel_rfl!)) (by kernel_rfl))) (fun h4 => ?_) (fun h4 => ?_))
   ·rw [of_decide_eq_true h4] at hn
    have z := hn.iv_close
    rw [z.1, List.append_nil] at hw
    rw [z.2.1] at hT'
    have k2 := k2 z.2.2
    rw [<- hT'] at k2
    refine aB (b6 M (.str ((css.drop s).take (e - s))) (by kernel_rfl) (by kernel_rfl!) h6 (sl _ (by kernel_rfl!) (by kernel_rfl!) (by kernel_rfl!) _ _ _ _ _ _) rfl cl ?_)
    refine aB (fL M (.int e) (.int 1) (by kernel_rfl!) (aC rfl) (by kernel_rfl) (of_eq dP ?_))
    exact aB (aO M (.tup [.str V, .int ((e + 1 : Nat)), .none]) (bE M (aE M (nF (a := a) (ch ++ [(css.drop s).take (e - s)]) (by kernel_rfl) (by kernel_rfl!) (by dsimp only; rw [bB, List.map_append]; rfl) (by rw [eE]; exact hw) vl) (aE M (by exact aA (by kernel_rfl!) (by kernel_rfl!)) (aE M (by exact aA (by kernel_rfl!) (by kernel_rfl!)) aJ)))) ⟨_, aS _ _ rfl, k2⟩)
   clear k2
   have h4 := of_decide_eq_false h4
   refine aB (cY M (aR css[e]) (lO hac ▸ bN M (kE M (by exact aA (by kernel_rfl!) (by kernel_rfl!)))) (fun h5 => ?_) (fun h5 => ?_))
   ·have z := hn.iv_blank h5
    rw [z.1, List.append_nil] at hw
    rw [z.2.1] at hT'
    refine aB (b6 M (.str ((css.drop s).take (e - s))) (by kernel_rfl) (by kernel_rfl!) h6 (sl _ (by kernel_rfl!) (by kernel_rfl!) (by kernel_rfl!) _ _ _ _ _ _) rfl cl ?_)
    refine aB (aG M (.str V) (nF (a := a) (ch ++ [(css.drop s).take (e - s)]) (by kernel_rfl) (by kernel_rfl!) (by dsimp only; rw [bB, List.map_append]; rfl) (by rw [eE]; exact hw) vl) (by kernel_rfl) ?_)
    refine aB (fL M (.int e) (.int 1) (by kernel_rfl!) (aC rfl) (by kernel_rfl) (of_eq dP ?_))
    exact aB (mK ⟨some V, by rw [<- hT']; (show _ = _; first | kernel_rfl! | (rw [<- Nat.add_assoc]; kernel_rfl!) | (rw [<- Nat.add_assoc, <- Nat.add_assoc]; kernel_rfl!)), .inl ⟨rfl, z.2.2⟩⟩)
   refine aB (cY M (decide (css[e] = 92) && !([92, 10].isPrefixOf (css.drop e))) (eM M (bN M (fW M (by exact aA (by kernel_rfl!) (by kernel_rfl!)) (by kernel_rfl))) fun _ => fB (vD M (bN M (m9 (q := Str.ofString "\\\n") M (by exact aA (by kernel_rfl!) (by kernel_rfl!)) (by exact aA (by kernel_rfl!) (by kernel_rfl!)) h8 hx2 rfl)))) (fun hq => ?_) (fun hq => ?_))
   ·rw [of_decide_eq_true (Bool.and_eq_true_iff.mp hq).1] at hn
    refine x4 (fun z w' k' n' => a4 fun hv' hk' he hn' => ?_) hn.iv_esc.2
    rw [List.drop_drop] at hn'
    have le : e + 1 + k' <= css.length := tC hc he.le
    refine aB (b6 M (.str ((css.drop s).take (e - s))) (by kernel_rfl) (by kernel_rfl!) h6 (sl _ (by kernel_rfl!) (by kernel_rfl!) (by kernel_rfl!) _ _ _ _ _ _) rfl cl ?_)
    refine aB (iF M (.str [z]) (.int ((e + 1 + k' : Nat))) (bZ (F := uX) M (by kernel_rfl!) rfl (aE M (v := .str css) (by exact aA (by kernel_rfl!) (by kernel_rfl!)) (aE M (v := .int (e + 1 : Nat)) (eF (i := e) (j := 1) M (by exact aA (by kernel_rfl!) (by kernel_rfl!)) (aC rfl)) aJ)) ⟨css, e + 1, z, k', rfl, hx, ha, hc, he, .inl rfl, rfl⟩) (by kernel_rfl) (by kernel_rfl) ?_)
    refine aB (b6 M (.str [z]) (by kernel_rfl) (by kernel_rfl!) (bB _ _ _) (by exact aA (by kernel_rfl!) (by kernel_rfl!)) rfl (yJ h9 (Nat.le_trans h7 h8) hx) ?_)
    refine aB (aG M (.int ((e + 1 + k' : Nat))) (by exact aA (by kernel_rfl!) (by kernel_rfl!)) (by kernel_rfl) ?_)
    refine ⟨css.length - (e + 1 + k'), hnn ▸ Nat.sub_lt_sub_left hc (Nat.lt_of_lt_of_le (Nat.lt_succ_self e) (Nat.le_add_right _ _)), e + 1 + k', e + 1 + k', ch ++ [(css.drop s).take (e - s)] ++ [[z]], w', n', rfl, by (show _ = _; first | kernel_rfl! | (rw [<- Nat.add_assoc]; kernel_rfl!) | (rw [<- Nat.add_assoc, <- Nat.add_assoc]; kernel_rfl!)), ?_, Nat.le_refl _, le, yI h9 h7, hn', by rw [<- hT', hk']; exact vJ _ _ _, ?_⟩
    ·dsimp only
     rw [vB, bB, List.map_append, List.map_append]; rfl
    ·rw [eE, eE, Nat.sub_self, List.take_zero, List.append_nil, <- hw, hv']
     simp only [List.append_assoc]; rfl
   have h92 : css[e] ≠ 92 := fun e92 => by
    rw [hd, e92] at hq
    rw [e92] at hn
    rw [hn.iv_esc.1] at hq; cases hq
   refine aB (cY M (tA css[e]) (zal hac ▸ bN M (kE M (by exact aA (by kernel_rfl!) (by kernel_rfl!)))) (fun h7' => ?_) (fun h7' => ?_))
   ·have z := hn.iv_bad h7'
    rw [z.2.1] at hT'
    refine aB (aG M .none (aC rfl) (by kernel_rfl) ?_)
    refine aB (fL M (.int e) (.int 1) (by kernel_rfl!) (aC rfl) (by kernel_rfl) (of_eq dP ?_))
    exact aB (mK ⟨none, by rw [<- hT']; (show _ = _; first | kernel_rfl! | (rw [<- Nat.add_assoc]; kernel_rfl!) | (rw [<- Nat.add_assoc, <- Nat.add_assoc]; kernel_rfl!)), .inr ⟨rfl, z.2.2⟩⟩)
   ·refine x2 (fun w' k' => a3 fun hv' hk' hn' => ?_) (hn.iv_plain h4 h5 h92 h7')
    refine aB (fL M (.int e) (.int 1) (by kernel_rfl!) (aC rfl) (by kernel_rfl) (of_eq dP ⟨css.length - (e + 1), hnn ▸ Nat.sub_lt_sub_left hc (Nat.lt_succ_self e), s, e + 1, ch, w', k', rfl, by (show _ = _; first | kernel_rfl! | (rw [<- Nat.add_assoc]; kernel_rfl!) | (rw [<- Nat.add_assoc, <- Nat.add_assoc]; kernel_rfl!)), h6, Nat.le_succ_of_le h7, hc, h9, hn', by rw [<- hT', hk', Nat.add_assoc, Nat.add_comm 1], ?_⟩))
    rw [n5 h7 hc, <- hw, hv']
    simp only [List.append_assoc]; rfl
 ·refine fun st => x1 fun v => a2 fun h1 h2 => ?_
  exact mid T v hT st h1 (k3 v h2) fun w hw => by
   rcases h2 with ⟨h, _⟩ | ⟨h, _⟩
   ·rw [h] at hw; cases hw; exact Nat.lt_of_le_of_lt hVl hx
   ·rw [h] at hw; cases hw
noncomputable def yS : Fn := fun ps K => ∃ (css : List Nat) (pos : Nat) (R : Rs) (n : Nat), ps = [.str css, .int pos] /\ css.length < 1000000 /\ Al css /\ pos <= css.length /\ (∀ c r, css.drop (pos + aK (css.drop pos)) = c :: r -> c ≠ 34 /\ c ≠ 39) /\
 UrlA (css.drop (pos + aK (css.drop pos))) R n /\ K (.tup [rsV R, .int ((pos + aK (css.drop pos) + n : Nat)), rsE R])
theorem uU : bC yS := fun _ _ _ h => e4 fun _ _ _ _ => c6 (h _)
theorem qM (hB : BsOk (bs w.params h mb)) {n : Nat} {a : Addr} (hf : o7 (HK w.params) a = true) : Meets prog w (bs w.params h mb) n (.ref a) yT := by
 obtain ⟨fd, h1, _⟩ := lT hf
 exact ⟨fR hB h1, fun _ _ _ _ _ _ _ _ _ _ _ _ h => h.elim⟩
theorem wR (hB : BsOk (bs w.params h mb)) (hmb : HMb mb) : Meets prog w (bs w.params h mb) 4 (.ref 670) yS := by
 have hC : CtxOk prog w (bs w.params h mb) cU 3 := dG hmb (by simp [gJ, kT]) (by simp) (by simp) (fun e he => by
  simp only [List.mem_cons, List.not_mem_nil, or_false] at he
  rcases he with rfl | rfl
  ·exact ⟨.ref 663, by kernel_rfl, (oQ hB hmb).le (by decide)⟩
  ·exact ⟨.ref 656, by kernel_rfl, qM hB (by kernel_rfl)⟩) (by simp) (by simp)
 refine aX (k := 2) (params := ["css", "pos"]) (dv := []) (dp := []) hB hC (by kernel_rfl) (by kernel_rfl) (by kernel_rfl) rfl (fun _ => .nil) (fun S vals hl => ?_) fun ps K => x4 fun css pos R n => a7 fun h1 h2 h3 h5 h6 h7 h4 => ?_
 ·obtain ⟨a, b, rfl⟩ := gP hl
  kernel_rfl
 ·subst h1
  exact ⟨rfl, zA _ css pos R n K h2 h3 h5 h6 h7 h4⟩
theorem uW : bC yX := fun _ _ _ h => e1 fun _ => c2 fun k y h1 h2 => h _ (k y h1 h2)
noncomputable def cPf : List (String × Fn) := [("_is_ident_start", zec), ("_consume_ident", zed), ("ascii_lower", yU), ("_consume_url", yS), ("serialize_url", yX)]
noncomputable def cPc : List (String × Fn) := [("URLToken", pP), ("ParseError", pQ)]
noncomputable def cP : Ctx := mkC cPf cPc false [] [272, 274, 327, 363, 370, 377, 437, 458, 507]
theorem sW : ∀ e ∈ cPf, bC e.2 := by simp only [cPf, List.mem_cons, List.not_mem_nil, or_false]; rintro e (rfl | rfl | rfl | rfl | rfl); all_goals first | exact yV | exact yW | exact jB | exact uU | exact uW
theorem sV : ∀ e ∈ cPc, bC e.2 := by
 simp only [cPc, List.mem_cons, List.not_mem_nil, or_false]; rintro e (rfl | rfl)
 all_goals first | exact rD | exact rE
theorem eI : CtxMono cP := bI sW sV
noncomputable def nW : List Stmt -> List Stmt
 | (.While _ b _ _) :: _ => b
 | _ :: r => nW r
 | [] => []
noncomputable def yZ : Nat -> List Stmt -> Stmt
 | 0, s :: _ => s
 | n + 1, _ :: r => yZ n r
 | _, [] => .Pass ⟨0, 0, 0, 0⟩
noncomputable def zbx : Nat -> Stmt -> List Stmt
 | 0, .If _ b _ _ => b
 | 0, _ => []
 | n + 1, .If _ _ o _ => match o with
  | [.If t b o p] => zbx n (.If t b o p)
  | o => o
 | _ + 1, _ => []
noncomputable def knP (P : Params) : Kn := cF (aP (HK P) 628)
noncomputable def zar (P : Params) : List Stmt := nW (aN (HK P) 628)
noncomputable def br1 (P : Params) (j : Nat) : List Stmt := zbx j (yZ 5 (zar P))
theorem mI : ∀ (k : Nat) (x : List Nat), cJ k x <= x.length
 | 0, x => Nat.zero_le _
 | k + 1, [] => Nat.le_refl _
 | k + 1, c :: r => by
  show (if [92, 41].isPrefixOf (c :: r) = true then cJ k (r.drop 1) + 2 else if c = 41 then 1 else cJ k r + 1) <= r.length + 1
  split
  ·rename_i h
   obtain ⟨t, rfl⟩ := rU h
   exact Nat.succ_le_succ (Nat.succ_le_succ (mI k t))
  ·split
   ·exact Nat.le_add_left 1 _
   ·exact Nat.succ_le_succ (mI k r)
theorem zdv (x : List Nat) (v : Option (List Nat)) : (hZ x v).2 <= x.length := by
 unfold hZ
 cases v with
 | none => exact mI _ x
 | some w =>
  have hb := fY x
  dsimp only
  cases h : x.drop (aK x) with
  | nil => exact hb
  | cons c r =>
   have hl := congrArg List.length h
   rw [List.length_drop] at hl
   have hs := mI (c :: r).length (c :: r)
   dsimp only
   split
   ·show aK x + 1 <= _
    rw [List.length_cons] at hl; omega
   ·show aK x + cJ _ _ <= _
    omega
theorem wM {x : List Nat} {v : Option (List Nat)} {w : List Nat} (h : (hZ x v).1 = .good w \/ (hZ x v).1 = .ended w) : v = some w := by
 unfold hZ at h
 cases v with
 | none => rcases h with h | h <;> cases h
 | some u =>
  dsimp only at h
  cases hx : x.drop (aK x) with
  | nil => rw [hx] at h; rcases h with h | h <;> cases h; rfl
  | cons c r =>
   rw [hx] at h
   dsimp only at h
   split at h
   ·rcases h with h | h <;> cases h; rfl
   ·rcases h with h | h <;> cases h
theorem UrlA.le {x : List Nat} {R : Rs} {n : Nat} (h : UrlA x R n) : n <= x.length := by
 obtain ⟨w, m, e, h1, h2⟩ := h
 have hm := h1.le.1
 have h3 : ∀ v, m + (hZ (x.drop m) v).2 <= x.length := fun v => by
  have := zdv (x.drop m) v
  rw [List.length_drop] at this; omega
 cases e <;> cases h2
 ·exact hm
 ·exact hm
 ·exact h3 _
 ·exact h3 _
theorem UrlA.val {x : List Nat} {R : Rs} {n : Nat} (h : UrlA x R n) : ∀ w, R = .good w \/ R = .ended w -> w.length <= x.length := by
 obtain ⟨u, m, e, h1, h2⟩ := h
 intro w hw
 have hl := Nat.le_trans h1.le.2 h1.le.1
 cases e <;> cases h2
 ·rcases hw with h | h <;> cases h; exact hl
 ·rcases hw with h | h <;> cases h; exact hl
 ·cases wM hw; exact hl
 ·cases wM hw
inductive Rd : List Nat -> List (Nat × Rs) -> Prop
 | nil : Rd [] []
 | cons (y v : List Nat) (k : Nat) (R : Rs) (n : Nat) (E : List (Nat × Rs)) : b4 y = true -> NameAt y v k -> v.map uZ = [117, 114, 108] -> y[k]? = some 40 -> (∀ c r, (y.drop (k + 1)).drop (aK (y.drop (k + 1))) = c :: r -> c ≠ 34 /\ c ≠ 39) ->
  UrlA ((y.drop (k + 1)).drop (aK (y.drop (k + 1)))) R n -> Rd (y.drop (k + 1 + aK (y.drop (k + 1)) + n)) E -> Rd y ((y.length, R) :: E)
noncomputable def zbG (lc : Nat × Nat) (w rep : List Nat) : PV := .inst 355 [.str rep, .str w, .int lc.2, .int lc.1]
noncomputable def zcC (lc : Nat × Nat) (k m : List Nat) : PV := .inst 104 [.str k, .str m, .int lc.2, .int lc.1]
noncomputable def mB (lc : Nat × Nat) (R : Rs) (rep : List Nat) : List PV :=
 Rs.casesOn (motive := fun _ => List PV) R (fun w => [zbG lc w rep]) (fun w => [zbG lc w rep, zcC lc (lcS "eof-in-url") (lcS "EOF in URL")]) [zcC lc (lcS "bad-url") (lcS "bad URL token")]
theorem zE (lc : Nat × Nat) (R : Rs) (rep : List Nat) : hV (mB lc R rep) = true := by cases R <;> rfl
theorem zbN (lc : Nat × Nat) (R : Rs) (rep : List Nat) : (mB lc R rep).length <= 2 := Rs.casesOn (motive := fun R => (mB lc R rep).length <= 2) R (fun _ => Nat.le_succ 1) (fun _ => Nat.le_refl 2) (Nat.le_succ 1)
theorem o8 : ∀ {x y : List PV}, hV x = true -> hV y = true -> hV (x ++ y) = true
 | [], _, _, h => h
 | a :: x, y, h, k => by
  obtain ⟨h1, h2⟩ := Bool.and_eq_true_iff.mp h
  exact yQ h1 (o8 h2 k)
noncomputable def zcX (css : List Nat) : List (Nat × Rs) -> List PV -> Prop
 | [], R => R = []
 | e :: E, R => ∃ rep R', R = mB (eZ (css.take (css.length - e.1))) e.2 rep ++ R' /\ zcX css E R'
section
variable {κ : Kn} {st : St} {css : List Nat} {i c : Nat} {p0 p1 p2 p3 p4 p5 p6 : Pos}
theorem zex (k1 : κ "_is_ident_start" = some .globalImplicit) (k2 : κ "css" = some .local) (k3 : κ "pos" = some .local) (h1 : st.ρ "css" = some (.str css)) (h2 : st.ρ "pos" = some (.int i)) (hx : css.length < 1000000) (ha : Al css) (hc : css[i]? = some c) :
  ev cP κ (.Call (.Name (Str.ofString "_is_ident_start") p1) [.Name (Str.ofString "css") p2, .Name (Str.ofString "pos") p3] [] p4) st (.bool (b4 (css.drop i))) :=
 bZ (F := zec) eI k1 rfl (aE eI (aA k2 h1) (aE eI (aA k3 h2) aJ)) ⟨css, i, c, rfl, hx, ha, hc, .inl rfl, rfl⟩
theorem zey {v : List Nat} {n : Nat} (k1 : κ "_consume_ident" = some .globalImplicit) (k2 : κ "css" = some .local) (k3 : κ "pos" = some .local) (h1 : st.ρ "css" = some (.str css)) (h2 : st.ρ "pos" = some (.int i)) (hx : css.length < 1000000) (ha : Al css) (hi : i <= css.length) (hv : NameAt (css.drop i) v n) :
  ev cP κ (.Call (.Name (Str.ofString "_consume_ident") p1) [.Name (Str.ofString "css") p2, .Name (Str.ofString "pos") p3] [] p4) st (.tup [.str v, .int (i + n : Nat)]) :=
 bZ (F := zed) eI k1 rfl (aE eI (aA k2 h1) (aE eI (aA k3 h2) aJ)) ⟨css, i, v, n, rfl, hx, ha, hi, hv, .inl rfl, rfl⟩
theorem zcv {C : Ctx} {o : Expr} {p2 p3 p4 p : Pos} {k1 k2 k3 : Nat} {c : Nat} (M : CtxMono C) (h : ev C κ o st (.str [c])) :
  ev C κ (.Compare o [.NotIn] [.Tuple [.Constant (.str (Str.ofString "\"")) k1 p2, .Constant (.str (Str.ofString "'")) k2 p3] k3 p4] p) st (.bool (!(decide (c = 34) || decide (c = 39)))) :=
 bF (a := .str [c]) M h (bE M (aE M (aC rfl) (aE M (aC rfl) aJ))) ⟨[[34], [39]], by decide +kernel, congrArg _ (oD c)⟩
theorem zac {C : Ctx} {t : Expr} {m : Option Expr} {p : Pos} {Q : Fl -> St -> Prop} (M : CtxMono C) (h : tv C κ t st true) (k : Q .next st) : wS C κ (.Assert t m p) Q st :=
 nZ (K := fun c st1 => c = true /\ Q .next st1) M h ⟨rfl, k⟩
theorem zbe {C : Ctx} {x v : Str} {w : List Nat} {k1 k2 : Nat} {p p7 : Pos} {Q : Fl -> St -> Prop} (M : CtxMono C) (hk : κ "serialize_url" = some .globalImplicit) (hf : C.fn "serialize_url" = some yX) (kv : κ v = some .local) (hv : st.ρ v = some (.str w)) (hw : w.length <= 100000) (hs : dX κ x = true)
  (hQ : ∀ y : List Nat, Q .next ⟨upd st.ρ x (.str y), st.σ⟩) :
  wS C κ (.Assign [.Name x p0] (.JoinedStr [.Constant (.str (Str.ofString "url(")) k1 p1, .FormattedValue (.Call (.Name (Str.ofString "serialize_url") p2) [.Name v p3] [] p4) (-1) none p5, .Constant (.str (Str.ofString ")")) k2 p6] p7) p) Q st := by
 have fin : ∀ y : List Nat, eJ C κ [.Name x p0] (.str y) st fun st2 => Q .next st2 := fun y => ⟨bR (bR hs rfl) rfl, hQ y⟩
 refine ⟨Nat.le_succ 2, ?_⟩
 refine aM (e := .Constant (.str (Str.ofString "url(")) k1 p1) M (aC rfl) ⟨by decide, ?_⟩
 refine ⟨rfl, rfl, ?_⟩
 rw [l8]
 refine ⟨rfl, hk, by unfold qP; rw [hf]; rfl, ?_⟩
 rw [f9]
 refine aM M (aA kv hv) ?_
 rw [iV]
 unfold fX
 rw [hf]
 refine ⟨w, rfl, hw, fun y _ hy => ⟨.inl rfl, ?_, ?_⟩⟩
 ·rw [List.length_append]
  have : ([] ++ (Str.ofString "url(").cps.toList).length = 4 := by decide +kernel
  rw [this]
  unfold aQ; omega
 ·refine aM (e := .Constant (.str (Str.ofString ")")) k2 p6) M (aC rfl) ⟨?_, fin _⟩
  rw [List.length_append, List.length_append]
  have e1 : ([] ++ (Str.ofString "url(").cps.toList).length = 4 := by decide +kernel
  have e2 : ((Str.ofString ")").cps.toList).length = 1 := by decide +kernel
  rw [e1, e2]
  unfold aQ; omega
end
noncomputable def LZ (css : List Nat) (root q t l : Nat) (n : Int) : List (Str × PV) := [("css", .str css), ("length", .int css.length), ("pos", .int q), ("token_start_pos", .int t), ("line", .int l), ("last_newline", .int n), ("root", .ptr root), ("tokens", .ptr root)]
noncomputable def LX (css : List Nat) (root p : Nat) (lc : Nat × Nat) (c : Nat) : List (Str × PV) := ("c", .str [c]) :: ("column", .int lc.2) :: LZ css root p p lc.1 ((p : Int) - lc.2)
theorem zaa {κ : Kn} {e : Expr} {a : Nat} {p1 p2 p3 p4 : Pos} {xs : List PV} {Q : Fl -> St -> Prop} {st : St} (M : CtxMono cP) (v : PV) (hk : κ "tokens" = some .local) (hx : st.ρ "tokens" = some (.ptr a)) (hc : st.σ a = some (.lst xs)) (hl : xs.length < aQ) (he : ev cP κ e st v)
  (hr : cK [e] = none) (k : Q .next ⟨st.ρ, bD st.σ a (.lst (xs ++ [v]))⟩) :
  wS cP κ (.Expr (.Call (.Attribute (.Name (Str.ofString "tokens") p1) (Str.ofString "append") p2) [e] [] p3) p4) Q st :=
 b6 M v hk hx hc he hr hl k
theorem zaK {C : Ctx} {κ : Kn} {o u : Expr} {p q : Pos} {st : St} {x : List Nat} {j : Int} (M : CtxMono C) (h : ev C κ o st (.str x)) (hu : ev C κ u st (.int j)) (h0 : -4611686018427387904 < j) (h1 : j < 4611686018427387904) : ev C κ (.Subscript o (.Slice none (some u) none q) p) st (.str (slc x none (some j))) :=
 aM (e := o) M h ⟨rfl, aM (e := u) M hu ⟨h0, h1, rfl, rfl⟩⟩
theorem zcA {C : Ctx} {κ : Kn} {o : Expr} {p1 p2 p q : Pos} {k : Nat} {st : St} {x : List Nat} (M : CtxMono C) (h : ev C κ o st (.str x)) : ev C κ (.Subscript o (.Slice none (some (.UnaryOp .USub (.Constant (.int 1) k p1) p2)) none q) p) st (.str (slc x none (some (-1)))) :=
 zaK M h (xQ (i := 1) M (aC rfl)) (by decide) (by decide)
section
variable {P : Params} {Q : Fl -> St -> Prop} {css : List Nat} {root : Nat} {st : St} {p c k n : Nat} {lc : Nat × Nat} {xs : List PV} {v : List Nat} {R : Rs}
theorem brId (hlen : css.length <= 1000) (ha : Al css) (hlt : p < css.length) (hco : dD (LX css root p lc c) st.ρ) (hcell : st.σ root = some (.lst xs)) (hxl : xs.length <= 2 * p) (hv : NameAt (css.drop p) v k) (hu : v.map uZ = [117, 114, 108]) (h40 : css[p + k]? = some 40)
  (hq : ∀ c r, css.drop (p + k + 1 + aK (css.drop (p + k + 1))) = c :: r -> c ≠ 34 /\ c ≠ 39) (hA : UrlA (css.drop (p + k + 1 + aK (css.drop (p + k + 1)))) R n)
  (hQ : ∀ st' rep, dD (LZ css root (p + k + 1 + aK (css.drop (p + k + 1)) + n) p lc.1 ((p : Int) - lc.2)) st'.ρ -> st'.σ root = some (.lst (xs ++ mB lc R rep)) -> Q .cont st') : wSs cP (knP P) (br1 P 3) Q st := by
 have M := eI
 obtain ⟨ρ, σ⟩ := st
 have hx2 : css.length < 1000000 := Nat.lt_of_le_of_lt hlen (by decide)
 have hx3 := Nat.lt_trans hx2 (show 1000000 < 2000000 by decide)
 refine fE (L := LX css root p lc c) hco ?_
 clear hco
 conv in (br1 _ _) => whnf
 unfold knP
 have hkl : p + k < css.length := xD h40
 have hvl : v.length < 1000000 := Nat.lt_of_le_of_lt (Nat.le_trans hv.le.2 (Nat.le_trans (Nat.le_add_left _ p) (Nat.le_of_lt hkl))) hx2
 have few : xs.length < aQ := Nat.lt_of_le_of_lt hxl (Nat.lt_of_le_of_lt (Nat.mul_le_mul_left 2 (Nat.le_trans (Nat.le_of_lt hlt) hlen)) (by decide))
 have few1 : ∀ t : PV, (xs ++ [t]).length < aQ := fun t => by
  rw [List.length_append]
  exact Nat.lt_of_le_of_lt (Nat.add_le_add (Nat.le_trans hxl (Nat.mul_le_mul_left 2 (Nat.le_trans (Nat.le_of_lt hlt) hlen))) (Nat.le_refl 1)) (by decide)
 have h41 : [40].isPrefixOf (css.drop (p + k)) = true := by
  obtain ⟨hl, e⟩ := List.getElem?_eq_some_iff.mp h40
  rw [List.drop_eq_getElem_cons hl, e]; rfl
 refine aB (iF M (.str v) (.int (p + k : Nat)) (zey (by kernel_rfl!) (by kernel_rfl!) (by kernel_rfl!) (by kernel_rfl!) (by kernel_rfl!) hx2 ha (Nat.le_of_lt hlt) hv) (by kernel_rfl) (by kernel_rfl) ?_)
 refine aB (cY M (!true) (vD M (bN M (h41 ▸ m9 (q := Str.ofString "(") M (by exact aA (by kernel_rfl!) (by kernel_rfl!)) (by exact aA (by kernel_rfl!) (by kernel_rfl!)) (Nat.le_of_lt hkl) hx3 rfl))) (fun h => by cases h) (fun _ => ?_))
 refine aB (fL M (.int (p + k : Nat)) (.int 1) (by kernel_rfl!) (aC rfl) (by kernel_rfl) (of_eq dP ?_))
 refine aB (zej (aB (aG M (.bool true) ?_ (by kernel_rfl) ?_)))
 ·exact (decide_eq_true (p := v.map uZ = (Str.ofString "url").cps.toList) (by rw [show (Str.ofString "url").cps.toList = [117, 114, 108] by decide +kernel]; exact hu)) ▸ jJ (q := "url") M (bZ (F := yU) M (by kernel_rfl!) rfl (aE M (v := .str v) (by exact aA (by kernel_rfl!) (by kernel_rfl!)) aJ) ⟨v, rfl, hvl, .inl rfl, rfl⟩)
 (repeat (first | refine dO ?_ | dsimp only [gA]))
 refine aB (cY M true (bN M (by exact aA (by kernel_rfl!) (by kernel_rfl!))) (fun _ => ?_) (fun h => by cases h))
 refine aB (aG M (.int (p + k + 1 : Nat)) (by exact aA (by kernel_rfl!) (by kernel_rfl!)) (by kernel_rfl) ?_)
 refine aB (mL M (by kernel_rfl!) (by kernel_rfl!) (by rw [Ne, sEq]; decide) (by kernel_rfl!) (by kernel_rfl!) hx2 hkl ?_)
 have hle := j6 (x := css) (n := p + k + 1) hkl (fY (css.drop (p + k + 1)))
 have hR := hA.val
 have hwl : ∀ w, R = .good w \/ R = .ended w -> w.length <= 100000 := fun w h => Nat.le_trans (hR w h) (Nat.le_trans (by rw [List.length_drop]; exact Nat.sub_le _ _) (Nat.le_trans hlen (by decide)))
 have hF : yS [.str css, .int ((p + k + 1 : Nat))] fun r => (([PV.str css, PV.int ((p + k + 1 : Nat))].any oV) = false \/ iY r = true) /\ r = .tup [rsV R, .int ((p + k + 1 + aK (css.drop (p + k + 1)) + n : Nat)), rsE R] := ⟨css, p + k + 1, R, n, rfl, hx2, ha, hkl, hq, hA, .inl rfl, rfl⟩
 generalize p + k + 1 + aK (css.drop (p + k + 1)) = q at hq hA hQ hle hF ⊢
 clear hA hR
 have tt : ∀ {p11 p1 p2 p3 p4 p5 p6 p7 p8 p9 p10 : Pos} {k1 k2 k3 : Nat} {st : St}, st.ρ "css" = some (.str css) -> st.ρ "length" = some (.int css.length) -> st.ρ "url_pos" = some (.int q) ->
   tv cP (cF (aP (HK P) 628)) (.BoolOp .Or [.Compare (.Name (Str.ofString "url_pos") p1) [.GtE] [.Name (Str.ofString "length") p2] p3, .Compare (.Subscript (.Name (Str.ofString "css") p4) (.Name (Str.ofString "url_pos") p5) p6) [.NotIn] [.Tuple [.Constant (.str (Str.ofString "\"")) k1 p7, .Constant (.str (Str.ofString "'")) k2 p8] k3 p9] p10] p11) st true := by
  intro p11 p1 p2 p3 p4 p5 p6 p7 p8 p9 p10 k1 k2 k3 st g1 g2 g3
  rw [show true = (decide (css.length <= q) || true) from (Bool.or_true _).symm]
  refine zbH M (bN M (zcz M (aA (by kernel_rfl!) g3) (aA (by kernel_rfl!) g2))) fun h => fB ?_
  have hl := Nat.lt_of_not_le (of_decide_eq_false h)
  refine a2 (fun e1 e2 => ?_) (hq _ _ (List.drop_eq_getElem_cons hl))
  have h2 := bN M (zcv (κ := cF (aP (HK P) 628)) (p := p10) (p2 := p7) (p3 := p8) (p4 := p9) (k1 := k1) (k2 := k2) (k3 := k3) M (d6 (p := p6) M rfl (aA (κ := cF (aP (HK P) 628)) (p := p4) (by kernel_rfl!) g1) (aA (p := p5) (by kernel_rfl!) g3) (List.getElem?_eq_getElem hl)))
  rw [decide_eq_false e1, decide_eq_false e2] at h2
  exact h2
 refine aB (cY M true (tt (by kernel_rfl!) (by kernel_rfl!) (by kernel_rfl!)) (fun _ => ?_) (fun h => by cases h))
 clear tt
 refine aB (v5 M (rsV R) (.int (q + n : Nat)) (rsE R) (bZ (F := yS) M (by kernel_rfl!) rfl (aE M (v := .str css) (by exact aA (by kernel_rfl!) (by kernel_rfl!)) (aE M (v := .int (p + k + 1 : Nat)) (by exact aA (by kernel_rfl!) (by kernel_rfl!)) aJ)) hF) (by kernel_rfl) (by kernel_rfl) (by kernel_rfl) ?_)
 clear hF hq hu hv h40 h41
 cases R with
 | good w =>
  have hw := hwl w (.inl rfl)
  refine aB (cY M true (bN M (bF (a := .str w) (b := .none) M (by exact aA (by kernel_rfl!) (by kernel_rfl!)) (aC rfl) rfl)) (fun _ => ?_) (fun h => by cases h))
  refine aB (zbe M (by kernel_rfl!) rfl (by kernel_rfl!) (by kernel_rfl!) hw (by kernel_rfl) fun y => ?_)
  refine aB (cY M false (bN M (bF (a := .none) (b := .none) M (by exact aA (by kernel_rfl!) (by kernel_rfl!)) (aC rfl) rfl)) (fun h => by cases h) (fun _ => ?_))
  (repeat (first | refine dO ?_ | dsimp only [gA]))
  refine aB (zaa M (zbG lc w y) (by kernel_rfl) (by kernel_rfl!) hcell few (sP (F := pP) M (by kernel_rfl!) rfl rfl (aE M (v := .int lc.1) (by exact aA (by kernel_rfl!) (by kernel_rfl!)) (aE M (v := .int lc.2) (by exact aA (by kernel_rfl!) (by kernel_rfl!)) (aE M (v := .str w) (by exact aA (by kernel_rfl!) (by kernel_rfl!)) (aE M (v := .str y) (by exact aA (by kernel_rfl!) (by kernel_rfl!)) aJ)))) ⟨_, _, _, _, rfl, rfl⟩) rfl ?_)
  (repeat (first | refine dO ?_ | dsimp only [gA]))
  refine aB (cY M false (bN M (bF (a := .none) (b := .none) M (by exact aA (by kernel_rfl!) (by kernel_rfl!)) (aC rfl) rfl)) (fun h => by cases h) (fun _ => ?_))
  (repeat (first | refine dO ?_ | dsimp only [gA]))
  exact aB (i0 (hQ _ y (by (show _ = _; first | kernel_rfl! | (rw [<- Nat.add_assoc]; kernel_rfl!) | (rw [<- Nat.add_assoc, <- Nat.add_assoc]; kernel_rfl!))) (bB _ _ _)))
 | ended w =>
  have hw := hwl w (.inr rfl)
  refine aB (cY M true (bN M (bF (a := .str w) (b := .none) M (by exact aA (by kernel_rfl!) (by kernel_rfl!)) (aC rfl) rfl)) (fun _ => ?_) (fun h => by cases h))
  refine aB (zbe M (by kernel_rfl!) rfl (by kernel_rfl!) (by kernel_rfl!) hw (by kernel_rfl) fun y => ?_)
  refine aB (cY M true (bN M (bF (a := uM) (b := .none) M (by exact aA (by kernel_rfl!) (by kernel_rfl!)) (aC rfl) rfl)) (fun _ => ?_) (fun h => by cases h))
  refine aB (aG M (.str (lcS "eof-in-url")) (kF (a := uM) (b := .int 0) M rfl (by exact aA (by kernel_rfl!) (by kernel_rfl!)) (aC rfl) rfl) (by kernel_rfl) ?_)
  refine aB (cY M false ((show decide (lcS "eof-in-url" = (Str.ofString "eof-in-string").cps.toList) = false by decide +kernel) ▸ bN M (jJ (q := "eof-in-string") M (by exact aA (by kernel_rfl!) (by kernel_rfl!)))) (fun h => by cases h) (fun _ => ?_))
  refine aB (zac M ((show decide (lcS "eof-in-url" = (Str.ofString "eof-in-url").cps.toList) = true by decide +kernel) ▸ bN M (jJ (q := "eof-in-url") M (by exact aA (by kernel_rfl!) (by kernel_rfl!)))) ?_)
  refine aB (aG M (.str (slc y none (some (-1)))) (zcA M (by exact aA (by kernel_rfl!) (by kernel_rfl!))) (by kernel_rfl) ?_)
  generalize slc y none (some (-1)) = z
  (repeat (first | refine dO ?_ | dsimp only [gA]))
  refine aB (zaa M (zbG lc w z) (by kernel_rfl) (by kernel_rfl!) hcell few (sP (F := pP) M (by kernel_rfl!) rfl rfl (aE M (v := .int lc.1) (by exact aA (by kernel_rfl!) (by kernel_rfl!)) (aE M (v := .int lc.2) (by exact aA (by kernel_rfl!) (by kernel_rfl!)) (aE M (v := .str w) (by exact aA (by kernel_rfl!) (by kernel_rfl!)) (aE M (v := .str z) (by exact aA (by kernel_rfl!) (by kernel_rfl!)) aJ)))) ⟨_, _, _, _, rfl, rfl⟩) rfl ?_)
  (repeat (first | refine dO ?_ | dsimp only [gA]))
  refine aB (cY M true (bN M (bF (a := uM) (b := .none) M (by exact aA (by kernel_rfl!) (by kernel_rfl!)) (aC rfl) rfl)) (fun _ => ?_) (fun h => by cases h))
  refine aB (zaa M (zcC lc (lcS "eof-in-url") (lcS "EOF in URL")) (by kernel_rfl) (by kernel_rfl!) (bB _ _ _) (few1 _) (sP (F := pQ) M (by kernel_rfl!) rfl rfl (aE M (v := .int lc.1) (by exact aA (by kernel_rfl!) (by kernel_rfl!)) (aE M (v := .int lc.2) (by exact aA (by kernel_rfl!) (by kernel_rfl!)) (aE M (v := .str (lcS "eof-in-url")) (kF (a := uM) (b := .int 0) M rfl (by exact aA (by kernel_rfl!) (by kernel_rfl!)) (aC rfl) rfl) (aE M (v := .str (lcS "EOF in URL")) (kF (a := uM) (b := .int 1) M rfl (by exact aA (by kernel_rfl!) (by kernel_rfl!)) (aC rfl) rfl) aJ)))) ⟨_, _, _, _, rfl, rfl⟩) rfl ?_)
  (repeat (first | refine dO ?_ | dsimp only [gA]))
  exact aB (i0 (hQ _ z (by (show _ = _; first | kernel_rfl! | (rw [<- Nat.add_assoc]; kernel_rfl!) | (rw [<- Nat.add_assoc, <- Nat.add_assoc]; kernel_rfl!))) (by dsimp only; rw [bB, List.append_assoc]; rfl)))
 | fault =>
  refine aB (cY M false (bN M (bF (a := .none) (b := .none) M (by exact aA (by kernel_rfl!) (by kernel_rfl!)) (aC rfl) rfl)) (fun h => by cases h) (fun _ => ?_))
  (repeat (first | refine dO ?_ | dsimp only [gA]))
  refine aB (cY M true (bN M (bF (a := y4) (b := .none) M (by exact aA (by kernel_rfl!) (by kernel_rfl!)) (aC rfl) rfl)) (fun _ => ?_) (fun h => by cases h))
  refine aB (zaa M (zcC lc (lcS "bad-url") (lcS "bad URL token")) (by kernel_rfl) (by kernel_rfl!) hcell few (sP (F := pQ) M (by kernel_rfl!) rfl rfl (aE M (v := .int lc.1) (by exact aA (by kernel_rfl!) (by kernel_rfl!)) (aE M (v := .int lc.2) (by exact aA (by kernel_rfl!) (by kernel_rfl!)) (aE M (v := .str (lcS "bad-url")) (kF (a := y4) (b := .int 0) M rfl (by exact aA (by kernel_rfl!) (by kernel_rfl!)) (aC rfl) rfl) (aE M (v := .str (lcS "bad URL token")) (kF (a := y4) (b := .int 1) M rfl (by exact aA (by kernel_rfl!) (by kernel_rfl!)) (aC rfl) rfl) aJ)))) ⟨_, _, _, _, rfl, rfl⟩) rfl ?_)
  (repeat (first | refine dO ?_ | dsimp only [gA]))
  exact aB (i0 (hQ _ [] (by (show _ = _; first | kernel_rfl! | (rw [<- Nat.add_assoc]; kernel_rfl!) | (rw [<- Nat.add_assoc, <- Nat.add_assoc]; kernel_rfl!))) (bB _ _ _)))
end
theorem qQ {c : Nat} {r : List Nat} (h : b4 (c :: r) = true) : aR c = false := by
 cases hb : aR c with
 | false => rfl
 | true =>
  have : c = 32 \/ c = 10 \/ c = 9 := by simpa [aR, or_assoc] using hb
  rcases this with rfl | rfl | rfl <;> cases h
theorem zdL {C : Ctx} {κ : Kn} {l : Expr} {q : Str} {k : Nat} {p p' : Pos} {st : St} {c d : Nat} (M : CtxMono C) (hc : c ≠ d) (h : ev C κ l st (.str [c])) (hq : q.cps.toList = [d]) : ev C κ (.Compare l [.Eq] [.Constant (.str q) k p] p') st (.bool false) :=
 decide_eq_false hc ▸ fW M h hq
theorem zb3 {q x : List Nat} {k : Nat} (ha : Al x) (hk : k ∈ q) (hn : gN k = false) : q.isPrefixOf x = false := by
 cases h : q.isPrefixOf x with
 | false => rfl
 | true => have := ha k ((List.isPrefixOf_iff_prefix.mp h).subset hk); rw [hn] at this; cases this
theorem zdX (a b : Bool) : (a && (b && (false && false))) = false := by cases a <;> cases b <;> rfl
section
variable {P : Params} {Q : Fl -> St -> Prop} {css : List Nat} {root : Nat} {st : St} {p c k n : Nat} {r : List Nat} {lc : Nat × Nat} {xs : List PV} {v : List Nat} {R : Rs} {s0 : Nat -> Option Cell}
theorem zdP (hlen : css.length <= 1000) (ha : Al css) (hat : css[p]? = some c) (hd : css.drop p = c :: r) (hco : dD (LX css root p lc c) st.ρ) (hi : b4 (c :: r) = true) (hB : ∀ st : St, dD (LX css root p lc c) st.ρ -> st.σ = s0 -> wSs cP (knP P) (br1 P 3) Q st) (hs : st.σ = s0) :
  wS cP (knP P) (yZ 5 (zar P)) Q st := by
 have M := eI
 have hx2 : css.length < 1000000 := Nat.lt_of_le_of_lt hlen (by decide)
 have hlt := xD hat
 have hB := hB ⟨bJ (LX css root p lc c) st.ρ, st.σ⟩ (by rw [<- bA _ hco]; exact hco) hs
 refine zes hco ?_
 have hac := ha.at hat
 conv in (yZ _ _) => whnf
 unfold knP at hB ⊢
 refine cY M false (qQ hi ▸ lO hac ▸ bN M (kE M (by exact aA (by kernel_rfl!) (by kernel_rfl!)))) (fun h => by cases h) (fun h1 => ?_)
 refine aB (cY M (decide (c ∈ (Str.ofString "Uu").cps.toList) && (decide (p + 2 < css.length) && (false && false))) (eM M (bN M (kE M (by exact aA (by kernel_rfl!) (by kernel_rfl!)))) fun _ => eM M (bN M (jN (a := p + 2) M (eF (i := p) (j := 2) M (by exact aA (by kernel_rfl!) (by kernel_rfl!)) (aC rfl)) (by exact aA (by kernel_rfl!) (by kernel_rfl!)))) fun h2 => eM M (bN M ?_) fun h => by cases h) (fun h2 => by rw [zdX] at h2; cases h2) (fun h2 => ?_))
 ·have hl : p + 1 < css.length := Nat.lt_of_succ_lt (of_decide_eq_true h2)
  exact zdL (d := 43) M (fun e => by have := ha.get hl; rw [e] at this; cases this) (d6 (n := p + 1) M rfl (by exact aA (by kernel_rfl!) (by kernel_rfl!)) (eF (i := p) (j := 1) M (by exact aA (by kernel_rfl!) (by kernel_rfl!)) (aC rfl)) (List.getElem?_eq_getElem hl)) (by kernel_rfl)
 have h3 : [45, 45, 62].isPrefixOf (css.drop p) = false := zb3 (k := 62) (ha.drop p) (by decide) (by decide)
 refine aB (cY M false (h3 ▸ bN M (m9 (q := Str.ofString "-->") M (by exact aA (by kernel_rfl!) (by kernel_rfl!)) (by exact aA (by kernel_rfl!) (by kernel_rfl!)) (Nat.le_of_lt hlt) (Nat.lt_trans hx2 (by decide)) rfl)) (fun h3 => by cases h3) (fun h3 => ?_))
 exact aB (cY M true (hi ▸ hd ▸ bN M (zex (by kernel_rfl!) (by kernel_rfl!) (by kernel_rfl!) (by kernel_rfl!) (by kernel_rfl!) hx2 ha hat)) (fun _ => hB) (fun h => by cases h))
end
theorem nB {C : Ctx} {κ : Kn} {o : Expr} {p q : Str} {x y : List Nat} {k1 k2 : Nat} {p1 p2 p3 p4 : Pos} {st : St} (M : CtxMono C) (h : ev C κ o st (.str x)) (hl : x.length <= 1000000) (hp : p.cps.toList ≠ []) (hq : q.cps.toList.length = 1) (hpq : p ≠ q) (hy : iI p.cps.toList q.cps.toList x = y) :
  ev C κ (.Call (.Attribute o (Str.ofString "replace") p1) [.Constant (.str p) k1 p2, .Constant (.str q) k2 p3] [] p4) st (.str y) :=
 ⟨rfl, aM (e := o) M h ⟨rfl, hl, hp, hq, hpq, congrArg _ hy, rfl⟩⟩
theorem qH {σ : Nat -> Option Cell} {x : List Nat} {c : Nat} {i j : Int} {K : PV -> (Nat -> Option Cell) -> Prop} : iN σ "rfind" (.str x) [.str [c], .int i, .int j] K = okI i (okI j (K (.int (eO c x i.toNat j.toNat)) σ)) := by kernel_rfl
theorem qI {σ : Nat -> Option Cell} {x : List Nat} {c : Nat} {i j : Int} {K : PV -> (Nat -> Option Cell) -> Prop} : iN σ "count" (.str x) [.str [c], .int i, .int j] K = okI i (okI j (K (.int ((((x.take j.toNat).drop i.toNat).count c : Nat) : Int)) σ)) := by kernel_rfl
theorem Rd.iv {x : List Nat} {E : List (Nat × Rs)} (h : Rd x E) : (x = [] /\ E = []) \/ ∃ (v : List Nat) (k : Nat) (R : Rs) (n : Nat) (E' : List (Nat × Rs)), E = (x.length, R) :: E' /\ b4 x = true /\ NameAt x v k /\ v.map uZ = [117, 114, 108] /\ x[k]? = some 40 /\ (∀ c r, (x.drop (k + 1)).drop (aK (x.drop (k + 1))) = c :: r -> c ≠ 34 /\ c ≠ 39) /\
  UrlA ((x.drop (k + 1)).drop (aK (x.drop (k + 1)))) R n /\ Rd (x.drop (k + 1 + aK (x.drop (k + 1)) + n)) E' := by
 cases h with
 | nil => exact .inl ⟨rfl, rfl⟩
 | cons _ v k R n E h1 h2 h3 h4 h5 h6 h7 => exact .inr ⟨v, k, R, n, E, rfl, h1, h2, h3, h4, h5, h6, h7⟩
noncomputable def Inv (css : List Nat) (root : Nat) (K : PV -> Prop) (n : Nat) (st : St) : Prop :=
 ∃ (p t : Nat) (xs : List PV) (E : List (Nat × Rs)), n = css.length - p /\ t <= p /\ p <= css.length /\ dD (LZ css root p t (eZ (css.take t)).1 ((t : Int) - (eZ (css.take t)).2)) st.ρ /\ st.σ root = some (.lst xs) /\ xs.length <= 2 * p /\ hV xs = true /\ Rd (css.drop p) E /\ ∀ R', zcX css E R' -> K (.list (xs ++ R'))
theorem q1 {p a n : Nat} (h : p < a) (h2 : p + n <= a) (h3 : 1 <= n) : a - (p + n) < a - p := by omega
theorem q2 {x t p n : Nat} (h : x <= 2 * p) (h2 : t <= 2) (h3 : 1 <= n) : x + t <= 2 * (p + n) := by omega
theorem q3 {p k b n : Nat} : p + k + 1 + b + n = p + (k + 1 + b + n) := by omega
theorem q5 {p k b n l : Nat} (h : n <= l - (p + k + 1 + b)) (h2 : b <= l - (p + k + 1)) (h3 : p + k < l) : p + (k + 1 + b + n) <= l := by omega
theorem q4 {k b n : Nat} : 1 <= k + 1 + b + n := by omega
section
variable {P : Params} {Q : Fl -> St -> Prop} {css : List Nat} {root : Nat} {st : St} {p t : Nat} {xs : List PV} {E : List (Nat × Rs)} {K : PV -> Prop}
theorem vE (hlen : css.length <= 1000) (ha : Al css) (htp : t <= p) (hlt : p < css.length) (hcore : dD (LZ css root p t (eZ (css.take t)).1 ((t : Int) - (eZ (css.take t)).2)) st.ρ)
  (hcell : st.σ root = some (.lst xs)) (hxl : xs.length <= 2 * p) (hfl : hV xs = true) (hE : Rd (css.drop p) E) (hK : ∀ R', zcX css E R' -> K (.list (xs ++ R')))
  (hC : ∀ st', (∃ m, m < css.length - p /\ Inv css root K m st') -> Q .cont st') : wSs cP (knP P) (zar P) Q st := by
 have M := eI
 have hx2 : css.length < 1000000 := Nat.lt_of_le_of_lt hlen (by decide)
 have lt62 : ∀ {i}, i <= css.length -> i < 2000000 := fun h => Nat.lt_of_le_of_lt h (Nat.lt_trans hx2 (by decide))
 obtain ⟨ρ, σ⟩ := st
 refine fE (L := LZ css root p t (eZ (css.take t)).1 ((t : Int) - (eZ (css.take t)).2)) hcore ?_
 clear hcore
 have hg : css[p]? = some css[p] := List.getElem?_eq_getElem hlt
 have hd : css.drop p = css[p] :: css.drop (p + 1) := List.drop_eq_getElem_cons hlt
 have hnl := r7 (css := css) (t := t) (p - t) (by rw [Nat.add_sub_cancel' htp]; exact Nat.le_of_lt hlt)
 rw [Nat.add_sub_cancel' htp] at hnl
 generalize eZ (css.take t) = lt at hnl ⊢
 generalize hLp : eZ (css.take p) = lp at hnl
 conv in (zar _) => whnf
 unfold knP
 refine aB (aG M (.int (eO 10 css t p)) (nC M (by exact aA (by kernel_rfl!) (by kernel_rfl!)) (aE M (v := .str [10]) (aC rfl) (aE M (v := .int t) (by exact aA (by kernel_rfl!) (by kernel_rfl!)) (aE M (v := .int p) (by exact aA (by kernel_rfl!) (by kernel_rfl!)) aJ))) rfl (by kernel_rfl) (of_eq qH ⟨Int.natCast_nonneg t, y1 (lt62 (Nat.le_trans htp (Nat.le_of_lt hlt))), Int.natCast_nonneg p, y1 (lt62 (Nat.le_of_lt hlt)), rfl, rfl⟩)) (by kernel_rfl) ?_)
 refine dY M (fun st1 => st1.σ = σ /\ dD (LZ css root p t lp.1 ((p : Int) - lp.2)) st1.ρ)
  (cY M (!decide (eO 10 css t p = -1)) (bN M (bF (a := .int (eO 10 css t p)) (b := .int (-1)) M (by exact aA (by kernel_rfl!) (by kernel_rfl!)) (xQ M (aC rfl)) rfl)) (fun h => ?_) (fun h => ?_)) ?_
 ·rcases hnl with ⟨h1, _⟩ | ⟨k, h1, h2, h3⟩
  ·rw [h1] at h; cases h
  ·have hk : k <= css.length := Nat.le_trans (h3 ▸ Nat.le_add_right k lp.2) (Nat.le_of_lt hlt)
   rw [h1, h2, show (p : Int) - lp.2 = k by rw [<- h3]; show ((k : Int) + (lp.2 : Int)) - lp.2 = k; exact Int.add_sub_cancel _ _]
   refine aB (fL M (.int lt.1) (.int (1 + (((css.take k).drop t).count 10 : Nat))) (by kernel_rfl!) (eF (i := 1) M (aC rfl) (nC M (by exact aA (by kernel_rfl!) (by kernel_rfl!)) (aE M (v := .str [10]) (aC rfl) (aE M (v := .int t) (by exact aA (by kernel_rfl!) (by kernel_rfl!)) (aE M (v := .int k) (by exact aA (by kernel_rfl!) (by kernel_rfl!)) aJ))) rfl (by kernel_rfl) (of_eq qI ⟨Int.natCast_nonneg t, y1 (lt62 (Nat.le_trans htp (Nat.le_of_lt hlt))), Int.natCast_nonneg k, y1 (lt62 hk), rfl, rfl⟩))) (by kernel_rfl) (of_eq dP ?_))
   exact aB (aG M (.int k) (by exact aA (by kernel_rfl!) (by kernel_rfl!)) (by kernel_rfl) ⟨rfl, by (show _ = _; first | kernel_rfl! | (rw [<- Nat.add_assoc]; kernel_rfl!) | (rw [<- Nat.add_assoc, <- Nat.add_assoc]; kernel_rfl!))⟩)
 ·rcases hnl with ⟨h1, h2, h3⟩ | ⟨k, h1, h2, h3⟩
  ·rw [h2, h3, show (p : Int) - ((lt.2 + (p - t) : Nat) : Int) = (t : Int) - lt.2 by omega]
   exact ⟨rfl, by (show _ = _; first | kernel_rfl! | (rw [<- Nat.add_assoc]; kernel_rfl!) | (rw [<- Nat.add_assoc, <- Nat.add_assoc]; kernel_rfl!))⟩
  ·rw [h1] at h; cases h
 ·clear hnl
  rintro ⟨ρ1, σ1⟩ ⟨hσ, hco⟩
  cases hσ
  refine fE (L := LZ css root p t lp.1 ((p : Int) - lp.2)) hco ?_
  clear hco
  refine aB (aG M (.int ((p : Int) - ((p : Int) - lp.2))) (zbn (i := p) (j := (p : Int) - lp.2) M (by exact aA (by kernel_rfl!) (by kernel_rfl!)) (by exact aA (by kernel_rfl!) (by kernel_rfl!))) (by kernel_rfl) ?_)
  rw [show (p : Int) - ((p : Int) - lp.2) = lp.2 from Int.sub_sub_self _ _]
  refine aB (aG M (.int p) (by exact aA (by kernel_rfl!) (by kernel_rfl!)) (by kernel_rfl) ?_)
  refine aB (aG M (.str [css[p]]) (d6 M rfl (by exact aA (by kernel_rfl!) (by kernel_rfl!)) (by exact aA (by kernel_rfl!) (by kernel_rfl!)) hg) (by kernel_rfl) ?_)
  refine (hE.iv).elim (fun h => by rw [hd] at h; cases h.1) (x5 fun v k R n E' => a8 fun e1 e2 e3 e4 e5 e6 e7 e8 => ?_)
  rw [hd] at e2
  rw [List.getElem?_drop] at e5
  simp only [List.drop_drop] at e6 e7 e8
  rw [show p + (k + 1) = p + k + 1 from rfl] at e6 e7 e8
  have hle := e7.le
  rw [List.length_drop] at hle
  have hbl := fY (css.drop (p + k + 1))
  rw [List.length_drop] at hbl
  have hpl : p + (k + 1 + aK (css.drop (p + k + 1)) + n) <= css.length := q5 hle hbl (xD e5)
  have htold : ∀ rep R', zcX css E' R' -> K (.list (xs ++ (mB lp R rep ++ R'))) := fun rep R' h => hK _ (by
   rw [e1]
   refine ⟨rep, R', ?_, h⟩
   rw [List.length_drop, Nat.sub_sub_self (Nat.le_of_lt hlt), hLp])
  clear hle hbl hK hE
  refine aB (zdP (P := P) (root := root) (s0 := σ1) (lc := lp) (c := css[p]) (r := css.drop (p + 1)) hlen ha hg hd (by (show _ = _; first | kernel_rfl! | (rw [<- Nat.add_assoc]; kernel_rfl!) | (rw [<- Nat.add_assoc, <- Nat.add_assoc]; kernel_rfl!))) e2 (fun st2 h2 hs2 => brId (P := P) (v := v) (k := k) (n := n) (R := R) (lc := lp) (c := css[p]) (xs := xs) (p := p) hlen ha hlt h2 (by rw [hs2]; exact hcell) hxl e3 e4 e5 e6 e7 fun st' rep h3 h4 => hC st' ?_) rfl)
  rw [q3] at h3
  generalize hm : k + 1 + aK (css.drop (p + k + 1)) + n = m at h3 hpl e8
  have hm1 : 1 <= m := hm ▸ q4
  refine ⟨css.length - (p + m), q1 hlt hpl hm1, p + m, p, xs ++ mB lp R rep, E', rfl, Nat.le_add_right _ _, hpl, ?_, h4, ?_, o8 hfl (zE _ _ _), e8, fun R' h => by rw [List.append_assoc]; exact htold rep R' h⟩
  ·rw [hLp]; exact h3
  ·rw [List.length_append]; exact q2 hxl (zbN _ _ _) hm1
end
noncomputable def zc0 (x css : List Nat) : Prop := ∃ a b c, iI [0] [65533] x = a /\ iI [13, 10] [10] a = b /\ iI [13] [10] b = c /\ iI [12] [10] c = css /\ a.length <= 1000 /\ b.length <= 1000 /\ c.length <= 1000
theorem tS (P : Params) (x css : List Nat) (E : List (Nat × Rs)) (K : PV -> Prop) (hx : x.length <= 1000) (hm : zc0 x css) (hc : css.length <= 1000) (ha : Al css) (hE : Rd css E) (hK : ∀ R, zcX css E R -> K (.list R)) :
  wSs cP (cF (aP (HK P) 628)) (aN (HK P) 628) (kZ K) ⟨bJ [("css", .str x), ("skip_comments", .bool false)] (fun _ => none), fun _ => none⟩ := by
 have M := eI
 have tb := @vE P
 conv in (aN _ _) => whnf
 refine aB (aG M (.str css) ?_ (by kernel_rfl) ?_)
 ·obtain ⟨a, b, c, h1, h2, h3, h4, l1, l2, l3⟩ := hm
  have le : ∀ {n : Nat}, n <= 1000 -> n <= 1000000 := fun h => Nat.le_trans h (by decide)
  exact nB M (nB M (nB M (nB M (aA (by kernel_rfl!) (by kernel_rfl!)) (le hx) (by decide +kernel) (by kernel_rfl) (by decide +kernel) h1) (le l1) (by decide +kernel) (by kernel_rfl) (by decide +kernel) h2) (le l2) (by decide +kernel) (by kernel_rfl) (by decide +kernel) h3) (le l3) (by decide +kernel) (by kernel_rfl) (by decide +kernel) h4
 clear hm
 refine aB (aG M (.int css.length) (kD M (by kernel_rfl!) rfl rfl (by kernel_rfl) (by exact aA (by kernel_rfl!) (by kernel_rfl!))) (by kernel_rfl) ?_)
 refine aB (mM M (.int ((0 : Nat) : Int)) (aC rfl) (by kernel_rfl) (by kernel_rfl) ?_)
 refine aB (aG M (.int ((1 : Nat) : Int)) (aC rfl) (by kernel_rfl) ?_)
 refine aB (aG M (.int (-1)) (xQ M (aC rfl)) (by kernel_rfl) ?_)
 refine aB (zbY (by rfl) (by kernel_rfl) (by kernel_rfl) fun a hna => ?_)
 refine aB (aG M .none (aC rfl) (by kernel_rfl) ?_)
 refine aB (oB (by rfl) (by kernel_rfl) fun b hb => ?_)
 have hab : a ≠ b := fun q => by
  subst q
  dsimp only at hb
  rw [bB] at hb; cases hb
 refine dY M (fun st => dD [("root", .ptr a)] st.ρ /\ ∃ xs, st.σ a = some (.lst xs) /\ hV xs = true /\ K (.list xs))
  (gY M (fun n st => Inv css a K n st) ?_ (css.length - 0) _ ⟨0, 0, [], E, rfl, Nat.le_refl _, Nat.zero_le _, by (show _ = _; first | kernel_rfl! | (rw [<- Nat.add_assoc]; kernel_rfl!) | (rw [<- Nat.add_assoc, <- Nat.add_assoc]; kernel_rfl!)), ?_, Nat.le_refl _, rfl, hE, hK⟩) ?_
 ·rintro n ⟨ρ, σ⟩ ⟨p, t, xs, E', rfl, htp, hp, hcore, h1, h2, h3, hE, hk⟩
  refine ⟨decide (p < css.length), ?_, fun hc' => ?_, fun hc' => ?_⟩
  ·rw [show ρ = bJ _ ρ from bA _ hcore]
   exact bN M (jN M (by exact aA (by kernel_rfl!) (by kernel_rfl!)) (by exact aA (by kernel_rfl!) (by kernel_rfl!)))
  ·exact tb hc ha htp (of_decide_eq_true hc') hcore h1 h2 h3 hE hk (fun st' h => h)
  ·rw [List.drop_of_length_le (Nat.le_of_not_lt (of_decide_eq_false hc'))] at hE
   have hE0 : E' = [] := hE.iv.elim (fun h => h.2) (x5 fun v k R n E1 => a8 fun e1 e2 _ _ _ _ _ _ => by cases e2)
   have hk := hk [] (by rw [hE0]; rfl)
   rw [List.append_nil] at hk
   refine ⟨?_, xs, h1, h3, hk⟩
   show dD _ ρ
   rw [show ρ = bJ _ ρ from bA _ hcore]
   (show _ = _; first | kernel_rfl! | (rw [<- Nat.add_assoc]; kernel_rfl!) | (rw [<- Nat.add_assoc, <- Nat.add_assoc]; kernel_rfl!))
 ·dsimp only
  rw [zdg _ hab, bB]
 ·rintro ⟨ρ, σ⟩ ⟨h0, xs, h1, h2, h3⟩
  refine fE h0 ?_
  exact aB (aO M (.ptr a) (by exact aA (by kernel_rfl!) (by kernel_rfl!)) ⟨.list xs, .inr ⟨a, _, rfl, h1, dZ _ _ h2⟩, h3⟩)
noncomputable def kS : Fn := fun ps K => ∃ (x css : List Nat) (E : List (Nat × Rs)), ps = [.str x] /\ x.length <= 1000 /\ zc0 x css /\ css.length <= 1000 /\ Al css /\ Rd css E /\ ∀ R, zcX css E R -> K (.list R)
theorem pR : bC kS := fun _ _ _ h => e3 fun _ _ _ => c6 fun k R t => h _ (k R t)
theorem zeE (hB : BsOk (bs w.params h mb)) (hmb : HMb mb) : CtxOk prog w (bs w.params h mb) cP 4 := by
 refine dG hmb sW sV (by simp) (fun e he => ?_) (fun e he => ?_) (by simp)
 ·simp only [cPf, List.mem_cons, List.not_mem_nil, or_false] at he
  rcases he with rfl | rfl | rfl | rfl | rfl
  ·exact ⟨.ref 642, by kernel_rfl, (zan hB hmb).le (by decide)⟩
  ·exact ⟨.ref 649, by kernel_rfl, (zao hB hmb).le (by decide)⟩
  ·exact ⟨.ref 26, by kernel_rfl, (oN hB hmb).le (by decide)⟩
  ·exact ⟨.ref 670, by kernel_rfl, wR hB hmb⟩
  ·exact ⟨.ref 41, by kernel_rfl, (t4 hB).le (by decide)⟩
 ·simp only [cPc, List.mem_cons, List.not_mem_nil, or_false] at he
  rcases he with rfl | rfl
  ·exact ⟨.ref 355, by kernel_rfl, (tY hB hmb).le (by decide)⟩
  ·exact ⟨.ref 104, by kernel_rfl, (tZ hB hmb).le (by decide)⟩
theorem qK (hB : BsOk (bs w.params h mb)) (hmb : HMb mb) : Meets prog w (bs w.params h mb) 5 (.ref 628) kS := by
 refine aX (k := 1) (params := ["css", "skip_comments"]) (dv := [.bool false]) (dp := [.bool false]) hB (zeE hB hmb) (by kernel_rfl) (by kernel_rfl) (by kernel_rfl) rfl (fun _ => .one (by simp [VRel])) (fun S vals hl => ?_) fun ps K => x3 fun x css E => a7 fun h1 h2 h3 h4 h5 h6 h7 => ?_
 ·obtain ⟨a, rfl⟩ := List.length_eq_one_iff.mp hl
  kernel_rfl
 ·subst h1
  exact ⟨rfl, tS _ x css E K h2 h3 h4 h5 h6 h7⟩
/-! the text of an address, sign by sign from its end: plain laws -/
theorem iC : ∀ (k : Nat) (x : List Nat), x.length <= k -> cJ k x = cJ x.length x
 | 0, [], _ => rfl
 | 0, c :: r, h => absurd h (Nat.not_succ_le_zero _)
 | k + 1, [], _ => rfl
 | k + 1, c :: r, h => by
  have h := Nat.le_of_succ_le_succ h
  show (if [92, 41].isPrefixOf (c :: r) = true then cJ k (r.drop 1) + 2 else if c = 41 then 1 else cJ k r + 1) = (if [92, 41].isPrefixOf (c :: r) = true then cJ r.length (r.drop 1) + 2 else if c = 41 then 1 else cJ r.length r + 1)
  have hl : (r.drop 1).length <= r.length := by rw [List.length_drop]; exact Nat.sub_le _ _
  rw [iC k r h, iC k (r.drop 1) (Nat.le_trans hl h), <- iC r.length (r.drop 1) hl]
noncomputable def eN (x : List Nat) : Nat := cJ x.length x
theorem iD {c : Nat} {r : List Nat} (h1 : c ≠ 41) (h2 : [92, 41].isPrefixOf (c :: r) = false) : eN (c :: r) = eN r + 1 := by
 show (if [92, 41].isPrefixOf (c :: r) = true then _ else if c = 41 then 1 else cJ r.length r + 1) = _
 rw [h2, iP, if_neg h1]; rfl
theorem z6 (r : List Nat) : eN (92 :: 41 :: r) = eN r + 2 := by
 show cJ (r.length + 1) r + 2 = _
 rw [iC _ r (Nat.le_succ _)]; rfl
theorem zel {c : Nat} (r : List Nat) (h : c ≠ 92) : [92, 41].isPrefixOf (c :: r) = false := by
 show ((92 == c) && _) = false
 rw [beq_eq_false_iff_ne.mpr (Ne.symm h)]; rfl
theorem b0 {c : Nat} (r : List Nat) (h1 : c ≠ 41) (h2 : c ≠ 92) : eN (c :: r) = eN r + 1 := iD h1 (zel r h2)
theorem hW {c : Nat} (r : List Nat) (h : aR c = true) : aK (c :: r) = aK r + 1 := by
 rw [aK, List.takeWhile_cons_of_pos (p := aR) h]; rfl
theorem iU {c : Nat} (r : List Nat) (h : aR c = false) : aK (c :: r) = 0 := by
 rw [aK, List.takeWhile_cons_of_neg (fun q => by rw [q] at h; cases h)]; rfl
theorem jY : ∀ x : List Nat, eN x = aK x + eN (x.drop (aK x))
 | [] => rfl
 | c :: r => by
  cases h : aR c with
  | true =>
   obtain ⟨f1, f2⟩ := d8 c h
   rw [hW r h, b0 r f1 f2, jY r, List.drop_succ_cons]; exact Nat.add_right_comm _ _ _
  | false => rw [iU r h, Nat.zero_add]; rfl
noncomputable def zd6 (w : List Nat) (R : Rs) : Rs := Rs.casesOn (motive := fun _ => Rs) R (fun v => .good (w ++ v)) (fun v => .ended (w ++ v)) .fault
theorem wN (x w v : List Nat) : (hZ x (some (w ++ v))).1 = zd6 w (hZ x (some v)).1 /\ (hZ x (some (w ++ v))).2 = (hZ x (some v)).2 := by
 unfold hZ
 dsimp only
 cases x.drop (aK x) with
 | nil => exact ⟨rfl, rfl⟩
 | cons c r =>
  dsimp only
  split <;> exact ⟨rfl, rfl⟩
theorem zcF {z y w u : List Nat} {m n : Nat} {e : UEnd} {R : Rs} (h : zeA y u m e = (R, n)) : zeA (z ++ y) (w ++ u) (z.length + m) e = (zd6 w R, z.length + n) := by
 have hd : (z ++ y).drop (z.length + m) = y.drop m := by rw [<- List.drop_drop, List.drop_left]
 cases e
 ·cases h; rfl
 ·cases h; rfl
 ·have h : ((hZ (y.drop m) (some u)).1, m + (hZ (y.drop m) (some u)).2) = (R, n) := h
  show ((hZ ((z ++ y).drop (z.length + m)) (some (w ++ u))).1, z.length + m + (hZ ((z ++ y).drop (z.length + m)) (some (w ++ u))).2) = _
  rw [hd, (wN _ _ _).1, (wN _ _ _).2]
  cases h
  rw [Nat.add_assoc]
 ·have h : ((hZ (y.drop m) none).1, m + (hZ (y.drop m) none).2) = (R, n) := h
  show ((hZ ((z ++ y).drop (z.length + m)) none).1, z.length + m + (hZ ((z ++ y).drop (z.length + m)) none).2) = _
  rw [hd]
  cases h
  rw [Nat.add_assoc]; rfl
structure Wd (z w y : List Nat) : Prop where
 val : ∀ v m e, UrlV y v m e -> UrlV (z ++ y) (w ++ v) (z.length + m) e
 skip : eN (z ++ y) = z.length + eN y
 first : ∃ c r, z = c :: r /\ aR c = false /\ c ≠ 41
theorem Wd.url {z w y : List Nat} {R : Rs} {n : Nat} (h : Wd z w y) (hu : UrlA y R n) : UrlA (z ++ y) (zd6 w R) (z.length + n) := by
 obtain ⟨u, m, e, h1, h2⟩ := hu
 exact ⟨w ++ u, z.length + m, e, h.val u m e h1, zcF h2⟩
theorem Wd.more {z z' w w' y : List Nat} (h : Wd z w (z' ++ y)) (h' : Wd z' w' y) : Wd (z ++ z') (w ++ w') y := by
 refine ⟨fun v m e hv => ?_, ?_, ?_⟩
 ·rw [List.append_assoc, List.append_assoc, List.length_append, Nat.add_assoc]
  exact h.val _ _ _ (h'.val _ _ _ hv)
 ·rw [List.append_assoc, h.skip, h'.skip, List.length_append, Nat.add_assoc]
 ·obtain ⟨c, r, e, h1, h2⟩ := h.first
  exact ⟨c, r ++ z', by rw [e]; rfl, h1, h2⟩
noncomputable def wB (c : Nat) : Bool := !(c == 41) && (!(aR c) && (!(c == 92) && !(tA c)))
theorem l6 {c : Nat} (y : List Nat) (h : wB c = true) : Wd [c] [c] y := by
 obtain ⟨h1, h⟩ := Bool.and_eq_true_iff.mp h
 obtain ⟨h2, h⟩ := Bool.and_eq_true_iff.mp h
 obtain ⟨h3, h4⟩ := Bool.and_eq_true_iff.mp h
 have h1 : c ≠ 41 := fun e => by subst e; cases h1
 have h3 : c ≠ 92 := fun e => by subst e; cases h3
 have h2 : aR c = false := by cases q : aR c <;> rw [q] at h2 <;> first | rfl | cases h2
 have h4 : tA c = false := by cases q : tA c <;> rw [q] at h4 <;> first | rfl | cases h4
 refine ⟨fun v m e hv => ?_, ?_, c, [], rfl, h2, h1⟩
 ·rw [Nat.add_comm]; exact .plain c y v m e h1 h2 h3 h4 hv
 ·rw [Nat.add_comm]; exact b0 y h1 h3
theorem nY {w : List Nat} : ∀ (z : List Nat) (y : List Nat), z ≠ [] -> z.all wB = true -> Wd z z y
 | [c], y, _, h => l6 y (Bool.and_eq_true_iff.mp h).1
 | c :: d :: r, y, _, h => (l6 (c := c) (d :: r ++ y) (Bool.and_eq_true_iff.mp h).1).more (nY (w := w) (d :: r) y (fun q => by cases q) (Bool.and_eq_true_iff.mp h).2)
theorem zdb {c : Nat} (y : List Nat) (h1 : cN c = false) (h2 : c ≠ 10) (h3 : c = 92 -> ∀ r, y ≠ 41 :: r) : Wd [92, c] [c] y := by
 refine ⟨fun v m e hv => ?_, ?_, 92, [c], rfl, rfl, by decide⟩
 ·rw [Nat.add_comm]
  refine .esc (c :: y) v c 1 m e ?_ (.sign c ?_ rfl) hv
  ·show ((92 == 92) && ((10 == c) && _)) = false
   rw [beq_eq_false_iff_ne.mpr (Ne.symm h2)]; rfl
  ·show (if cN c = true then _ else 0) = 0
   rw [h1, iP]
 ·by_cases h4 : c = 41
  ·subst h4; rw [Nat.add_comm]; exact z6 y
  ·show eN (92 :: c :: y) = _
   rw [iD (by decide) (by
    show ((92 == 92) && ((41 == c) && _)) = false
    rw [beq_eq_false_iff_ne.mpr (Ne.symm h4)]; rfl)]
   by_cases h5 : c = 92
   ·subst h5
    rw [iD (by decide)]
    ·exact Nat.add_comm _ 2
    ·cases y with
     | nil => rfl
     | cons d r =>
      show ((92 == 92) && ((41 == d) && true)) = false
      rw [beq_eq_false_iff_ne.mpr (show 41 ≠ d from fun e => h3 rfl r (by rw [<- e]))]; rfl
   ·rw [b0 y h4 h5]; exact Nat.add_comm _ 2
noncomputable def dK (b ended : Bool) (v : List Nat) : Rs := if b = true then .fault else if ended = true then .ended v else .good v
theorem zb2 (b ended : Bool) (w v : List Nat) : zd6 w (dK b ended v) = dK b ended (w ++ v) := by cases b <;> cases ended <;> rfl
structure Cur (y v : List Nat) (n : Nat) (ended full gap bad : Bool) : Prop where
 skip : eN y = n
 mid : UrlA y (dK (bad || gap) ended v) n
 start : UrlA (y.drop (aK y)) (dK bad ended v) (n - aK y)
 blk : aK y <= n
 head : full = true -> ∃ c r, y.drop (aK y) = c :: r /\ c ≠ 41
 low : full = false -> v = [] /\ bad = false /\ gap = false /\ ((ended = true /\ y.drop (aK y) = []) \/ (ended = false /\ ∃ r, y.drop (aK y) = 41 :: r))
section
variable {y v : List Nat} {n : Nat} {e f g b : Bool}
theorem Cur.le (h : Cur y v n e f g b) : n <= y.length := h.mid.le
theorem pE : Cur (41 :: y) [] 1 false false false false :=
 ⟨rfl, ⟨[], 1, .close, .close y, rfl⟩, ⟨[], 1, .close, .close y, rfl⟩, Nat.zero_le _, fun h => (by cases h), fun _ => ⟨rfl, rfl, rfl, .inr ⟨rfl, y, rfl⟩⟩⟩
theorem zcH : Cur [] [] 0 true false false false :=
 ⟨rfl, ⟨[], 0, .eof, .eof, rfl⟩, ⟨[], 0, .eof, .eof, rfl⟩, Nat.zero_le _, fun h => (by cases h), fun _ => ⟨rfl, rfl, rfl, .inl ⟨rfl, rfl⟩⟩⟩
theorem zdO : Cur [92] [65533] 1 true true false false :=
 ⟨rfl, ⟨[65533], 1, .eof, .esc [] [] 65533 0 0 .eof rfl (.eof rfl) .eof, rfl⟩, ⟨[65533], 1, .eof, .esc [] [] 65533 0 0 .eof rfl (.eof rfl) .eof, rfl⟩, Nat.zero_le _, fun _ => ⟨92, [], rfl, by decide⟩, fun h => by cases h⟩
theorem Cur.blank {c : Nat} (h : Cur y v n e f g b) (hc : aR c = true) : Cur (c :: y) v (n + 1) e f f b := by
 obtain ⟨f1, f2⟩ := d8 c hc
 have hb := hW y hc
 have hd : (c :: y).drop (aK (c :: y)) = y.drop (aK y) := by rw [hb, List.drop_succ_cons]
 have hs := jY y
 rw [h.skip] at hs
 refine ⟨by rw [b0 y f1 f2, h.skip], ⟨[], 1, .blank, .blank c y hc, ?_⟩, ?_, by rw [hb]; exact Nat.succ_le_succ h.blk, by rw [hd]; exact h.head, by rw [hd]; exact fun q => ⟨(h.low q).1, (h.low q).2.1, q, (h.low q).2.2.2⟩⟩
 ·show ((hZ y (some [])).1, 1 + (hZ y (some [])).2) = _
  unfold hZ
  dsimp only
  cases f with
  | true =>
   obtain ⟨c, r, hr, hne⟩ := h.head rfl
   rw [hr] at hs ⊢
   dsimp only
   rw [if_neg hne, Bool.or_true, hs]
   exact congrArg (Prod.mk Rs.fault) (Nat.add_comm 1 _)
  | false =>
   obtain ⟨h1, h2, h3, h4⟩ := h.low rfl
   rw [h1, h2]
   rcases h4 with ⟨h4, h5⟩ | ⟨h4, r, h5⟩
   ·rw [h5] at hs ⊢
    rw [h4, hs]
    exact congrArg (Prod.mk (Rs.ended [])) (Nat.add_comm 1 _)
   ·rw [h5] at hs ⊢
    rw [h4, hs]
    exact congrArg (Prod.mk (Rs.good [])) (Nat.add_comm 1 _)
 ·rw [hd, hb, Nat.add_sub_add_right]; exact h.start
theorem Cur.of_mid {z w : List Nat} {c : Nat} {r : List Nat} (hz : z = c :: r) (h1 : aR c = false) (h2 : c ≠ 41) (hs : eN z = n) (hm : UrlA z (dK b e w) n) : Cur z w n e true false b := by
 have hb : aK z = 0 := by rw [hz]; exact iU r h1
 refine ⟨hs, by rw [Bool.or_false]; exact hm, by rw [hb]; exact hm, by rw [hb]; exact Nat.zero_le _, fun _ => ⟨c, r, by rw [hb]; exact hz, h2⟩, fun q => by cases q⟩
theorem Cur.word {z w : List Nat} (h : Cur y v n e f g b) (hw : Wd z w y) : Cur (z ++ y) (w ++ v) (z.length + n) e true false (b || g) := by
 obtain ⟨c, r, hz, h1, h2⟩ := hw.first
 refine .of_mid (c := c) (r := r ++ y) (by rw [hz]; rfl) h1 h2 (by rw [hw.skip, h.skip]) ?_
 rw [<- zb2]
 exact hw.url h.mid
theorem Cur.sign {c : Nat} (h : Cur y v n e f g b) (hc : tA c = true) : Cur (c :: y) v (1 + n) e true false true := by
 obtain ⟨f1, f2, f3⟩ := fZ c hc
 refine .of_mid rfl f2 f1 (by rw [b0 y f1 f3, h.skip]; exact Nat.add_comm _ _) ⟨[], 1, .bad, .bad c y hc, ?_⟩
 show (Rs.fault, 1 + eN y) = _
 rw [h.skip]; rfl
theorem Cur.gapped (h : Cur y v n e f g b) : Cur (120 :: 32 :: 121 :: y) v (3 + n) e true false true := by
 have h3 : eN (121 :: y) = n + 1 := by rw [b0 y (by decide) (by decide), h.skip]
 refine .of_mid rfl rfl (by decide) ?_ ⟨[120], 2, .blank, .plain 120 _ [] 1 .blank (by decide) rfl (by decide) rfl (.blank 32 _ rfl), ?_⟩
 ·rw [b0 _ (by decide) (by decide), b0 _ (by decide) (by decide), h3]; omega
 ·show (Rs.fault, 2 + (0 + eN (121 :: y))) = _
  rw [h3]
  exact congrArg (Prod.mk Rs.fault) (by omega)
theorem Cur.quote {c : Nat} {r : List Nat} (h : Cur y v n e f g b) (hr : y.drop (aK y) = c :: r) (hc : c = 34 \/ c = 39) : b = true := by
 have hb : tA c = true := by rcases hc with rfl | rfl <;> rfl
 obtain ⟨u, m, k, h1, h2⟩ := h.start
 rw [hr] at h1
 obtain ⟨_, _, rfl⟩ := h1.iv_bad hb
 cases b with
 | true => rfl
 | false =>
  have h2 := congrArg Prod.fst h2
  have h2 : Rs.fault = (if e = true then .ended v else .good v) := h2
  split at h2 <;> cases h2
structure UrlW (u : List Nat) : Prop where
 start : ∀ y, b4 (u ++ 40 :: y) = true
 name : ∀ y, ∃ v, NameAt (u ++ 40 :: y) v u.length /\ v.map uZ = [117, 114, 108]
theorem zb0 {u : List Nat} {E : List (Nat × Rs)} (hu : UrlW u) (h : Cur y v n e f g b) (hq : ∀ c r, y.drop (aK y) = c :: r -> c ≠ 34 /\ c ≠ 39) (hE : Rd (y.drop n) E) : Rd (u ++ 40 :: y) (((u ++ 40 :: y).length, dK b e v) :: E) := by
 obtain ⟨w, h1, h2⟩ := hu.name y
 have hd : (u ++ 40 :: y).drop (u.length + 1) = y := by rw [<- List.drop_drop, List.drop_left]; rfl
 refine .cons _ w u.length _ (n - aK y) E (hu.start y) h1 h2 ?_ (by rw [hd]; exact hq) (by rw [hd]; exact h.start) ?_
 ·rw [List.getElem?_append_right (Nat.le_refl _), Nat.sub_self]; rfl
 ·rw [hd, Nat.add_assoc, Nat.add_sub_cancel' h.blk, <- List.drop_drop, hd]; exact hE
end
/-! the law's signs and the text that they make -/
noncomputable def a0 : List (List Nat) := [[32], [9], [10], [13, 10], [13], [12]]
noncomputable def sgT : List (List Nat) := [13, 10] :: [13] :: [12] :: [0] :: alphaL.map fun c => [c]
noncomputable def Sg (s : List Nat) : Prop := sgT.contains s = true
theorem lJ {P : List Nat -> Bool} (h : sgT.all P = true) {s : List Nat} (hs : Sg s) : P s = true := List.all_eq_true.mp h s (List.contains_iff_mem.mp hs)
theorem v3 {α : Type} [BEq α] [LawfulBEq α] {f g : List Nat -> α} (h : (sgT.all fun s => f s == g s) = true) {s : List Nat} (hs : Sg s) : f s = g s := eq_of_beq (lJ (P := fun s => f s == g s) h hs)
noncomputable def md (s : List Nat) : Nat := if (s == [13, 10] || (s == [13] || s == [12])) = true then 10 else if (s == [0]) = true then 65533 else s.headD 0
theorem zap {s : List Nat} (h : Sg s) : gN (md s) = true := lJ (P := fun s => gN (md s)) (by decide +kernel) h
noncomputable abbrev Sgs (S : List (List Nat)) : Prop := ∀ s ∈ S, Sg s
theorem zdo {S : List (List Nat)} (h : Sgs S) : Al (S.map md) := fun c hc => by
 obtain ⟨s, hs, rfl⟩ := List.mem_map.mp hc
 exact zap (h s hs)
noncomputable def ncr : List (List Nat) -> Prop
 | [] => True
 | s :: r => ¬ (s = [13] /\ r.head? = some [10]) /\ ncr r
theorem gE {s : List Nat} {r : List (List Nat)} (h : s ≠ [13]) (hr : ncr r) : ncr (s :: r) := ⟨fun q => h q.1, hr⟩
theorem wL : ∀ (z r : List (List Nat)), (z.all fun s => !(s == [13])) = true -> ncr r -> ncr (z ++ r)
 | [], _, _, hr => hr
 | s :: z, r, h, hr => by
  obtain ⟨h1, h2⟩ := Bool.and_eq_true_iff.mp h
  exact gE (fun e => by rw [e] at h1; cases h1) (wL z r h2 hr)
noncomputable def fK (k q c : Nat) : Nat := if c = k then q else c
theorem zaf (k q : Nat) : ∀ (n : Nat) (x : List Nat), x.length < n -> bS [k] [q] n x = x.map (fK k q)
 | n + 1, [], _ => rfl
 | n + 1, c :: x, h => by
  have ih := zaf k q n x (Nat.lt_of_succ_lt_succ h)
  show (if ((k == c) && true) = true then [q] ++ bS [k] [q] n x else c :: bS [k] [q] n x) = fK k q c :: x.map (fK k q)
  rw [ih, Bool.and_true]
  unfold fK
  by_cases e : c = k
  ·subst e; rw [beq_self_eq_true, r9, if_pos rfl]; rfl
  ·rw [beq_eq_false_iff_ne.mpr (Ne.symm e), iP, if_neg e]
noncomputable def gC (s : List Nat) : List Nat := if (s == [13, 10]) = true then [10] else s
noncomputable def vS (t : List Nat) : Bool := t == [13, 10] || t.length == 1
theorem zdf {t : List Nat} (h : vS t = true) : t = [13, 10] \/ ∃ c, t = [c] := by
 rcases Bool.or_eq_true_iff.mp h with h | h
 ·exact .inl (eq_of_beq h)
 ·exact .inr (List.length_eq_one_iff.mp (eq_of_beq h))
theorem zbZ : ∀ (n : Nat) (T : List (List Nat)), T.flatten.length < n -> (∀ t ∈ T, vS t = true) -> ncr T -> bS [13, 10] [10] n T.flatten = (T.map gC).flatten
 | n + 1, [], _, _, _ => rfl
 | n + 1, t :: r, h, hv, hc => by
  rcases zdf (hv t List.mem_cons_self) with rfl | ⟨c, rfl⟩
  ·have h : (r.flatten.length + 1) + 1 < n + 1 := h
   show [10] ++ bS [13, 10] [10] n r.flatten = _
   rw [zbZ n r (by omega) (fun t ht => hv t (List.mem_cons_of_mem _ ht)) hc.2]; rfl
  ·have h : r.flatten.length + 1 < n + 1 := h
   have ih := zbZ n r (by omega) (fun t ht => hv t (List.mem_cons_of_mem _ ht)) hc.2
   have e : [13, 10].isPrefixOf (c :: r.flatten) = false := by
    by_cases h13 : c = 13
    ·subst h13
     cases r with
     | nil => rfl
     | cons u r' =>
      have hu : u ≠ [10] := fun q => hc.1 ⟨rfl, by rw [q]; rfl⟩
      rcases zdf (hv u (List.mem_cons_of_mem _ List.mem_cons_self)) with rfl | ⟨d, rfl⟩
      ·rfl
      ·show ((13 == 13) && ((10 == d) && true)) = false
       rw [beq_eq_false_iff_ne.mpr (show 10 ≠ d from fun q => hu (by rw [q]))]; rfl
    ·show ((13 == c) && _) = false
     rw [beq_eq_false_iff_ne.mpr (show 13 ≠ c from fun q => h13 q.symm)]; rfl
   show (if [13, 10].isPrefixOf (c :: r.flatten) = true then _ else c :: bS [13, 10] [10] n r.flatten) = _
   rw [e, iP, ih]
   show c :: _ = gC [c] ++ (r.map gC).flatten
   rw [show gC [c] = [c] from if_neg (by rw [show ([c] == [13, 10]) = (c == 13 && false) from rfl, Bool.and_false]; decide)]; rfl
theorem m7 : ∀ (T : List (List Nat)), (∀ t ∈ T, t.length <= 2) -> T.flatten.length <= 2 * T.length
 | [], _ => Nat.le_refl _
 | t :: r, h => by
  rw [List.flatten_cons, List.length_append, List.length_cons, Nat.mul_succ, Nat.add_comm]
  exact Nat.add_le_add (m7 r fun t ht => h t (List.mem_cons_of_mem _ ht)) (h t List.mem_cons_self)
theorem zdp {s : List Nat} (h : Sg s) : s.length <= 2 := of_decide_eq_true (lJ (P := fun s => decide (s.length <= 2)) (by decide +kernel) h)
theorem wK (f : List Nat -> List Nat) : ∀ {S : List (List Nat)}, (∀ s ∈ S, (f s = [13] -> s = [13]) /\ (f s = [10] -> s = [10])) -> ncr S -> ncr (S.map f)
 | [], _, _ => trivial
 | s :: r, h, ⟨h1, h2⟩ => by
  refine ⟨fun q => h1 ⟨(h s List.mem_cons_self).1 q.1, ?_⟩, wK f (fun s hs => h s (List.mem_cons_of_mem _ hs)) h2⟩
  cases r with
  | nil => cases q.2
  | cons t r' => exact congrArg some ((h t (List.mem_cons_of_mem _ List.mem_cons_self)).2 (Option.some.inj q.2))
theorem lP (f : List Nat -> Nat) : ∀ S : List (List Nat), (S.map fun s => [f s]).flatten = S.map f
 | [] => rfl
 | s :: r => congrArg (f s :: ·) (lP f r)
theorem zaj {S : List (List Nat)} (hS : Sgs S) (hc : ncr S) (hl : 2 * S.length <= 1000) : zc0 S.flatten (S.map md) := by
 have k0 : ∀ s, Sg s -> (vS (s.map (fK 0 65533)) && (decide ((gC (s.map (fK 0 65533))).length <= 2) && decide ((s.map (fK 0 65533)).length <= 2))) = true := fun s => lJ (P := fun s => vS (s.map (fK 0 65533)) && (decide ((gC (s.map (fK 0 65533))).length <= 2) && decide ((s.map (fK 0 65533)).length <= 2))) (by decide +kernel)
 have k1 : ∀ s, Sg s -> (((s.map (fK 0 65533) == [13]) == (s == [13])) && ((s.map (fK 0 65533) == [10]) == (s == [10]))) = true := fun s => lJ (P := fun s => ((s.map (fK 0 65533) == [13]) == (s == [13])) && ((s.map (fK 0 65533) == [10]) == (s == [10]))) (by decide +kernel)
 have k2 : ∀ s, Sg s -> ((gC (s.map (fK 0 65533))).map (fK 13 10)).map (fK 12 10) = [md s] := fun s => v3 (f := fun s => ((gC (s.map (fK 0 65533))).map (fK 13 10)).map (fK 12 10)) (g := fun s => [md s]) (by decide +kernel)
 have e0 : iI [0] [65533] S.flatten = (S.map (List.map (fK 0 65533))).flatten := by
  rw [iI, zaf _ _ _ _ (Nat.lt_succ_self _), List.map_flatten]
 have hv : ∀ t ∈ S.map (List.map (fK 0 65533)), vS t = true := fun t ht => by
  obtain ⟨s, hs, rfl⟩ := List.mem_map.mp ht
  exact (Bool.and_eq_true_iff.mp (k0 s (hS s hs))).1
 have hn : ncr (S.map (List.map (fK 0 65533))) := wK _ (fun s hs => by
  obtain ⟨h1, h2⟩ := Bool.and_eq_true_iff.mp (k1 s (hS s hs))
  have h1 := eq_of_beq h1
  have h2 := eq_of_beq h2
  exact ⟨fun q => by rw [q, beq_self_eq_true] at h1; exact eq_of_beq h1.symm, fun q => by rw [q, beq_self_eq_true] at h2; exact eq_of_beq h2.symm⟩) hc
 have e1 : iI [13, 10] [10] (S.map (List.map (fK 0 65533))).flatten = ((S.map (List.map (fK 0 65533))).map gC).flatten := zbZ _ _ (Nat.lt_succ_self _) hv hn
 have l0 : (S.map (List.map (fK 0 65533))).flatten.length <= 1000 := Nat.le_trans (m7 _ fun t ht => by
  obtain ⟨s, hs, rfl⟩ := List.mem_map.mp ht
  exact of_decide_eq_true (Bool.and_eq_true_iff.mp (Bool.and_eq_true_iff.mp (k0 s (hS s hs))).2).2) (by rw [List.length_map]; exact hl)
 have l1 : ((S.map (List.map (fK 0 65533))).map gC).flatten.length <= 1000 := Nat.le_trans (m7 _ fun t ht => by
  obtain ⟨u, hu, rfl⟩ := List.mem_map.mp ht
  obtain ⟨s, hs, rfl⟩ := List.mem_map.mp hu
  exact of_decide_eq_true (Bool.and_eq_true_iff.mp (Bool.and_eq_true_iff.mp (k0 s (hS s hs))).2).1) (by rw [List.length_map, List.length_map]; exact hl)
 refine ⟨_, _, _, e0, e1, zaf 13 10 _ _ (Nat.lt_succ_self _), ?_, l0, l1, by rw [List.length_map]; exact l1⟩
 rw [iI, zaf _ _ _ _ (Nat.lt_succ_self _), List.map_flatten, List.map_flatten, List.map_map, List.map_map, List.map_map, <- lP]
 exact congrArg List.flatten (List.map_congr_left fun s hs => k2 s (hS s hs))
noncomputable def nm (n : Int) (m : Nat) : Nat := (n % (m : Int)).toNat
theorem zdt (n : Int) {m : Nat} (h : 0 < m) : n % (m : Int) = (nm n m : Int) := (Int.toNat_of_nonneg (Int.emod_nonneg _ (by omega))).symm
theorem gL (n : Int) {m : Nat} (h : 0 < m) : nm n m < m := by
 have h1 := Int.emod_lt_of_pos n (show (0 : Int) < m by omega)
 rw [zdt n h] at h1
 exact Int.ofNat_lt.mp h1
/-! escapes by figures -/
noncomputable def y3 : List Nat := [48, 49, 50, 51, 52, 53, 54, 55, 56, 57, 97, 98, 99, 100, 101, 102]
noncomputable def y2 : List Nat := [48, 49, 50, 51, 52, 53, 54, 55, 56, 57, 65, 66, 67, 68, 69, 70]
noncomputable def k8 (i : Nat) : List Nat := if i = 0 then y3 else y2
noncomputable def pW (T : List Nat) (n : Nat) : Nat := (T[n % 16]?).getD 0
theorem xJ (i n : Nat) : cN (pW (k8 i) n) = true /\ iR 16 (pW (k8 i) n) = some (n % 16) := by
 have h : n % 16 < 16 := Nat.mod_lt _ (by decide)
 unfold pW k8
 generalize n % 16 = m at h ⊢
 split
 ·exact (show ∀ m < 16, cN ((y3[m]?).getD 0) = true /\ iR 16 ((y3[m]?).getD 0) = some m by decide +kernel) m h
 ·exact (show ∀ m < 16, cN ((y2[m]?).getD 0) = true /\ iR 16 ((y2[m]?).getD 0) = some m by decide +kernel) m h
noncomputable def dig (T : List Nat) : Nat -> Nat -> List Nat -> List Nat
 | 0, _, acc => acc
 | k + 1, n, acc => dig T k (n / 16) (pW T n :: acc)
theorem x7 (T : List Nat) : ∀ (k n : Nat) (acc : List Nat), dig T k n acc = dig T k n [] ++ acc
 | 0, _, _ => rfl
 | k + 1, n, acc => by
  show dig T k (n / 16) (pW T n :: acc) = dig T k (n / 16) [pW T n] ++ acc
  rw [x7 T k (n / 16) (pW T n :: acc), x7 T k (n / 16) [pW T n], List.append_assoc]; rfl
theorem qZ (T : List Nat) : ∀ (k n : Nat) (acc : List Nat), (dig T k n acc).length = k + acc.length
 | 0, _, acc => (Nat.zero_add _).symm
 | k + 1, n, acc => by
  show (dig T k (n / 16) (pW T n :: acc)).length = _
  rw [qZ T k, List.length_cons, Nat.add_assoc, Nat.add_comm 1]
theorem x0 (i : Nat) : ∀ (k n : Nat) (acc : List Nat), acc.all cN = true -> (dig (k8 i) k n acc).all cN = true
 | 0, _, _, h => h
 | k + 1, n, acc, h => x0 i k _ _ (Bool.and_eq_true_iff.mpr ⟨(xJ i n).1, h⟩)
theorem xZ (i : Nat) : ∀ (k n a : Nat) (acc : List Nat), n < 16 ^ k -> dM 16 a (dig (k8 i) k n acc) = dM 16 (a * 16 ^ k + n) acc
 | 0, n, a, acc, h => by
  have : n = 0 := Nat.lt_one_iff.mp h
  subst this
  show dM 16 a acc = dM 16 (a * 1 + 0) acc
  rw [Nat.mul_one]; rfl
 | k + 1, n, a, acc, h => by
  show dM 16 a (dig (k8 i) k (n / 16) (pW (k8 i) n :: acc)) = _
  rw [xZ i k (n / 16) a _ (Nat.div_lt_of_lt_mul (by rw [Nat.mul_comm]; exact h))]
  show (match iR 16 (pW (k8 i) n) with
   | some d => dM 16 ((a * 16 ^ k + n / 16) * 16 + d) acc
   | none => none) = _
  rw [(xJ i n).2]
  have e : (a * 16 ^ k + n / 16) * 16 + n % 16 = a * 16 ^ (k + 1) + n := by
   rw [Nat.add_mul, Nat.mul_assoc, <- Nat.pow_succ, Nat.add_assoc, Nat.mul_comm (n / 16), Nat.div_add_mod]
  show dM 16 ((a * 16 ^ k + n / 16) * 16 + n % 16) acc = _
  rw [e]
theorem sH : ∀ (D x : List Nat) (k : Nat), D.all cN = true -> D.length <= k -> (D.length = k \/ ∀ c r, x = c :: r -> cN c = false) -> jM k (D ++ x) = D.length
 | [], x, k, _, _, h => by
  cases k with
  | zero => rfl
  | succ k =>
   cases x with
   | nil => rfl
   | cons c r =>
    rcases h with h | h
    ·cases h
    ·show (if cN c = true then _ else 0) = 0
     rw [h c r rfl, iP]
 | d :: D, x, 0, _, h, _ => absurd h (Nat.not_succ_le_zero _)
 | d :: D, x, k + 1, ha, hl, h => by
  obtain ⟨h1, h2⟩ := Bool.and_eq_true_iff.mp ha
  show (if cN d = true then jM k (D ++ x) + 1 else 0) = _
  rw [h1, r9, sH D x k h2 (Nat.le_of_succ_le_succ hl) (h.imp (fun q => Nat.succ.inj q) id)]; rfl
theorem n9 : ∀ (z y : List Nat), (∀ c ∈ z, c ≠ 41 /\ c ≠ 92) -> eN (z ++ y) = z.length + eN y
 | [], y, _ => (Nat.zero_add _).symm
 | c :: z, y, h => by
  obtain ⟨h1, h2⟩ := h c List.mem_cons_self
  show eN (c :: (z ++ y)) = _
  rw [b0 _ h1 h2, n9 z y fun c hc => h c (List.mem_cons_of_mem _ hc), List.length_cons, Nat.add_right_comm]
theorem xA {c : Nat} (h : cN c = true) : c ≠ 41 /\ c ≠ 92 /\ c ≠ 10 := ⟨fun e => (by subst e; cases h), fun e => (by subst e; cases h), fun e => (by subst e; cases h)⟩
theorem zda {D B y : List Nat} {k : Nat} (hD : D.all cN = true) (h1 : 1 <= D.length) (h6 : D.length <= 6) (hk : dM 16 0 D = some k) (hB : (∃ b, B = [b] /\ aR b = true) \/ (B = [] /\ ∀ c r, y = c :: r -> aR c = false /\ (D.length = 6 \/ cN c = false))) : Wd (92 :: (D ++ B)) [dQ k] y := by
 have hN : jM 6 (D ++ (B ++ y)) = D.length := sH D _ 6 hD h6 (by
  rcases hB with ⟨b, rfl, hb⟩ | ⟨rfl, hb⟩
  ·refine .inr fun c r q => ?_
   have q : b :: y = c :: r := q
   cases q
   cases hh : cN b with
   | false => rfl
   | true =>
    have : b = 32 \/ b = 10 \/ b = 9 := by simpa [aR, or_assoc] using hb
    rcases this with rfl | rfl | rfl <;> cases hh
  ·cases y with
   | nil => exact .inr fun c r q => by cases q
   | cons c r => exact (hb c r rfl).2.imp id fun h c' r' q => by cases q; exact h)
 have hO : eX (B ++ y) = B.length := by
  rcases hB with ⟨b, rfl, hb⟩ | ⟨rfl, hb⟩
  ·exact if_pos hb
  ·cases y with
   | nil => rfl
   | cons c r => exact if_neg (by rw [(hb c r rfl).1]; decide)
 have he := EscAt.hex (x := D ++ (B ++ y)) k (by rw [hN]; exact h1) (by rw [hN, List.take_left]; exact hk)
 rw [hN, List.drop_left, hO] at he
 have hm : ∀ c ∈ D, c ≠ 41 /\ c ≠ 92 /\ c ≠ 10 := fun c hc => xA (List.all_eq_true.mp hD c hc)
 have hBm : ∀ c ∈ B, c ≠ 41 /\ c ≠ 92 := fun c hc => by
  rcases hB with ⟨b, rfl, hb⟩ | ⟨rfl, hb⟩
  ·rw [List.mem_singleton.mp hc]; exact d8 b hb
  ·cases hc
 obtain ⟨d, D', rfl⟩ : ∃ d D', D = d :: D' := by cases D with | nil => exact absurd h1 (by decide) | cons d D' => exact ⟨d, D', rfl⟩
 have hd := hm d List.mem_cons_self
 refine ⟨fun v m e hv => ?_, ?_, 92, _, rfl, rfl, by decide⟩
 ·have := UrlV.esc (d :: D' ++ (B ++ y)) v (dQ k) ((d :: D').length + B.length) m e (by
   show ((92 == 92) && ((10 == d) && _)) = false
   rw [beq_eq_false_iff_ne.mpr (show 10 ≠ d from Ne.symm hd.2.2)]; rfl) he (by rw [<- List.drop_drop, List.drop_left, List.drop_left]; exact hv)
  rw [<- List.append_assoc] at this
  have e : (92 :: (d :: D' ++ B)).length + m = m + ((d :: D').length + B.length + 1) := by rw [List.length_cons, List.length_append, Nat.add_comm]
  rw [e]
  exact this
 ·show eN (92 :: (d :: D' ++ B ++ y)) = _
  rw [iD (by decide) (by
   show ((92 == 92) && ((41 == d) && _)) = false
   rw [beq_eq_false_iff_ne.mpr (show 41 ≠ d from Ne.symm hd.1)]; rfl), n9 _ y fun c hc => ?_, List.length_cons, Nat.add_right_comm]
  exact (List.mem_append.mp hc).elim (fun h => ⟨(hm c h).1, (hm c h).2.1⟩) (hBm c)
/-! the law's words -/
noncomputable def jD : List (List Nat) := [[97], [201], [47, 42], [42, 47], [58], [0], [59], [91], [125], [70], [49], [128], [35], [60, 33, 45, 45], [45], [117, 114, 108]]
noncomputable def escL : List Nat := [40, 41, 34, 39, 92, 32, 122, 9, 1, 127, 0, 201, 45, 103, 42, 11]
noncomputable def gT : List (List Nat) := [[34], [39], [40], [1], [11], [127], [31], [120, 32, 121]]
noncomputable def urlsW : List (List Nat) := [[117, 114, 108], [85, 82, 76], [117, 82, 108], [92, 55, 53, 32, 114, 108], [117, 92, 48, 48, 48, 48, 55, 50, 108], [117, 114, 92, 54, 99, 10], [92, 53, 53, 12, 114, 108]]
noncomputable def sgW (w : List Nat) : List (List Nat) := w.map fun c => [c]
noncomputable def mdW (w : List Nat) : List Nat := w.map fun c => md [c]
theorem r8 (w : List Nat) : (sgW w).map md = mdW w := List.map_map ..
noncomputable def vA (w : List Nat) : List Nat := if w = [0] then [65533] else w
theorem mR : ∀ w ∈ jD, (mdW w).all wB = true /\ mdW w = vA w /\ w ≠ [] /\ ((sgW w).all fun s => sgT.contains s && !(s == [13])) = true /\ w.length <= 4 := by decide +kernel
theorem zdM : ∀ c ∈ escL, cN (md [c]) = false /\ md [c] ≠ 10 /\ [md [c]] = vA [c] /\ (md [c] = 92 -> c = 92) /\ sgT.contains [c] = true /\ ([c] == [13]) = false := by decide +kernel
theorem m8 : ∀ w ∈ gT, ((∃ c, w = [c] /\ md [c] = c /\ tA c = true) \/ mdW w = [120, 32, 121]) /\ ((sgW w).all fun s => sgT.contains s && !(s == [13])) = true /\ w.length <= 4 := by
 intro w hw
 simp only [gT, List.mem_cons, List.not_mem_nil, or_false] at hw
 rcases hw with rfl | rfl | rfl | rfl | rfl | rfl | rfl | rfl
 all_goals first | exact ⟨.inl ⟨_, rfl, by decide, by decide⟩, by decide +kernel, by decide⟩ | exact ⟨.inr (by decide), by decide +kernel, by decide⟩
theorem Cur.wrong {y v : List Nat} {n : Nat} {e f g b : Bool} (h : Cur y v n e f g b) : ∀ w ∈ gT, Cur (mdW w ++ y) v (w.length + n) e true false true := fun w hw => by
 rcases (m8 w hw).1 with ⟨c, rfl, h1, h2⟩ | h1
 ·have : mdW [c] ++ y = c :: y := by rw [show mdW [c] = [md [c]] from rfl, h1]; rfl
  rw [this]
  exact h.sign h2
 ·have hl : w.length = 3 := by rw [<- List.length_map (f := fun c => md [c])]; exact congrArg List.length h1
  rw [h1, hl]
  exact h.gapped
theorem jX (y : List Nat) : NameAt (40 :: y) [] 0 := .stop _ fun c r q => by cases q; exact ⟨rfl, by decide⟩
theorem zbE : ∀ w ∈ urlsW, UrlW (mdW w) := by
 intro w hw
 simp only [urlsW, List.mem_cons, List.not_mem_nil, or_false] at hw
 rcases hw with rfl | rfl | rfl | rfl | rfl | rfl | rfl
 ·rw [show mdW [117, 114, 108] = [117, 114, 108] by decide]
  exact ⟨fun _ => rfl, fun y => ⟨[117, 114, 108], .sign _ _ _ _ rfl (.sign _ _ _ _ rfl (.sign _ _ _ _ rfl (jX y))), by decide⟩⟩
 ·rw [show mdW [85, 82, 76] = [85, 82, 76] by decide]
  exact ⟨fun _ => rfl, fun y => ⟨[85, 82, 76], .sign _ _ _ _ rfl (.sign _ _ _ _ rfl (.sign _ _ _ _ rfl (jX y))), by decide⟩⟩
 ·rw [show mdW [117, 82, 108] = [117, 82, 108] by decide]
  exact ⟨fun _ => rfl, fun y => ⟨[117, 82, 108], .sign _ _ _ _ rfl (.sign _ _ _ _ rfl (.sign _ _ _ _ rfl (jX y))), by decide⟩⟩
 ·rw [show mdW [92, 55, 53, 32, 114, 108] = [92, 55, 53, 32, 114, 108] by decide]
  exact ⟨fun _ => rfl, fun y => ⟨[117, 114, 108], .esc _ [114, 108] 117 3 2 rfl (EscAt.hex (x := 55 :: 53 :: 32 :: 114 :: 108 :: 40 :: y) 117 (Nat.zero_lt_succ 1) rfl) (.sign _ _ _ _ rfl (.sign _ _ _ _ rfl (jX y))), by decide⟩⟩
 ·rw [show mdW [117, 92, 48, 48, 48, 48, 55, 50, 108] = [117, 92, 48, 48, 48, 48, 55, 50, 108] by decide]
  exact ⟨fun _ => rfl, fun y => ⟨[117, 114, 108], .sign _ _ _ _ rfl (.esc _ [108] 114 6 1 rfl (EscAt.hex (x := 48 :: 48 :: 48 :: 48 :: 55 :: 50 :: 108 :: 40 :: y) 114 (Nat.zero_lt_succ 5) rfl) (.sign _ _ _ _ rfl (jX y))), by decide⟩⟩
 ·rw [show mdW [117, 114, 92, 54, 99, 10] = [117, 114, 92, 54, 99, 10] by decide]
  exact ⟨fun _ => rfl, fun y => ⟨[117, 114, 108], .sign _ _ _ _ rfl (.sign _ _ _ _ rfl (.esc _ [] 108 3 0 rfl (EscAt.hex (x := 54 :: 99 :: 10 :: 40 :: y) 108 (Nat.zero_lt_succ 1) rfl) (jX y))), by decide⟩⟩
 ·rw [show mdW [92, 53, 53, 12, 114, 108] = [92, 53, 53, 10, 114, 108] by decide]
  exact ⟨fun _ => rfl, fun y => ⟨[85, 114, 108], .esc _ [114, 108] 85 3 2 rfl (EscAt.hex (x := 53 :: 53 :: 10 :: 114 :: 108 :: 40 :: y) 85 (Nat.zero_lt_succ 1) rfl) (.sign _ _ _ _ rfl (.sign _ _ _ _ rfl (jX y))), by decide⟩⟩
noncomputable def cN0 : Ctx := mkC [] [] false [] []
theorem aZ : CtxMono cN0 := bI (by simp) (by simp)
theorem jK (hmb : HMb mb) : CtxOk prog w (bs w.params h mb) cN0 0 :=
 dG hmb (by simp) (by simp) (by simp) (by simp) (by simp) (by simp)
section
variable {C : Ctx} {κ : Kn}
noncomputable def zbu (e : Expr) : Option PV := exc none kJ (fun _ => none) (fun _ => none) (fun _ _ _ => none) (fun _ _ => none) (fun _ _ => none) e
theorem xW {e : Expr} {st : St} {v : PV} (h : zbu e = some v) : ev C κ e st v := by
 cases e <;> first | exact aC h | cases h
theorem cA {st : St} (M : CtxMono C) : ∀ {es : List Expr} {vs : List PV}, es.map zbu = vs.map some -> evs C κ es st vs
 | [], [], _ => aJ
 | e :: es, v :: vs, h => by
  obtain ⟨h1, h2⟩ := List.cons.inj h
  exact aE M (xW h1) (cA M h2)
theorem k9 {e : Expr} {p p' : Pos} {k : Nat} {st : St} {n : Int} (m : Nat) (hm : 0 < m) (M : CtxMono C) (h : ev C κ e st (.int n)) : ev C κ (.BinOp e .Mod (.Constant (.int (m : Int)) k p) p') st (.int (nm n m)) :=
 zdt n hm ▸ xR M h (aC rfl) (Int.ofNat_lt.mpr hm)
theorem lU {l r : Expr} {p : Pos} {st : St} {a b : Nat} (M : CtxMono C) (h1 : ev C κ l st (.int a)) (h2 : ev C κ r st (.int b)) : ev C κ (.Compare l [.Eq] [r] p) st (.bool (decide (a = b))) := bF M h1 h2 (decide_eq_decide.mpr Int.ofNat_inj)
theorem zbq {l r : Expr} {p : Pos} {st : St} {a b : Nat} (M : CtxMono C) (h1 : ev C κ l st (.int a)) (h2 : ev C κ r st (.int b)) : ev C κ (.Compare l [.Gt] [r] p) st (.bool (decide (b < a))) := bF M h1 h2 (decide_eq_decide.mpr Int.ofNat_lt)
theorem o9 {l r : Expr} {p : Pos} {st : St} {i j : Int} (M : CtxMono C) (h : ev C κ l st (.int i)) (h' : ev C κ r st (.int j)) (hj : 0 < j) (hj' : j < 4294967296) : ev C κ (.BinOp l .FloorDiv r p) st (.int (i / j)) :=
 aM (e := l) M h (aM (e := r) M h' ⟨hj, hj', rfl, rfl⟩)
theorem xE {α : Type} (l : List α) (i : Nat) : sI l (i : Int) = l[i]? := by unfold sI; rw [if_neg (Int.not_lt.mpr (Int.natCast_nonneg i)), Int.toNat_natCast]
theorem nE {o i : Expr} {p : Pos} {st : St} {xs : List PV} {n : Nat} {v : PV} (M : CtxMono C) (hs : y0 i = false) (h : ev C κ o st (.list xs)) (h' : ev C κ i st (.int n)) (hv : xs[n]? = some v) : ev C κ (.Subscript o i p) st v :=
 kF M hs h h' (by show opt (sI xs (n : Int)) _; rw [xE, hv]; rfl)
theorem rS {α : Type} (xs : List α) (k : Nat) : slc xs none (some (k : Int)) = xs.take k := by
 show xs.take ((if (k : Int) < 0 then ((k : Int) + xs.length).toNat else min k xs.length) - 0) = _
 rw [if_neg (Int.not_lt.mpr (Int.natCast_nonneg k)), Nat.sub_zero, <- List.take_eq_take_min]
noncomputable def a1 (S : List (List Nat)) : PV := .list (S.map .str)
theorem bG : ∀ S : List (List Nat), hV (S.map .str) = true
 | [] => rfl
 | _ :: S => bG S
theorem gZ : ∀ S : List (List Nat), fC (S.map .str) = true
 | [] => rfl
 | _ :: S => gZ S
theorem pD : ∀ S : List (List Nat), zaT (S.map .str) = 0
 | [] => rfl
 | _ :: S => by show max 0 (zaT (S.map .str)) = 0; rw [pD S]; rfl
theorem zH {X Y : List (List Nat)} (h : a1 X = a1 Y) : X = Y := by
 have h : X.map PV.str = Y.map PV.str := PV.list.inj h
 exact (List.map_inj_right fun a b q => PV.str.inj q).mp h
theorem zbr {l r : Expr} {p : Pos} {st : St} {X Y : List (List Nat)} (M : CtxMono C) (h1 : ev C κ l st (a1 X)) (h2 : ev C κ r st (a1 Y)) : ev C κ (.Compare l [.Eq] [r] p) st (.bool (decide (X = Y))) :=
 bF M h1 h2 (show eqW st.σ (a1 X) (a1 Y) (fun c => c = decide (X = Y)) from ⟨a1 X, a1 Y, aS _ _ (bG X), aS _ _ (bG Y), gZ X, gZ Y, (by show zaT (X.map .str) + 1 <= 4000; rw [pD]; decide), decide_eq_decide.mpr ⟨zH, fun (e : X = Y) => congrArg a1 e⟩⟩)
theorem jP : ∀ zs : List (List Nat), eA (zs.map .str) = some zs
 | [] => rfl
 | z :: r => by show (eA (r.map .str)).map (z :: ·) = _; rw [jP r]; rfl
theorem xS {l r : Expr} {p : Pos} {st : St} {x : List Nat} {Y : List (List Nat)} (M : CtxMono C) (h1 : ev C κ l st (.str x)) (h2 : ev C κ r st (a1 Y)) : ev C κ (.Compare l [.In] [r] p) st (.bool (decide (x ∈ Y))) :=
 bF M h1 h2 ⟨Y, jP Y, rfl⟩
theorem zcw {l r : Expr} {p : Pos} {st : St} {x : List Nat} {Y : List (List Nat)} (M : CtxMono C) (h1 : ev C κ l st (.str x)) (h2 : ev C κ r st (a1 Y)) : ev C κ (.Compare l [.NotIn] [r] p) st (.bool (!decide (x ∈ Y))) :=
 bF M h1 h2 ⟨Y, jP Y, rfl⟩
theorem d7 {l r : Expr} {p : Pos} {st : St} {X Y : List (List Nat)} (M : CtxMono C) (h : ev C κ l st (a1 X)) (h' : ev C κ r st (a1 Y)) (hl : X.length + Y.length <= aQ) : ev C κ (.BinOp l .Add r p) st (a1 (X ++ Y)) := by
 have := qV (p := p) M h h' (by rw [List.length_map, List.length_map]; exact hl)
 rw [<- List.map_append] at this
 exact this
theorem cV {e : Expr} {p : Pos} {st : St} {x : List Nat} (M : CtxMono C) (hm : C.mutL p.line = false) (h : ev C κ e st (.str x)) : ev C κ (.List [e] p) st (a1 [x]) := bU M hm (aE M h aJ)
theorem d4 {o i : Expr} {p : Pos} {st : St} {X : List (List Nat)} {n : Nat} {x : List Nat} (M : CtxMono C) (hs : y0 i = false) (h : ev C κ o st (a1 X)) (h' : ev C κ i st (.int n)) (hv : X[n]? = some x) : ev C κ (.Subscript o i p) st (.str x) :=
 nE M hs h h' (by rw [List.getElem?_map, hv]; rfl)
end
noncomputable def dT (v : PV) : Fn := fun ps K => ps = [] /\ K v
theorem cC (v : PV) : bC (dT v) := fun ps K K' h ⟨h1, h2⟩ => ⟨h1, h _ h2⟩
theorem fU {C : Ctx} {κ : Kn} {x : Str} {p q : Pos} {st : St} {v : PV} (M : CtxMono C) (k : κ x = some .globalImplicit) (hf : C.fn x = some (dT v)) : ev C κ (.Call (.Name x q) [] [] p) st v := bZ (F := dT v) M k hf aJ ⟨rfl, .inl rfl, rfl⟩
noncomputable def qY : List (List Nat) := [[10], [13, 10], [13], [12]]
noncomputable def zaF : List (List Nat) := [y3, y2]
section
theorem uB (hB : BsOk (bs w.params h mb)) (hmb : HMb mb) : Meets prog w (bs w.params h mb) 1 (.ref 684) (dT (a1 qY)) := by
 refine aX (k := 0) (params := []) (dv := []) (dp := []) hB (jK hmb) (by kernel_rfl) (by kernel_rfl) (by kernel_rfl) rfl (fun _ => .nil) (fun S vals hl => ?_) fun ps K => a2 fun h1 h2 => ?_
 ·cases List.length_eq_zero_iff.mp hl; kernel_rfl
 ·subst h1
  refine ⟨rfl, ?_⟩
  conv in (aN _ _) => whnf
  exact aB (aO aZ (a1 qY) (bU aZ rfl (cA aZ (by kernel_rfl))) ⟨_, aS _ _ (bG qY), h2⟩)
theorem fP (hB : BsOk (bs w.params h mb)) (hmb : HMb mb) : Meets prog w (bs w.params h mb) 1 (.ref 691) (dT (a1 a0)) := by
 refine aX (k := 0) (params := []) (dv := []) (dp := []) hB (jK hmb) (by kernel_rfl) (by kernel_rfl) (by kernel_rfl) rfl (fun _ => .nil) (fun S vals hl => ?_) fun ps K => a2 fun h1 h2 => ?_
 ·cases List.length_eq_zero_iff.mp hl; kernel_rfl
 ·subst h1
  refine ⟨rfl, ?_⟩
  conv in (aN _ _) => whnf
  exact aB (aO aZ (a1 a0) (bU aZ rfl (cA aZ (by kernel_rfl))) ⟨_, aS _ _ (bG a0), h2⟩)
theorem t8 (hB : BsOk (bs w.params h mb)) (hmb : HMb mb) : Meets prog w (bs w.params h mb) 1 (.ref 698) (dT (a1 zaF)) := by
 refine aX (k := 0) (params := []) (dv := []) (dp := []) hB (jK hmb) (by kernel_rfl) (by kernel_rfl) (by kernel_rfl) rfl (fun _ => .nil) (fun S vals hl => ?_) fun ps K => a2 fun h1 h2 => ?_
 ·cases List.length_eq_zero_iff.mp hl; kernel_rfl
 ·subst h1
  refine ⟨rfl, ?_⟩
  conv in (aN _ _) => whnf
  exact aB (aO aZ (a1 zaF) (bU aZ rfl (cA aZ (by kernel_rfl))) ⟨_, aS _ _ (bG zaF), h2⟩)
theorem oM (hB : BsOk (bs w.params h mb)) (hmb : HMb mb) : Meets prog w (bs w.params h mb) 1 (.ref 705) (dT (a1 jD)) := by
 refine aX (k := 0) (params := []) (dv := []) (dp := []) hB (jK hmb) (by kernel_rfl) (by kernel_rfl) (by kernel_rfl) rfl (fun _ => .nil) (fun S vals hl => ?_) fun ps K => a2 fun h1 h2 => ?_
 ·cases List.length_eq_zero_iff.mp hl; kernel_rfl
 ·subst h1
  refine ⟨rfl, ?_⟩
  conv in (aN _ _) => whnf
  exact aB (aO aZ (a1 jD) (bU aZ rfl (cA aZ (by kernel_rfl))) ⟨_, aS _ _ (bG jD), h2⟩)
theorem t9 (hB : BsOk (bs w.params h mb)) (hmb : HMb mb) : Meets prog w (bs w.params h mb) 1 (.ref 712) (dT (a1 (escL.map fun c => [c]))) := by
 refine aX (k := 0) (params := []) (dv := []) (dp := []) hB (jK hmb) (by kernel_rfl) (by kernel_rfl) (by kernel_rfl) rfl (fun _ => .nil) (fun S vals hl => ?_) fun ps K => a2 fun h1 h2 => ?_
 ·cases List.length_eq_zero_iff.mp hl; kernel_rfl
 ·subst h1
  refine ⟨rfl, ?_⟩
  conv in (aN _ _) => whnf
  exact aB (aO aZ (a1 (escL.map fun c => [c])) (bU aZ rfl (cA aZ (by kernel_rfl))) ⟨_, aS _ _ (bG (escL.map fun c => [c])), h2⟩)
theorem oO (hB : BsOk (bs w.params h mb)) (hmb : HMb mb) : Meets prog w (bs w.params h mb) 1 (.ref 719) (dT (a1 gT)) := by
 refine aX (k := 0) (params := []) (dv := []) (dp := []) hB (jK hmb) (by kernel_rfl) (by kernel_rfl) (by kernel_rfl) rfl (fun _ => .nil) (fun S vals hl => ?_) fun ps K => a2 fun h1 h2 => ?_
 ·cases List.length_eq_zero_iff.mp hl; kernel_rfl
 ·subst h1
  refine ⟨rfl, ?_⟩
  conv in (aN _ _) => whnf
  exact aB (aO aZ (a1 gT) (bU aZ rfl (cA aZ (by kernel_rfl))) ⟨_, aS _ _ (bG gT), h2⟩)
theorem tX (hB : BsOk (bs w.params h mb)) (hmb : HMb mb) : Meets prog w (bs w.params h mb) 1 (.ref 726) (dT (a1 urlsW)) := by
 refine aX (k := 0) (params := []) (dv := []) (dp := []) hB (jK hmb) (by kernel_rfl) (by kernel_rfl) (by kernel_rfl) rfl (fun _ => .nil) (fun S vals hl => ?_) fun ps K => a2 fun h1 h2 => ?_
 ·cases List.length_eq_zero_iff.mp hl; kernel_rfl
 ·subst h1
  refine ⟨rfl, ?_⟩
  conv in (aN _ _) => whnf
  exact aB (aO aZ (a1 urlsW) (bU aZ rfl (cA aZ (by kernel_rfl))) ⟨_, aS _ _ (bG urlsW), h2⟩)
end
noncomputable def bK (i : Nat) (S : List (List Nat)) : List Nat := if (decide ((a0[i]?).getD [] = [13]) && decide (S.take 1 = [[10]])) = true then [13, 10] else (a0[i]?).getD []
noncomputable def hY : Fn := fun ps K => ∃ (way : Int) (S : List (List Nat)), ps = [.int way, a1 S] /\ K (.str (bK (nm way 6) S))
theorem jL : bC hY := fun _ _ _ h => e2 fun _ _ => c1 (h _)
noncomputable def cB : Ctx := mkC [("_law_BLANKS", dT (a1 a0))] [] false [] []
theorem zcR : CtxMono cB := bI (by simp [cC]) (by simp)
theorem xT {C : Ctx} {κ : Kn} {o : Expr} {p q p1 : Pos} {k : Nat} {st : St} {X : List (List Nat)} (M : CtxMono C) (h : ev C κ o st (a1 X)) : ev C κ (.Subscript o (.Slice none (some (.Constant (.int 1) k p1)) none q) p) st (a1 (X.take 1)) := by
 have := xM (u := .Constant (.int 1) k p1) (p := p) (q := q) (j := ((1 : Nat) : Int)) M h (aC rfl) (by decide) (by decide)
 rw [rS, <- List.map_take] at this
 exact this
theorem uQ (p : Params) (way : Int) (S : List (List Nat)) (K : PV -> Prop) (hK : K (.str (bK (nm way 6) S))) : wSs cB (cF (aP (HK p) 733)) (aN (HK p) 733) (kZ K) ⟨bJ [("way", .int way), ("rest", a1 S)] (fun _ => none), fun _ => none⟩ := by
 have M := zcR
 conv in (aN _ _) => whnf
 have hi := gL way (show 0 < 6 by decide)
 obtain ⟨b, hb⟩ : ∃ b, a0[nm way 6]? = some b := ⟨_, List.getElem?_eq_getElem (l := a0) hi⟩
 rw [bK, hb, Option.getD_some] at hK
 refine aB (aG M (.str b) (d4 M rfl (fU M (by kernel_rfl!) rfl) (k9 6 (by decide) M (by exact aA (by kernel_rfl!) (by kernel_rfl!))) hb) (by kernel_rfl) ?_)
 refine aB (aO M (.str _) (dS (c := decide (b = [13]) && decide (S.take 1 = [[10]])) M (eM M (bN M (jJ (q := "\r") M (by exact aA (by kernel_rfl!) (by kernel_rfl!)))) fun _ => fB (bN M (zbr M (xT M (by exact aA (by kernel_rfl!) (by kernel_rfl!))) (cV M rfl (aC rfl))))) (fun h => ?_) (fun h => ?_)) ⟨_, aS _ _ rfl, hK⟩)
 ·rw [if_pos h]; exact aC rfl
 ·rw [if_neg (by rw [h]; decide)]; exact by exact aA (by kernel_rfl!) (by kernel_rfl!)
theorem j3 (hB : BsOk (bs w.params h mb)) (hmb : HMb mb) : Meets prog w (bs w.params h mb) 2 (.ref 733) hY := by
 have hC : CtxOk prog w (bs w.params h mb) cB 1 := dG hmb (by simp [cC]) (by simp) (by simp) (fun e he => by
  simp only [List.mem_singleton] at he; subst he
  exact ⟨.ref 691, by kernel_rfl, fP hB hmb⟩) (by simp) (by simp)
 refine aX (k := 2) (params := ["way", "rest"]) (dv := []) (dp := []) hB hC (by kernel_rfl) (by kernel_rfl) (by kernel_rfl) rfl (fun _ => .nil) (fun S vals hl => ?_) fun ps K => x2 fun way S => a2 fun h1 h2 => ?_
 ·obtain ⟨a, b, rfl⟩ := gP hl
  kernel_rfl
 ·subst h1
  exact ⟨rfl, uQ _ way S K h2⟩
noncomputable def bhd (S : List (List Nat)) : List Nat := S.head?.getD [46]
noncomputable def lA (way : Int) (f : Nat) : Nat :=
 if (decide (55296 <= ((way * 70001) % ((16 : Int) ^ f)).toNat) && decide (((way * 70001) % ((16 : Int) ^ f)).toNat <= 57343)) = true then ((way * 70001) % ((16 : Int) ^ f)).toNat - 55296 else ((way * 70001) % ((16 : Int) ^ f)).toNat
noncomputable def uJ (way : Int) (S : List (List Nat)) : List (List Nat) :=
 if (decide (nm (way / 12) 3 = 0) && !decide (bhd S ∈ a0)) = true then (if (decide (1 + nm way 6 = 6) || (!w9 (bhd S) y3 && !w9 (bhd S) y2)) = true then [] else [bK (nm (way / 2) 6) S]) else [bK (nm (way / 2) 6) S]
theorem mZ (way : Int) (S : List (List Nat)) : (uJ way S).length <= 1 := by
 unfold uJ
 split
 ·split
  ·exact Nat.zero_le _
  ·exact Nat.le_refl _
 ·exact Nat.le_refl _
noncomputable def uI (way : Int) : List Nat := dig (k8 (nm way 2)) (1 + nm way 6) (lA way (1 + nm way 6)) []
noncomputable def sF (way : Int) (S : List (List Nat)) : List (List Nat) := [92] :: (sgW (uI way) ++ uJ way S)
noncomputable def cH : Ctx := mkC [("_law_BLANKS", dT (a1 a0)), ("_law_HEX", dT (a1 zaF)), ("_law_blank", hY)] [] false [] []
theorem zdU : ∀ e ∈ ([("_law_BLANKS", dT (a1 a0)), ("_law_HEX", dT (a1 zaF)), ("_law_blank", hY)] : List (String × Fn)), bC e.2 := by
 simp only [List.mem_cons, List.not_mem_nil, or_false]; rintro e (rfl | rfl | rfl)
 ·exact cC _
 ·exact cC _
 ·exact jL
theorem zcO : CtxMono cH := bI zdU (by simp)
section
variable {C : Ctx} {κ : Kn}
theorem zdK {l r : Expr} {p : Pos} {st : St} {i j : Int} (M : CtxMono C) (h : ev C κ l st (.int i)) (h' : ev C κ r st (.int j)) (hj : Builtin.Int.intBits j <= 64) : ev C κ (.BinOp l .Mult r p) st (.int (i * j)) :=
 aM (e := l) M h (aM (e := r) M h' ⟨hj, rfl, rfl⟩)
theorem zdH {l r : Expr} {p : Pos} {st : St} {f : Nat} (M : CtxMono C) (h : ev C κ l st (.int 16)) (h' : ev C κ r st (.int f)) (h1 : 1 <= f) (h6 : f <= 6) : ev C κ (.BinOp l .Pow r p) st (.int (16 ^ f)) :=
 aM (e := l) M h (aM (e := r) M h' ⟨rfl, Int.ofNat_le.mpr h1, Int.ofNat_le.mpr h6, rfl, rfl⟩)
theorem zdh {l m r : Expr} {p : Pos} {st : St} {i j k : Nat} (M : CtxMono C) (h1 : ev C κ l st (.int i)) (h2 : ev C κ m st (.int j)) (h3 : ev C κ r st (.int k)) : tv C κ (.Compare l [.LtE, .LtE] [m, r] p) st (decide (i <= j) && decide (j <= k)) := by
 refine aM (e := l) M h1 (aM (e := m) M h2 ?_)
 show if decide ((i : Int) <= j) = true then wCh C [r] [.LtE] κ (.int j) _ st else _
 rw [decide_eq_decide.mpr (Int.ofNat_le (m := i) (n := j))]
 cases decide (i <= j)
 ·exact ⟨rfl, rfl⟩
 ·exact aM (e := r) M h3 ⟨rfl, decide_eq_decide.mpr Int.ofNat_le, rfl⟩
theorem xP {l r : Expr} {p : Pos} {st : St} {x y : List Nat} (M : CtxMono C) (h1 : ev C κ l st (.str x)) (h2 : ev C κ r st (.str y)) : ev C κ (.Compare l [.NotIn] [r] p) st (.bool (!w9 x y)) := bF M h1 h2 rfl
theorem zck {x y : Int} {K : PV -> Prop} : inP .Sub (.int x) (.int y) K = K (.int (x - y)) := rfl
theorem zbJ {e : Expr} {st : St} {S : List (List Nat)} (M : CtxMono C) (h : ev C κ e st (a1 S)) : tv C κ e st (!S.isEmpty) := by
 refine zD M h ?_
 cases S <;> rfl
end
theorem zdC (i : Nat) (h : i < 2) : zaF[i]? = some (k8 i) := by
 match i, h with
 | 0, _ => rfl
 | 1, _ => rfl
theorem zcp (i n : Nat) : (k8 i)[n % 16]? = some (pW (k8 i) n) := by
 have hl : (k8 i).length = 16 := by unfold k8; split <;> rfl
 have h : n % 16 < (k8 i).length := by rw [hl]; exact Nat.mod_lt _ (by decide)
 rw [pW, List.getElem?_eq_getElem h]; rfl
theorem oZ (p : Params) (way : Int) (S : List (List Nat)) (K : PV -> Prop) (hK : K (.tup [a1 (sF way S), .str [dQ (lA way (1 + nm way 6))]])) : wSs cH (cF (aP (HK p) 740)) (aN (HK p) 740) (kZ K) ⟨bJ [("way", .int way), ("rest", a1 S)] (fun _ => none), fun _ => none⟩ := by
 have M := zcO
 conv in (aN _ _) => whnf
 have h6 := gL way (show 0 < 6 by decide)
 have h2 := gL way (show 0 < 2 by decide)
 have hBl := mZ way S
 refine aB (aG M (.int (1 + nm way 6 : Nat)) (eF (i := 1) (j := nm way 6) M (aC rfl) (k9 6 (by decide) M (by exact aA (by kernel_rfl!) (by kernel_rfl!)))) (by kernel_rfl) ?_)
 unfold sF uI at hK
 have hf1 : 1 <= 1 + nm way 6 := Nat.le_add_right 1 _
 have hf6 : 1 + nm way 6 <= 6 := by omega
 have eB : uJ way S = if (decide (nm (way / 12) 3 = 0) && !decide (bhd S ∈ a0)) = true then (if (decide (1 + nm way 6 = 6) || (!w9 (bhd S) y3 && !w9 (bhd S) y2)) = true then [] else [bK (nm (way / 2) 6) S]) else [bK (nm (way / 2) 6) S] := rfl
 generalize uJ way S = Bs at hBl hK eB
 generalize 1 + nm way 6 = f at hK hf1 hf6 eB ⊢
 have hp : (0 : Int) < 16 ^ f := Int.pow_pos (by decide)
 obtain ⟨c0, hc0⟩ : ∃ c0 : Nat, ((way * 70001) % ((16 : Int) ^ f)).toNat = c0 := ⟨_, rfl⟩
 have hci : (way * 70001) % ((16 : Int) ^ f) = c0 := by rw [<- hc0]; exact (Int.toNat_of_nonneg (Int.emod_nonneg _ (Int.ne_of_gt hp))).symm
 unfold lA at hK
 rw [hc0] at hK
 refine aB (aG M (.int c0) (hci ▸ xR M (zdK M (by exact aA (by kernel_rfl!) (by kernel_rfl!)) (aC rfl) (by decide +kernel)) (zdH M (aC rfl) (by exact aA (by kernel_rfl!) (by kernel_rfl!)) hf1 hf6) hp) (by kernel_rfl) ?_)
 clear hci hc0 hp
 let R1 : Nat -> St -> Prop := fun c st => dD [("way", .int way), ("rest", a1 S), ("figures", .int f), ("code", .int c)] st.ρ
 refine dY M (R1 (if (decide (55296 <= c0) && decide (c0 <= 57343)) = true then c0 - 55296 else c0)) (cY M (decide (55296 <= c0) && decide (c0 <= 57343)) (zdh (i := 55296) (k := 57343) M (aC rfl) (by exact aA (by kernel_rfl!) (by kernel_rfl!)) (aC rfl)) (fun h => ?_) (fun h => ?_)) ?_
 ·rw [if_pos h]
  refine aB (fL M (.int c0) (.int 55296) (by kernel_rfl!) (aC rfl) (by kernel_rfl) (of_eq zck ?_))
  have e : (c0 : Int) - 55296 = ((c0 - 55296 : Nat) : Int) := (Int.ofNat_sub (of_decide_eq_true (Bool.and_eq_true_iff.mp h).1)).symm
  rw [e]
  exact (show dD _ _ by (show _ = _; first | kernel_rfl! | (rw [<- Nat.add_assoc]; kernel_rfl!) | (rw [<- Nat.add_assoc, <- Nat.add_assoc]; kernel_rfl!)))
 ·rw [if_neg (by rw [h]; decide)]
  exact (show dD _ _ by (show _ = _; first | kernel_rfl! | (rw [<- Nat.add_assoc]; kernel_rfl!) | (rw [<- Nat.add_assoc, <- Nat.add_assoc]; kernel_rfl!)))
 generalize (if (decide (55296 <= c0) && decide (c0 <= 57343)) = true then c0 - 55296 else c0) = code at hK ⊢
 refine fun st h1 => fE h1 ?_
 clear h1 R1
 refine aB (aG M (.str [dQ code]) (dS (c := decide (code = 0) || decide (1114111 < code)) M (zbH M (bN M (lU (a := code) (b := 0) M (by exact aA (by kernel_rfl!) (by kernel_rfl!)) (aC rfl))) fun _ => fB (bN M (zbq (a := code) (b := 1114111) M (by exact aA (by kernel_rfl!) (by kernel_rfl!)) (aC rfl)))) (fun h => ?_) (fun h => ?_)) (by kernel_rfl) ?_)
 ·rw [dQ, if_neg (fun q => by
   obtain ⟨q1, q2⟩ := Bool.and_eq_true_iff.mp q
   have q1 := of_decide_eq_true q1
   have q2 := of_decide_eq_true q2
   rw [decide_eq_false (Nat.ne_of_gt q1), decide_eq_false (Nat.not_lt.mpr q2)] at h; cases h)]
  exact aC rfl
 ·obtain ⟨q1, q2⟩ := Bool.or_eq_false_iff.mp h
  have q1 := of_decide_eq_false q1
  have q2 := Nat.le_of_not_lt (of_decide_eq_false q2)
  rw [dQ, if_pos (by rw [decide_eq_true (Nat.pos_of_ne_zero q1), decide_eq_true q2]; rfl)]
  exact nG M (by kernel_rfl!) rfl rfl (by kernel_rfl) (aE M (v := .int code) (by exact aA (by kernel_rfl!) (by kernel_rfl!)) aJ) (of_eq (B := 0 <= (code : Int) /\ (code : Int) < 0x110000 /\ PV.str [code] = .str [code]) (by kernel_rfl) ⟨Int.natCast_nonneg code, Int.ofNat_lt.mpr (Nat.lt_succ_of_le q2), rfl⟩)
 refine aB (aG M (.str (bhd S)) (dS (c := !S.isEmpty) M (zbJ M (by exact aA (by kernel_rfl!) (by kernel_rfl!))) (fun h => ?_) (fun h => ?_)) (by kernel_rfl) ?_)
 ·cases S with
  | nil => cases h
  | cons s S' => exact d4 (X := s :: S') (n := 0) M rfl (by exact aA (by kernel_rfl!) (by kernel_rfl!)) (aC rfl) rfl
 ·cases S with
  | nil => exact aC rfl
  | cons s S' => cases h
 refine aB (aG M (a1 [bK (nm (way / 2) 6) S]) (cV M rfl (bZ (F := hY) M (by kernel_rfl!) rfl (aE M (v := .int (way / 2)) (o9 M (by exact aA (by kernel_rfl!) (by kernel_rfl!)) (aC rfl) (by decide) (by decide)) (aE M (v := a1 S) (by exact aA (by kernel_rfl!) (by kernel_rfl!)) aJ)) ⟨way / 2, S, rfl, .inl rfl, rfl⟩)) (by kernel_rfl) ?_)
 let R2 : St -> Prop := fun st => dD [("way", .int way), ("figures", .int f), ("code", .int code), ("value", .str [dQ code]), ("signs", a1 Bs)] st.ρ
 refine dY M R2 (cY M (decide (nm (way / 12) 3 = 0) && !decide (bhd S ∈ a0)) (eM M (bN M (lU (a := nm (way / 12) 3) (b := 0) M (k9 3 (by decide) M (o9 M (by exact aA (by kernel_rfl!) (by kernel_rfl!)) (aC rfl) (by decide) (by decide))) (aC rfl))) fun _ => fB (bN M (zcw M (by exact aA (by kernel_rfl!) (by kernel_rfl!)) (fU M (by kernel_rfl!) rfl)))) (fun h => ?_) (fun h => ?_)) ?_
 ·rw [if_pos h] at eB
  refine aB (cY M (decide (f = 6) || (!w9 (bhd S) y3 && !w9 (bhd S) y2)) (zbH M (bN M (lU (a := f) (b := 6) M (by exact aA (by kernel_rfl!) (by kernel_rfl!)) (aC rfl))) fun _ => fB (eM M (bN M (xP M (by exact aA (by kernel_rfl!) (by kernel_rfl!)) (d4 (X := zaF) (n := 0) M rfl (fU M (by kernel_rfl!) rfl) (aC rfl) rfl))) fun _ => fB (bN M (xP M (by exact aA (by kernel_rfl!) (by kernel_rfl!)) (d4 (X := zaF) (n := 1) M rfl (fU M (by kernel_rfl!) rfl) (aC rfl) rfl))))) (fun h' => ?_) (fun h' => ?_))
  ·rw [if_pos h'] at eB
   exact aB (aG M (a1 []) (bU M rfl aJ) (by kernel_rfl) (by show dD _ _; rw [eB]; (show _ = _; first | kernel_rfl! | (rw [<- Nat.add_assoc]; kernel_rfl!) | (rw [<- Nat.add_assoc, <- Nat.add_assoc]; kernel_rfl!))))
  ·rw [if_neg (by rw [h']; decide)] at eB
   show dD _ _
   rw [eB]
   (show _ = _; first | kernel_rfl! | (rw [<- Nat.add_assoc]; kernel_rfl!) | (rw [<- Nat.add_assoc, <- Nat.add_assoc]; kernel_rfl!))
 ·rw [if_neg (by rw [h]; decide)] at eB
  show dD _ _
  rw [eB]
  (show _ = _; first | kernel_rfl! | (rw [<- Nat.add_assoc]; kernel_rfl!) | (rw [<- Nat.add_assoc, <- Nat.add_assoc]; kernel_rfl!))
 refine fun st h1 => fE h1 ?_
 clear h1 eB
 generalize dQ code = vc at hK R2 ⊢
 generalize hT : nm way 2 = ti at hK h2
 obtain ⟨D0, hD0⟩ : ∃ D0, dig (k8 ti) f code [] = D0 := ⟨_, rfl⟩
 have hDl : D0.length = f := by rw [<- hD0, qZ]; rfl
 rw [hD0] at hK
 have hlen : ((List.range ((f : Int) - 0).toNat).map fun (k : Nat) => PV.int (0 + k)).length = f := by rw [List.length_map, List.length_range, Int.sub_zero, Int.toNat_natCast]
 refine dY M (fun st => dD [("value", .str [vc]), ("signs", a1 (sgW D0 ++ Bs))] st.ρ)
  (zab M (.rng 0 f) _ rfl (by rw [hlen]; exact Nat.le_trans hf6 (by decide)) (by kernel_rfl) (nG M (by kernel_rfl!) rfl rfl (by kernel_rfl) (aE M (v := .int f) (by exact aA (by kernel_rfl!) (by kernel_rfl!)) aJ) (of_eq (B := (0 : Int) <= 0 /\ (0 : Int) <= 16777216 /\ 0 <= (f : Int) /\ (f : Int) <= 16777216 /\ PV.rng 0 f = .rng 0 f) (by kernel_rfl) ⟨Int.le_refl 0, by decide, Int.natCast_nonneg f, Int.ofNat_le.mpr (Nat.le_trans hf6 (by decide)), rfl⟩))
   (fun i st => ∃ (n : Nat) (D : List Nat), dD [("way", .int way), ("code", .int n), ("value", .str [vc]), ("signs", a1 (sgW D ++ Bs))] st.ρ /\ D.length = i /\ dig (k8 ti) (f - i) n D = D0) (fun i hi st hI => ?_) (fun st hI => ?_) ⟨code, [], by (show _ = _; first | kernel_rfl! | (rw [<- Nat.add_assoc]; kernel_rfl!) | (rw [<- Nat.add_assoc, <- Nat.add_assoc]; kernel_rfl!)), rfl, hD0⟩) ?_
 ·obtain ⟨ρ, σ⟩ := st
  obtain ⟨n, D, g1, g2, g3⟩ := hI
  rw [hlen] at hi
  refine ⟨_, rfl, ?_⟩
  rw [show ρ = bJ _ ρ from bA _ g1]
  clear g1
  obtain ⟨k, hk⟩ : ∃ k, f - i = k + 1 := ⟨f - i - 1, by omega⟩
  rw [hk] at g3
  refine aB (aG M (a1 ([pW (k8 ti) n] :: (sgW D ++ Bs))) (d7 (X := [[pW (k8 ti) n]]) M (cV M rfl (d6 (x := k8 ti) (n := n % 16) M rfl (d4 (X := zaF) (n := ti) M rfl (fU M (by kernel_rfl!) rfl) (hT ▸ k9 2 (by decide) M (by exact aA (by kernel_rfl!) (by kernel_rfl!))) (zdC ti h2)) (xR (i := n) (j := 16) M (by exact aA (by kernel_rfl!) (by kernel_rfl!)) (aC rfl) (by decide)) (zcp ti n))) (by exact aA (by kernel_rfl!) (by kernel_rfl!)) ?_) (by kernel_rfl) ?_)
  ·show 1 + (sgW D ++ Bs).length <= aQ
   rw [List.length_append, sgW, List.length_map, g2]
   show 1 + (i + Bs.length) <= aQ
   unfold aQ; omega
  refine aB (aG M (.int ((n / 16 : Nat) : Int)) (o9 (i := n) (j := 16) M (by exact aA (by kernel_rfl!) (by kernel_rfl!)) (aC rfl) (by decide) (by decide)) (by kernel_rfl) ?_)
  refine ⟨n / 16, pW (k8 ti) n :: D, (show dD _ _ by (show _ = _; first | kernel_rfl! | (rw [<- Nat.add_assoc]; kernel_rfl!) | (rw [<- Nat.add_assoc, <- Nat.add_assoc]; kernel_rfl!))), by rw [List.length_cons, g2], ?_⟩
  have : f - (i + 1) = k := by omega
  rw [this]; exact g3
 ·obtain ⟨n, D, g1, g2, g3⟩ := hI
  rw [hlen, Nat.sub_self] at g3
  have g3 : D = D0 := g3
  subst g3
  obtain ⟨ρ, σ⟩ := st
  show dD _ ρ
  rw [show ρ = bJ _ ρ from bA _ g1]
  (show _ = _; first | kernel_rfl! | (rw [<- Nat.add_assoc]; kernel_rfl!) | (rw [<- Nat.add_assoc, <- Nat.add_assoc]; kernel_rfl!))
 ·refine fun st h1 => fE h1 ?_
  exact aB (aO M (.tup [a1 ([92] :: (sgW D0 ++ Bs)), .str [vc]]) (bE M (aE M (d7 (X := [[92]]) M (cV M rfl (aC rfl)) (by exact aA (by kernel_rfl!) (by kernel_rfl!)) (by
   show 1 + (sgW D0 ++ Bs).length <= aQ
   rw [List.length_append, sgW, List.length_map, hDl]
   show 1 + (f + Bs.length) <= aQ
   unfold aQ; omega)) (aE M (by exact aA (by kernel_rfl!) (by kernel_rfl!)) aJ))) ⟨_, aS _ _ (yQ (bG _) rfl), hK⟩)
noncomputable def pU : Fn := fun ps K => ∃ (way : Int) (S : List (List Nat)), ps = [.int way, a1 S] /\ K (.tup [a1 (sF way S), .str [dQ (lA way (1 + nm way 6))]])
theorem rH : bC pU := fun _ _ _ h => e2 fun _ _ => c1 (h _)
theorem t7 (hB : BsOk (bs w.params h mb)) (hmb : HMb mb) : Meets prog w (bs w.params h mb) 3 (.ref 740) pU := by
 have hC : CtxOk prog w (bs w.params h mb) cH 2 := dG hmb zdU (by simp) (by simp) (fun e he => by
  simp only [List.mem_cons, List.not_mem_nil, or_false] at he
  rcases he with rfl | rfl | rfl
  ·exact ⟨.ref 691, by kernel_rfl, (fP hB hmb).le (by decide)⟩
  ·exact ⟨.ref 698, by kernel_rfl, (t8 hB hmb).le (by decide)⟩
  ·exact ⟨.ref 733, by kernel_rfl, j3 hB hmb⟩) (by simp) (by simp)
 refine aX (k := 2) (params := ["way", "rest"]) (dv := []) (dp := []) hB hC (by kernel_rfl) (by kernel_rfl) (by kernel_rfl) rfl (fun _ => .nil) (fun S vals hl => ?_) fun ps K => x2 fun way S => a2 fun h1 h2 => ?_
 ·obtain ⟨a, b, rfl⟩ := gP hl
  kernel_rfl
 ·subst h1
  exact ⟨rfl, oZ _ way S K h2⟩
section
variable {C : Ctx} {κ : Kn}
theorem kC {x : Str} {p q p2 : Pos} {st : St} {S : List (List Nat)} (M : CtxMono C) (k : κ "len" = some .globalImplicit) (hf : C.fn "len" = none) (hc : C.cls "len" = none) (hb : C.bi "len" = true) (h : ev C κ (.Name x p) st (a1 S)) : ev C κ (.Call (.Name (Str.ofString "len") q) [.Name x p] [] p2) st (.int S.length) :=
 nG M k hf hc hb (aE M h aJ) (of_eq (B := PV.int ((S.map PV.str).length : Nat) = .int S.length) (by kernel_rfl) (by rw [List.length_map]))
theorem z7 (u : List Nat) : a1 (sgW u) = .list (u.map fun c => .str [c]) := congrArg PV.list (List.map_map ..)
theorem nA {iter : Expr} {x : Str} {px pe pos : Pos} {sc : Scope} {st : St} {u : List Nat} (M : CtxMono C) (hsc : cW κ sc = true) (hn : (sc.names.lookup x == some .local) = true) (hit : ev C κ iter st (.str u)) (hl : u.length <= 1000) (hm : C.mutL pos.line = false) :
  ev C κ (.ListComp (.Name x pe) [⟨.Name x px, iter, [], 0⟩] sc pos) st (a1 (sgW u)) := by
 rw [z7]
 have := zcx (elt := .Name x pe) (tgt := .Name x px) (sc := sc) (pos := pos) (items := u.map fun c => PV.str [c]) M (fun v => v) hsc (show ([x].all fun x => sc.names.lookup x == some .local) = true by show ((sc.names.lookup x == some .local) && true) = true; rw [hn]; rfl) hit rfl (by rw [List.length_map]; exact Nat.le_trans hl (by decide)) hm fun w _ => ⟨_, rfl, aA (eq_of_beq hn) (if_pos rfl)⟩
 rw [List.map_id'] at this
 exact this
end
noncomputable def k7 (S : List (List Nat)) : Nat := (S.takeWhile fun s => decide (s ∈ a0)).length
noncomputable def zc4 (S : List (List Nat)) : Bool := (S[k7 S]?).any fun s => decide (s ∈ [[34], [39]])
noncomputable def zek (S : List (List Nat)) : List (List Nat) := if zc4 S = true then [120] :: S else S
noncomputable def g8 (i : Nat) (S : List (List Nat)) : List (List Nat) := sgW ((urlsW[i]?).getD []) ++ [[40]] ++ zek S
noncomputable def zby (S : List (List Nat)) (i : Nat) : Bool := (S[i]?).any fun s => decide (s ∈ a0)
theorem lQ {S : List (List Nat)} {i : Nat} (h : zby S i = true) : i < S.length /\ k7 (S.drop i) = k7 (S.drop (i + 1)) + 1 := by
 unfold zby at h
 by_cases hl : i < S.length
 ·rw [List.getElem?_eq_getElem hl] at h
  refine ⟨hl, ?_⟩
  rw [List.drop_eq_getElem_cons hl, k7, List.takeWhile_cons_of_pos (p := fun s => decide (s ∈ a0)) h]; rfl
 ·rw [List.getElem?_eq_none (Nat.le_of_not_lt hl)] at h; cases h
theorem uD {S : List (List Nat)} {i : Nat} (h : zby S i = false) : k7 (S.drop i) = 0 := by
 unfold zby at h
 by_cases hl : i < S.length
 ·rw [List.getElem?_eq_getElem hl] at h
  rw [List.drop_eq_getElem_cons hl, k7, List.takeWhile_cons_of_neg (fun q => by rw [Option.any_some, q] at h; cases h)]; rfl
 ·rw [List.drop_of_length_le (Nat.le_of_not_lt hl)]; rfl
noncomputable def cO : Ctx := mkC [("_law_BLANKS", dT (a1 a0)), ("_law_URLS", dT (a1 urlsW))] [] false [] []
theorem zdS : ∀ e ∈ ([("_law_BLANKS", dT (a1 a0)), ("_law_URLS", dT (a1 urlsW))] : List (String × Fn)), bC e.2 := by
 simp only [List.mem_cons, List.not_mem_nil, or_false]; rintro e (rfl | rfl)
 ·exact cC _
 ·exact cC _
theorem zcN : CtxMono cO := bI zdS (by simp)
theorem wC (p : Params) (way : Int) (S : List (List Nat)) (K : PV -> Prop) (hl : S.length <= 1000) (hK : K (a1 (g8 (nm way 7) S))) : wSs cO (cF (aP (HK p) 745)) (aN (HK p) 745) (kZ K) ⟨bJ [("way", .int way), ("rest", a1 S)] (fun _ => none), fun _ => none⟩ := by
 have M := zcN
 conv in (aN _ _) => whnf
 obtain ⟨u, hu⟩ : ∃ u, urlsW[nm way 7]? = some u := ⟨_, List.getElem?_eq_getElem (l := urlsW) (gL way (show 0 < 7 by decide))⟩
 have hul : u.length <= 9 := of_decide_eq_true (List.all_eq_true.mp (show urlsW.all (fun u => decide (u.length <= 9)) = true by decide) u (List.mem_of_getElem? hu))
 unfold g8 zek zc4 at hK
 rw [hu, Option.getD_some] at hK
 refine aB (aG M (.int ((0 : Nat) : Int)) (aC rfl) (by kernel_rfl) ?_)
 generalize hL : k7 S = L at hK
 let R : St -> Prop := fun st => dD [("way", .int way), ("rest", a1 S), ("look", .int L)] st.ρ
 refine dY M R (gY M (fun n st => ∃ f : Nat, n = S.length - f /\ dD [("way", .int way), ("rest", a1 S), ("look", .int f)] st.ρ /\ f + k7 (S.drop f) = L) ?_ (S.length - 0) _ ⟨0, rfl, by (show _ = _; first | kernel_rfl! | (rw [<- Nat.add_assoc]; kernel_rfl!) | (rw [<- Nat.add_assoc, <- Nat.add_assoc]; kernel_rfl!)), by rw [<- hL]; exact Nat.zero_add _⟩) ?_
 ·refine fun n st => x1 fun f => a3 fun hn h1 h2 => keepP st h1 ?_
  clear h1
  refine ⟨decide (f < S.length) && zby S f, eM M (bN M (jN M (by exact aA (by kernel_rfl!) (by kernel_rfl!)) (kC M (by kernel_rfl!) rfl rfl (by kernel_rfl) (by exact aA (by kernel_rfl!) (by kernel_rfl!))))) fun h => fB ?_, fun hc => ?_, fun hc => ?_⟩
  ·have hg := List.getElem?_eq_getElem (of_decide_eq_true h)
   rw [zby, hg, Option.any_some]
   exact bN M (xS M (d4 M rfl (by exact aA (by kernel_rfl!) (by kernel_rfl!)) (by exact aA (by kernel_rfl!) (by kernel_rfl!)) hg) (fU M (by kernel_rfl!) rfl))
  ·obtain ⟨g1, g2⟩ := lQ (Bool.and_eq_true_iff.mp hc).2
   rw [g2] at h2
   refine aB (fL M (.int f) (.int 1) (by kernel_rfl!) (aC rfl) (by kernel_rfl) (of_eq dP ?_))
   exact ⟨S.length - (f + 1), hn ▸ Nat.sub_lt_sub_left g1 (Nat.lt_succ_self f), f + 1, rfl, (show dD _ _ by (show _ = _; first | kernel_rfl! | (rw [<- Nat.add_assoc]; kernel_rfl!) | (rw [<- Nat.add_assoc, <- Nat.add_assoc]; kernel_rfl!))), by rw [<- h2]; omega⟩
  ·have hs : zby S f = false := by
    cases q : zby S f with
    | false => rfl
    | true => rw [q, decide_eq_true (lQ q).1] at hc; cases hc
   rw [uD hs] at h2
   have h2 : f = L := h2
   subst h2
   exact (show dD _ _ by (show _ = _; first | kernel_rfl! | (rw [<- Nat.add_assoc]; kernel_rfl!) | (rw [<- Nat.add_assoc, <- Nat.add_assoc]; kernel_rfl!)))
 ·refine fun st h1 => fE h1 ?_
  clear h1 hL
  obtain ⟨S2, hS2⟩ : ∃ S2, S2 = if ((S[L]?).any fun s => decide (s ∈ [[34], [39]])) = true then [120] :: S else S := ⟨_, rfl⟩
  rw [<- hS2] at hK
  let R2 : St -> Prop := fun st => dD [("way", .int way), ("rest", a1 S2)] st.ρ
  have hb : (decide (L < S.length) && ((S[L]?).any fun s => decide (s ∈ [[34], [39]]))) = (S[L]?).any fun s => decide (s ∈ [[34], [39]]) := by
   by_cases h : L < S.length
   ·rw [decide_eq_true h, Bool.true_and]
   ·rw [List.getElem?_eq_none (Nat.le_of_not_lt h)]; exact Bool.and_false _
  refine dY M R2 (cY M (decide (L < S.length) && ((S[L]?).any fun s => decide (s ∈ [[34], [39]]))) (eM M (bN M (jN M (by exact aA (by kernel_rfl!) (by kernel_rfl!)) (kC M (by kernel_rfl!) rfl rfl (by kernel_rfl) (by exact aA (by kernel_rfl!) (by kernel_rfl!))))) fun h => fB ?_) (fun h => ?_) (fun h => ?_)) ?_
  ·have hg := List.getElem?_eq_getElem (of_decide_eq_true h)
   rw [hg, Option.any_some]
   exact bN M (xS (Y := [[34], [39]]) M (d4 M rfl (by exact aA (by kernel_rfl!) (by kernel_rfl!)) (by exact aA (by kernel_rfl!) (by kernel_rfl!)) hg) (bU M rfl (aE M (aC rfl) (aE M (aC rfl) aJ))))
  ·rw [hb] at h
   refine aB (aG M (a1 ([120] :: S)) (d7 (X := [[120]]) M (cV M rfl (aC rfl)) (by exact aA (by kernel_rfl!) (by kernel_rfl!)) (by show 1 + S.length <= aQ; unfold aQ; omega)) (by kernel_rfl) ?_)
   show dD _ _
   rw [hS2, if_pos h]
   (show _ = _; first | kernel_rfl! | (rw [<- Nat.add_assoc]; kernel_rfl!) | (rw [<- Nat.add_assoc, <- Nat.add_assoc]; kernel_rfl!))
  ·rw [hb] at h
   show dD _ _
   rw [hS2, if_neg (by rw [h]; decide)]
   (show _ = _; first | kernel_rfl! | (rw [<- Nat.add_assoc]; kernel_rfl!) | (rw [<- Nat.add_assoc, <- Nat.add_assoc]; kernel_rfl!))
  ·have hql : S2.length <= 1001 := by
    rw [hS2]
    split
    ·exact Nat.succ_le_succ hl
    ·exact Nat.le_succ_of_le hl
   refine fun st h1 => fE h1 ?_
   have e1 : (sgW u).length <= 9 := by rw [sgW, List.length_map]; exact hul
   exact aB (aO M (a1 (sgW u ++ [[40]] ++ S2)) (d7 M (d7 (Y := [[40]]) M (nA M (by kernel_rfl) (by kernel_rfl) (d4 M rfl (fU M (by kernel_rfl!) rfl) (k9 7 (by decide) M (by exact aA (by kernel_rfl!) (by kernel_rfl!))) hu) (Nat.le_trans hul (by decide)) rfl) (cV M rfl (aC rfl)) (Nat.le_trans (Nat.add_le_add e1 (Nat.le_refl 1)) (by decide))) (by exact aA (by kernel_rfl!) (by kernel_rfl!)) (by rw [List.length_append]; exact Nat.le_trans (Nat.add_le_add (Nat.add_le_add e1 (Nat.le_refl 1)) hql) (by decide))) ⟨_, aS _ _ (bG _), hK⟩)
noncomputable def pS : Fn := fun ps K => ∃ (way : Int) (S : List (List Nat)), ps = [.int way, a1 S] /\ S.length <= 1000 /\ K (a1 (g8 (nm way 7) S))
theorem rG : bC pS := fun _ _ _ h => e2 fun _ _ => c2 (h _)
theorem t6 (hB : BsOk (bs w.params h mb)) (hmb : HMb mb) : Meets prog w (bs w.params h mb) 2 (.ref 745) pS := by
 have hC : CtxOk prog w (bs w.params h mb) cO 1 := dG hmb zdS (by simp) (by simp) (fun e he => by
  simp only [List.mem_cons, List.not_mem_nil, or_false] at he
  rcases he with rfl | rfl
  ·exact ⟨.ref 691, by kernel_rfl, fP hB hmb⟩
  ·exact ⟨.ref 726, by kernel_rfl, tX hB hmb⟩) (by simp) (by simp)
 refine aX (k := 2) (params := ["way", "rest"]) (dv := []) (dp := []) hB hC (by kernel_rfl) (by kernel_rfl) (by kernel_rfl) rfl (fun _ => .nil) (fun S vals hl => ?_) fun ps K => x2 fun way S => a3 fun h1 h2 h3 => ?_
 ·obtain ⟨a, b, rfl⟩ := gP hl
  kernel_rfl
 ·subst h1
  exact ⟨rfl, wC _ way S K h2 h3⟩
/-! what is told -/
noncomputable abbrev Ent := Bool × Nat × List Nat
noncomputable def zch (b : Bool) : List Nat := if b = true then lcS "url" else lcS "error"
noncomputable def kG (e : Ent) : PV := .tup [.str (zch e.1), .int e.2.1, .str e.2.2]
noncomputable def u0 (l : Nat) (R : Rs) : List Ent := Rs.casesOn (motive := fun _ => List Ent) R (fun w => [(true, l, w)]) (fun w => [(true, l, w), (false, l, lcS "eof-in-url")]) [(false, l, lcS "bad-url")]
theorem uL : ∀ E : List Ent, hV (E.map kG) = true
 | [] => rfl
 | _ :: E => uL E
theorem xX (p : Params) (b e : Bool) (l : Nat) (v : List Nat) (K : PV -> Prop) (hK : K (.list ((u0 l (dK b e v)).map kG))) : wSs cN0 (cF (aP (HK p) 752)) (aN (HK p) 752) (kZ K) ⟨bJ [("bad", .bool b), ("ended", .bool e), ("left", .int l), ("value", .str v)] (fun _ => none), fun _ => none⟩ := by
 have M := aZ
 conv in (aN _ _) => whnf
 refine aB (cY M b (bN M (by exact aA (by kernel_rfl!) (by kernel_rfl!))) (fun h => ?_) (fun h => ?_))
 ·subst h
  exact aB (aO M (.list [kG (false, l, lcS "bad-url")]) (bU M rfl (aE M (bE M (aE M (aC rfl) (aE M (by exact aA (by kernel_rfl!) (by kernel_rfl!)) (aE M (aC rfl) aJ)))) aJ)) ⟨_, aS _ _ rfl, hK⟩)
 subst h
 refine aB (cY M e (bN M (by exact aA (by kernel_rfl!) (by kernel_rfl!))) (fun h => ?_) (fun h => ?_))
 ·subst h
  exact aB (aO M (.list [kG (true, l, v), kG (false, l, lcS "eof-in-url")]) (bU M rfl (aE M (bE M (aE M (aC rfl) (aE M (by exact aA (by kernel_rfl!) (by kernel_rfl!)) (aE M (by exact aA (by kernel_rfl!) (by kernel_rfl!)) aJ)))) (aE M (bE M (aE M (aC rfl) (aE M (by exact aA (by kernel_rfl!) (by kernel_rfl!)) (aE M (aC rfl) aJ)))) aJ))) ⟨_, aS _ _ rfl, hK⟩)
 ·subst h
  exact aB (aO M (.list [kG (true, l, v)]) (bU M rfl (aE M (bE M (aE M (aC rfl) (aE M (by exact aA (by kernel_rfl!) (by kernel_rfl!)) (aE M (by exact aA (by kernel_rfl!) (by kernel_rfl!)) aJ)))) aJ)) ⟨_, aS _ _ rfl, hK⟩)
noncomputable def pV : Fn := fun ps K => ∃ (b e : Bool) (l : Nat) (v : List Nat), ps = [.bool b, .bool e, .int l, .str v] /\ K (.list ((u0 l (dK b e v)).map kG))
theorem rI : bC pV := fun _ _ _ h => e4 fun _ _ _ _ => c1 (h _)
theorem uA (hB : BsOk (bs w.params h mb)) (hmb : HMb mb) : Meets prog w (bs w.params h mb) 1 (.ref 752) pV := by
 refine aX (k := 4) (params := ["bad", "ended", "left", "value"]) (dv := []) (dp := []) hB (jK hmb) (by kernel_rfl) (by kernel_rfl) (by kernel_rfl) rfl (fun _ => .nil) (fun S vals hl => ?_) fun ps K => x4 fun b e l v => a2 fun h1 h2 => ?_
 ·obtain ⟨a, b, c, d, rfl⟩ := four hl
  kernel_rfl
 ·subst h1
  exact ⟨rfl, xX _ b e l v K h2⟩
section
variable {C : Ctx} {κ : Kn}
theorem xN {x name : Str} {p1 p2 : Pos} {st : St} {c : Nat} {fs : List PV} {v : PV} (hk : κ x = some .local) (hx : st.ρ x = some (.inst c fs)) (hv : (C.slot c name).bind (fun i => fs[i]?) = some v) : ev C κ (.Attribute (.Name x p1) name p2) st v := by
 obtain ⟨i, hs, hv⟩ := Option.bind_eq_some_iff.mp hv
 show (if κ x = some .globalImplicit then opt (C.val x) _ else opt (st.ρ x) _)
 rw [hk, j8, hx]
 show nV (C.slot c name) _ fun i => opt fs[i]? _
 rw [hs]
 show opt fs[i]? _
 rw [hv]; exact ⟨rfl, rfl⟩
theorem xV {x name : Str} {p1 p2 : Pos} {st : St} {c : Nat} {fs : List PV} {v : PV} (hk : κ x = some .local) (hx : st.ρ x = some (.inst c fs)) (hs : C.slot c name = none) (hv : C.cval c name = some v) : ev C κ (.Attribute (.Name x p1) name p2) st v := by
 show (if κ x = some .globalImplicit then opt (C.val x) _ else opt (st.ρ x) _)
 rw [hk, j8, hx]
 show nV (C.slot c name) _ _
 rw [hs, fN, hv]
 exact ⟨rfl, rfl⟩
end
noncomputable def iK (y : List Nat) (n : Nat) : List PV := (List.range n).map fun i => zb5 (eZ (y.take i))
theorem fT {α : Type} (f : α -> PV) (h : ∀ a, zew (f a) = true) : ∀ l : List α, hV (l.map f) = true
 | [] => rfl
 | a :: l => yQ (h a) (fT f h l)
theorem v9 (y : List Nat) (n : Nat) : iK y (n + 1) = iK y n ++ [zb5 (eZ (y.take n))] := by unfold iK; rw [List.range_succ, List.map_append]; rfl
theorem zcE {s : List Nat} (h : Sg s) : decide (s ∈ qY) = decide (md s = 10) := v3 (f := fun s => decide (s ∈ qY)) (g := fun s => decide (md s = 10)) (by decide +kernel) h
noncomputable def cQ : Ctx := mkC [("_law_ENDS", dT (a1 qY))] [] false [] [624]
theorem zdR : ∀ e ∈ ([("_law_ENDS", dT (a1 qY))] : List (String × Fn)), bC e.2 := by simp [cC]
theorem zcM : CtxMono cQ := bI zdR (by simp)
theorem zah (p : Params) (S : List (List Nat)) (K : PV -> Prop) (hS : Sgs S) (hl : S.length <= 1000) (hK : K (.list (iK (S.map md) S.length))) : wSs cQ (cF (aP (HK p) 759)) (aN (HK p) 759) (kZ K) ⟨bJ [("signs", a1 S)] (fun _ => none), fun _ => none⟩ := by
 have M := zcM
 conv in (aN _ _) => whnf
 refine aB (oB (by kernel_rfl) (by kernel_rfl) fun a _ => ?_)
 refine aB (aG M (.int ((1 : Nat) : Int)) (aC rfl) (by kernel_rfl) ?_)
 refine aB (aG M (.int ((1 : Nat) : Int)) (aC rfl) (by kernel_rfl) ?_)
 have hml : (S.map PV.str).length = S.length := List.length_map _
 refine dY M (fun st => dD [("places", .ptr a)] st.ρ /\ st.σ a = some (.lst (iK (S.map md) S.length)))
  (zab M (a1 S) (S.map .str) rfl (by rw [hml]; exact Nat.le_trans hl (by decide)) (by kernel_rfl) (by exact aA (by kernel_rfl!) (by kernel_rfl!))
   (fun i st => dD [("places", .ptr a), ("line", .int (eZ ((S.map md).take i)).1), ("column", .int (eZ ((S.map md).take i)).2)] st.ρ /\ st.σ a = some (.lst (iK (S.map md) i))) (fun i hi st hI => ?_) (fun st hI => ?_) ⟨by (show _ = _; first | kernel_rfl! | (rw [<- Nat.add_assoc]; kernel_rfl!) | (rw [<- Nat.add_assoc, <- Nat.add_assoc]; kernel_rfl!)), bB _ _ _⟩) ?_
 ·obtain ⟨ρ, σ⟩ := st
  obtain ⟨h1, h2⟩ := hI
  rw [hml] at hi
  have hs := hS _ (List.getElem_mem hi)
  have hi' : i < (S.map md).length := by rw [List.length_map]; exact hi
  refine ⟨_, rfl, ?_⟩
  rw [List.getElem_map, v9, wX hi', List.getElem_map]
  rw [show ρ = bJ _ ρ from bA _ h1]
  clear h1
  have hpl : (iK (S.map md) i).length < aQ := by unfold iK aQ; rw [List.length_map, List.length_range]; omega
  generalize eZ ((S.map md).take i) = lc
  generalize S[i] = s at hs
  refine aB (b6 M (zb5 lc) (by kernel_rfl) (by kernel_rfl!) h2 (bE M (aE M (by exact aA (by kernel_rfl!) (by kernel_rfl!)) (aE M (by exact aA (by kernel_rfl!) (by kernel_rfl!)) aJ))) rfl hpl ?_)
  refine aB (fL M (.int lc.2) (.int 1) (by kernel_rfl!) (aC rfl) (by kernel_rfl) (of_eq dP ?_))
  refine aB (cY M (decide (md s = 10)) (zcE hs ▸ bN M (xS M (by exact aA (by kernel_rfl!) (by kernel_rfl!)) (fU M (by kernel_rfl!) rfl))) (fun h => ?_) (fun h => ?_))
  ·rw [if_pos (of_decide_eq_true h)]
   refine aB (fL M (.int lc.1) (.int 1) (by kernel_rfl!) (aC rfl) (by kernel_rfl) (of_eq dP ?_))
   exact aB (aG M (.int ((1 : Nat) : Int)) (aC rfl) (by kernel_rfl) ⟨by (show _ = _; first | kernel_rfl! | (rw [<- Nat.add_assoc]; kernel_rfl!) | (rw [<- Nat.add_assoc, <- Nat.add_assoc]; kernel_rfl!)), bB _ _ _⟩)
  ·rw [if_neg (of_decide_eq_false h)]
   exact ⟨by (show _ = _; first | kernel_rfl! | (rw [<- Nat.add_assoc]; kernel_rfl!) | (rw [<- Nat.add_assoc, <- Nat.add_assoc]; kernel_rfl!)), bB _ _ _⟩
 ·rw [hml] at hI
  obtain ⟨ρ, σ⟩ := st
  refine ⟨?_, hI.2⟩
  show dD _ ρ
  rw [show ρ = bJ _ ρ from bA _ hI.1]
  (show _ = _; first | kernel_rfl! | (rw [<- Nat.add_assoc]; kernel_rfl!) | (rw [<- Nat.add_assoc, <- Nat.add_assoc]; kernel_rfl!))
 ·rintro ⟨ρ, σ⟩ ⟨h1, h2⟩
  refine fE h1 ?_
  exact aB (aO M (.ptr a) (by exact aA (by kernel_rfl!) (by kernel_rfl!)) ⟨.list _, .inr ⟨a, _, rfl, h2, dZ _ _ (fT _ (fun _ => rfl) _)⟩, hK⟩)
noncomputable def za6 : Fn := fun ps K => ∃ S : List (List Nat), ps = [a1 S] /\ Sgs S /\ S.length <= 1000 /\ K (.list (iK (S.map md) S.length))
theorem uV : bC za6 := fun _ _ _ h => e1 fun _ => c3 (h _)
theorem wT (hB : BsOk (bs w.params h mb)) (hmb : HMb mb) : Meets prog w (bs w.params h mb) 2 (.ref 759) za6 := by
 have hC : CtxOk prog w (bs w.params h mb) cQ 1 := dG hmb zdR (by simp) (by simp) (fun e he => by
  simp only [List.mem_singleton] at he; subst he
  exact ⟨.ref 684, by kernel_rfl, uB hB hmb⟩) (by simp) (by simp)
 refine aX (k := 1) (params := ["signs"]) (dv := []) (dp := []) hB hC (by kernel_rfl) (by kernel_rfl) (by kernel_rfl) rfl (fun _ => .nil) (fun S vals hl => ?_) fun ps K => x1 fun S => a4 fun h1 h2 h3 h4 => ?_
 ·obtain ⟨a, rfl⟩ := rW hl
  kernel_rfl
 ·subst h1
  exact ⟨rfl, zah _ S K h2 h3 h4⟩
/-! what the law reads off the tokens -/
noncomputable abbrev Nd := Bool × (Nat × Nat) × List Nat × List Nat
noncomputable def ndV (t : Nd) : PV := Bool.casesOn (motive := fun _ => PV) t.1 (zcC t.2.1 t.2.2.1 t.2.2.2) (zbG t.2.1 t.2.2.1 t.2.2.2)
noncomputable def ndR (t : Nd) : PV := .tup [.str (zch t.1), zb5 t.2.1, .str t.2.2.1]
noncomputable def cRd : Ctx := mkC [] [] false [] [635]
theorem zaZ : CtxMono cRd := bI (by simp) (by simp)
theorem v8 (p : Params) (ts : List Nd) (K : PV -> Prop) (hl : ts.length <= 10000) (hK : K (.list (ts.map ndR))) : wSs cRd (cF (aP (HK p) 766)) (aN (HK p) 766) (kZ K) ⟨bJ [("nodes", .list (ts.map ndV))] (fun _ => none), fun _ => none⟩ := by
 have M := zaZ
 conv in (aN _ _) => whnf
 refine aB (oB (by kernel_rfl) (by kernel_rfl) fun a _ => ?_)
 have hml : (ts.map ndV).length = ts.length := List.length_map _
 refine dY M (fun st => dD [("row", .ptr a)] st.ρ /\ st.σ a = some (.lst (ts.map ndR)))
  (zab M (.list (ts.map ndV)) (ts.map ndV) rfl (by rw [hml]; exact Nat.le_trans hl (by decide)) (by kernel_rfl) (by exact aA (by kernel_rfl!) (by kernel_rfl!))
   (fun i st => dD [("row", .ptr a)] st.ρ /\ st.σ a = some (.lst ((ts.take i).map ndR))) (fun i hi st hI => ?_) (fun st hI => ?_) ⟨by (show _ = _; first | kernel_rfl! | (rw [<- Nat.add_assoc]; kernel_rfl!) | (rw [<- Nat.add_assoc, <- Nat.add_assoc]; kernel_rfl!)), bB _ _ _⟩) ?_
 ·obtain ⟨ρ, σ⟩ := st
  obtain ⟨h1, h2⟩ := hI
  rw [hml] at hi
  refine ⟨_, rfl, ?_⟩
  rw [List.getElem_map, List.take_succ_eq_append_getElem hi, List.map_append]
  rw [show ρ = bJ _ ρ from bA _ h1]
  clear h1
  have hpl : ((ts.take i).map ndR).length < aQ := by rw [List.length_map, List.length_take]; unfold aQ; omega
  generalize ts[i] = t
  obtain ⟨b, lc, w, m⟩ := t
  refine aB (aG M (.str []) (aC rfl) (by kernel_rfl) ?_)
  cases b with
  | true =>
   have ty : ∀ {st : St} {p1 p2 : Pos}, st.ρ "node" = some (zbG lc w m) -> ev cRd (cF (aP (HK p) 766)) (.Attribute (.Name (Str.ofString "node") p1) (Str.ofString "type") p2) st (.str (lcS "url")) := fun h => xV (by kernel_rfl!) h (by kernel_rfl) (by kernel_rfl)
   have sl : ∀ {st : St} {p1 p2 : Pos} {n : Str} {v : PV}, st.ρ "node" = some (zbG lc w m) -> (cRd.slot 355 n).bind (fun i => [PV.str m, .str w, .int lc.2, .int lc.1][i]?) = some v -> ev cRd (cF (aP (HK p) 766)) (.Attribute (.Name (Str.ofString "node") p1) n p2) st v := fun h g => xN (by kernel_rfl!) h g
   refine aB (cY M false ((show decide (lcS "url" = (Str.ofString "error").cps.toList) = false by decide +kernel) ▸ bN M (jJ (q := "error") M (ty (by kernel_rfl!)))) (fun h => by cases h) (fun _ => ?_))
   refine aB (cY M true ((show decide (lcS "url" = (Str.ofString "url").cps.toList) = true by decide +kernel) ▸ bN M (jJ (q := "url") M (ty (by kernel_rfl!)))) (fun _ => ?_) (fun h => by cases h))
   refine aB (aG M (.str w) (sl (by kernel_rfl!) (by kernel_rfl)) (by kernel_rfl) ?_)
   (repeat (first | refine dO ?_ | dsimp only [gA]))
   exact aB (b6 M (ndR (true, lc, w, m)) (by kernel_rfl) (by kernel_rfl!) h2 (bE M (aE M (ty (by kernel_rfl!)) (aE M (bE M (aE M (v := .int lc.1) (sl (by kernel_rfl!) (by kernel_rfl)) (aE M (v := .int lc.2) (sl (by kernel_rfl!) (by kernel_rfl)) aJ))) (aE M (by exact aA (by kernel_rfl!) (by kernel_rfl!)) aJ)))) rfl hpl ⟨by (show _ = _; first | kernel_rfl! | (rw [<- Nat.add_assoc]; kernel_rfl!) | (rw [<- Nat.add_assoc, <- Nat.add_assoc]; kernel_rfl!)), bB _ _ _⟩)
  | false =>
   have ty : ∀ {st : St} {p1 p2 : Pos}, st.ρ "node" = some (zcC lc w m) -> ev cRd (cF (aP (HK p) 766)) (.Attribute (.Name (Str.ofString "node") p1) (Str.ofString "type") p2) st (.str (lcS "error")) := fun h => xV (by kernel_rfl!) h (by kernel_rfl) (by kernel_rfl)
   have sl : ∀ {st : St} {p1 p2 : Pos} {n : Str} {v : PV}, st.ρ "node" = some (zcC lc w m) -> (cRd.slot 104 n).bind (fun i => [PV.str w, .str m, .int lc.2, .int lc.1][i]?) = some v -> ev cRd (cF (aP (HK p) 766)) (.Attribute (.Name (Str.ofString "node") p1) n p2) st v := fun h g => xN (by kernel_rfl!) h g
   refine aB (cY M true ((show decide (lcS "error" = (Str.ofString "error").cps.toList) = true by decide +kernel) ▸ bN M (jJ (q := "error") M (ty (by kernel_rfl!)))) (fun _ => ?_) (fun h => by cases h))
   refine aB (aG M (.str w) (sl (by kernel_rfl!) (by kernel_rfl)) (by kernel_rfl) ?_)
   (repeat (first | refine dO ?_ | dsimp only [gA]))
   exact aB (b6 M (ndR (false, lc, w, m)) (by kernel_rfl) (by kernel_rfl!) h2 (bE M (aE M (ty (by kernel_rfl!)) (aE M (bE M (aE M (v := .int lc.1) (sl (by kernel_rfl!) (by kernel_rfl)) (aE M (v := .int lc.2) (sl (by kernel_rfl!) (by kernel_rfl)) aJ))) (aE M (by exact aA (by kernel_rfl!) (by kernel_rfl!)) aJ)))) rfl hpl ⟨by (show _ = _; first | kernel_rfl! | (rw [<- Nat.add_assoc]; kernel_rfl!) | (rw [<- Nat.add_assoc, <- Nat.add_assoc]; kernel_rfl!)), bB _ _ _⟩)
 ·rw [hml, List.take_length] at hI
  exact hI
 ·rintro ⟨ρ, σ⟩ ⟨h1, h2⟩
  refine fE h1 ?_
  exact aB (aO M (.ptr a) (by exact aA (by kernel_rfl!) (by kernel_rfl!)) ⟨.list _, .inr ⟨a, _, rfl, h2, dZ _ _ (fT _ (fun _ => rfl) _)⟩, hK⟩)
noncomputable def tE : Fn := fun ps K => ∃ ts : List Nd, ps = [.list (ts.map ndV)] /\ ts.length <= 10000 /\ K (.list (ts.map ndR))
theorem rF : bC tE := fun _ _ _ h => e1 fun _ => c2 (h _)
theorem t5 (hB : BsOk (bs w.params h mb)) (hmb : HMb mb) : Meets prog w (bs w.params h mb) 1 (.ref 766) tE := by
 have hC : CtxOk prog w (bs w.params h mb) cRd 0 := dG hmb (by simp) (by simp) (by simp) (by simp) (by simp) (by simp)
 refine aX (k := 1) (params := ["nodes"]) (dv := []) (dp := []) hB hC (by kernel_rfl) (by kernel_rfl) (by kernel_rfl) rfl (fun _ => .nil) (fun S vals hl => ?_) fun ps K => x1 fun ts => a3 fun h1 h2 h3 => ?_
 ·obtain ⟨a, rfl⟩ := rW hl
  kernel_rfl
 ·subst h1
  exact ⟨rfl, v8 _ ts K h2 h3⟩
noncomputable def eG (E : List (Nat × Rs)) : List Ent := E.flatMap fun e => u0 e.1 e.2
structure LS (S : List (List Nat)) (E : List (Nat × Rs)) (v : List Nat) (n : Nat) (e f g b : Bool) (i : Nat) : Prop where
 sg : Sgs S
 nc : ncr S
 cur : Cur (S.map md) v n e f g b
 rd : Rd ((S.map md).drop n) E
 sl : S.length <= 14 * i + 1
 el : E.length <= i
 vl : v.length <= 4 * i + 1
theorem tM {s : List Nat} (h : sgT.contains s = true) : Sg s := h
theorem nP (m : Nat) (h : m < 6) (S : List (List Nat)) : Sg (bK m S) /\ aR (md (bK m S)) = true /\ (bK m S = [13] -> S.head? ≠ some [10]) := by
 have k : ∀ m < 6, sgT.contains ((a0[m]?).getD []) = true /\ aR (md ((a0[m]?).getD [])) = true := by decide +kernel
 unfold bK
 by_cases q : (decide ((a0[m]?).getD [] = [13]) && decide (S.take 1 = [[10]])) = true
 ·rw [if_pos q]; exact ⟨tM (by decide +kernel), by decide +kernel, fun e => by cases e⟩
 ·rw [if_neg q]
  refine ⟨(k m h).1, (k m h).2, fun e he => q ?_⟩
  rw [e]
  cases S with
  | nil => cases he
  | cons s S' =>
   have he : s = [10] := Option.some.inj he
   rw [he]; rfl
theorem oH {m : Nat} (h : m < 6) {S : List (List Nat)} (hS : ncr S) : ncr (bK m S :: S) := ⟨fun q => (nP m h S).2.2 q.1 q.2, hS⟩
theorem iE {s : List Nat} {S : List (List Nat)} (h : Sg s) (hS : Sgs S) : Sgs (s :: S) := List.forall_mem_cons.mpr ⟨h, hS⟩
theorem jZ {z S : List (List Nat)} (h : (z.all fun s => sgT.contains s && !(s == [13])) = true) (hS : Sgs S) : Sgs (z ++ S) := fun s hs => (List.mem_append.mp hs).elim (fun q => (Bool.and_eq_true_iff.mp (List.all_eq_true.mp h s q)).1) (hS s)
theorem oJ {z S : List (List Nat)} (h : (z.all fun s => sgT.contains s && !(s == [13])) = true) (hS : ncr S) : ncr (z ++ S) :=
 wL z S (List.all_eq_true.mpr fun s hs => (Bool.and_eq_true_iff.mp (List.all_eq_true.mp h s hs)).2) hS
theorem md41 {s : List Nat} (h : Sg s) : decide (md s = 41) = decide (s = [41]) := v3 (f := fun s => decide (md s = 41)) (g := fun s => decide (s = [41])) (by decide +kernel) h
theorem zdw {s : List Nat} (h : Sg s) : decide (s ∈ ([[34], [39]] : List (List Nat))) = (decide (md s = 34) || decide (md s = 39)) := v3 (f := fun s => decide (s ∈ ([[34], [39]] : List (List Nat)))) (g := fun s => decide (md s = 34) || decide (md s = 39)) (by decide +kernel) h
theorem zbi {s : List Nat} (h : Sg s) : decide (s ∈ a0) = aR (md s) := v3 (f := fun s => decide (s ∈ a0)) (g := fun s => aR (md s)) (by decide +kernel) h
theorem wV : ∀ {S : List (List Nat)}, Sgs S -> k7 S = aK (S.map md)
 | [], _ => rfl
 | s :: S, h => by
  have hs := zbi (h s List.mem_cons_self)
  have ih := wV fun t ht => h t (List.mem_cons_of_mem _ ht)
  unfold k7 at ih ⊢
  cases q : aR (md s) with
  | true =>
   rw [q] at hs
   rw [List.takeWhile_cons_of_pos (p := fun s => decide (s ∈ a0)) hs, List.map_cons, hW _ q, <- ih]; rfl
  | false =>
   rw [q] at hs
   rw [List.takeWhile_cons_of_neg (by rw [hs]; decide), List.map_cons, iU _ q]; rfl
theorem zdq {S : List (List Nat)} (h : Sgs S) : (zc4 S = true -> ∃ c r, (S.map md).drop (aK (S.map md)) = c :: r /\ (c = 34 \/ c = 39)) /\ (zc4 S = false -> ∀ c r, (S.map md).drop (aK (S.map md)) = c :: r -> c ≠ 34 /\ c ≠ 39) := by
 unfold zc4
 rw [wV h]
 generalize aK (S.map md) = k
 by_cases hl : k < S.length
 ·have hd : (S.map md).drop k = md S[k] :: (S.map md).drop (k + 1) := by rw [List.drop_eq_getElem_cons (by rw [List.length_map]; exact hl), List.getElem_map]
  rw [List.getElem?_eq_getElem hl, Option.any_some, zdw (h _ (List.getElem_mem hl)), hd]
  refine ⟨fun q => ⟨_, _, rfl, (Bool.or_eq_true_iff.mp q).imp of_decide_eq_true of_decide_eq_true⟩, fun q c r e => ?_⟩
  cases e
  obtain ⟨q1, q2⟩ := Bool.or_eq_false_iff.mp q
  exact ⟨of_decide_eq_false q1, of_decide_eq_false q2⟩
 ·rw [List.getElem?_eq_none (Nat.le_of_not_lt hl)]
  exact ⟨fun q => (by cases q), fun _ c r e => by rw [List.drop_of_length_le (by rw [List.length_map]; exact Nat.le_of_not_lt hl)] at e; cases e⟩
section
variable {S : List (List Nat)} {E : List (Nat × Rs)} {v : List Nat} {n i : Nat} {e f g b : Bool}
theorem LS.blank (h : LS S E v n e f g b i) {m : Nat} (hm : m < 6) : LS (bK m S :: S) E v (n + 1) e f f b (i + 1) := by
 obtain ⟨k1, k2, _⟩ := nP m hm S
 refine ⟨iE k1 h.sg, oH hm h.nc, h.cur.blank k2, h.rd, ?_, Nat.le_succ_of_le h.el, Nat.le_trans h.vl (by omega)⟩
 have := h.sl
 rw [List.length_cons]; omega
theorem LS.ahead (h : LS S E v n e f g b i) {z : List (List Nat)} {w : List Nat} {b' : Bool} (hz : Sgs (z ++ S)) (hn : ncr (z ++ S)) (hc : Cur (z.map md ++ S.map md) (w ++ v) (z.length + n) e true false b') (hl : z.length <= 14) (hw : w.length <= 4) : LS (z ++ S) E (w ++ v) (z.length + n) e true false b' (i + 1) := by
 have h1 := h.sl
 have h2 := h.vl
 refine ⟨hz, hn, by rw [List.map_append]; exact hc, ?_, ?_, Nat.le_succ_of_le h.el, ?_⟩
 ·rw [List.map_append, <- List.drop_drop]
  have : z.length = (z.map md).length := (List.length_map _).symm
  rw [this, List.drop_left]; exact h.rd
 ·rw [List.length_append]; omega
 ·rw [List.length_append]; omega
theorem fH (w : List Nat) : (sgW w).length = w.length := List.length_map _
theorem LS.fault (h : LS S E v n e f g b i) {w : List Nat} (hw : w ∈ gT) : LS (sgW w ++ S) E v ((sgW w).length + n) e true false true (i + 1) := by
 obtain ⟨_, k2, k3⟩ := m8 w hw
 refine h.ahead (w := []) (jZ k2 h.sg) (oJ k2 h.nc) ?_ (by rw [fH]; exact Nat.le_trans k3 (by decide)) (Nat.zero_le _)
 rw [r8, fH]
 exact h.cur.wrong w hw
theorem LS.plain (h : LS S E v n e f g b i) {w : List Nat} (hw : w ∈ jD) : LS (sgW w ++ S) E (vA w ++ v) ((sgW w).length + n) e true false (b || g) (i + 1) := by
 obtain ⟨k1, k2, k3, k4, k5⟩ := mR w hw
 have hl : (mdW w).length = w.length := List.length_map _
 refine h.ahead (jZ k4 h.sg) (oJ k4 h.nc) ?_ (by rw [fH]; exact Nat.le_trans k5 (by decide)) (by rw [<- k2, hl]; exact k5)
 rw [r8, fH, <- k2, <- hl]
 refine h.cur.word (nY (w := w) _ _ (fun q => k3 ?_) k1)
 rw [q] at hl
 exact List.length_eq_zero_iff.mp hl.symm
theorem LS.esc (h : LS S E v n e f g b i) {c : Nat} (hc : c ∈ escL) (h41 : c = 92 -> S.take 1 ≠ [[41]]) : LS ([[92], [c]] ++ S) E (vA [c] ++ v) (2 + n) e true false (b || g) (i + 1) := by
 obtain ⟨k1, k2, k3, k4, k5, k6⟩ := zdM c hc
 have hz : ([[92], [c]].all fun s => sgT.contains s && !(s == [13])) = true := by
  show ((sgT.contains [92] && !(([92] : List Nat) == [13])) && ((sgT.contains [c] && !([c] == [13])) && true)) = true
  rw [k5, k6]; decide +kernel
 refine h.ahead (z := [[92], [c]]) (jZ hz h.sg) (oJ hz h.nc) ?_ (by show 2 <= 14; decide) (by rw [<- k3]; show 1 <= 4; decide)
 rw [<- k3]
 have e92 : md [92] = 92 := by decide
 show Cur (md [92] :: md [c] :: S.map md) _ _ _ _ _ _
 rw [e92]
 refine h.cur.word (z := [92, md [c]]) (zdb _ k1 k2 fun q r hr => h41 (k4 q) ?_)
 have hsg := h.sg
 revert hr hsg
 clear h h41
 cases S with
 | nil => intro hr; cases hr
 | cons s S' =>
  intro hr hsg
  have hr : md s :: S'.map md = 41 :: r := hr
  have h1 : md s = 41 := (List.cons.inj hr).1
  have := md41 (hsg s List.mem_cons_self)
  rw [decide_eq_true h1] at this
  rw [of_decide_eq_true this.symm]; rfl
end
theorem zbk {c : Nat} (h : cN c = true) : c < 103 := by
 unfold cN at h
 simp only [Bool.or_eq_true, Bool.and_eq_true, decide_eq_true_eq] at h
 omega
theorem zbj : ∀ c < 103, cN c = true -> (sgT.contains [c] && !([c] == [13])) = true /\ md [c] = c := by decide +kernel
theorem zcI (way : Int) (f : Nat) : lA way f < 16 ^ f := by
 have hp : (0 : Int) < 16 ^ f := Int.pow_pos (by decide)
 have h0 : ((way * 70001) % ((16 : Int) ^ f)).toNat < 16 ^ f := by
  have h1 := Int.emod_lt_of_pos (way * 70001) hp
  have h2 := Int.emod_nonneg (way * 70001) (Int.ne_of_gt hp)
  have h3 : ((16 ^ f : Nat) : Int) = (16 : Int) ^ f := by exact Int.natCast_pow 16 f
  omega
 unfold lA
 split
 ·exact Nat.lt_of_le_of_lt (Nat.sub_le _ _) h0
 ·exact h0
theorem zcm {s : List Nat} (h : Sg s) : (!w9 s y3 && !w9 s y2) = true -> cN (md s) = false := by
 have := lJ (P := fun s => !(!w9 s y3 && !w9 s y2) || !cN (md s)) (by decide +kernel) h
 intro q
 rw [q] at this
 cases k : cN (md s) with
 | false => rfl
 | true => rw [k] at this; cases this
section
variable {S : List (List Nat)} {E : List (Nat × Rs)} {v : List Nat} {n i : Nat} {e f g b : Bool}
theorem zcq (way : Int) (hS : Sgs S) : (uJ way S = [bK (nm (way / 2) 6) S]) \/ (uJ way S = [] /\ ∀ c r, S.map md = c :: r -> aR c = false /\ (1 + nm way 6 = 6 \/ cN c = false)) := by
 unfold uJ
 by_cases q : (decide (nm (way / 12) 3 = 0) && !decide (bhd S ∈ a0)) = true
 ·rw [if_pos q]
  by_cases q2 : (decide (1 + nm way 6 = 6) || (!w9 (bhd S) y3 && !w9 (bhd S) y2)) = true
  ·rw [if_pos q2]
   refine .inr ⟨rfl, fun c r hr => ?_⟩
   cases S with
   | nil => cases hr
   | cons s S' =>
    have hr : md s :: S'.map md = c :: r := hr
    have hs := hS s List.mem_cons_self
    rw [<- (List.cons.inj hr).1]
    have hb := (Bool.and_eq_true_iff.mp q).2
    have e : bhd (s :: S') = s := rfl
    rw [e, zbi hs] at hb
    rw [e] at q2
    refine ⟨(by cases k : aR (md s) with | false => rfl | true => (rw [k] at hb; cases hb)), ?_⟩
    exact (Bool.or_eq_true_iff.mp q2).imp of_decide_eq_true (zcm hs)
  ·rw [if_neg q2]; exact .inl rfl
 ·rw [if_neg q]; exact .inl rfl
theorem lR (way : Int) : (uI way).all cN = true /\ (uI way).length = 1 + nm way 6 /\ dM 16 0 (uI way) = some (lA way (1 + nm way 6)) := by
 unfold uI
 refine ⟨x0 _ _ _ _ rfl, by rw [qZ]; rfl, ?_⟩
 rw [xZ _ _ _ _ _ (zcI way _), Nat.zero_mul, Nat.zero_add]; rfl
theorem LS.hex (h : LS S E v n e f g b i) (way : Int) : LS (sF way S ++ S) E ([dQ (lA way (1 + nm way 6))] ++ v) ((sF way S).length + n) e true false (b || g) (i + 1) := by
 obtain ⟨d1, d2, d3⟩ := lR way
 have h6 := gL way (show 0 < 6 by decide)
 have m6 := gL (way / 2) (show 0 < 6 by decide)
 obtain ⟨k1, k2, _⟩ := nP _ m6 S
 have hD : ((sgW (uI way)).all fun s => sgT.contains s && !(s == [13])) = true := List.all_eq_true.mpr fun s hs => by
  obtain ⟨c, hc, rfl⟩ := List.mem_map.mp hs
  have := List.all_eq_true.mp d1 c hc
  exact (zbj c (zbk this) this).1
 have hDm : mdW (uI way) = uI way := by
  unfold mdW
  have : ∀ c ∈ uI way, md [c] = c := fun c hc => (zbj c (zbk (List.all_eq_true.mp d1 c hc)) (List.all_eq_true.mp d1 c hc)).2
  exact (List.map_congr_left this).trans (List.map_id' _)
 have hB := zcq (S := S) way h.sg
 have hBl := mZ way S
 have hBs : Sgs (uJ way S ++ S) /\ ncr (uJ way S ++ S) := by
  rcases hB with hB | ⟨hB, _⟩
  ·rw [hB]; exact ⟨iE k1 h.sg, oH m6 h.nc⟩
  ·rw [hB]; exact ⟨h.sg, h.nc⟩
 have eS : sF way S ++ S = [92] :: (sgW (uI way) ++ (uJ way S ++ S)) := by unfold sF; rw [List.cons_append, List.append_assoc]
 have em : (sF way S).map md = 92 :: (uI way ++ (uJ way S).map md) := by
  unfold sF
  rw [List.map_cons, List.map_append, r8, hDm]; rfl
 have el : (sF way S).length = (92 :: (uI way ++ (uJ way S).map md)).length := by rw [<- em, List.length_map]
 refine h.ahead ?_ ?_ ?_ ?_ (by show 1 <= 4; decide)
 ·rw [eS]; exact iE (tM (by decide +kernel)) (jZ hD hBs.1)
 ·rw [eS]; exact gE (by decide) (oJ hD hBs.2)
 ·rw [em, el]
  refine h.cur.word (zda d1 (by rw [d2]; exact Nat.le_add_right 1 _) (by rw [d2]; omega) d3 ?_)
  rcases hB with hB | ⟨hB, hr⟩
  ·rw [hB]; exact .inl ⟨_, rfl, k2⟩
  ·rw [hB]
   refine .inr ⟨rfl, fun c r q => ?_⟩
   rw [d2]; exact hr c r q
 ·rw [el, List.length_cons, List.length_append, List.length_map, d2]; omega
theorem LS.open_ (h : LS S E v n e f g b i) {m : Nat} (hm : m < 7) : Sgs (g8 m S) /\ ncr (g8 m S) /\ Rd ((g8 m S).map md) (((g8 m S).length, dK b e v) :: E) /\ (g8 m S).length <= 14 * (i + 1) := by
 obtain ⟨u, hu⟩ : ∃ u, urlsW[m]? = some u := ⟨_, List.getElem?_eq_getElem (l := urlsW) hm⟩
 have hmem := List.mem_of_getElem? hu
 have hUW := zbE u hmem
 obtain ⟨k1, k2⟩ := (show ∀ u ∈ urlsW, ((sgW u ++ [[40]]).all fun s => sgT.contains s && !(s == [13])) = true /\ u.length <= 9 by decide +kernel) u hmem
 have main : ∀ (S' : List (List Nat)) (n' : Nat) (f' g' : Bool), Sgs S' -> ncr S' -> Cur (S'.map md) v n' e f' g' b -> (∀ c r, (S'.map md).drop (aK (S'.map md)) = c :: r -> c ≠ 34 /\ c ≠ 39) -> Rd ((S'.map md).drop n') E -> S'.length <= 14 * i + 2 ->
   Sgs (sgW u ++ [[40]] ++ S') /\ ncr (sgW u ++ [[40]] ++ S') /\ Rd ((sgW u ++ [[40]] ++ S').map md) (((sgW u ++ [[40]] ++ S').length, dK b e v) :: E) /\ (sgW u ++ [[40]] ++ S').length <= 14 * (i + 1) := by
  intro S' n' f' g' h1 h2 h3 h4 h5 h6
  have em : (sgW u ++ [[40]] ++ S').map md = mdW u ++ 40 :: S'.map md := by rw [List.map_append, List.map_append, r8, List.append_assoc]; rfl
  have el : (sgW u ++ [[40]] ++ S').length = (mdW u ++ 40 :: S'.map md).length := by rw [<- em, List.length_map]
  refine ⟨jZ k1 h1, oJ k1 h2, ?_, ?_⟩
  ·rw [em, el]; exact zb0 hUW h3 h4 h5
  ·rw [List.length_append, List.length_append, fH]
   show u.length + 1 + S'.length <= _
   omega
 unfold g8 zek
 rw [hu, Option.getD_some]
 obtain ⟨q1, q2⟩ := zdq h.sg
 have hl := h.sl
 cases hq : zc4 S with
 | false =>
  rw [iP]
  exact main S n f g h.sg h.nc h.cur (q2 hq) h.rd (Nat.le_succ_of_le hl)
 | true =>
  rw [r9]
  obtain ⟨c, r, g1, g2⟩ := q1 hq
  have hb := h.cur.quote g1 g2
  subst hb
  have hc := h.cur.word (l6 (c := 120) (S.map md) rfl)
  have e120 : md [120] = 120 := by decide
  have eres : ∀ w, dK true e w = dK true e v := fun w => rfl
  have hcur : Cur (([120] :: S).map md) v (1 + n) e true false true := by
   show Cur (md [120] :: S.map md) v (1 + n) e true false true
   rw [e120]
   exact ⟨hc.skip, hc.mid, hc.start, hc.blk, hc.head, fun q => by cases q⟩
  refine main ([120] :: S) (1 + n) true false (iE (tM (by decide +kernel)) h.sg) (gE (by decide) h.nc) hcur (fun c r q => ?_) ?_ (by rw [List.length_cons]; omega)
  ·have hb : aK (([120] :: S).map md) = 0 := by
    show aK (md [120] :: S.map md) = 0
    rw [e120]; exact iU _ rfl
   rw [hb] at q
   have q : md [120] :: S.map md = c :: r := q
   rw [<- (List.cons.inj q).1, e120]; decide
  ·rw [Nat.add_comm]; exact h.rd
theorem LS.opened (h : LS S E v n e f g b i) {m : Nat} (hm : m < 7) : LS ([41] :: g8 m S) (((g8 m S).length, dK b e v) :: E) [] 1 false false false false (i + 1) := by
 obtain ⟨h1, h2, h3, h4⟩ := h.open_ hm
 exact ⟨iE (tM (by decide +kernel)) h1, gE (by decide) h2, pE, h3, Nat.succ_le_succ h4, Nat.succ_le_succ h.el, Nat.zero_le _⟩
end
noncomputable def cLf : List (String × Fn) := [("_law_PLAIN", dT (a1 jD)), ("_law_ESCAPED", dT (a1 (escL.map fun c => [c]))), ("_law_FAULTS", dT (a1 gT)), ("_law_blank", hY), ("_law_hex", pU), ("_law_opened", pS), ("_law_entries", pV), ("_law_places", za6), ("_law_read", tE), ("parse_component_value_list", kS)]
theorem zdT : ∀ e ∈ cLf, bC e.2 := by
 simp only [cLf, List.mem_cons, List.not_mem_nil, or_false]; rintro e (rfl | rfl | rfl | rfl | rfl | rfl | rfl | rfl | rfl | rfl)
 all_goals first | exact cC _ | exact jL | exact rH | exact rG | exact rI | exact uV | exact rF | exact pR
noncomputable def cL : Ctx := mkC cLf [] false [] []
theorem nM : CtxMono cL := bI zdT (by simp)
noncomputable def knL (P : Params) : Kn := cF (aP (HK P) 771)
noncomputable def lawB (P : Params) : List Stmt := match yZ 9 (aN (HK P) 771) with
 | .For _ _ b _ _ => b
 | _ => []
noncomputable def zd1 (tp : List Int) (S : List (List Nat)) (E : List (Nat × Rs)) (v : List Nat) (e f g b : Bool) : List (Str × PV) := [("tape", .list (tp.map .int)), ("rest", a1 S), ("told", .list ((eG E).map kG)), ("value", .str v), ("ended", .bool e), ("full", .bool f), ("gap", .bool g), ("bad", .bool b)]
theorem qX (l : Nat) (R : Rs) : (u0 l R).length <= 2 := Rs.casesOn (motive := fun R => (u0 l R).length <= 2) R (fun _ => Nat.le_succ 1) (fun _ => Nat.le_refl 2) (Nat.le_succ 1)
theorem jO : ∀ E : List (Nat × Rs), (eG E).length <= 2 * E.length
 | [] => Nat.le_refl _
 | e :: E => by
  show (u0 e.1 e.2 ++ eG E).length <= _
  rw [List.length_append, List.length_cons, Nat.mul_succ, Nat.add_comm]
  exact Nat.add_le_add (jO E) (qX _ _)
theorem qU {C : Ctx} {κ : Kn} {l r : Expr} {p : Pos} {st : St} {x y : List Nat} (M : CtxMono C) (h : ev C κ l st (.str x)) (h' : ev C κ r st (.str y)) (hl : x.length + y.length <= aQ) : ev C κ (.BinOp l .Add r p) st (.str (x ++ y)) :=
 aM (e := l) M h (aM (e := r) M h' ⟨hl, rfl, rfl⟩)
theorem xL {C : Ctx} {κ : Kn} {x : Str} {k1 k2 : Nat} {p1 p2 p3 p4 p5 p6 : Pos} {st : St} {w : List Nat} (M : CtxMono C) (hk : κ x = some .local) (h : st.ρ x = some (.str w)) :
  ev C κ (.IfExp (.Compare (.Name x p1) [.Eq] [.Constant (.str (Str.ofString "\x00")) k1 p2] p3) (.Constant (.str (Str.ofString "\uFFFD")) k2 p4) (.Name x p5) p6) st (.str (vA w)) := by
 have e0 : (Str.ofString "\x00").cps.toList = [0] := by decide +kernel
 refine dS (c := decide (w = [0])) M (e0 ▸ bN M (jJ M (aA hk h))) (fun q => ?_) (fun q => ?_)
 ·rw [vA, if_pos (of_decide_eq_true q)]; exact aC rfl
 ·rw [vA, if_neg (of_decide_eq_false q)]; exact aA hk h
theorem zee {S : List (List Nat)} {c : Nat} (h : (decide (c = 92) && decide (S.take 1 = [[41]])) = false) : c = 92 -> S.take 1 ≠ [[41]] := fun h1 h2 => by rw [decide_eq_true h1, decide_eq_true h2] at h; cases h
theorem iG {S : List (List Nat)} {i k : Nat} (h : S.length <= 14 * i + 1) (hi : i <= 20) (hk : k <= 1000) : k + S.length <= aQ := by unfold aQ; omega
theorem pY {v : List Nat} {i k : Nat} (h : v.length <= 4 * i + 1) (hi : i <= 20) (hk : k <= 1000) : k + v.length <= aQ := by unfold aQ; omega
theorem zaD (way : Int) (S : List (List Nat)) : (sF way S).length <= 8 := by
 have h1 := mZ way S
 have h2 := (lR way).2.1
 have h3 := gL way (show 0 < 6 by decide)
 unfold sF
 rw [List.length_cons, List.length_append, fH, h2]; omega
section
variable {P : Params} {Q : Fl -> St -> Prop} {ρ : d9} {σ : Nat -> Option Cell} {x : Int} {tp : List Int} {S : List (List Nat)} {E : List (Nat × Rs)} {v : List Nat} {n i : Nat} {e f g b : Bool}
theorem zau (h : LS S E v n e f g b i) (hi : i <= 20) (hρ : dD (("n", .int x) :: zd1 tp S E v e f g b) ρ)
  (hQ : ∀ ρ' S' E' v' n' e' f' g' b', LS S' E' v' n' e' f' g' b' (i + 1) -> dD (zd1 tp S' E' v' e' f' g' b') ρ' -> Q .next ⟨ρ', σ⟩) : wSs cL (knL P) (lawB P) Q ⟨ρ, σ⟩ := by
 have M := nM
 refine fE hρ ?_
 clear hρ
 conv in (lawB _) => whnf
 unfold knL
 have hsl := h.sl
 have hvl := h.vl
 have hk := gL x (show 0 < 6 by decide)
 have hS1000 : S.length <= 1000 := by omega
 refine aB (aG M (.int (x / 6)) (o9 M (by exact aA (by kernel_rfl!) (by kernel_rfl!)) (aC rfl) (by decide) (by decide)) (by kernel_rfl) ?_)
 have ek : ∀ (m : Nat) {st : St} {p1 p2 p3 p4 p5 : Pos} {k1 k2 : Nat}, st.ρ "n" = some (.int x) -> ev cL (cF (aP (HK P) 771)) (.Compare (.BinOp (.Name (Str.ofString "n") p1) .Mod (.Constant (.int 6) k1 p2) p3) [.Eq] [.Constant (.int (m : Int)) k2 p4] p5) st (.bool (decide (nm x 6 = m))) :=
  fun m st p1 p2 p3 p4 p5 k1 k2 hn => lU (b := m) M (k9 6 (by decide) M (aA (by kernel_rfl!) hn)) (aC rfl)
 generalize x / 6 = way
 refine aB (cY M (decide (nm x 6 = 4)) (bN M (ek 4 (by kernel_rfl!))) (fun h4 => ?_) (fun h4 => ?_))
 ·refine aB (aG M (a1 ([bK (nm way 6) S] ++ S)) (d7 M (cV M rfl (bZ (F := hY) M (by kernel_rfl!) rfl (aE M (v := .int way) (by exact aA (by kernel_rfl!) (by kernel_rfl!)) (aE M (v := a1 S) (by exact b8 (by kernel_rfl!) (by kernel_rfl!)) aJ)) ⟨way, S, rfl, .inl rfl, rfl⟩)) (by exact b8 (by kernel_rfl!) (by kernel_rfl!)) (iG hsl hi (by show 1 <= 1000; decide))) (by kernel_rfl) ?_)
  refine aB (aG M (.bool f) (by exact aA (by kernel_rfl!) (by kernel_rfl!)) (by kernel_rfl) ?_)
  exact hQ _ _ _ _ _ _ _ _ _ (h.blank (gL way (by decide))) (by (show _ = _; first | kernel_rfl! | (rw [<- Nat.add_assoc]; kernel_rfl!) | (rw [<- Nat.add_assoc, <- Nat.add_assoc]; kernel_rfl!)))
 refine aB (cY M (decide (nm x 6 = 5)) (bN M (ek 5 (by kernel_rfl!))) (fun h5 => ?_) (fun h5 => ?_))
 ·have ho := h.opened (gL way (show 0 < 7 by decide))
  obtain ⟨_, _, _, ol⟩ := h.open_ (gL way (show 0 < 7 by decide))
  refine aB (aG M (a1 (g8 (nm way 7) S)) (bZ (F := pS) M (by kernel_rfl!) rfl (aE M (v := .int way) (by exact aA (by kernel_rfl!) (by kernel_rfl!)) (aE M (v := a1 S) (by exact b8 (by kernel_rfl!) (by kernel_rfl!)) aJ)) ⟨way, S, rfl, hS1000, .inl rfl, rfl⟩) (by kernel_rfl) ?_)
  generalize g8 (nm way 7) S = S2 at ho ol
  have htl : ((u0 S2.length (dK b e v)).map kG).length + ((eG E).map kG).length <= aQ := by
   rw [List.length_map, List.length_map]
   have h1 := qX S2.length (dK b e v)
   have h2 := jO E
   have h3 := h.el
   unfold aQ; omega
  refine aB (aG M (.list ((eG ((S2.length, dK b e v) :: E)).map kG)) ?_ (by kernel_rfl) ?_)
  ·rw [show (eG ((S2.length, dK b e v) :: E)).map kG = (u0 S2.length (dK b e v)).map kG ++ (eG E).map kG from List.map_append ..]
   exact qV M (bZ (F := pV) M (by kernel_rfl!) rfl (aE M (v := .bool b) (by exact aA (by kernel_rfl!) (by kernel_rfl!)) (aE M (v := .bool e) (by exact aA (by kernel_rfl!) (by kernel_rfl!)) (aE M (v := .int S2.length) (kC M (by kernel_rfl!) rfl rfl (by kernel_rfl) (by exact b8 (by kernel_rfl!) (by kernel_rfl!))) (aE M (v := .str v) (by exact aA (by kernel_rfl!) (by kernel_rfl!)) aJ)))) ⟨b, e, S2.length, v, rfl, .inl rfl, rfl⟩) (by exact aA (by kernel_rfl!) (by kernel_rfl!)) htl
  refine aB (aG M (a1 ([41] :: S2)) (d7 (X := [[41]]) M (cV M rfl (aC rfl)) (by exact b8 (by kernel_rfl!) (by kernel_rfl!)) (by show 1 + S2.length <= aQ; unfold aQ; omega)) (by kernel_rfl) ?_)
  refine aB (aG M (.str []) (aC rfl) (by kernel_rfl) ?_)
  refine aB (aG M (.bool false) (aC rfl) (by kernel_rfl) ?_)
  refine aB (aG M (.bool false) (aC rfl) (by kernel_rfl) ?_)
  refine aB (aG M (.bool false) (aC rfl) (by kernel_rfl) ?_)
  refine aB (aG M (.bool false) (aC rfl) (by kernel_rfl) ?_)
  exact hQ _ _ _ _ _ _ _ _ _ ho (by (show _ = _; first | kernel_rfl! | (rw [<- Nat.add_assoc]; kernel_rfl!) | (rw [<- Nat.add_assoc, <- Nat.add_assoc]; kernel_rfl!)))
 refine aB (aG M (.bool (b || (g || decide (nm x 6 = 3)))) (qT M (by exact aA (by kernel_rfl!) (by kernel_rfl!)) fun _ => qT M (by exact aA (by kernel_rfl!) (by kernel_rfl!)) fun _ => jI (ek 3 (by kernel_rfl!))) (by kernel_rfl) ?_)
 refine aB (aG M (.bool false) (aC rfl) (by kernel_rfl) ?_)
 refine aB (aG M (.bool true) (aC rfl) (by kernel_rfl) ?_)
 have b3 : nm x 6 ≠ 3 -> (b || (g || decide (nm x 6 = 3))) = (b || g) := fun q => by rw [decide_eq_false q, Bool.or_false]
 refine aB (cY M (decide (nm x 6 = 0)) (bN M (ek 0 (by kernel_rfl!))) (fun h0 => ?_) (fun h0 => ?_))
 ·rw [b3 (by rw [of_decide_eq_true h0]; decide)]
  obtain ⟨w, hw⟩ : ∃ w, jD[nm way 16]? = some w := ⟨_, List.getElem?_eq_getElem (l := jD) (gL way (show 0 < 16 by decide))⟩
  have hm := List.mem_of_getElem? hw
  have hwl := (mR w hm).2.2.2.2
  have hvw : (vA w).length <= 4 := by rw [<- (mR w hm).2.1]; exact Nat.le_trans (Nat.le_of_eq (List.length_map _)) hwl
  refine aB (aG M (.str w) (d4 M rfl (fU M (by kernel_rfl!) rfl) (k9 16 (by decide) M (by exact aA (by kernel_rfl!) (by kernel_rfl!))) hw) (by kernel_rfl) ?_)
  refine aB (aG M (a1 (sgW w ++ S)) (d7 M (nA (u := w) M (by kernel_rfl) (by kernel_rfl) (by exact aA (by kernel_rfl!) (by kernel_rfl!)) (Nat.le_trans hwl (by decide)) rfl) (by exact b8 (by kernel_rfl!) (by kernel_rfl!)) (iG hsl hi (by rw [fH]; exact Nat.le_trans hwl (by decide)))) (by kernel_rfl) ?_)
  refine aB (aG M (.str (vA w ++ v)) (qU M (xL M (by kernel_rfl!) (by kernel_rfl!)) (by exact aA (by kernel_rfl!) (by kernel_rfl!)) (pY hvl hi (Nat.le_trans hvw (by decide)))) (by kernel_rfl) ?_)
  exact hQ _ _ _ _ _ _ _ _ _ (h.plain hm) (by (show _ = _; first | kernel_rfl! | (rw [<- Nat.add_assoc]; kernel_rfl!) | (rw [<- Nat.add_assoc, <- Nat.add_assoc]; kernel_rfl!)))
 refine aB (cY M (decide (nm x 6 = 1)) (bN M (ek 1 (by kernel_rfl!))) (fun h1 => ?_) (fun h1 => ?_))
 ·rw [b3 (by rw [of_decide_eq_true h1]; decide)]
  obtain ⟨c, hc⟩ : ∃ c, escL[nm way 16]? = some c := ⟨_, List.getElem?_eq_getElem (l := escL) (gL way (show 0 < 16 by decide))⟩
  have hm := List.mem_of_getElem? hc
  refine aB (aG M (.str [c]) (d4 (X := escL.map fun c => [c]) (n := nm way 16) M rfl (fU M (by kernel_rfl!) rfl) (k9 16 (by decide) M (by exact aA (by kernel_rfl!) (by kernel_rfl!))) (by rw [List.getElem?_map, hc]; rfl)) (by kernel_rfl) ?_)
  obtain ⟨d, hd⟩ : ∃ d, d = if (decide (c = 92) && decide (S.take 1 = [[41]])) = true then 122 else c := ⟨_, rfl⟩
  have hdm : d ∈ escL /\ (d = 92 -> S.take 1 ≠ [[41]]) := by
   cases q : (decide (c = 92) && decide (S.take 1 = [[41]])) with
   | true => rw [q, r9] at hd; rw [hd]; exact ⟨by decide, fun z => by cases z⟩
   | false => rw [q, iP] at hd; rw [hd]; exact ⟨hm, zee q⟩
  refine dY M (fun st => st.σ = σ /\ dD (("word", .str [d]) :: zd1 tp S E v e true false (b || g)) st.ρ) (cY M (decide (c = 92) && decide (S.take 1 = [[41]])) (eM M (bN M (fW M (by exact aA (by kernel_rfl!) (by kernel_rfl!)) (by kernel_rfl))) fun _ => fB (bN M (zbr M (xT M (by exact b8 (by kernel_rfl!) (by kernel_rfl!))) (cV M rfl (aC rfl))))) (fun q => ?_) (fun q => ?_)) ?_
  ·rw [if_pos q] at hd
   refine aB (aG M (.str [122]) (aC rfl) (by kernel_rfl) ⟨rfl, ?_⟩)
   rw [hd]; (show _ = _; first | kernel_rfl! | (rw [<- Nat.add_assoc]; kernel_rfl!) | (rw [<- Nat.add_assoc, <- Nat.add_assoc]; kernel_rfl!))
  ·rw [if_neg (by rw [q]; decide)] at hd
   refine ⟨rfl, ?_⟩
   rw [hd]; (show _ = _; first | kernel_rfl! | (rw [<- Nat.add_assoc]; kernel_rfl!) | (rw [<- Nat.add_assoc, <- Nat.add_assoc]; kernel_rfl!))
  ·rintro ⟨ρ1, σ1⟩ ⟨hσ, h1⟩
   cases hσ
   refine fE h1 ?_
   clear h1
   refine aB (aG M (a1 ([[92], [d]] ++ S)) (d7 M (bU M rfl (aE M (aC rfl) (aE M (by exact aA (by kernel_rfl!) (by kernel_rfl!)) aJ))) (by exact b8 (by kernel_rfl!) (by kernel_rfl!)) (iG hsl hi (by show 2 <= 1000; decide))) (by kernel_rfl) ?_)
   refine aB (aG M (.str (vA [d] ++ v)) (qU M (xL M (by kernel_rfl!) (by kernel_rfl!)) (by exact aA (by kernel_rfl!) (by kernel_rfl!)) (pY hvl hi (by unfold vA; split <;> exact show 1 <= 1000 by decide))) (by kernel_rfl) ?_)
   exact hQ _ _ _ _ _ _ _ _ _ (h.esc hdm.1 hdm.2) (by (show _ = _; first | kernel_rfl! | (rw [<- Nat.add_assoc]; kernel_rfl!) | (rw [<- Nat.add_assoc, <- Nat.add_assoc]; kernel_rfl!)))
 refine aB (cY M (decide (nm x 6 = 2)) (bN M (ek 2 (by kernel_rfl!))) (fun h2 => ?_) (fun h2 => ?_))
 ·rw [b3 (by rw [of_decide_eq_true h2]; decide)]
  have hh := h.hex way
  have hhl := zaD way S
  have hF : pU [.int way, a1 S] fun r => (([PV.int way, a1 S].any oV) = false \/ iY r = true) /\ r = .tup [a1 (sF way S), .str [dQ (lA way (1 + nm way 6))]] := ⟨way, S, rfl, .inl rfl, rfl⟩
  generalize dQ (lA way (1 + nm way 6)) = vc at hh hF
  generalize sF way S = Z at hh hF hhl
  refine aB (iF M (a1 Z) (.str [vc]) (bZ (F := pU) M (by kernel_rfl!) rfl (aE M (v := .int way) (by exact aA (by kernel_rfl!) (by kernel_rfl!)) (aE M (v := a1 S) (by exact b8 (by kernel_rfl!) (by kernel_rfl!)) aJ)) hF) (by kernel_rfl) (by kernel_rfl) ?_)
  refine aB (aG M (a1 (Z ++ S)) (d7 M (by exact aA (by kernel_rfl!) (by kernel_rfl!)) (by exact b8 (by kernel_rfl!) (by kernel_rfl!)) (iG hsl hi (Nat.le_trans hhl (by decide)))) (by kernel_rfl) ?_)
  refine aB (aG M (.str ([vc] ++ v)) (qU M (by exact aA (by kernel_rfl!) (by kernel_rfl!)) (by exact aA (by kernel_rfl!) (by kernel_rfl!)) (pY hvl hi (by show 1 <= 1000; decide))) (by kernel_rfl) ?_)
  exact hQ _ _ _ _ _ _ _ _ _ hh (by (show _ = _; first | kernel_rfl! | (rw [<- Nat.add_assoc]; kernel_rfl!) | (rw [<- Nat.add_assoc, <- Nat.add_assoc]; kernel_rfl!)))
 ·have h3 : nm x 6 = 3 := by
   have e4 := of_decide_eq_false h4
   have e5 := of_decide_eq_false h5
   have e0 := of_decide_eq_false h0
   have e1 := of_decide_eq_false h1
   have e2 := of_decide_eq_false h2
   omega
  rw [decide_eq_true h3, Bool.or_true, Bool.or_true]
  obtain ⟨w, hw⟩ : ∃ w, gT[nm way 8]? = some w := ⟨_, List.getElem?_eq_getElem (l := gT) (gL way (show 0 < 8 by decide))⟩
  have hm := List.mem_of_getElem? hw
  have hwl := (m8 w hm).2.2
  refine aB (aG M (a1 (sgW w ++ S)) (d7 M (nA (u := w) M (by kernel_rfl) (by kernel_rfl) (d4 M rfl (fU M (by kernel_rfl!) rfl) (k9 8 (by decide) M (by exact aA (by kernel_rfl!) (by kernel_rfl!))) hw) (Nat.le_trans hwl (by decide)) rfl) (by exact b8 (by kernel_rfl!) (by kernel_rfl!)) (iG hsl hi (by rw [fH]; exact Nat.le_trans hwl (by decide)))) (by kernel_rfl) ?_)
  exact hQ _ _ _ _ _ _ _ _ _ (h.fault hm) (by (show _ = _; first | kernel_rfl! | (rw [<- Nat.add_assoc]; kernel_rfl!) | (rw [<- Nat.add_assoc, <- Nat.add_assoc]; kernel_rfl!)))
end
section
variable {C : Ctx} {κ : Kn}
theorem zaO {e : Expr} {k : Nat} {p1 p2 p4 : Pos} {st : St} {zs : List (List Nat)} (M : CtxMono C) (h : ev C κ e st (a1 zs)) (hr : cK [e] = none) (hl : zs.flatten.length <= aQ) :
  ev C κ (.Call (.Attribute (.Constant (.str (Str.ofString "")) k p1) (Str.ofString "join") p2) [e] [] p4) st (.str zs.flatten) := by
 rw [ev, iW, hr, fN]
 refine ⟨rfl, aM M (v := .str (Str.ofString "").cps.toList) (aC rfl) ⟨by kernel_rfl, ?_⟩⟩
 rw [f9]
 refine aM M h ?_
 rw [iV]
 exact of_eq lN ⟨rfl, zs, jP zs, hl, rfl, rfl⟩
theorem pF {α : Type} {elt tgt : Expr} {ks : Kn} {ρ0 : d9} {Q : List PV -> (Nat -> Option Cell) -> Prop} (M : CtxMono C) (g f : α -> PV) (σ : Nat -> Option Cell) : ∀ (items : List α) (acc : List PV), (∀ a ∈ items, ∃ ρ1, gM tgt (g a) ρ0 = some ρ1 /\ ev C ks elt ⟨ρ1, σ⟩ (f a)) -> Q (acc ++ items.map f) σ ->
  bX (fun K s' => wIf C [] ks K s') (fun K s' => wE C elt ks K s') tgt ρ0 Q (items.map g) acc σ
 | [], acc, h, q => by rw [List.map_nil, List.append_nil] at q; exact q
 | a :: as, acc, h, q => by
  obtain ⟨ρ1, h1, h2⟩ := h a List.mem_cons_self
  show opt (gM tgt (g a) ρ0) _
  rw [h1]
  exact aM M h2 (pF M g f σ as (acc ++ [f a]) (fun b hb => h b (List.mem_cons_of_mem _ hb)) (by rw [List.append_assoc]; exact q))
theorem zaN {α : Type} {elt tgt iter : Expr} {sc : Scope} {pos : Pos} {st : St} {items : List α} (M : CtxMono C) (g f : α -> PV) (hsc : cW κ sc = true) (hn : (bY tgt).all (fun x => sc.names.lookup x == some .local) = true) (hit : ev C κ iter st (.list (items.map g))) (hl : items.length <= aQ) (hm : C.mutL pos.line = false)
  (h : ∀ a ∈ items, ∃ ρ1, gM tgt (g a) (fS sc.names st.ρ) = some ρ1 /\ ev C (cF sc.names) elt ⟨ρ1, st.σ⟩ (f a)) : ev C κ (.ListComp elt [⟨tgt, iter, [], 0⟩] sc pos) st (.list (items.map f)) := by
 refine ⟨rfl, hsc, hn, aM M hit ?_⟩
 show opt (gS (.list (items.map g))) _
 refine ⟨by rw [List.length_map]; exact hl, pF M g f _ _ _ h ?_⟩
 unfold bH
 rw [if_neg (by rw [hm]; decide)]
 exact ⟨rfl, rfl⟩
end
noncomputable def tW (css : List Nat) (N : Nat) (e : Ent) : PV := .tup [.str (zch e.1), zb5 (eZ (css.take (N - e.2.1))), .str e.2.2]
theorem lC (css : List Nat) : ∀ (E : List (Nat × Rs)) (R : List PV), zcX css E R -> ∃ ts : List Nd, R = ts.map ndV /\ ts.map ndR = (eG E).map (tW css css.length) /\ ts.length <= 2 * E.length
 | [], R, h => ⟨[], h, rfl, Nat.le_refl _⟩
 | (l, R0) :: E, R, h => by
  obtain ⟨rep, R', e1, h'⟩ := h
  obtain ⟨ts, e2, e3, e4⟩ := lC css E R' h'
  subst e1 e2
  have key : ∀ zs : List Nd, mB (eZ (css.take (css.length - l))) R0 rep = zs.map ndV -> zs.map ndR = (u0 l R0).map (tW css css.length) -> zs.length <= 2 -> ∃ ts' : List Nd, mB (eZ (css.take (css.length - l))) R0 rep ++ ts.map ndV = ts'.map ndV /\ ts'.map ndR = (eG ((l, R0) :: E)).map (tW css css.length) /\ ts'.length <= 2 * ((l, R0) :: E).length := fun zs h1 h2 h3 => by
   refine ⟨zs ++ ts, by rw [List.map_append, h1], ?_, ?_⟩
   ·rw [List.map_append, h2, e3]; exact (List.map_append ..).symm
   ·rw [List.length_append, List.length_cons, Nat.mul_succ, Nat.add_comm]; exact Nat.add_le_add e4 h3
  cases R0 with
  | good w => exact key [(true, eZ (css.take (css.length - l)), w, rep)] rfl rfl (Nat.le_succ 1)
  | ended w => exact key [(true, eZ (css.take (css.length - l)), w, rep), (false, eZ (css.take (css.length - l)), lcS "eof-in-url", lcS "EOF in URL")] rfl rfl (Nat.le_refl 2)
  | fault => exact key [(false, eZ (css.take (css.length - l)), lcS "bad-url", lcS "bad URL token")] rfl rfl (Nat.le_succ 1)
theorem zb1 {x : List Nat} {E : List (Nat × Rs)} (h : Rd x E) : ∀ e ∈ E, 1 <= e.1 /\ e.1 <= x.length := by
 induction h with
 | nil => intro e he; cases he
 | cons y v k R n E h1 _ _ _ _ _ _ ih =>
  intro e he
  rcases List.mem_cons.mp he with rfl | he
  ·refine ⟨?_, Nat.le_refl _⟩
   cases y with
   | nil => cases h1
   | cons c r => exact Nat.le_add_left 1 _
  ·obtain ⟨a, b⟩ := ih e he
   exact ⟨a, Nat.le_trans b (by rw [List.length_drop]; exact Nat.sub_le _ _)⟩
theorem n4 {N : Nat} : ∀ {E : List (Nat × Rs)}, (∀ e ∈ E, 1 <= e.1 /\ e.1 <= N) -> ∀ a ∈ eG E, 1 <= a.2.1 /\ a.2.1 <= N
 | [], _, a, ha => by cases ha
 | (l, R) :: E, h, a, ha => by
  have ha : a ∈ u0 l R ++ eG E := ha
  rcases List.mem_append.mp ha with ha | ha
  ·have hl := h (l, R) List.mem_cons_self
   have : a.2.1 = l := by
    cases R with
    | good w => rw [List.mem_singleton.mp ha]
    | ended w =>
     rcases List.mem_cons.mp ha with rfl | ha
     ·rfl
     ·rw [List.mem_singleton.mp ha]
    | fault => rw [List.mem_singleton.mp ha]
   rw [this]; exact hl
  ·exact n4 (fun e he => h e (List.mem_cons_of_mem _ he)) a ha
theorem i6 (css : List Nat) (N : Nat) : ∀ l : List Ent, fC (l.map (tW css N)) = true /\ zaT (l.map (tW css N)) <= 2
 | [] => ⟨rfl, Nat.zero_le _⟩
 | a :: l => ⟨(i6 css N l).1, Nat.max_le.mpr ⟨Nat.le_refl 2, (i6 css N l).2⟩⟩
theorem zb4 {y : List Nat} {N n : Nat} (h : n < N) : (iK y N)[n]? = some (zb5 (eZ (y.take n))) := by
 unfold iK
 rw [List.getElem?_map, List.getElem?_range h]; rfl
section
variable {P : Params} {ρ : d9} {σ : Nat -> Option Cell} {S : List (List Nat)} {E : List (Nat × Rs)} {rs : List PV} {K : PV -> Prop}
theorem zaM {κ : Kn} {css : List Nat} {st : St} {N : Nat} {p1 p2 p3 p4 p5 p6 p7 p8 p9 q1 q2 q3 q4 q5 q6 q7 : Pos} {k1 k2 : Nat} (hN : S.length = N) (hE : ∀ a ∈ eG E, 1 <= a.2.1 /\ a.2.1 <= N) (hl : E.length <= 1000) (k3 : κ "told" = some .local) (k4 : κ "places" = some .cell) (k5 : κ "rest" = some .cell)
  (h1 : st.ρ "told" = some (.list ((eG E).map kG))) (h2 : st.ρ "places" = some (.list (iK css N))) (h3 : st.ρ "rest" = some (a1 S)) (hm : cL.mutL q6.line = false) :
  ev cL κ (.ListComp (.Tuple [.Name (Str.ofString "kind") p1, .Subscript (.Name (Str.ofString "places") p2) (.BinOp (.Call (.Name (Str.ofString "len") p3) [.Name (Str.ofString "rest") p4] [] p5) .Sub (.Name (Str.ofString "left") p6) p7) p8, .Name (Str.ofString "word") p9] k1 q1)
   [⟨.Tuple [.Name (Str.ofString "kind") q2, .Name (Str.ofString "left") q3, .Name (Str.ofString "word") q4] k2 q5, .Name (Str.ofString "told") q7, [], 0⟩]
   { kind := .function, names := [(Str.ofString ".0", .local), (Str.ofString "kind", .local), (Str.ofString "left", .local), (Str.ofString "word", .local), (Str.ofString "len", .globalImplicit), (Str.ofString "places", .free), (Str.ofString "rest", .free)], isGenerator := false, isCoroutine := false } q6) st (.list ((eG E).map (tW css N))) := by
 have M := nM
 refine zaN M kG (tW css N) ?_ (by kernel_rfl!) (aA k3 h1) (Nat.le_trans (jO E) (by unfold aQ; omega)) hm fun a ha => ?_
 ·show (true && ([(Str.ofString ".0", NameKind.local), (Str.ofString "kind", .local), (Str.ofString "left", .local), (Str.ofString "word", .local), (Str.ofString "len", .globalImplicit), (Str.ofString "places", .free), (Str.ofString "rest", .free)].all _)) = true
  simp only [List.all_cons, List.all_nil, k4, k5]
  decide +kernel
 ·obtain ⟨b, l, w⟩ := a
  obtain ⟨g1, g2⟩ := hE _ ha
  refine ⟨_, rfl, ?_⟩
  refine bE M (aE M (aA (by kernel_rfl!) (by kernel_rfl!)) (aE M (v := zb5 (eZ (css.take (N - l)))) ?_ (aE M (aA (by kernel_rfl!) (by kernel_rfl!)) aJ)))
  have hlt : N - l < N := Nat.sub_lt (Nat.lt_of_lt_of_le g1 g2) g1
  refine nE M rfl (xU (v := .list (iK css N)) (by kernel_rfl!) ?_) (n := N - l) ?_ (zb4 hlt)
  ·rw [<- h2]; kernel_rfl!
  ·rw [Int.ofNat_sub g2]
   refine zbn M (hN ▸ kC (S := S) M (by kernel_rfl!) rfl rfl (by kernel_rfl) (xU (by kernel_rfl!) ?_)) (aA (by kernel_rfl!) (by kernel_rfl!))
   rw [<- h3]; kernel_rfl!
open Classical in
theorem zcy {κ : Kn} {st : St} {j : Expr} {x css : List Nat} {N : Nat} {l : List Ent} {p1 p2 p3 p4 p5 p6 : Pos} (k1 : κ "_law_read" = some .globalImplicit) (k2 : κ "parse_component_value_list" = some .globalImplicit) (k3 : κ "meant" = some .local) (hj : ev cL κ j st (.str x)) (h1 : st.ρ "meant" = some (.list (l.map (tW css N))))
  (hF : ∀ K : PV -> Prop, (∀ ts : List Nd, ts.length <= 10000 -> ts.map ndR = l.map (tW css N) -> K (.list (ts.map ndV))) -> kS [.str x] K) :
  ev cL κ (.Compare (.Call (.Name (Str.ofString "_law_read") p1) [.Call (.Name (Str.ofString "parse_component_value_list") p2) [j] [] p3] [] p4) [.Eq] [.Name (Str.ofString "meant") p5] p6) st (.bool true) := by
 have M := nM
 rw [ev, zde, l8]
 refine ⟨rfl, k1, rfl, ?_⟩
 rw [f9, l8]
 refine ⟨rfl, k2, rfl, ?_⟩
 rw [f9]
 refine aM M hj ?_
 rw [iV]
 show fX cL (Str.ofString "parse_component_value_list") [.str x] st _
 unfold fX
 rw [show cL.fn (Str.ofString "parse_component_value_list") = some kS from rfl, oF]
 refine hF _ fun ts hts hr => ⟨.inl rfl, ?_⟩
 show fX cL (Str.ofString "_law_read") [.list (ts.map ndV)] st _
 unfold fX
 rw [show cL.fn (Str.ofString "_law_read") = some tE from rfl, oF]
 refine ⟨ts, rfl, hts, .inl rfl, ?_⟩
 rw [hr]
 show wCh cL [.Name (Str.ofString "meant") p5] [.Eq] κ (.list (l.map (tW css N))) _ st
 rw [zbD]
 refine aM M (aA k3 h1) ?_
 obtain ⟨f1, f2⟩ := i6 css N l
 exact ⟨.list (l.map (tW css N)), .list (l.map (tW css N)), aS _ _ (fT _ (fun _ => rfl) _), aS _ _ (fT _ (fun _ => rfl) _), f1, f1, Nat.le_trans (Nat.succ_le_succ f2) (by decide), rfl, congrArg PV.bool (decide_eq_true rfl), rfl⟩
end
theorem c8 {K : St -> Prop} {Q : Fl -> St -> Prop} {st : St} (h : K st) : gA K Q .next st := h
noncomputable def mE (is : List Int) : List Int := if is.isEmpty = true then [8] else is.take 20
theorem zF (is : List Int) : (mE is).length <= 20 /\ ∃ x r, mE is = x :: r := by
 unfold mE
 cases is with
 | nil => exact ⟨by decide, 8, [], rfl⟩
 | cons x r => exact ⟨by show (List.take 20 (x :: r)).length <= 20; rw [List.length_take]; exact Nat.min_le_left _ _, x, r.take 19, rfl⟩
noncomputable def restL : List (List (List Nat)) := [[[41]], [], [[92]]]
theorem zce : ∀ c < 3, ∃ n, LS ((restL[c]?).getD []) [] (if decide (c = 2) = true then [65533] else []) n (decide (0 < c)) (decide (c = 2)) false false 0 := by
 intro c hc
 match c, hc with
 | 0, _ => exact ⟨1, fun s hs => (by rw [List.mem_singleton.mp hs]; exact tM (by decide +kernel)), gE (by decide) trivial, pE, .nil, by decide, by decide, by decide⟩
 | 1, _ => exact ⟨0, fun s hs => (by cases hs), trivial, zcH, .nil, by decide, by decide, by decide⟩
 | 2, _ => exact ⟨1, fun s hs => (by rw [List.mem_singleton.mp hs]; exact tM (by decide +kernel)), gE (by decide) trivial, zdO, .nil, by decide, by decide, by decide⟩
theorem zav (P : Params) (is : List Int) (K : PV -> Prop) (hK : K (.bool true)) : wSs cL (cF (aP (HK P) 771)) (aN (HK P) 771) (kZ K) ⟨bJ [("script", .list (is.map .int))] (fun _ => none), fun _ => none⟩ := by
 have M := nM
 have turn := @zau P
 unfold knL at turn
 conv in (aN _ _) => whnf
 obtain ⟨htl, t0, tr, htp⟩ := zF is
 refine aB (aG M (.list ((mE is).map .int)) (dS (c := !is.isEmpty) M (zD (v := .list (is.map .int)) M (by exact aA (by kernel_rfl!) (by kernel_rfl!)) ?_) (fun h => ?_) (fun h => ?_)) (by kernel_rfl) ?_)
 ·cases is <;> rfl
 ·have e : (mE is).map PV.int = slc (is.map PV.int) none (some ((20 : Nat) : Int)) := by
   rw [rS, <- List.map_take, mE, if_neg (fun q => by rw [q] at h; cases h)]
  rw [e]
  exact xM M (by exact aA (by kernel_rfl!) (by kernel_rfl!)) (aC rfl) (by decide) (by decide)
 ·have e : (mE is).map PV.int = [.int 8] := by
   rw [mE, if_pos (by cases q : is.isEmpty with | true => rfl | false => (rw [q] at h; cases h))]; rfl
  rw [e]
  exact bU M rfl (aE M (aC rfl) aJ)
 generalize mE is = tp at htl htp
 have ht0 : ∀ {st : St} {p1 p2 p3 : Pos} {k : Nat}, st.ρ "tape" = some (.list (tp.map .int)) -> ev cL (cF (aP (HK P) 771)) (.Subscript (.Name (Str.ofString "tape") p1) (.Constant (.int 0) k p2) p3) st (.int t0) := fun h => nE (n := 0) M rfl (aA (by kernel_rfl!) h) (aC rfl) (by rw [htp]; rfl)
 have hc3 := gL t0 (show 0 < 3 by decide)
 refine c8 ?_
 refine aB (aG M (.int (nm t0 3)) (k9 3 (by decide) M (ht0 (by kernel_rfl!))) (by kernel_rfl) ?_)
 obtain ⟨n0, hls⟩ := zce _ hc3
 generalize nm t0 3 = c at hc3 hls
 obtain ⟨S0, hS0⟩ : ∃ S0, restL[c]? = some S0 := ⟨_, List.getElem?_eq_getElem (l := restL) hc3⟩
 rw [hS0, Option.getD_some] at hls
 refine c8 ?_
 refine aB (aG M (a1 S0) (nE (xs := restL.map a1) (n := c) M rfl (bU M rfl (aE M (cV M rfl (aC rfl)) (aE M (v := a1 []) (bU M rfl aJ) (aE M (cV M rfl (aC rfl)) aJ)))) (by exact aA (by kernel_rfl!) (by kernel_rfl!)) (by rw [List.getElem?_map, hS0]; rfl)) (by kernel_rfl) ?_)
 refine c8 ?_
 refine aB (aG M (.str (if decide (c = 2) = true then [65533] else [])) (dS (c := decide (c = 2)) M (bN M (lU (a := c) (b := 2) M (by exact aA (by kernel_rfl!) (by kernel_rfl!)) (aC rfl))) (fun q => ?_) (fun q => ?_)) (by kernel_rfl) ?_)
 ·rw [if_pos q]; exact aC rfl
 ·rw [if_neg (by rw [q]; decide)]; exact aC rfl
 refine c8 ?_
 refine aB (aG M (.bool (decide (0 < c))) (zbq (a := c) (b := 0) M (by exact aA (by kernel_rfl!) (by kernel_rfl!)) (aC rfl)) (by kernel_rfl) ?_)
 refine c8 ?_
 refine aB (aG M (.bool (decide (c = 2))) (lU (a := c) (b := 2) M (by exact aA (by kernel_rfl!) (by kernel_rfl!)) (aC rfl)) (by kernel_rfl) ?_)
 refine c8 ?_
 refine aB (aG M (.bool false) (aC rfl) (by kernel_rfl) ?_)
 refine c8 ?_
 refine aB (aG M (.bool false) (aC rfl) (by kernel_rfl) ?_)
 refine c8 ?_
 refine aB (aG M (.list ((eG []).map kG)) (bU M rfl aJ) (by kernel_rfl) ?_)
 refine c8 ?_
 have hml : (tp.map PV.int).length = tp.length := List.length_map _
 refine dY M (fun st => ∃ S E v n e f g b, dD (zd1 tp S E v e f g b) st.ρ /\ LS S E v n e f g b tp.length)
  (zab M (.list (tp.map .int)) (tp.map .int) rfl (by rw [hml]; exact Nat.le_trans htl (by decide)) (by kernel_rfl) (by exact aA (by kernel_rfl!) (by kernel_rfl!))
   (fun i st => ∃ S E v n e f g b, dD (zd1 tp S E v e f g b) st.ρ /\ LS S E v n e f g b i) (fun i hi st hI => ?_) (fun st hI => ?_) ⟨S0, [], _, n0, _, _, _, _, by (show _ = _; first | kernel_rfl! | (rw [<- Nat.add_assoc]; kernel_rfl!) | (rw [<- Nat.add_assoc, <- Nat.add_assoc]; kernel_rfl!)), hls⟩) ?_
 ·obtain ⟨ρ, σ⟩ := st
  obtain ⟨S, E, v, n, e, f, g, b, h1, h2⟩ := hI
  rw [hml] at hi
  refine ⟨_, rfl, ?_⟩
  refine turn h2 (Nat.le_trans (Nat.le_of_lt hi) htl) (x := tp[i]) ?_ fun ρ' S' E' v' n' e' f' g' b' h3 h4 => ⟨S', E', v', n', e', f', g', b', h4, h3⟩
  show dD _ (upd ρ _ _)
  rw [show ρ = bJ _ ρ from bA _ h1, List.getElem_map]
  (show _ = _; first | kernel_rfl! | (rw [<- Nat.add_assoc]; kernel_rfl!) | (rw [<- Nat.add_assoc, <- Nat.add_assoc]; kernel_rfl!))
 ·rw [hml] at hI
  exact hI
 ·rintro ⟨ρ, σ⟩ ⟨S, E, v, n, e, f, g, b, h1, h2⟩
  refine fE h1 ?_
  clear h1 turn hls hS0
  have hi := htl
  have hsl := h2.sl
  have hel := h2.el
  obtain ⟨o1, o2, o3, o4⟩ := h2.open_ (gL (t0 / 3) (show 0 < 7 by decide))
  refine aB (aG M (a1 (g8 (nm (t0 / 3) 7) S)) (bZ (F := pS) M (by kernel_rfl!) rfl (aE M (v := .int (t0 / 3)) (o9 M (ht0 (by kernel_rfl!)) (aC rfl) (by decide) (by decide)) (aE M (v := a1 S) (by exact b8 (by kernel_rfl!) (by kernel_rfl!)) aJ)) ⟨t0 / 3, S, rfl, by omega, .inl rfl, rfl⟩) (by kernel_rfl) ?_)
  generalize g8 (nm (t0 / 3) 7) S = S2 at o1 o2 o3 o4
  have htl2 : ((u0 S2.length (dK b e v)).map kG).length + ((eG E).map kG).length <= aQ := by
   rw [List.length_map, List.length_map]
   have h1 := qX S2.length (dK b e v)
   have h2 := jO E
   unfold aQ; omega
  refine c8 ?_
  refine aB (aG M (.list ((eG ((S2.length, dK b e v) :: E)).map kG)) ?_ (by kernel_rfl) ?_)
  ·rw [show (eG ((S2.length, dK b e v) :: E)).map kG = (u0 S2.length (dK b e v)).map kG ++ (eG E).map kG from List.map_append ..]
   exact qV M (bZ (F := pV) M (by kernel_rfl!) rfl (aE M (v := .bool b) (by exact aA (by kernel_rfl!) (by kernel_rfl!)) (aE M (v := .bool e) (by exact aA (by kernel_rfl!) (by kernel_rfl!)) (aE M (v := .int S2.length) (kC M (by kernel_rfl!) rfl rfl (by kernel_rfl) (by exact b8 (by kernel_rfl!) (by kernel_rfl!))) (aE M (v := .str v) (by exact aA (by kernel_rfl!) (by kernel_rfl!)) aJ)))) ⟨b, e, S2.length, v, rfl, .inl rfl, rfl⟩) (by exact aA (by kernel_rfl!) (by kernel_rfl!)) htl2
  have hE2 : ((S2.length, dK b e v) :: E).length <= 22 := Nat.succ_le_succ (Nat.le_trans hel (Nat.le_trans hi (by decide)))
  generalize (S2.length, dK b e v) :: E = E2 at o3 hE2
  have hml2 : (S2.map md).length = S2.length := List.length_map _
  have hS2 : S2.length <= 294 := Nat.le_trans o4 (by omega)
  refine c8 ?_
  refine aB (aG M (.list (iK (S2.map md) S2.length)) (bZ (F := za6) M (by kernel_rfl!) rfl (aE M (v := a1 S2) (by exact b8 (by kernel_rfl!) (by kernel_rfl!)) aJ) ⟨S2, rfl, o1, Nat.le_trans hS2 (by decide), .inl rfl, rfl⟩) (by kernel_rfl) ?_)
  refine c8 ?_
  refine aB (aG M (.list ((eG E2).map (tW (S2.map md) S2.length))) (zaM (S := S2) (css := S2.map md) (N := S2.length) rfl (n4 (fun e he => hml2 ▸ zb1 o3 e he)) (Nat.le_trans hE2 (by decide)) (by kernel_rfl!) (by kernel_rfl!) (by kernel_rfl!) (by kernel_rfl!) (by kernel_rfl!) (by kernel_rfl!) rfl) (by kernel_rfl) ?_)
  refine c8 ?_
  have hfl : S2.flatten.length <= 1000 := Nat.le_trans (m7 S2 fun s hs => zdp (o1 s hs)) (by omega)
  refine aB (aO M (.bool true) (zcy (l := eG E2) (css := S2.map md) (N := S2.length) (x := S2.flatten) (by kernel_rfl!) (by kernel_rfl!) (by kernel_rfl!) (zaO M (by exact b8 (by kernel_rfl!) (by kernel_rfl!)) rfl (Nat.le_trans hfl (by decide))) (by kernel_rfl!) fun K hK => ?_) ⟨_, eW _ _, hK⟩)
  refine ⟨S2.flatten, S2.map md, E2, rfl, hfl, zaj o1 o2 (by omega), by rw [hml2]; exact Nat.le_trans hS2 (by decide), zdo o1, o3, fun R hR => ?_⟩
  obtain ⟨ts, e1, e2, e3⟩ := lC _ _ _ hR
  rw [e1]
  rw [hml2] at e2
  exact hK ts (by omega) e2
section
variable {prog : Program} {w : World} {B : Bs} {C : Ctx} {n : Nat}
noncomputable def SndL (prog : Program) (w : World) (B : Bs) (C : Ctx) (n : Nat) (loc : Str) (e : Expr) : Prop :=
 ∀ (A : Around) (E : Value -> Shared -> Prop) (env : Env) (κ : Kn) (G : GM) (st : St) (s : Shared) (Q : PV -> St -> Prop) (xs : List PV), κ loc = some .local -> Room n A -> EnvOk env -> KOk κ env -> Ok0 B w.params G env st s -> st.ρ loc = some (.list xs) ->
  wE C e κ Q st -> wpAny (model prog w) A (eval e env) (Lands B w.params true env G st s (VX w.params Q)) E s
theorem zbV {x : Str} {px p : Pos} {b o : Expr} (ok : (x == ("__debug__" : Str)) = false) (hb : bT prog w B C n b) (ho : bT prog w B C n o) : SndL prog w B C n x (.IfExp (.Name x px) b o p) := by
 intro A E env κ G st s Q xs hx hA hE hκ O hl hw
 have hw : wE C (.Name x px) κ (tst fun c st1 => if c = true then wE C b κ Q st1 else wE C o κ Q st1) st := hw
 rw [gW, if_neg (by rw [hx]; decide), hl, gB] at hw
 have hi : InH G s.heap := (O 1 (Nat.le_refl 1)).rep.inh
 have hn : wE C (.Name x px) κ (fun r st1 => r = .list xs /\ st1 = st) st := aA hx hl
 refine IfExp_ (isTrue_plain (zep hE hκ O ok hx hn fun u v hq hv => ?_) rfl)
 obtain ⟨hu, _⟩ := hq
 subst hu
 obtain ⟨a, vs, rfl, h2, h5, h6⟩ := LView.isList (show LView w.params G s.heap v xs from VRel.view hi hv)
 refine wpAny_truthy_list h2 (Int.lt_of_le_of_lt (Int.ofNat_le.mpr h5) (by decide)) ?_
 have g0 : GS G s G { s with toks := s.toks + 1 + 1 } := GS.toks hi _
 have O3 := O (s.toks + 1 + 1) (Nat.le_add_left 1 _)
 have e := h6.length
 have hw : if (!xs.isEmpty) = true then wE C b κ Q st else wE C o κ Q st := hw
 have ei : vs.isEmpty = xs.isEmpty := by
  cases xs with
  | nil => simp at e; simp [Array.isEmpty, e]
  | cons y ys => simp at e; simp [Array.isEmpty, e]
 rw [ei]
 cases q : xs.isEmpty with
 | true =>
  rw [q] at hw
  exact aL g0.tr (ho A E true env κ G st _ Q hA hE hκ O3 hw)
 | false =>
  rw [q] at hw
  exact aL g0.tr (hb A E true env κ G st _ Q hA hE hκ O3 hw)
theorem zbQ {loc x : Str} {px p : Pos} {e : Expr} {ss : List Stmt} (he : SndL prog w B C n loc e) (hc : jG e = false) (ht : zds [.Name x px] e = true) (hs : f8 prog w B C n ss) :
  ∀ (A : Around) (E : Value -> Shared -> Prop) (env : Env) (κ : Kn) (G : GM) (st : St) (sh : Shared) (Q : Fl -> St -> Prop) (xs : List PV), κ loc = some .local -> Room n A -> EnvOk env -> KOk κ env -> Ok0 B w.params G env st sh -> st.ρ loc = some (.list xs) ->
   wSs C κ (.Assign [.Name x px] e p :: ss) Q st -> wpAny (model prog w) A (execs (.Assign [.Name x px] e p :: ss) env) (Lands B w.params true env G st sh (FX w.params Q)) E sh := by
 intro A E env κ G st sh Q xs hx hA hE hκ O hl hw
 have first : wpAny (model prog w) A (exec (.Assign [.Name x px] e p) env) (Lands B w.params true env G st sh (FX w.params (gA (fun st1 => wSs C κ ss Q st1) Q))) E sh := by
  obtain ⟨b, hb, hb'⟩ := lE [.Name x px] e p.line env
  cases b with
  | true =>
   obtain ⟨x, px, _, hl, hcm⟩ := hb' rfl
   rw [hc] at hcm; cases hcm
  | false =>
   refine wpAny_Assign_stores (aF (he A E env κ G st sh _ xs hx hA hE hκ O hl hw) fun v G1 st1 s1 ⟨u, hq, hv⟩ O1 T1 => ?_) hb (jC ht env)
   obtain ⟨hn, hq⟩ := (show (([Expr.Name x px].all fun t => (bY t).all (dX κ)) = true /\ opt (nQ [.Name x px] u st1.ρ) fun ρ' => (gA (fun st1 => wSs C κ ss Q st1) Q) .next ⟨ρ', st1.σ⟩) from hq)
   obtain ⟨ρ', hbnd, hq⟩ := bQ hq
   refine aF (f7 hA.handled hE [.Name x px] G1 st1 s1 v u ρ' O1 (fun t ht x hx => mG hκ (List.all_eq_true.mp (List.all_eq_true.mp hn t ht) x hx)) rfl hv hbnd) fun _ G2 st2 s2 e2 O2 T2 => ?_
   subst e2
   exact (aH (X := FX w.params (gA (fun st1 => wSs C κ ss Q st1) Q)) (a := Flow.next) O2 hq).after (T1.trans T2)
 refine wpAny_execs_cons (aF first fun f G1 st1 s1 hq O1 T1 => ?_)
 cases f with
  | next => exact aL T1 (hs A E env κ G1 st1 s1 Q hA hE hκ O1 hq)
  | brk => exact (aH (X := FX w.params Q) (a := Flow.brk) O1 hq).after T1
  | cont => exact (aH (X := FX w.params Q) (a := Flow.cont) O1 hq).after T1
  | ret v => exact (aH (X := FX w.params Q) (a := Flow.ret v) O1 (by obtain ⟨p, h1, h2⟩ := hq; exact ⟨p, h1, h2⟩)).after T1
end
theorem uC (hB : BsOk (bs w.params h mb)) (hmb : HMb mb) :
  zd0 prog w (bs w.params h mb) 70 (.ref 771) (fun ps K => ∃ is : List Int, ps = [.list (is.map .int)] /\ K (.bool true)) := by
 have hC : CtxOk prog w (bs w.params h mb) cL 69 := by
  refine dG hmb zdT (by simp) (by simp) (fun e he => ?_) (by simp) (by simp)
  simp only [cLf, List.mem_cons, List.not_mem_nil, or_false] at he
  rcases he with rfl | rfl | rfl | rfl | rfl | rfl | rfl | rfl | rfl | rfl
  ·exact ⟨.ref 705, by kernel_rfl, (oM hB hmb).le (by decide)⟩
  ·exact ⟨.ref 712, by kernel_rfl, (t9 hB hmb).le (by decide)⟩
  ·exact ⟨.ref 719, by kernel_rfl, (oO hB hmb).le (by decide)⟩
  ·exact ⟨.ref 733, by kernel_rfl, (j3 hB hmb).le (by decide)⟩
  ·exact ⟨.ref 740, by kernel_rfl, (t7 hB hmb).le (by decide)⟩
  ·exact ⟨.ref 745, by kernel_rfl, (t6 hB hmb).le (by decide)⟩
  ·exact ⟨.ref 752, by kernel_rfl, (uA hB hmb).le (by decide)⟩
  ·exact ⟨.ref 759, by kernel_rfl, (wT hB hmb).le (by decide)⟩
  ·exact ⟨.ref 766, by kernel_rfl, (t5 hB hmb).le (by decide)⟩
  ·exact ⟨.ref 628, by kernel_rfl, (qK hB hmb).le (by decide)⟩
 obtain ⟨fd, h1, h2, h3⟩ := lT (K := HK w.params) (a := 771) (by kernel_rfl)
 have hloc : fd.scope.names.lookup (Str.ofString "script") = some .local := by rw [h3]; kernel_rfl
 have hbd : aN (HK w.params) 771 = yZ 0 (aN (HK w.params) 771) :: (aN (HK w.params) 771).tail := by kernel_rfl
 have hs1 : ∀ (A : Around) (E : Value -> Shared -> Prop) (env : Env) (κ : Kn) (G : GM) (st : St) (sh : Shared) (Q : Fl -> St -> Prop) (xs : List PV), κ (Str.ofString "script") = some .local -> Room 69 A -> EnvOk env -> KOk κ env -> Ok0 (bs w.params h mb) w.params G env st sh -> st.ρ (Str.ofString "script") = some (.list xs) ->
   wSs cL κ (yZ 0 (aN (HK w.params) 771) :: (aN (HK w.params) 771).tail) Q st -> wpAny (model prog w) A (execs (yZ 0 (aN (HK w.params) 771) :: (aN (HK w.params) 771).tail) env) (Lands (bs w.params h mb) w.params true env G st sh (FX w.params Q)) E sh := by
  have hss : f8 prog w (bs w.params h mb) cL 69 (aN (HK w.params) 771).tail := zef hB hC (by kernel_rfl)
  generalize (aN (HK w.params) 771).tail = ss at hss
  conv in (yZ _ _) => whnf
  exact zbQ (zbV (by decide +kernel) (snd hB hC (by kernel_rfl)) (snd hB hC (by kernel_rfl))) rfl rfl hss
 have hbind : ∀ (s : Shared) (vals : List Value), (HK w.params).In s.heap -> vals.length = 1 -> BindsTo s fd ⟨vals, []⟩ ((["script"].map Str.ofString).zip (vals ++ [])) := fun s vals X hl => by
  refine kp_binds X fun S => ?_
  obtain ⟨a, rfl⟩ := List.length_eq_one_iff.mp hl
  have : (xK (HK w.params) 771).map (fun fd => peek (HK w.params) S (bindArgs fd ⟨[a], []⟩)) = some (some ((["script"].map Str.ofString).zip ([a] ++ []))) := by kernel_rfl
  rw [h2] at this
  show peek (HK w.params) S _ = _
  simpa using this
 rw [hbd] at h1
 refine ⟨fR hB h1, fun A E G s args ps K hA hi ho hv ⟨is, hps, hK⟩ => ?_⟩
 subst hps
 refine m0 (n := 69) (tk0 := False) (k := 1) (dv := []) (dp := []) (params := ["script"].map Str.ofString) (W := fun Q st => (∃ xs, st.ρ (Str.ofString "script") = some (.list xs)) /\ wSs cL (cF fd.scope.names) (yZ 0 (aN (HK w.params) 771) :: (aN (HK w.params) 771).tail) Q st) hB h1
  (fun A E env G st sh Q hA hE hκ _ O _ ⟨⟨xs, hl⟩, hw⟩ => hs1 A E env _ G st sh Q xs hloc hA hE hκ O hl hw) (fun x hx => ?_) rfl (fun _ => .nil) hbind A E G s args _ K hA hi False.elim ho hv ⟨rfl, ⟨is.map .int, ?_⟩, ?_⟩
 ·simp only [List.map_cons, List.map_nil, List.mem_singleton] at hx; subst hx
  exact .inl hloc
 ·kernel_rfl!
 ·rw [<- hbd, h3]
  exact zav _ is K hK
theorem wD {h : Heap} {a : Addr} {m m' : Str -> Option Value} (x : h.Ns a m) (y : h.Ns a m') : m = m' := by
 obtain ⟨o, es, ep, h1, h2, _, h4⟩ := x
 obtain ⟨o', es', ep', g1, g2, _, g4⟩ := y
 rw [h1] at g1; cases g1
 rw [h2] at g2; cases g2
 funext name
 rw [<- h4, <- g4]
theorem nX {P : Params} {h : Heap} {G : GM} : ∀ {nums : List Int} {vs : List Value}, WellAll P h vs (ofPys (nums.map PyData.int)) -> VRels P G vs (nums.map PV.int)
 | [], vs, x => by
  rw [show ofPys (([] : List Int).map PyData.int) = [] from rfl] at x
  cases x; exact .nil
 | i :: r, vs, x => by
  rw [show ofPys ((i :: r).map PyData.int) = WData.int i :: ofPys (r.map PyData.int) from rfl] at x
  cases x with
  | cons h1 h2 =>
   cases h1 with
   | int _ t => exact .cons (by simp [VRel]) (nX h2)
theorem rK {P : Params} {h : Heap} : ∀ {ds : List WData} {vs : List Value}, WellAll P h vs ds -> vs.length = ds.length
 | [], vs, x => by cases x; rfl
 | d :: ds, vs, x => by cases x with | cons h1 h2 => simp [rK h2]
noncomputable def pA (h : Heap) : Heap := h.update PX fun _ => { cls := .none, data := .freed }
theorem nH (h : Heap) {a : Nat} (ne : a ≠ PX) : (pA h).get? a = h.get? a := (Heap.SameBut.update ..).2 a ne
theorem zaS (h : Heap) : (pA h).get? PX = none := by
 obtain ⟨objs, l⟩ := h
 show (match (objs.modify PX fun _ => { cls := .none, data := .freed })[PX]? with
  | some ⟨_, _, .freed, _⟩ => none
  | o => o) = none
 rw [Array.getElem?_modify, if_pos rfl]
 cases objs[PX]? <;> rfl
theorem zaR (h : Heap) : ∀ a o, (pA h).get? a = some o -> a ≠ PX /\ h.get? a = some o := fun a o e => by
 have ne : a ≠ PX := fun q => by rw [q, zaS] at e; cases e
 exact ⟨ne, by rw [<- nH h ne]; exact e⟩
theorem wF {h : Heap} {a : Nat} {m : Str -> Option Value} (x : h.Ns a m) (t : TabX h) : (pA h).Ns a m := by
 have ne := t.ns x
 obtain ⟨o, es, ep, e, r⟩ := x
 exact ⟨o, es, ep, by rw [nH h ne]; exact e, r⟩
theorem zat {h : Heap} (x : h.NoLimit) (t : TabX h) : (pA h).NoLimit := by
 obtain ⟨mc, n, q⟩ := x
 exact ⟨mc, wF n t, q⟩
theorem zev {P : Params} {h : Heap} (KX : (MH.HX P).In h) : (HK P).In h /\ (HK P).In (pA h) := by
 have e36 : (HK P).lookup PX = none := by kernel_rfl
 have k : ∀ a o, (HK P).lookup a = some o -> a ≠ PX /\ h.get? a = some o := fun a o e => by
  have ne : a ≠ PX := fun q => by rw [q, e36] at e; cases e
  refine ⟨ne, KX a o ?_⟩
  show List.lookup a ((36, _) :: HK P) = some o
  rw [List.lookup_cons, beq_eq_false_iff_ne.mpr (show a ≠ 36 from ne)]
  exact e
 exact ⟨fun a o e => (k a o e).2, fun a o e => by rw [nH h (k a o e).1]; exact (k a o e).2⟩
theorem zbM {w : World} {prog : Program} {s₁ : Shared} {mg mb : Str -> Option Value} {fa l : Addr} {nums : List Int} {Q : Value -> Shared -> Prop} {E : Value -> Shared -> Prop} (KX : (MH.HX w.params).In s₁.heap) (hT : s₁.heap.Ns mainGlobals mg) (hb : s₁.heap.Ns builtinsNs mb) (hl : s₁.heap.NoLimit)
  (hmb : HMb mb) (hmg : mg (Str.ofString "law") = some (.ref fa)) (hg : s₁.gens = #[]) (hw : Well w.params s₁.heap (.ref l) (ofPy (PyData.list (nums.map PyData.int)))) (hlen : nums.length <= 63)
  (hQ : ∀ s', OldK s₁.heap s'.heap -> s'.os = s₁.os -> AllBare s'.gens -> Q (.bool true) s') : wpAny (model prog w) callerA (call (.ref fa) [.ref l]) Q E s₁ := by
 obtain ⟨K1, K2⟩ := zev KX
 have h36 : s₁.heap.get? PX = some { cls := .none, data := .fields #[] } := KX PX _ rfl
 have ht : TabX s₁.heap := ⟨_, #[], h36, rfl, trivial, rfl⟩
 have hB : BsOk (bs w.params (pA s₁.heap) mb) := zcS K2 (wF hb ht) (zat hl ht)
 have e1 : mg = mgK w.params := wD hT (zcS K1 hb hl).g
 have e2 : fa = 771 := by
  rw [e1] at hmg
  have h2 : mgK w.params (Str.ofString "law") = some (.ref 771) := by kernel_rfl
  rw [h2] at hmg
  cases hmg; rfl
 subst e2
 have hm := uC (prog := prog) hB hmb
 have code : isCodeTable s₁.heap PX := by
  obtain ⟨o, vs, file, tf, flags, tg, inF, text, tt, h1, hc, r1, r2, _⟩ := yE (zcS K1 hb hl)
  refine ⟨40, o, vs, h1, hc, r1, ?_⟩
  unfold Array.getD at r2
  split at r2
  ·rename_i q; rw [Array.getElem?_eq_getElem q]; exact congrArg some r2
  ·cases r2
 obtain ⟨G, hG⟩ : ∃ G : GM, G = fun a => if a = PX then none else s₁.heap.get? a := ⟨_, rfl⟩
 have hGi : InH G s₁.heap := by
  refine ⟨fun a o e => ?_, by rw [hG]; exact if_pos rfl, ht⟩
  rw [hG] at e
  have e : (if a = PX then none else s₁.heap.get? a) = some o := e
  by_cases q : a = PX
  ·rw [if_pos q] at e; cases e
  ·rw [if_neg q] at e; exact e
 have hGo : Over (bs w.params (pA s₁.heap) mb) G := fun a o e => by
  obtain ⟨ne, e⟩ := zaR _ a o e
  rw [hG]; exact (if_neg ne).trans e
 have hv : VRels w.params G [.ref l] [.list (nums.map PV.int)] := by
  refine .one ?_
  rw [show ofPy (PyData.list (nums.map PyData.int)) = WData.list (ofPys (nums.map PyData.int)) from rfl] at hw
  cases hw with
  | list h1 h2 =>
   rename_i vs
   have hln := rK h2
   rw [ofPys_eq, List.length_map, List.length_map] at hln
   have ne : l ≠ PX := ht.nd h1 fun ps q => by cases q
   simp only [VRel]
   exact ⟨l, _, _, _, rfl, by rw [hG]; exact (if_neg ne).trans h1, rfl, rfl, rfl, by simp; unfold aQ; omega, by simpa using nX h2⟩
 have hA : Room 70 callerA := ⟨rfl, by decide +kernel, by decide +kernel⟩
 refine wpAny_mono (hm.2 callerA E G s₁ [.ref l] [.list (nums.map PV.int)] (fun r => r = .bool true) hA hGi hGo hv ⟨nums, rfl, rfl⟩) (fun v s' ⟨r, G', hr, gs, hvr⟩ => ?_) fun _ _ e => e
 subst hr
 simp only [VRel] at hvr
 subst hvr
 refine hQ s' ⟨fun b o e => ?_, fun b o e => ?_⟩ gs.os (gs.gens (.of_eq hg))
 ·by_cases q : b = PX
  ·subst q
   rw [h36] at e; cases e
   obtain ⟨o', ps, t1, _, _, t2⟩ := gs.inh.tab
   refine .inr (.inl ⟨code, rfl, #[], ps, rfl, ?_⟩)
   rw [t1, t2, Array.empty_append]
  ·exact .inl (gs.keep b o q e)
 ·by_cases q : b = PX
  ·obtain ⟨o', ps, t1, _⟩ := gs.inh.tab
   exact ⟨o', q ▸ t1⟩
  ·exact ⟨o, gs.keep b o q e⟩
theorem top3 : PySem.Challenge.rw_te0060_03.Holds := MH.hd (by
 intro w s₀ s₁ mg mb G Y fa o pm cd doc dV kV ho hd hcd hD hmg hg args vals as hpre hlay hrd hwl hlo
 have KX : (MH.HX w.params).In s₁.heap := Y
 refine Ground.open G ?_
 intro T B D TE TW
 try (refine guard_noD D (by decide +kernel) ?_; clear D)
 wrow_args hpre hlay hrd hwl hlo
 rename_i nums hs hlay0 hL1 hr1 hl2 la1 la2 l vs la3 hL ra w1 r0 hI hr hc1 hc2
 refine zbM (mg := mg) (mb := mb) KX T.g T.b T.nolimit T.builtins hmg hg w1 (by omega) fun s' h1 h2 h3 => ?_
 refine ⟨.inl ⟨.bool true, .bool true, [], rfl, fun _ => rfl, ReadsW.bool true, ?_, fun _ => ⟨List.nodup_nil, by simp⟩⟩, h1, h2, h3⟩
 first | rfl | kernel_rfl | (trace_state; simp [PySem.Challenge.rw_te0060_03]))
end Mine
end
theorem PySem.Challenge.cw_te0060_03_holds : PySem.Challenge.rw_te0060_03.Holds := by
  exact Mine.top3
