import PyProof.Rows.All
import Wide.All
import OpenK.AllK
import Wide.FinOn
import PySem.Challenge.RW_te0060_01
set_option Elab.async false
section
open PySem PySem.W PyProof.Rows
set_option Elab.async false
set_option autoImplicit false
namespace Mine
/-! eliminations in one step: they keep the proofs' terms small -/
theorem x1 {A : Type} {P : A -> Prop} {Q : Prop} (k : ∀ a, P a -> Q) : (∃ a, P a) -> Q := fun ⟨a, h⟩ => k a h
theorem x2 {A B : Type} {P : A -> B -> Prop} {Q : Prop} (k : ∀ a b, P a b -> Q) : (∃ a b, P a b) -> Q := fun ⟨a, b, h⟩ => k a b h
theorem x3 {A B C : Type} {P : A -> B -> C -> Prop} {Q : Prop} (k : ∀ a b c, P a b c -> Q) : (∃ a b c, P a b c) -> Q := fun ⟨a, b, c, h⟩ => k a b c h
theorem x4 {A B C D : Type} {P : A -> B -> C -> D -> Prop} {Q : Prop} (k : ∀ a b c d, P a b c d -> Q) : (∃ a b c d, P a b c d) -> Q := fun ⟨a, b, c, d, h⟩ => k a b c d h
theorem x5 {A B C D E : Type} {P : A -> B -> C -> D -> E -> Prop} {Q : Prop} (k : ∀ a b c d e, P a b c d e -> Q) : (∃ a b c d e, P a b c d e) -> Q := fun ⟨a, b, c, d, e, h⟩ => k a b c d e h
theorem x6 {A B C D E F : Type} {P : A -> B -> C -> D -> E -> F -> Prop} {Q : Prop} (k : ∀ a b c d e f, P a b c d e f -> Q) : (∃ a b c d e f, P a b c d e f) -> Q := fun ⟨a, b, c, d, e, f, h⟩ => k a b c d e f h
theorem a2 {A B Z : Prop} (k : A -> B -> Z) : A /\ B -> Z := fun h => k h.1 h.2
theorem a3 {A B C Z : Prop} (k : A -> B -> C -> Z) : A /\ B /\ C -> Z := fun h => k h.1 h.2.1 h.2.2
theorem a4 {A B C D Z : Prop} (k : A -> B -> C -> D -> Z) : A /\ B /\ C /\ D -> Z := fun h => k h.1 h.2.1 h.2.2.1 h.2.2.2
theorem a5 {A B C D E Z : Prop} (k : A -> B -> C -> D -> E -> Z) : A /\ B /\ C /\ D /\ E -> Z := fun h => k h.1 h.2.1 h.2.2.1 h.2.2.2.1 h.2.2.2.2
theorem a6 {A B C D E F Z : Prop} (k : A -> B -> C -> D -> E -> F -> Z) : A /\ B /\ C /\ D /\ E /\ F -> Z := fun h => k h.1 h.2.1 h.2.2.1 h.2.2.2.1 h.2.2.2.2.1 h.2.2.2.2.2
theorem a8 {A B C D E F G H Z : Prop} (k : A -> B -> C -> D -> E -> F -> G -> H -> Z) : A /\ B /\ C /\ D /\ E /\ F /\ G /\ H -> Z := fun h => k h.1 h.2.1 h.2.2.1 h.2.2.2.1 h.2.2.2.2.1 h.2.2.2.2.2.1 h.2.2.2.2.2.2.1 h.2.2.2.2.2.2.2
theorem a9 {A B C D E F G H I Z : Prop} (k : A -> B -> C -> D -> E -> F -> G -> H -> I -> Z) : A /\ B /\ C /\ D /\ E /\ F /\ G /\ H /\ I -> Z := fun h => k h.1 h.2.1 h.2.2.1 h.2.2.2.1 h.2.2.2.2.1 h.2.2.2.2.2.1 h.2.2.2.2.2.2.1 h.2.2.2.2.2.2.2.1 h.2.2.2.2.2.2.2.2
theorem a13 {A B C D E F G H I J K L M Z : Prop} (k : A -> B -> C -> D -> E -> F -> G -> H -> I -> J -> K -> L -> M -> Z) : A /\ B /\ C /\ D /\ E /\ F /\ G /\ H /\ I /\ J /\ K /\ L /\ M -> Z := fun h => k h.1 h.2.1 h.2.2.1 h.2.2.2.1 h.2.2.2.2.1 h.2.2.2.2.2.1 h.2.2.2.2.2.2.1 h.2.2.2.2.2.2.2.1 h.2.2.2.2.2.2.2.2.1 h.2.2.2.2.2.2.2.2.2.1 h.2.2.2.2.2.2.2.2.2.2.1 h.2.2.2.2.2.2.2.2.2.2.2.1 h.2.2.2.2.2.2.2.2.2.2.2.2
theorem e1 {A : Type} {P P' : A -> Prop} (k : ∀ a, P a -> P' a) : (∃ a, P a) -> ∃ a, P' a := fun ⟨a, h⟩ => ⟨a, k a h⟩
theorem e2 {A B : Type} {P P' : A -> B -> Prop} (k : ∀ a b, P a b -> P' a b) : (∃ a b, P a b) -> ∃ a b, P' a b := fun ⟨a, b, h⟩ => ⟨a, b, k a b h⟩
theorem e3 {A B C : Type} {P P' : A -> B -> C -> Prop} (k : ∀ a b c, P a b c -> P' a b c) : (∃ a b c, P a b c) -> ∃ a b c, P' a b c := fun ⟨a, b, c, h⟩ => ⟨a, b, c, k a b c h⟩
theorem e4 {A B C D : Type} {P P' : A -> B -> C -> D -> Prop} (k : ∀ a b c d, P a b c d -> P' a b c d) : (∃ a b c d, P a b c d) -> ∃ a b c d, P' a b c d := fun ⟨a, b, c, d, h⟩ => ⟨a, b, c, d, k a b c d h⟩
theorem e7 {A B C D E F G : Type} {P P' : A -> B -> C -> D -> E -> F -> G -> Prop} (k : ∀ a b c d e f g, P a b c d e f g -> P' a b c d e f g) : (∃ a b c d e f g, P a b c d e f g) -> ∃ a b c d e f g, P' a b c d e f g := fun ⟨a, b, c, d, e, f, g, h⟩ => ⟨a, b, c, d, e, f, g, k a b c d e f g h⟩
theorem c1 {A Z Z' : Prop} (k : Z -> Z') (h : A /\ Z) : A /\ Z' := ⟨h.1, k h.2⟩
theorem c2 {A B Z Z' : Prop} (k : Z -> Z') (h : A /\ B /\ Z) : A /\ B /\ Z' := ⟨h.1, h.2.1, k h.2.2⟩
theorem c3 {A B C Z Z' : Prop} (k : Z -> Z') (h : A /\ B /\ C /\ Z) : A /\ B /\ C /\ Z' := ⟨h.1, h.2.1, h.2.2.1, k h.2.2.2⟩
theorem c4 {A B C D Z Z' : Prop} (k : Z -> Z') (h : A /\ B /\ C /\ D /\ Z) : A /\ B /\ C /\ D /\ Z' := ⟨h.1, h.2.1, h.2.2.1, h.2.2.2.1, k h.2.2.2.2⟩
theorem c5 {A B C D E Z Z' : Prop} (k : Z -> Z') (h : A /\ B /\ C /\ D /\ E /\ Z) : A /\ B /\ C /\ D /\ E /\ Z' := ⟨h.1, h.2.1, h.2.2.1, h.2.2.2.1, h.2.2.2.2.1, k h.2.2.2.2.2⟩
theorem c7 {A B C D E F G Z Z' : Prop} (k : Z -> Z') (h : A /\ B /\ C /\ D /\ E /\ F /\ G /\ Z) : A /\ B /\ C /\ D /\ E /\ F /\ G /\ Z' := ⟨h.1, h.2.1, h.2.2.1, h.2.2.2.1, h.2.2.2.2.1, h.2.2.2.2.2.1, h.2.2.2.2.2.2.1, k h.2.2.2.2.2.2.2⟩
theorem zei {a b : Bool} (h : a = true) (k : b = true) : (a && b) = true := Bool.and_eq_true_iff.mpr ⟨h, k⟩
theorem via {P : Prop} (h : let G := P; G) : P := h
inductive PV where
 | none | bool (b : Bool) | int (i : Int) | str (x : List Nat)
 | tup (xs : List PV) | list (xs : List PV) | inst (c : Nat) (fs : List PV)
 | rng (lo hi : Int) | ptr (a : Nat) | dict (es : List (List Nat × List Nat))
 deriving Inhabited
inductive Fl where
 | next | brk | cont | ret (v : PV)
inductive Cell where
 | lst (xs : List PV) | ins (c : Nat) (fs : List (Option PV))
noncomputable abbrev dG := Str -> Option PV
noncomputable abbrev Kn := Str -> Option NameKind
structure St where
 ρ : dG
 σ : Nat -> Option Cell
noncomputable section
noncomputable def upd (ρ : dG) (x : Str) (v : PV) : dG := fun y => if y = x then some v else ρ y
noncomputable def aR (σ : Nat -> Option Cell) (a : Nat) (c : Cell) : Nat -> Option Cell := fun b => if b = a then some c else σ b
noncomputable abbrev Fn := List PV -> (PV -> Prop) -> Prop
structure Ctx where
 val : Str -> Option PV
 fn : Str -> Option Fn
 bi : Str -> Bool
 slot : Nat -> Str -> Option Nat
 cval : Nat -> Str -> Option PV
 mutL : Nat -> Bool
 cls : Str -> Option Fn
 ini : Bool
/-! what a value is, as a step -/
noncomputable def oN {α : Type} (o : Option α) (d : Prop) (K : α -> Prop) : Prop := Option.casesOn (motive := fun _ => Prop) o d K
noncomputable def opt {α : Type} (o : Option α) (K : α -> Prop) : Prop := oN o False K
noncomputable def pvc {α : Sort _} (d : α) (n : α) (b : Bool -> α) (i : Int -> α) (s : List Nat -> α) (t l : List PV -> α) (p : Nat -> α) (v : PV) : α := PV.casesOn (motive_1 := fun _ => α) v n b i s t l (fun _ _ => d) (fun _ _ => d) p fun _ => d
noncomputable def asI (v : PV) (K : Int -> Prop) : Prop := pvc False False (fun _ => False) K (fun _ => False) (fun _ => False) (fun _ => False) (fun _ => False) v
noncomputable def asS (v : PV) (K : List Nat -> Prop) : Prop := pvc False False (fun _ => False) (fun _ => False) K (fun _ => False) (fun _ => False) (fun _ => False) v
noncomputable def asT (v : PV) (K : List PV -> Prop) : Prop := pvc False False (fun _ => False) (fun _ => False) (fun _ => False) K (fun _ => False) (fun _ => False) v
noncomputable def asL (v : PV) (K : List PV -> Prop) : Prop := pvc False False (fun _ => False) (fun _ => False) (fun _ => False) (fun _ => False) K (fun _ => False) v
noncomputable def asP (v : PV) (K : Nat -> Prop) : Prop := pvc False False (fun _ => False) (fun _ => False) (fun _ => False) (fun _ => False) (fun _ => False) K v
noncomputable def one {α : Type} (xs : List α) (K : α -> Prop) : Prop := List.casesOn (motive := fun _ => Prop) xs False fun a r => List.casesOn (motive := fun _ => Prop) r (K a) fun _ _ => False
noncomputable def two {α : Type} (xs : List α) (K : α -> α -> Prop) : Prop := List.casesOn (motive := fun _ => Prop) xs False fun a r => one r (K a)
noncomputable def mQ {α : Type} (xs : List α) (K : α -> α -> α -> Prop) : Prop := List.casesOn (motive := fun _ => Prop) xs False fun a r => two r (K a)
noncomputable def asD (v : PV) (K : List (List Nat × List Nat) -> Prop) : Prop := PV.casesOn (motive_1 := fun _ => Prop) v False (fun _ => False) (fun _ => False) (fun _ => False) (fun _ => False) (fun _ => False) (fun _ _ => False) (fun _ _ => False) (fun _ => False) K
theorem zb8 {v : PV} {K : List (List Nat × List Nat) -> Prop} (h : asD v K) : ∃ i, v = .dict i /\ K i := by cases v <;> first | exact ⟨_, rfl, h⟩ | exact False.elim h
theorem zbw {v : PV} {K K' : List (List Nat × List Nat) -> Prop} (k : ∀ i, K i -> K' i) (h : asD v K) : asD v K' := by obtain ⟨i, rfl, h⟩ := zb8 h; exact k i h
theorem eV {α : Type} {o : Option α} {A A' : Prop} {K K' : α -> Prop} (h : A -> A') (k : ∀ a, K a -> K' a) (x : oN o A K) : oN o A' K' := by cases o; exact h x; exact k _ x
theorem cX {α : Type} {A : Prop} {K : α -> Prop} : oN none A K = A := rfl
theorem eK {α : Type} {a : α} {K : α -> Prop} : opt (some a) K = K a := rfl
theorem bS {α : Type} {o : Option α} {K : α -> Prop} (h : opt o K) : ∃ a, o = some a /\ K a := by cases o; exact h.elim; exact ⟨_, rfl, h⟩
theorem aZ {α : Type} {o : Option α} {K K' : α -> Prop} (k : ∀ a, K a -> K' a) (h : opt o K) : opt o K' := by cases o; exact h; exact k _ h
theorem b9 {v : PV} {K : Int -> Prop} (h : asI v K) : ∃ i, v = .int i /\ K i := by cases v <;> first | exact ⟨_, rfl, h⟩ | exact False.elim h
theorem dB {v : PV} {K : List Nat -> Prop} (h : asS v K) : ∃ i, v = .str i /\ K i := by cases v <;> first | exact ⟨_, rfl, h⟩ | exact False.elim h
theorem pR {v : PV} {K : List PV -> Prop} (h : asL v K) : ∃ i, v = .list i /\ K i := by cases v <;> first | exact ⟨_, rfl, h⟩ | exact False.elim h
theorem pQ {v : PV} {K : Nat -> Prop} (h : asP v K) : ∃ i, v = .ptr i /\ K i := by cases v <;> first | exact ⟨_, rfl, h⟩ | exact False.elim h
theorem fG {α : Type} {xs : List α} {K : α -> Prop} (h : one xs K) : ∃ a, xs = [a] /\ K a := by
 cases xs with
 | nil => exact False.elim h
 | cons a r => cases r; exact ⟨_, rfl, h⟩; exact False.elim h
theorem n6 {α : Type} {xs : List α} {K : α -> α -> Prop} (h : two xs K) : ∃ a b, xs = [a, b] /\ K a b := by
 cases xs with
 | nil => exact False.elim h
 | cons a r => obtain ⟨b, e, k⟩ := fG h; exact ⟨a, b, by rw [e], k⟩
theorem mP {α : Type} {xs : List α} {K : α -> α -> α -> Prop} (h : mQ xs K) : ∃ a b c, xs = [a, b, c] /\ K a b c := by
 cases xs with
 | nil => exact False.elim h
 | cons a r => obtain ⟨b, c, e, k⟩ := n6 h; exact ⟨a, b, c, by rw [e], k⟩
theorem aY {v : PV} {K K' : Int -> Prop} (k : ∀ i, K i -> K' i) (h : asI v K) : asI v K' := by obtain ⟨i, rfl, h⟩ := b9 h; exact k i h
theorem bM {v : PV} {K K' : List Nat -> Prop} (k : ∀ i, K i -> K' i) (h : asS v K) : asS v K' := by obtain ⟨i, rfl, h⟩ := dB h; exact k i h
theorem jU {v : PV} {K K' : List PV -> Prop} (k : ∀ i, K i -> K' i) (h : asL v K) : asL v K' := by obtain ⟨i, rfl, h⟩ := pR h; exact k i h
theorem jT {v : PV} {K K' : Nat -> Prop} (k : ∀ i, K i -> K' i) (h : asP v K) : asP v K' := by obtain ⟨i, rfl, h⟩ := pQ h; exact k i h
theorem dH {α : Type} {xs : List α} {K K' : α -> Prop} (k : ∀ a, K a -> K' a) (h : one xs K) : one xs K' := by obtain ⟨a, rfl, h⟩ := fG h; exact k a h
theorem mM {α : Type} {xs : List α} {K K' : α -> α -> Prop} (k : ∀ a b, K a b -> K' a b) (h : two xs K) : two xs K' := by obtain ⟨a, b, rfl, h⟩ := n6 h; exact k a b h
theorem lP {α : Type} {xs : List α} {K K' : α -> α -> α -> Prop} (k : ∀ a b c, K a b c -> K' a b c) (h : mQ xs K) : mQ xs K' := by obtain ⟨a, b, c, rfl, h⟩ := mP h; exact k a b c h
noncomputable def dS (c : Option Cell) : Option (List PV) := Option.casesOn (motive := fun _ => Option (List PV)) c none fun c => Cell.casesOn (motive := fun _ => Option (List PV)) c some fun _ _ => none
noncomputable def der (σ : Nat -> Option Cell) (v : PV) : PV := pvc v v (fun _ => v) (fun _ => v) (fun _ => v) (fun _ => v) (fun _ => v) (fun a => Option.casesOn (motive := fun _ => PV) (dS (σ a)) v .list) v
noncomputable def sE (v : PV) : Option Bool := pvc none (some false) some (fun i => some (decide (i ≠ 0))) (fun x => some (!x.isEmpty)) (fun xs => some (!xs.isEmpty)) (fun xs => some (!xs.isEmpty)) (fun _ => none) v
noncomputable def fK (n : Nat) (i : Int) : Nat := if i < 0 then (i + n).toNat else min i.toNat n
noncomputable def slc {α : Type} (xs : List α) (lo hi : Option Int) : List α :=
 (xs.drop ((lo.map (fK xs.length)).getD 0)).take ((hi.map (fK xs.length)).getD xs.length - (lo.map (fK xs.length)).getD 0)
noncomputable def pY {α : Type} (xs : List α) (i : Int) : Option α :=
 if i < 0 then (if 0 <= i + xs.length then xs[(i + xs.length).toNat]? else none) else xs[i.toNat]?
noncomputable def yH (x : List Nat) : List Nat -> Bool
 | [] => x.isEmpty
 | c :: y => x.isPrefixOf (c :: y) || yH x y
noncomputable def zdD (v : PV) : Option (List Nat) := pvc none none (fun _ => none) (fun _ => none) some (fun _ => none) (fun _ => none) (fun _ => none) v
noncomputable def intP (v : PV) : Option Int := pvc none none (fun _ => none) some (fun _ => none) (fun _ => none) (fun _ => none) (fun _ => none) v
noncomputable def gJ : List PV -> Option (List (List Nat))
 | [] => some []
 | v :: r => (zdD v).bind fun x => (gJ r).map (x :: ·)
noncomputable def sY : List PV -> Option (List Int)
 | [] => some []
 | v :: r => (intP v).bind fun x => (sY r).map (x :: ·)
noncomputable def aP : Nat := 16777216
noncomputable def zej (a b : PV) (K : PV -> Prop) : Prop :=
 pvc False False (fun _ => False) (fun x => asI b fun y => K (.int (x + y))) (fun x => asS b fun y => x.length + y.length <= aP /\ K (.str (x ++ y))) (fun _ => False) (fun _ => False) (fun _ => False) a
noncomputable def addL (a b : PV) (K : PV -> Prop) : Prop := asL a fun x => asL b fun y => x.length + y.length <= aP /\ K (.list (x ++ y))
noncomputable def zep (a b : PV) (K : PV -> Prop) : Prop := asI a fun x => asI b fun y => K (.int (x - y))
noncomputable def modP (a b : PV) (K : PV -> Prop) : Prop := asI a fun x => asI b fun y => 0 < y /\ K (.int (x % y))
noncomputable def mulS (a b : PV) (K : PV -> Prop) : Prop := asS a fun x => asI b fun y => 0 <= y /\ y <= 1000 /\ x.length = 1 /\ K (.str (List.replicate y.toNat (x.headD 0)))
noncomputable def fdvP (a b : PV) (K : PV -> Prop) : Prop := asI a fun x => asI b fun y => 0 < y /\ y < 4294967296 /\ K (.int (x / y))
noncomputable def opK {α : Sort _} (add sub mul mod fdv d : α) (op : Operator) : α := Operator.casesOn (motive := fun _ => α) op add sub mul d d mod d d d d d d fdv
noncomputable def isL (v : PV) : Bool := pvc false false (fun _ => false) (fun _ => false) (fun _ => false) (fun _ => false) (fun _ => true) (fun _ => false) v
noncomputable def zes (op : Operator) (a b : PV) (K : PV -> Prop) : Prop := opK (if isL a = true then addL a b K else zej a b K) (zep a b K) (mulS a b K) (modP a b K) (fdvP a b K) False op
noncomputable def inP (op : Operator) (a b : PV) (K : PV -> Prop) : Prop := opK (zej a b K) (zep a b K) False False False False op
mutual
noncomputable def Res (σ : Nat -> Option Cell) (v : PV) : PV -> Prop
 | .tup ts => ∃ xs, v = .tup xs /\ lN σ xs ts
 | .list ts => (∃ xs, v = .list xs /\ lN σ xs ts) \/ (∃ a xs, v = .ptr a /\ σ a = some (.lst xs) /\ lN σ xs ts)
 | .inst c ts => ∃ xs, v = .inst c xs /\ lN σ xs ts
 | .none => v = .none
 | .bool b => v = .bool b
 | .int i => v = .int i
 | .str x => v = .str x
 | .rng a b => v = .rng a b
 | .dict es => v = .dict es
 | .ptr _ => False
noncomputable def lN (σ : Nat -> Option Cell) (xs : List PV) : List PV -> Prop
 | [] => xs = []
 | t :: ts => ∃ y ys, xs = y :: ys /\ Res σ y t /\ lN σ ys ts
end
mutual
noncomputable def plain : PV -> Bool
 | .none => true
 | .int _ => true
 | .str _ => true
 | .tup xs => fF xs
 | .list xs => fF xs
 | .bool _ => false
 | .inst _ _ => false
 | .rng _ _ => false
 | .ptr _ => false
 | .dict _ => false
noncomputable def fF : List PV -> Bool
 | [] => true
 | x :: xs => plain x && fF xs
end
mutual
noncomputable def dep : PV -> Nat
 | .tup xs => zdt xs + 1
 | .list xs => zdt xs + 1
 | .none => 0
 | .int _ => 0
 | .str _ => 0
 | .bool _ => 0
 | .inst _ _ => 0
 | .rng _ _ => 0
 | .ptr _ => 0
 | .dict _ => 0
noncomputable def zdt : List PV -> Nat
 | [] => 0
 | x :: xs => max (dep x) (zdt xs)
end
noncomputable def eqS (a b : PV) : Option Bool :=
 pvc none none (fun x => PV.casesOn (motive_1 := fun _ => Option Bool) b none (fun y => some (decide (x = y))) (fun _ => none) (fun _ => none) (fun _ => none) (fun _ => none) (fun _ _ => none) (fun _ _ => none) (fun _ => none) (fun _ => none))
  (fun x => (intP b).map fun y => decide (x = y)) (fun x => pvc none (some false) (fun _ => none) (fun _ => none) (fun y => some (decide (x = y))) (fun _ => none) (fun _ => none) (fun _ => none) b) (fun _ => none) (fun _ => none) (fun _ => none) a
open Classical in
noncomputable def eqW (σ : Nat -> Option Cell) (a b : PV) (K : Bool -> Prop) : Prop :=
 oN (eqS a b) (∃ ta tb, Res σ a ta /\ Res σ b tb /\ plain ta = true /\ plain tb = true /\ dep ta <= 4000 /\ K (decide (ta = tb))) K
noncomputable def leS : List Nat -> List Nat -> Bool
 | [], _ => true
 | a :: x, y => List.casesOn (motive := fun _ => Bool) y false fun b y => if a = b then leS x y else decide (a < b)
noncomputable def isW (a b : PV) (K : Bool -> Prop) : Prop :=
 pvc False (pvc False (K true) (fun _ => False) (fun _ => K false) (fun _ => False) (fun _ => False) (fun _ => False) (fun _ => False) a)
  (fun y => pvc False False (fun x => K (decide (x = y))) (fun _ => False) (fun _ => False) (fun _ => False) (fun _ => False) (fun _ => False) a) (fun _ => False) (fun _ => False) (fun _ => False) (fun _ => False) (fun _ => False) b
noncomputable def inW (a b : PV) (K : Bool -> Prop) : Prop := asS a fun x =>
 pvc False False (fun _ => False) (fun _ => False) (fun y => K (yH x y)) (fun ys => ∃ zs, gJ ys = some zs /\ K (decide (x ∈ zs))) (fun _ => False) (fun _ => False) b
noncomputable def ltP (a b : PV) (K : Bool -> Prop) : Prop := asI a fun x => asI b fun y => K (decide (x < y))
noncomputable def gtP (a b : PV) (K : Bool -> Prop) : Prop := asI a fun x => asI b fun y => K (decide (y < x))
noncomputable def leP (a b : PV) (K : Bool -> Prop) : Prop :=
 pvc False False (fun _ => False) (fun x => asI b fun y => K (decide (x <= y))) (fun x => asS b fun y => K (leS x y)) (fun _ => False) (fun _ => False) (fun _ => False) a
noncomputable def zb3 (σ : Nat -> Option Cell) (op : CmpOp) (a b : PV) (K : Bool -> Prop) : Prop :=
 CmpOp.casesOn (motive := fun _ => Prop) op (eqW σ a b K) (eqW σ a b fun r => K (!r)) (ltP a b K) (leP a b K) (gtP a b K) False (isW a b K) (isW a b fun r => K (!r)) (inW a b K) (inW a b fun r => K (!r))
noncomputable def fU (v : PV) : Option (List PV) := PV.casesOn (motive_1 := fun _ => Option (List PV)) v none (fun _ => none) (fun _ => none) (fun x => some (x.map fun c => .str [c])) (fun _ => none) some (fun _ _ => none)
 (fun lo hi => some ((List.range (hi - lo).toNat).map fun (k : Nat) => .int (lo + k))) (fun _ => none) (fun _ => none)
/-! what an expression is -/
noncomputable def exc {α : Sort _} (d : α) (c : Const -> α) (nm : Str -> α) (tup : List Expr -> α) (att : Expr -> Str -> Pos -> α) (sl : Option Expr -> Option Expr -> α) (lc : Expr -> List Comprehension -> α) (e : Expr) : α :=
 Expr.casesOn (motive_1 := fun _ => α) e (fun _ _ _ => d) (fun _ _ _ => d) (fun _ _ _ _ => d) (fun _ _ _ => d) (fun _ _ _ _ => d) (fun _ _ _ _ => d) (fun _ _ _ => d) (fun _ _ _ => d) (fun e g _ _ => lc e g) (fun _ _ _ _ => d)
  (fun _ _ _ _ _ => d) (fun _ _ _ _ => d) (fun _ _ => d) (fun _ _ => d) (fun _ _ => d) (fun _ _ _ _ => d) (fun _ _ _ _ => d) (fun _ _ _ _ => d) (fun _ _ => d) (fun x _ _ => c x) (fun o n p => att o n p) (fun _ _ _ => d) (fun _ _ => d) (fun x _ => nm x) (fun _ _ => d) (fun es _ _ => tup es) (fun l u _ _ => sl l u)
noncomputable def cM (e : Expr) : Bool :=
 Expr.casesOn (motive_1 := fun _ => Bool) e (fun _ _ _ => true) (fun _ _ _ => true) (fun _ _ _ _ => true) (fun _ _ _ => true) (fun _ _ _ _ => true) (fun _ _ _ _ => true) (fun _ _ _ => true) (fun _ _ _ => true) (fun _ _ _ _ => true) (fun _ _ _ _ => true)
  (fun _ _ _ _ _ => true) (fun _ _ _ _ => true) (fun _ _ => true) (fun _ _ => true) (fun _ _ => true) (fun _ _ _ _ => true) (fun _ _ _ _ => true) (fun _ _ _ _ => true) (fun _ _ => true) (fun _ _ _ => true) (fun _ _ _ => true) (fun _ _ _ => true) (fun _ _ => false) (fun _ _ => true) (fun _ _ => true) (fun _ _ _ => true) (fun _ _ _ _ => true)
noncomputable def nmE (e : Expr) : Option Str := exc none (fun _ => none) some (fun _ => none) (fun _ _ _ => none) (fun _ _ => none) (fun _ _ => none) e
noncomputable def zdp (e : Expr) : Option (List Expr) := exc none (fun _ => none) (fun _ => none) some (fun _ _ _ => none) (fun _ _ => none) (fun _ _ => none) e
noncomputable def atN (e : Expr) : Option Str := exc none (fun _ => none) (fun _ => none) (fun _ => none) (fun _ n _ => some n) (fun _ _ => none) (fun _ _ => none) e
noncomputable def zaY (e : Expr) : Bool := exc false (fun _ => false) (fun _ => false) (fun _ => false) (fun _ _ _ => false) (fun _ _ => true) (fun _ _ => false) e
noncomputable def strC (c : Const) : Option Str := match c with
 | .str p => some p
 | _ => none
noncomputable def csE (e : Expr) : Option Str := exc none strC (fun _ => none) (fun _ => none) (fun _ _ _ => none) (fun _ _ => none) (fun _ _ => none) e
noncomputable def dQ : List Expr -> List PV -> dG -> Option dG
 | [], vs, ρ => if vs.isEmpty = true then some ρ else none
 | e :: es, vs, ρ => (nmE e).bind fun x => vs.head?.bind fun v => dQ es vs.tail (upd ρ x v)
noncomputable def iP (e : Expr) (v : PV) (ρ : dG) : Option dG := match nmE e with
 | some x => some (upd ρ x v)
 | none => (zdp e).bind fun es => pvc none none (fun _ => none) (fun _ => none) (fun _ => none) (fun vs => dQ es vs ρ) (fun _ => none) (fun _ => none) v
noncomputable def nQ : List Expr -> PV -> dG -> Option dG
 | [], _, ρ => some ρ
 | t :: ts, v, ρ => (iP t v ρ).bind (nQ ts v)
noncomputable def lK (b c : Nat) : Option Nat :=
 if 48 <= c /\ c <= 57 /\ c - 48 < b then some (c - 48)
 else if 97 <= c /\ c <= 102 /\ c - 87 < b then some (c - 87)
 else if 65 <= c /\ c <= 70 /\ c - 55 < b then some (c - 55)
 else none
noncomputable def fS (b : Nat) : Nat -> List Nat -> Option Nat
 | acc, [] => some acc
 | acc, c :: r => match lK b c with
  | some d => fS b (acc * b + d) r
  | none => none
noncomputable def lenP (v : PV) (K : PV -> Prop) : Prop := pvc False False (fun _ => False) (fun _ => False) (fun x => K (.int x.length)) (fun _ => False) (fun x => K (.int x.length)) (fun _ => False) v
noncomputable def zdr (x : List Nat) (K : PV -> Prop) : Prop := List.casesOn (motive := fun _ => Prop) x False fun c x =>
 x.length < 640 /\ ((c = 45 /\ x ≠ [] /\ ∃ n, fS 10 0 x = some n /\ K (.int (-(n : Int)))) \/
   (c = 43 /\ x ≠ [] /\ ∃ n, fS 10 0 x = some n /\ K (.int n)) \/
   (∃ n, fS 10 0 (c :: x) = some n /\ K (.int n)))
noncomputable def zeq (lo hi : Int) (K : PV -> Prop) : Prop := 0 <= lo /\ lo <= 16777216 /\ 0 <= hi /\ hi <= 16777216 /\ K (.rng lo hi)
noncomputable def biP (name : Str) (args : List PV) (K : PV -> Prop) : Prop :=
 if name = "len" then one args fun v => lenP v K
 else if name = "ord" then one args fun v => asS v fun x => one x fun c => K (.int c)
 else if name = "chr" then one args fun v => asI v fun i => 0 <= i /\ i < 0x110000 /\ K (.str [i.toNat])
 else if name = "int" then List.casesOn (motive := fun _ => Prop) args False fun v r => asS v fun x => List.casesOn (motive := fun _ => Prop) r (zdr x K) fun b r => one (b :: r) fun b => asI b fun b => b = 16 /\ x ≠ [] /\ x.length <= 640 /\ ∃ n, fS 16 0 x = some n /\ K (.int n)
 else if name = "sum" then one args fun v => asL v fun xs => ∃ is, sY xs = some is /\ K (.int is.sum)
 else if name = "range" then List.casesOn (motive := fun _ => Prop) args False fun a r => asI a fun lo => List.casesOn (motive := fun _ => Prop) r (zeq 0 lo K) fun b r => one (b :: r) fun b => asI b fun hi => zeq lo hi K
 else False
noncomputable def l7 (x p : List Nat) : Nat -> Nat -> Int
 | _, 0 => -1
 | i, n + 1 => if p.isPrefixOf (x.drop i) then i else l7 x p (i + 1) n
noncomputable def yS (x p : List Nat) (i : Nat) : Int := l7 x p i (x.length + 1 - i)
noncomputable def b8 : List Nat -> List Nat -> Nat -> List Nat -> List Nat
 | _, _, 0, x => x
 | _, _, _ + 1, [] => []
 | p, q, n + 1, c :: x => if p.isPrefixOf (c :: x) then q ++ b8 p q n ((c :: x).drop p.length) else c :: b8 p q n x
noncomputable def oK (p q x : List Nat) : List Nat := b8 p q (x.length + 1) x
noncomputable def oW (c : Nat) (x : List Nat) : Nat -> Nat -> Option Nat -> Option Nat
 | 0, _, st => st
 | n + 1, i, st => oW c x n (i + 1) (if x[i]? = some c then some i else st)
noncomputable def eU (c : Nat) (x : List Nat) (i j : Nat) : Int := (oW c x (min j x.length - i) i none).elim (-1) fun k => (k : Int)
noncomputable def okI (i : Int) (K : Prop) : Prop := 0 <= i /\ i < 4611686018427387904 /\ K
noncomputable def swP (x : List Nat) (p : PV) (i : Int) (K : Bool -> Prop) : Prop := asS p fun p => K (decide (i <= x.length) && p.isPrefixOf (x.drop i.toNat))
noncomputable def zdC (args : List PV) (K : Nat -> Int -> Int -> Prop) : Prop := mQ args fun p i j => asS p fun p => one p fun c => asI i fun i => asI j fun j => okI i (okI j (K c i j))
noncomputable def eG (σ : Nat -> Option Cell) (name : Str) (o : PV) (args : List PV) (K : PV -> (Nat -> Option Cell) -> Prop) : Prop :=
 if name = "append" then asP o fun a => one args fun v => ∃ xs, σ a = some (.lst xs) /\ xs.length < aP /\ K .none (aR σ a (.lst (xs ++ [v])))
 else if name = "startswith" then asS o fun x => two args fun p i => asI i fun i => okI i (swP x p i fun b => K (.bool b) σ)
 else if name = "find" then asS o fun x => two args fun p i => asS p fun p => asI i fun i => okI i (K (.int (yS x p i.toNat)) σ)
 else if name = "rfind" then asS o fun x => zdC args fun c i j => K (.int (eU c x i.toNat j.toNat)) σ
 else if name = "count" then asS o fun x => zdC args fun c i j => K (.int ((((x.take j.toNat).drop i.toNat).count c : Nat) : Int)) σ
 else if name = "join" then asS o fun x => x = [] /\ one args fun l => asL (der σ l) fun xs => ∃ zs, gJ xs = some zs /\ zs.flatten.length <= aP /\ K (.str zs.flatten) σ
 else if name = "pop" then asP o fun a => args = [] /\ ∃ xs v, σ a = some (.lst (xs ++ [v])) /\ K v (aR σ a (.lst xs))
 else if name = "get" then asD o fun es => two args fun k d => asS k fun k => K (((es.lookup k).map .str).getD d) σ
 else False
noncomputable def jM : Const -> Option PV
 | .none => some .none
 | .bool b => some (.bool b)
 | .int i => some (.int i)
 | .str s => some (.str s.cps.toList)
 | _ => none
noncomputable def tst (K : Bool -> St -> Prop) (v : PV) (st : St) : Prop := opt (sE (der st.σ v)) fun b => K b st
noncomputable def cG (I : (Bool -> St -> Prop) -> St -> Prop) (El : (PV -> St -> Prop) -> St -> Prop) (tgt : Expr) (ρ0 : dG) (Q : List PV -> (Nat -> Option Cell) -> Prop) : List PV -> List PV -> (Nat -> Option Cell) -> Prop
 | [], acc, σ => Q acc σ
 | v :: vs, acc, σ => opt (iP tgt v ρ0) fun ρ1 => I (fun ok st1 => if ok = true then El (fun r st2 => cG I El tgt ρ0 Q vs (acc ++ [r]) st2.σ) st1 else cG I El tgt ρ0 Q vs acc st1.σ) ⟨ρ1, σ⟩
noncomputable def cS (ns : List (Str × NameKind)) : Kn := fun y => List.lookup y ns
noncomputable def rD (v : PV) : Bool := pvc false false (fun _ => false) (fun _ => false) (fun _ => false) (fun _ => false) (fun _ => false) (fun _ => true) v
noncomputable def j6 (v : PV) : Bool := pvc false true (fun _ => true) (fun _ => true) (fun _ => true) (fun _ => false) (fun _ => false) (fun _ => false) v
noncomputable def fX (ns : List (Str × NameKind)) (ρ : dG) : dG := fun y => if List.lookup y ns = some .free then ρ y else none
noncomputable def bF (C : Ctx) (pos : Pos) (vs : List PV) (Q : PV -> St -> Prop) (st : St) : Prop :=
 if C.mutL pos.line then ∀ a, st.σ a = none -> Q (.ptr a) ⟨st.ρ, aR st.σ a (.lst vs)⟩ else Q (.list vs) st
noncomputable def unP (op : UnaryOp) (v : PV) (K : PV -> Prop) : Prop :=
 UnaryOp.casesOn (motive := fun _ => Prop) op False (opt (sE v) fun b => K (.bool (!b))) False (asI v fun i => K (.int (-i)))
noncomputable def bT (as : List Expr) : Option (Str × Str) := match as with
 | [a, b] => (csE a).bind fun p => (csE b).map fun q => (p, q)
 | _ => none
noncomputable def zaD (name p q : Str) (o : PV) (K : PV -> Prop) : Prop :=
 asS o fun x => name = "replace" /\ x.length <= 1000000 /\ p.cps.toList ≠ [] /\ q.cps.toList.length = 1 /\ p ≠ q /\ K (.str (oK p.cps.toList q.cps.toList x))
noncomputable def zbu (C : Ctx) (name : Str) (o : PV) (K : PV -> Prop) : Prop :=
 PV.casesOn (motive_1 := fun _ => Prop) o False (fun _ => False) (fun _ => False) (fun _ => False) (fun _ => False) (fun _ => False)
  (fun c fs => oN (C.slot c name) (opt (C.cval c name) K) fun i => opt fs[i]? K) (fun _ _ => False) (fun _ => False) (fun _ => False)
noncomputable def zct (o : PV) (lo hi : Option Int) (K : PV -> Prop) : Prop :=
 pvc False False (fun _ => False) (fun _ => False) (fun x => K (.str (slc x lo hi))) (fun _ => False) (fun xs => K (.list (slc xs lo hi))) (fun _ => False) o
noncomputable def zbP (o i : PV) (K : PV -> Prop) : Prop := asI i fun k =>
 pvc False False (fun _ => False) (fun _ => False) (fun x => opt (pY x k) fun c => K (.str [c])) (fun xs => opt (pY xs k) K) (fun xs => opt (pY xs k) K) (fun _ => False) o
noncomputable def vA (C : Ctx) (f : Str) : Bool := (C.fn f).isSome || (C.cls f).isSome || C.bi f
noncomputable def jO (C : Ctx) (f : Str) (vs : List PV) (st : St) (K : PV -> Prop) : Prop :=
 oN (C.fn f) (oN (C.cls f) (C.bi f = true /\ biP f (vs.map (der st.σ)) K) fun F => F vs K)
  fun F => F (vs.map (der st.σ)) fun r => (vs.any rD = false \/ j6 r = true) /\ K r
noncomputable def dA (κ : Kn) (sc : Scope) : Bool :=
 sc.kind == .function && sc.names.all fun n => match n.2 with
  | .free => κ n.1 == some .cell || κ n.1 == some .free
  | .local => sc.names.lookup n.1 == some .local
  | .cell => false
  | _ => true
noncomputable def cA (e : Expr) : List Str := match nmE e with
 | some x => [x]
 | none => ((zdp e).getD []).filterMap nmE
noncomputable def setCell (C : Ctx) (a : Nat) (name : Str) (v : PV) (st : St) (K : St -> Prop) : Prop :=
 ∃ c fs i, st.σ a = some (.ins c fs) /\ C.slot c name = some i /\ i < fs.length /\ K ⟨st.ρ, aR st.σ a (.ins c (fs.set i (some v)))⟩
noncomputable def isD (v : PV) : Bool := PV.casesOn (motive_1 := fun _ => Bool) v false (fun _ => false) (fun _ => false) (fun _ => false) (fun _ => false) (fun _ => false) (fun _ _ => false) (fun _ _ => false) (fun _ => false) fun _ => true
noncomputable def rM : List (Option Expr) -> List Expr -> Option (List (Str × Str))
 | [], vs => if vs.isEmpty = true then some [] else none
 | k :: ks, vs => k.bind fun k => (csE k).bind fun a => vs.head?.bind fun v => (csE v).bind fun b => (rM ks vs.tail).map ((a, b) :: ·)
noncomputable def dlP (l : List (Str × Str)) : List (List Nat × List Nat) := l.map fun e => (e.1.cps.toList, e.2.cps.toList)
noncomputable def mOk (σ : Nat -> Option Cell) (name : Str) (v : PV) : Bool :=
 (isD v && name == "get") || pvc false false (fun _ => false) (fun _ => false) (fun _ => name == "startswith" || name == "find" || name == "rfind" || name == "count" || name == "join") (fun _ => false) (fun _ => false)
  (fun a => (name == "append" || name == "pop") && (dS (σ a)).isSome) v
mutual
noncomputable def wE (C : Ctx) : Expr -> Kn -> (PV -> St -> Prop) -> St -> Prop
 | .Constant c _ _, _, Q, st => opt (jM c) fun v => Q v st
 | .Name id _, κ, Q, st => if κ id = some .globalImplicit then opt (C.val id) (fun v => Q v st) else opt (st.ρ id) fun v => Q v st
 | .BoolOp op vs _, κ, Q, st => wBo C op vs κ Q st
 | .BinOp l op r _, κ, Q, st => wE C l κ (fun a st1 => wE C r κ (fun b st2 => zes op (der st2.σ a) (der st2.σ b) fun v => Q v st2) st1) st
 | .UnaryOp op x _, κ, Q, st => wE C x κ (fun v st1 => unP op (der st1.σ v) fun r => Q r st1) st
 | .IfExp t b o _, κ, Q, st => wE C t κ (tst fun c st1 => if c = true then wE C b κ Q st1 else wE C o κ Q st1) st
 | .Compare l ops cs _, κ, Q, st => wE C l κ (fun a st1 => wCh C cs ops κ a Q st1) st
 | .Call f args kws _, κ, Q, st => kws.isEmpty = true /\ oN (atN f)
   (opt (nmE f) fun id => κ id = some .globalImplicit /\ vA C id = true /\ wEs C args κ (fun vs st2 => jO C id vs st2 fun r => Q r st2) st)
   fun name => oN (bT args) (wA C f κ (fun ov st1 => mOk st1.σ name ov = true /\ wEs C args κ (fun vs st2 => eG st2.σ name ov vs fun r σ' => Q r ⟨st2.ρ, σ'⟩) st1) st)
    fun pq => wA C f κ (fun ov st1 => zaD name pq.1 pq.2 ov fun r => Q r st1) st
 | .Attribute o name _, κ, Q, st => wE C o κ (fun ov st1 => zbu C name ov fun r => Q r st1) st
 | .Subscript o i _, κ, Q, st => wE C o κ (fun ov st1 => if zaY i = true then wSl C i κ (fun lo hi st3 => zct (der st3.σ ov) lo hi fun r => Q r st3) st1 else wE C i κ (fun iv st2 => zbP (der st2.σ ov) iv fun r => Q r st2) st1) st
 | .List es pos, κ, Q, st => wEs C es κ (fun vs st1 => bF C pos vs Q st1) st
 | .Tuple es _ _, κ, Q, st => wEs C es κ (fun vs st1 => Q (.tup vs) st1) st
 | .Dict ks vs _, _, Q, st => opt (rM ks vs) fun l => Q (.dict (dlP l)) st
 | .ListComp elt gens sc pos, κ, Q, st => (match gens with
  | [⟨tgt, iter, ifs, asy⟩] => asy = 0 /\ dA κ sc = true /\ (cA tgt).all (fun x => sc.names.lookup x == some .local) = true /\ wE C iter κ (fun v st1 => opt (fU v) fun items =>
    items.length <= aP /\ cG (fun K s' => wIf C ifs (cS sc.names) K s') (fun K s' => wE C elt (cS sc.names) K s') tgt (fX sc.names st1.ρ) (fun vs σ' => bF C pos vs Q ⟨st1.ρ, σ'⟩) items [] st1.σ) st
  | _ => False)
 | _, _, _, _ => False
noncomputable def wEs (C : Ctx) : List Expr -> Kn -> (List PV -> St -> Prop) -> St -> Prop
 | [], _, Q, st => Q [] st
 | e :: es, κ, Q, st => wE C e κ (fun v st1 => wEs C es κ (fun vs st2 => Q (v :: vs) st2) st1) st
noncomputable def wOp (C : Ctx) : Option Expr -> Kn -> (Option Int -> St -> Prop) -> St -> Prop
 | none, _, Q, st => Q none st
 | some e, κ, Q, st => wE C e κ (fun v st1 => asI v fun i => -4611686018427387904 < i /\ i < 4611686018427387904 /\ Q (some i) st1) st
noncomputable def wA (C : Ctx) : Expr -> Kn -> (PV -> St -> Prop) -> St -> Prop
 | .Attribute o _ _, κ, Q, st => wE C o κ Q st
 | _, _, _, _ => False
noncomputable def wSl (C : Ctx) : Expr -> Kn -> (Option Int -> Option Int -> St -> Prop) -> St -> Prop
 | .Slice l u sp _, κ, Q, st => sp.isNone = true /\ wOp C l κ (fun lo st1 => wOp C u κ (fun hi st2 => Q lo hi st2) st1) st
 | _, _, _, _ => False
noncomputable def wBo (C : Ctx) (op : BoolOp) : List Expr -> Kn -> (PV -> St -> Prop) -> St -> Prop
 | [], _, _, _ => False
 | e :: es, κ, Q, st => if es.isEmpty = true then wE C e κ Q st else wE C e κ (fun v st1 => opt (sE (der st1.σ v)) fun b => if b = (op == .Or) then Q v st1 else wBo C op es κ Q st1) st
noncomputable def wCh (C : Ctx) : List Expr -> List CmpOp -> Kn -> PV -> (PV -> St -> Prop) -> St -> Prop
 | [], _, _, _, _, _ => False
 | r :: rs, ops, κ, a, Q, st => opt ops.head? fun op => wE C r κ (fun b st1 => zb3 st1.σ op a b fun c => if rs.isEmpty = true then ops.tail.isEmpty = true /\ Q (.bool c) st1 else if c = true then wCh C rs ops.tail κ b Q st1 else Q (.bool false) st1) st
noncomputable def wIf (C : Ctx) : List Expr -> Kn -> (Bool -> St -> Prop) -> St -> Prop
 | [], _, Q, st => Q true st
 | e :: es, κ, Q, st => wE C e κ (tst fun b st1 => if b = true then wIf C es κ Q st1 else Q false st1) st
end
end
section
variable {C : Ctx} {κ : Kn} {Q : PV -> St -> Prop} {st : St} {p q : Pos} {e l r t b o i elt iter : Expr} {es : List Expr}
theorem r7 {c : Const} {k : Nat} : wE C (.Constant c k p) κ Q st = opt (jM c) fun v => Q v st := rfl
theorem fN {x : Str} : wE C (.Name x p) κ Q st = if κ x = some .globalImplicit then opt (C.val x) (fun v => Q v st) else opt (st.ρ x) fun v => Q v st := rfl
theorem eO {name : Str} {kws : List Keyword} : wE C (.Call (.Attribute o name q) es kws p) κ Q st = (kws.isEmpty = true /\ oN (bT es) (wE C o κ (fun ov st1 => mOk st1.σ name ov = true /\ wEs C es κ (fun vs st2 => eG st2.σ name ov vs fun r σ' => Q r ⟨st2.ρ, σ'⟩) st1) st)
    fun pq => wE C o κ (fun ov st1 => zaD name pq.1 pq.2 ov fun r => Q r st1) st) := rfl
theorem zcc {x : Str} {kws : List Keyword} : wE C (.Call (.Name x q) es kws p) κ Q st = (kws.isEmpty = true /\ κ x = some .globalImplicit /\ vA C x = true /\ wEs C es κ (fun vs st2 => jO C x vs st2 fun r => Q r st2) st) := rfl
theorem zdA {l u sp : Option Expr} : wE C (.Subscript o (.Slice l u sp q) p) κ Q st = wE C o κ (fun ov st1 => sp.isNone = true /\ wOp C l κ (fun lo st2 => wOp C u κ (fun hi st3 => zct (der st3.σ ov) lo hi fun r => Q r st3) st2) st1) st := rfl
theorem zdz : wE C (.Subscript o i p) κ Q st = wE C o κ (fun ov st1 => if zaY i = true then wSl C i κ (fun lo hi st3 => zct (der st3.σ ov) lo hi fun r => Q r st3) st1 else wE C i κ (fun iv st2 => zbP (der st2.σ ov) iv fun r => Q r st2) st1) st := rfl
theorem v6 {tgt : Expr} {asy : Int} {sc : Scope} : wE C (.ListComp elt [⟨tgt, iter, es, asy⟩] sc p) κ Q st = (asy = 0 /\ dA κ sc = true /\ (cA tgt).all (fun x => sc.names.lookup x == some .local) = true /\ wE C iter κ (fun v st1 => opt (fU v) fun items =>
    items.length <= aP /\ cG (fun K s' => wIf C es (cS sc.names) K s') (fun K s' => wE C elt (cS sc.names) K s') tgt (fX sc.names st1.ρ) (fun vs σ' => bF C p vs Q ⟨st1.ρ, σ'⟩) items [] st1.σ) st) := rfl
theorem fM {Q : List PV -> St -> Prop} : wEs C [] κ Q st = Q [] st := rfl
theorem r6 {Q : List PV -> St -> Prop} : wEs C (e :: es) κ Q st = wE C e κ (fun v st1 => wEs C es κ (fun vs st2 => Q (v :: vs) st2) st1) st := rfl
variable {K : PV -> Prop} {J : Bool -> Prop} {R : PV -> (Nat -> Option Cell) -> Prop} {σ : Nat -> Option Cell} {x y : Int} {u v : List Nat} {s t : List PV} {a : Nat} {bo : Bool} {α : Type} {z z' z'' : α}
theorem dN : inP .Add (.int x) (.int y) K = K (.int (x + y)) := rfl
theorem oY : inP .Add (.str u) (.str v) K = (u.length + v.length <= aP /\ K (.str (u ++ v))) := rfl
end
noncomputable def zdg {α : Sort _} (d : α) (k : Expr -> List Expr -> List Keyword -> α) (b : α) (e : Expr) : α :=
 Expr.casesOn (motive_1 := fun _ => α) e (fun _ _ _ => d) (fun _ _ _ => d) (fun _ _ _ _ => d) (fun _ _ _ => d) (fun _ _ _ _ => d) (fun _ _ _ _ => d) (fun _ _ _ => d) (fun _ _ _ => d) (fun _ _ _ _ => d) (fun _ _ _ _ => d)
  (fun _ _ _ _ _ => d) (fun _ _ _ _ => d) (fun _ _ => d) (fun _ _ => d) (fun _ _ => d) (fun _ _ _ _ => d) (fun f as ks _ => k f as ks) (fun _ _ _ _ => d) (fun _ _ => d) (fun _ _ _ => d) (fun _ _ _ => d) (fun _ _ _ => b) (fun _ _ => d) (fun _ _ => d) (fun _ _ => d) (fun _ _ _ => d) (fun _ _ _ _ => d)
theorem dO {P : Expr -> Prop} (hc : ∀ c k p, P (.Constant c k p)) (hn : ∀ x p, P (.Name x p)) (ht : ∀ es k p, P (.Tuple es k p)) (ha : ∀ o n p, P (.Attribute o n p)) (hs : ∀ l u s p, P (.Slice l u s p)) (hl : ∀ e g sc p, P (.ListComp e g sc p)) (hk : ∀ f as ks p, P (.Call f as ks p)) (hb : ∀ o i p, P (.Subscript o i p))
  (hd : ∀ e, (∀ (α : Type) (d : α) c n t a s l, exc d c n t a s l e = d) -> (∀ (α : Type) (d : α) k b, zdg d k b e = d) -> P e) : ∀ e, P e := by
 intro e
 cases e <;> first | exact hc _ _ _ | exact hn _ _ | exact ht _ _ _ | exact ha _ _ _ | exact hs _ _ _ _ | exact hl _ _ _ _ | exact hk _ _ _ _ | exact hb _ _ _ | exact hd _ (fun _ _ _ _ _ _ _ _ => rfl) (fun _ _ _ _ => rfl)
theorem fA {e : Expr} {x : Str} : nmE e = some x -> ∃ p, e = .Name x p := by
 refine dO (P := fun e => nmE e = some x -> ∃ p, e = .Name x p) ?_ ?_ ?_ ?_ ?_ ?_ ?_ ?_ (fun e he _ h => by rw [nmE, he] at h; cases h) e
 ·intro c k p h; cases h
 ·intro y p h; cases h; exact ⟨p, rfl⟩
 all_goals (intros; rename_i h; cases h)
theorem wC {e : Expr} {es : List Expr} : zdp e = some es -> ∃ k p, e = .Tuple es k p := by
 refine dO (P := fun e => zdp e = some es -> ∃ k p, e = .Tuple es k p) ?_ ?_ ?_ ?_ ?_ ?_ ?_ ?_ (fun e he _ h => by rw [zdp, he] at h; cases h) e
 ·intro c k p h; cases h
 ·intro y p h; cases h
 ·intro es k p h; cases h; exact ⟨k, p, rfl⟩
 all_goals (intros; rename_i h; cases h)
theorem jP {e : Expr} {x : Str} : csE e = some x -> ∃ k p, e = .Constant (.str x) k p := by
 refine dO (P := fun e => csE e = some x -> ∃ k p, e = .Constant (.str x) k p) ?_ ?_ ?_ ?_ ?_ ?_ ?_ ?_ (fun e he _ h => by rw [csE, he] at h; cases h) e
 ·intro c k p h
  have h : strC c = some x := h
  cases c <;> cases h
  exact ⟨k, p, rfl⟩
 all_goals (intros; rename_i h; cases h)
theorem nT {e : Expr} {n : Str} : atN e = some n -> ∃ o p, e = .Attribute o n p := by
 refine dO (P := fun e => atN e = some n -> ∃ o p, e = .Attribute o n p) ?_ ?_ ?_ ?_ ?_ ?_ ?_ ?_ (fun e he _ h => by rw [atN, he] at h; cases h) e
 ·intro c k p h; cases h
 ·intro y p h; cases h
 ·intro es k p h; cases h
 ·intro o n p h; cases h; exact ⟨o, p, rfl⟩
 all_goals (intros; rename_i h; cases h)
noncomputable abbrev GM := Nat -> Option Obj
noncomputable def okStr (x : List Nat) : Prop := (∀ c ∈ x, c < 1114112) /\ x.length <= aP
noncomputable def InstRel (G : GM) (v : Value) (c : Nat) (vs : List Value) : Prop :=
 ∃ x dx, v = .ref x /\ G x = some { cls := .ref c, dict := some dx, data := .plain, slots := (vs.map some).toArray } /\ G dx = some { cls := .type "dict", data := .dict #[] }
noncomputable def rZ (P : Params) (vs : List DictEntry) : List (List Nat × List Nat) -> Prop
 | [] => vs = []
 | (k, x) :: xs => ∃ e r t t', vs = e :: r /\ e.key = .str ⟨k.toArray⟩ t /\ e.hash = PyData.keyHash P ⟨k.toArray⟩ /\ e.val = .str ⟨x.toArray⟩ t' /\ okStr x /\ rZ P r xs
mutual
noncomputable def VRel (P : Params) (G : GM) (v : Value) : PV -> Prop
 | .none => v = .none
 | .bool b => v = .bool b
 | .int i => ∃ t, v = .int i t
 | .str x => ∃ t, v = .str ⟨x.toArray⟩ t /\ okStr x
 | .tup xs => ∃ a o vs n, v = .ref a /\ G a = some o /\ o.cls = .type "tuple" /\ o.data = .seq vs n /\ vs.size <= aP /\ VRels P G vs.toList xs
 | .list xs => ∃ a o vs n, v = .ref a /\ G a = some o /\ o.cls = .type "list" /\ o.dict = none /\ o.data = .seq vs n /\ vs.size <= aP /\ VRels P G vs.toList xs
 | .inst c fs => ∃ vs, InstRel G v c vs /\ VRels P G vs fs
 | .rng lo hi => ∃ a t u w, v = .ref a /\ G a = some { cls := .type "range", data := .fields #[.int lo t, .int hi u, .int 1 w] } /\ 0 <= lo /\ lo <= 16777216 /\ 0 <= hi /\ hi <= 16777216
 | .dict es => ∃ a es' n, v = .ref a /\ a ≠ sysModules /\ G a = some { cls := .type "dict", data := .dict es' n } /\ rZ P es'.toList es
 | .ptr a => v = .ref a
noncomputable def VRels (P : Params) (G : GM) (vs : List Value) : List PV -> Prop
 | [] => vs = []
 | x :: xs => ∃ v r, vs = v :: r /\ VRel P G v x /\ VRels P G r xs
end
noncomputable def Sub (G G' : GM) : Prop := ∀ a o, G a = some o -> G' a = some o
noncomputable def InH (G : GM) (h : Heap) : Prop := ∀ a o, G a = some o -> h.get? a = some o
theorem Sub.refl (G : GM) : Sub G G := fun _ _ e => e
theorem Sub.trans {G G' G'' : GM} (h : Sub G G') (h' : Sub G' G'') : Sub G G'' := fun a o e => h' a o (h a o e)
theorem InstRel.mono {G G' : GM} (h : Sub G G') {v c vs} (r : InstRel G v c vs) : InstRel G' v c vs := by
 obtain ⟨x, dx, h1, h2, h3⟩ := r; exact ⟨x, dx, h1, h _ _ h2, h _ _ h3⟩
mutual
theorem VRel.mono {P : Params} {G G' : GM} (h : Sub G G') {v : Value} : ∀ {p : PV}, VRel P G v p -> VRel P G' v p
 | .none, r => r
 | .bool _, r => r
 | .int _, r => r
 | .str _, r => r
 | .tup xs, r => by
  simp only [VRel] at r ⊢
  obtain ⟨a, o, vs, n, h1, h2, h3, h4, h5, h6⟩ := r
  exact ⟨a, o, vs, n, h1, h _ _ h2, h3, h4, h5, VRels.mono h h6⟩
 | .list xs, r => by
  simp only [VRel] at r ⊢
  obtain ⟨a, o, vs, n, h1, h2, h3, h3', h4, h5, h6⟩ := r
  exact ⟨a, o, vs, n, h1, h _ _ h2, h3, h3', h4, h5, VRels.mono h h6⟩
 | .inst c fs, r => by
  simp only [VRel] at r ⊢
  obtain ⟨vs, h1, h2⟩ := r
  exact ⟨vs, h1.mono h, VRels.mono h h2⟩
 | .rng lo hi, r => by
  simp only [VRel] at r ⊢
  obtain ⟨a, t, u, w, h1, h2, h3⟩ := r
  exact ⟨a, t, u, w, h1, h _ _ h2, h3⟩
 | .dict es, r => by
  simp only [VRel] at r ⊢
  obtain ⟨a, es', n, h1, h2, h3, h4⟩ := r
  exact ⟨a, es', n, h1, h2, h _ _ h3, h4⟩
 | .ptr _, r => r
theorem VRels.mono {P : Params} {G G' : GM} (h : Sub G G') : ∀ {ps : List PV} {vs : List Value}, VRels P G vs ps -> VRels P G' vs ps
 | [], _, r => r
 | p :: ps, _, r => by
  simp only [VRels] at r ⊢
  obtain ⟨v, s, h1, h2, h3⟩ := r
  exact ⟨v, s, h1, VRel.mono h h2, VRels.mono h h3⟩
end
theorem VRels.length {P : Params} {G : GM} : ∀ {ps : List PV} {vs : List Value}, VRels P G vs ps -> vs.length = ps.length
 | [], _, r => by simp only [VRels] at r; simp [r]
 | p :: ps, _, r => by
  simp only [VRels] at r
  obtain ⟨v, s, rfl, _, h3⟩ := r
  simp [h3.length]
theorem VRels.get {P : Params} {G : GM} : ∀ {ps : List PV} {vs : List Value} {i : Nat} {p : PV}, VRels P G vs ps -> ps[i]? = some p -> ∃ v, vs[i]? = some v /\ VRel P G v p
 | [], _, _, _, _, e => by simp at e
 | p :: ps, _, 0, _, r, e => by
  simp only [VRels] at r
  obtain ⟨v, s, rfl, h2, _⟩ := r
  simp at e; subst e
  exact ⟨v, by simp, h2⟩
 | p :: ps, _, i + 1, q, r, e => by
  simp only [VRels] at r
  obtain ⟨v, s, rfl, _, h3⟩ := r
  obtain ⟨u, hu, hr⟩ := h3.get (i := i) (p := q) (by simpa using e)
  exact ⟨u, by simpa using hu, hr⟩
theorem VRels.get' {P : Params} {G : GM} : ∀ {ps : List PV} {vs : List Value} {i : Nat} {v : Value}, VRels P G vs ps -> vs[i]? = some v -> ∃ p, ps[i]? = some p /\ VRel P G v p := by
 intro ps vs i v r e
 have hlen := r.length
 have hi : i < ps.length := by
  have := (List.getElem?_eq_some_iff.mp e).1
  omega
 obtain ⟨u, hu, hr⟩ := r.get (i := i) (p := ps[i]) (by simp [hi])
 rw [e] at hu; cases hu
 exact ⟨_, by simp [hi], hr⟩
theorem VRels.append {P : Params} {G : GM} : ∀ {ps qs : List PV} {vs us : List Value}, VRels P G vs ps -> VRels P G us qs -> VRels P G (vs ++ us) (ps ++ qs)
 | [], _, _, _, r, s => by simp only [VRels] at r; subst r; simpa using s
 | p :: ps, qs, _, us, r, s => by
  simp only [VRels] at r
  obtain ⟨v, w, rfl, h2, h3⟩ := r
  simp only [List.cons_append, VRels]
  exact ⟨v, w ++ us, rfl, h2, h3.append s⟩
theorem VRels.nil {P : Params} {G : GM} : VRels P G [] [] := by simp [VRels]
theorem VRels.cons {P : Params} {G : GM} {v : Value} {vs : List Value} {p : PV} {ps : List PV} (h : VRel P G v p) (hs : VRels P G vs ps) : VRels P G (v :: vs) (p :: ps) := by
 simp only [VRels]; exact ⟨v, vs, rfl, h, hs⟩
theorem VRels.one {P : Params} {G : GM} {v : Value} {p : PV} (h : VRel P G v p) : VRels P G [v] [p] := .cons h .nil
theorem VRels.drop {P : Params} {G : GM} : ∀ (n : Nat) {ps : List PV} {vs : List Value}, VRels P G vs ps -> VRels P G (vs.drop n) (ps.drop n)
 | 0, _, _, r => by simpa using r
 | n + 1, [], _, r => by simp only [VRels] at r; subst r; simp [VRels]
 | n + 1, p :: ps, _, r => by
  simp only [VRels] at r
  obtain ⟨v, w, rfl, h2, h3⟩ := r
  simpa using h3.drop n
theorem VRels.take {P : Params} {G : GM} : ∀ (n : Nat) {ps : List PV} {vs : List Value}, VRels P G vs ps -> VRels P G (vs.take n) (ps.take n)
 | 0, _, _, r => by simp [VRels]
 | n + 1, [], _, r => by simp only [VRels] at r; subst r; simp [VRels]
 | n + 1, p :: ps, _, r => by
  simp only [VRels] at r
  obtain ⟨v, w, rfl, h2, h3⟩ := r
  simpa using VRels.cons h2 (h3.take n)
theorem VRels.set {P : Params} {G : GM} : ∀ {ps : List PV} {vs : List Value} (i : Nat) {v : Value} {p : PV}, VRels P G vs ps -> VRel P G v p -> VRels P G (vs.set i v) (ps.set i p)
 | [], _, _, _, _, r, _ => by simp only [VRels] at r; subst r; simp [VRels]
 | q :: ps, _, 0, v, p, r, h => by
  simp only [VRels] at r
  obtain ⟨u, w, rfl, h2, h3⟩ := r
  simpa using VRels.cons h h3
 | q :: ps, _, i + 1, v, p, r, h => by
  simp only [VRels] at r
  obtain ⟨u, w, rfl, h2, h3⟩ := r
  simpa using VRels.cons h2 (h3.set i h)
structure GS (G : GM) (s : Shared) (G' : GM) (s' : Shared) : Prop where
 ext : Sub G G'
 inh : InH G' s'.heap
 new : ∀ a o, G' a = some o -> G a = some o \/ s.heap.get? a = none
 keep : ∀ a o, s.heap.get? a = some o -> s'.heap.get? a = some o
 os : s'.os = s.os
 gens : AllBare s.gens -> AllBare s'.gens
theorem GS.refl {G : GM} {s : Shared} (h : InH G s.heap) : GS G s G s := ⟨.refl _, h, fun _ _ e => .inl e, fun _ _ e => e, rfl, fun e => e⟩
theorem GS.trans {G G' G'' : GM} {s s' s'' : Shared} (h : GS G s G' s') (h' : GS G' s' G'' s'') : GS G s G'' s'' where
 ext := h.ext.trans h'.ext
 inh := h'.inh
 new := fun a o e => by
  rcases h'.new a o e with q | q
  ·exact h.new a o q
  ·right
   cases e' : s.heap.get? a with
   | none => rfl
   | some o' => rw [h.keep a o' e'] at q; cases q
 keep := fun a o e => h'.keep a o (h.keep a o e)
 os := h'.os.trans h.os
 gens := fun e => h'.gens (h.gens e)
theorem GS.toks {G : GM} {s : Shared} (h : InH G s.heap) (k : Nat) : GS G s G { s with toks := k } := ⟨.refl _, h, fun _ _ e => .inl e, fun _ _ e => e, rfl, fun e => e⟩
noncomputable def hH (G : GM) (a : Nat) (o : Obj) : GM := fun b => if b = a then some o else G b
theorem GS.push {G : GM} {s : Shared} (h : InH G s.heap) (o : Obj) (hf : o.isFreed = false) (k : Nat) :
  GS G s (hH G s.heap.objs.size o) { s with heap := s.heap.push o, toks := k } where
 ext := fun a o' e => by
  unfold hH
  split
  ·rename_i q; subst q; exact absurd (Heap.lt_size (h _ _ e)) (Nat.lt_irrefl _)
  ·exact e
 inh := fun a o' e => by
  unfold hH at e
  split at e
  ·rename_i q; subst q; cases e; exact Heap.get?_push_size _ hf
  ·exact Heap.get?_push_of_some _ (h _ _ e)
 new := fun a o' e => by
  unfold hH at e
  split at e
  ·rename_i q; subst q; right
   cases e' : s.heap.get? s.heap.objs.size with
   | none => rfl
   | some o' => exact absurd (Heap.lt_size e') (Nat.lt_irrefl _)
  ·exact .inl e
 keep := fun a o' e => Heap.get?_push_of_some _ e
 os := rfl
 gens := fun e => e
theorem cH {G : GM} {a : Nat} {o : Obj} : hH G a o a = some o := by simp [hH]
noncomputable def GW (M : Model) (A : Around) (P : Params) (E : Value -> Shared -> Prop) (G : GM) (s : Shared) (t : Sem Value) (K : PV -> Prop) : Prop :=
 wpAny M A t (fun v s' => ∃ r G', K r /\ GS G s G' s' /\ VRel P G' v r) E s
theorem GW.mono {M : Model} {A : Around} {P : Params} {E : Value -> Shared -> Prop} {G : GM} {s : Shared} {t : Sem Value} {K K' : PV -> Prop} (h : GW M A P E G s t K) (hk : ∀ r, K r -> K' r) : GW M A P E G s t K' :=
 wpAny_mono h (fun _ _ ⟨r, G', h1, h2, h3⟩ => ⟨r, G', hk r h1, h2, h3⟩) fun _ _ e => e
noncomputable def LView (P : Params) (G : GM) (h : Heap) (v : Value) (xs : List PV) : Prop :=
 ∃ a o vs n, v = .ref a /\ h.get? a = some o /\ o.cls = .type "list" /\ o.dict = none /\ o.data = .seq vs n /\ vs.size <= aP /\ VRels P G vs.toList xs
noncomputable def jW (P : Params) (G : GM) (h : Heap) (v : Value) : PV -> Prop
 | .list xs => LView P G h v xs
 | p => VRel P G v p
theorem VRel.view {P : Params} {G : GM} {h : Heap} (hi : InH G h) {v : Value} {p : PV} (r : VRel P G v p) : jW P G h v p := by
 cases p <;> try exact r
 simp only [VRel] at r
 obtain ⟨a, o, vs, n, h1, h2, h3, h3', h4, h5, h6⟩ := r
 exact ⟨a, o, vs, n, h1, hi _ _ h2, h3, h3', h4, h5, h6⟩
section
variable {prog : Program} {w : World} {A : Around} {E : Value -> Shared -> Prop} {s : Shared} {G : GM} {P : Params} {a b : Value} {K : PV -> Prop}
theorem l6 {t : Sem Value} {i : Int} (hi : InH G s.heap) (hk : K (.int i)) (h : ∀ Q : Value -> Shared -> Prop, Q (.int i s.toks) { s with toks := s.toks + 1 } -> wpAny (model prog w) A t Q E s) : GW (model prog w) A P E G s t K :=
 h _ ⟨.int i, G, hk, GS.toks hi _, by simp [VRel]⟩
theorem jH {x y : List Nat} (hx : okStr x) (hy : okStr y) (h : x.length + y.length <= aP) : okStr (x ++ y) :=
 ⟨fun c hc => (List.mem_append.mp hc).elim (hx.1 c) (hy.1 c), by simpa using h⟩
theorem lR (x y : List Nat) : (⟨x.toArray⟩ : Str) ++ ⟨y.toArray⟩ = ⟨(x ++ y).toArray⟩ := by
 show Str.append _ _ = _
 simp [Str.append]
theorem b6 (x : List Nat) : (⟨x.toArray⟩ : Str).length = x.length := by simp [Str.length]
theorem xN {vs : List Value} {xs : List PV} (hi : InH G s.heap) (hr : VRels P G vs xs) (hz : vs.length <= aP) (hk : K (.list xs)) : GW (model prog w) A P E G s (newList vs) K := by
 refine wpAny_newObj_type ?_ (by show vs.toArray.size <= sizeLine; rw [List.size_toArray]; exact hz)
 have g := GS.push hi { cls := .type "list", data := .seq vs.toArray } rfl s.toks
 refine ⟨.list xs, _, hk, g, ?_⟩
 simp only [VRel]
 exact ⟨_, _, _, _, rfl, cH, rfl, rfl, rfl, by simpa using hz, by simpa using hr.mono g.ext⟩
theorem uS {vs : List Value} {xs : List PV} (hi : InH G s.heap) (hr : VRels P G vs xs) (hz : vs.length <= aP) (hk : K (.tup xs)) : GW (model prog w) A P E G s (newTuple vs) K := by
 refine wpAny_newObj_type ?_ (by show vs.toArray.size <= sizeLine; rw [List.size_toArray]; exact hz)
 have g := GS.push hi { cls := .type "tuple", data := .seq vs.toArray } rfl s.toks
 refine ⟨.tup xs, _, hk, g, ?_⟩
 simp only [VRel]
 exact ⟨_, _, _, _, rfl, cH, rfl, rfl, by simpa using hz, by simpa using hr.mono g.ext⟩
theorem LView.isList {h : Heap} {v : Value} {xs : List PV} (r : LView P G h v xs) : ∃ a vs, v = .ref a /\ h.IsList a vs /\ vs.size <= aP /\ VRels P G vs.toList xs := by
 obtain ⟨a, o, vs, n, h1, h2, h3, h3', h4, h5, h6⟩ := r
 exact ⟨a, vs, h1, ⟨o, h2, h3, n, h4⟩, h5, h6⟩
theorem nR {a b : Value} {i j : Int} (op : Operator) (r : Int) (ha : VRel P G a (.int i)) (hb : VRel P G b (.int j)) (hi : InH G s.heap) (hk : K (.int r))
  (h : ∀ (t u : Tok) (Q : Value -> Shared -> Prop), Q (.int r s.toks) { s with toks := s.toks + 1 } -> wpAny (model prog w) A (binaryOp op (.int i t) (.int j u)) Q E s) :
  GW (model prog w) A P E G s (binaryOp op a b) K := by
 simp only [VRel] at ha hb
 obtain ⟨t, rfl⟩ := ha
 obtain ⟨u, rfl⟩ := hb
 exact l6 hi hk fun Q q => h t u Q q
theorem zbe (x : Nat) : ∀ n (acc : Array Nat), List.foldl (fun x1 x2 => x1 ++ x2) acc (List.replicate n #[x]) = acc ++ (List.replicate n x).toArray := by
 intro n
 induction n with
 | zero => intro acc; simp
 | succ n ih => intro acc; rw [List.replicate_succ, List.foldl_cons, ih]; apply Array.ext'; simp [List.replicate_succ]
theorem qS (c : Nat) (n : Int) (h0 : 0 <= n) : Txt.mul ⟨#[c]⟩ n = ⟨(List.replicate n.toNat c).toArray⟩ := by
 unfold Txt.mul
 by_cases h1 : n < 1
 ·rw [if_pos h1]
  have : n.toNat = 0 := by omega
  rw [this]; rfl
 ·rw [if_neg h1]
  by_cases h2 : n = 1
  ·subst h2; rfl
  ·have : (n == 1 || Str.length (⟨#[c]⟩ : Str) == 0) = false := by
    simp [Str.length, h2]
   rw [this]
   simp only [Bool.false_eq_true, if_false]
   rw [zbe]; simp
theorem zeg {op : Operator} {a b : Value} {p q : PV} (hi : InH G s.heap) (ha : jW P G s.heap a p) (hb : jW P G s.heap b q) (h : zes op p q K) :
  GW (model prog w) A P E G s (binaryOp op a b) K := by
 cases op <;> first | exact False.elim h | skip
 ·have h : (if isL p = true then addL p q K else zej p q K) := h
  by_cases hl : isL p = true
  ·rw [if_pos hl] at h
   obtain ⟨x, rfl, h⟩ := pR h
   obtain ⟨y, rfl, hz, hk⟩ := pR (v := q) h
   obtain ⟨l, ⟨c1, d1, dt1, sl1⟩, vs, n1, rfl, ho1, hc1, hd1, hdt1, hs1, hr1⟩ := ha
   obtain ⟨m, ⟨c2, d2, dt2, sl2⟩, ws, n2, rfl, ho2, hc2, hd2, hdt2, hs2, hr2⟩ := hb
   simp only at hc1 hd1 hdt1 hc2 hd2 hdt2
   subst hc1 hd1 hdt1 hc2 hd2 hdt2
   have hz' : vs.size + ws.size <= aP := by rw [<- Array.length_toList, <- Array.length_toList, hr1.length, hr2.length]; exact hz
   refine concat_meets ⟨_, ho1, rfl⟩ ⟨_, ho2, rfl⟩ noFill_list_add seq_list_add PySem.F.slot_list_add PySem.F.entry_list_add (PySem.F.args_list_add_2 _ _) (list_addW l m vs ws n1 n2 none none sl1 sl2 hz') ⟨ho1, ho2, ?_⟩
   have g := GS.push hi { cls := .type "list", data := .seq (vs ++ ws) } rfl s.toks
   refine ⟨_, _, hk, g, ?_⟩
   simp only [VRel]
   exact ⟨_, _, _, _, rfl, cH, rfl, rfl, rfl, by rw [Array.size_append]; exact hz', by rw [Array.toList_append]; exact (hr1.append hr2).mono g.ext⟩
  ·rw [if_neg hl] at h
   cases p <;> first | exact False.elim h | skip
   ·obtain ⟨y, rfl, h⟩ := b9 (v := q) h
    exact nR _ _ ha hb hi h fun _ _ _ q => add_int q
   ·obtain ⟨y, rfl, hz, hk⟩ := dB (v := q) h
    simp only [jW, VRel] at ha hb
    obtain ⟨t, rfl, hx⟩ := ha
    obtain ⟨u, rfl, hy⟩ := hb
    refine KOpn.add (by rw [b6, b6]; exact hz) fun t' k _ => ?_
    refine ⟨_, G, hk, GS.toks hi _, ?_⟩
    simp only [VRel]
    exact ⟨t', by rw [lR], jH hx hy hz⟩
 ·obtain ⟨x, rfl, h⟩ := b9 h
  obtain ⟨y, rfl, h⟩ := b9 (v := q) h
  exact nR _ _ ha hb hi h fun _ _ _ q => sub_int q
 ·obtain ⟨x, rfl, h⟩ := dB h
  obtain ⟨y, rfl, h0, h1, hl, hk⟩ := b9 (v := q) h
  simp only [jW, VRel] at ha hb
  obtain ⟨t, rfl, hx⟩ := ha
  obtain ⟨u, rfl⟩ := hb
  obtain ⟨c, rfl⟩ : ∃ c, x = [c] := List.length_eq_one_iff.mp hl
  refine SB.mul (x := ⟨#[c]⟩) ?_ fun t' k => ⟨_, G, hk, GS.toks hi _, ?_⟩
  ·refine ⟨by simp; omega, fun h2 h3 => ?_, fun h2 h3 => ?_⟩
   ·have : (Str.length (⟨#[c]⟩ : Str) : Int) = 1 := rfl
    rw [this]
    have h4 : y * 1000 <= 9223372036854775807 := by omega
    have : 1 <= (2 ^ 63 - 1) / y := (Int.le_ediv_iff_mul_le (by omega)).mpr (by omega)
    omega
   ·have : Str.length (⟨#[c]⟩ : Str) = 1 := rfl
    rw [this]
    unfold Builtin.Str.tooLong
    rw [sizeLine_eq]
    simp only [decide_eq_false_iff_not, gt_iff_lt, Nat.not_lt]
    omega
  ·simp only [VRel]
   refine ⟨t', by rw [qS _ _ h0]; rfl, ?_, ?_⟩
   ·intro d hd
    have : d = c := by simpa using List.eq_of_mem_replicate hd
    exact this ▸ hx.1 c (by simp)
   ·simp; unfold aP; omega
 ·obtain ⟨x, rfl, h⟩ := b9 h
  obtain ⟨y, rfl, h0, h⟩ := b9 (v := q) h
  refine nR _ _ ha hb hi h fun _ _ _ q => mod_int' (Int.ne_of_gt h0) ?_
  rw [Int.fmod_eq_emod_of_nonneg _ (Int.le_of_lt h0)]; exact q
 ·obtain ⟨x, rfl, h⟩ := b9 h
  obtain ⟨y, rfl, h1, h2, h3⟩ := b9 (v := q) h
  refine nR _ _ ha hb hi h3 fun _ _ _ q => floordiv_int (by omega) ?_ (.inl (PyProof.noPylong_of_log2 ?_))
  ·rw [Int.fdiv_eq_ediv_of_nonneg _ (by omega)]; exact q
  ·have : y.natAbs.log2 < 32 := (Nat.log2_lt (by omega)).mpr (by omega)
   omega
end
mutual
noncomputable def j0 : PV -> PyData
 | .none => .none
 | .int i => .int i
 | .str x => .str ⟨x.toArray⟩
 | .tup xs => .tuple (hW xs)
 | .list xs => .list (hW xs)
 | .bool b => .bool b
 | .inst _ _ => .none
 | .rng _ _ => .none
 | .ptr _ => .none
 | .dict _ => .none
noncomputable def hW : List PV -> List PyData
 | [] => []
 | x :: xs => j0 x :: hW xs
end
noncomputable def lC (P : Params) (G : GM) (h : Heap) (σ : Nat -> Option Cell) : Prop := ∀ a xs, σ a = some (.lst xs) -> LView P G h (.ref a) xs
theorem okStr.strOk {x : List Nat} (h : okStr x) : PyData.strOk ⟨x.toArray⟩ = true := by
 simp only [PyData.strOk]
 rw [Array.all_eq_true]
 intro i hi
 simp only [decide_eq_true_eq]
 exact h.1 _ (by simp)
section
variable {P : Params} {G : GM} {h : Heap} {σ : Nat -> Option Cell}
mutual
theorem m7 (hi : InH G h) (hc : lC P G h σ) : ∀ {t : PV} {p : PV} {v : Value}, VRel P G v p -> Res σ p t -> plain t = true -> ∃ as, Reads h v (j0 t) as /\ (j0 t).canLay0 = true
 | .none, p, v, r, q, _ => by
  simp only [Res] at q; subst q; simp only [VRel] at r; subst r
  exact ⟨_, .none, rfl⟩
 | .int i, p, v, r, q, _ => by
  simp only [Res] at q; subst q; simp only [VRel] at r; obtain ⟨t, rfl⟩ := r
  exact ⟨_, .int i t, rfl⟩
 | .str x, p, v, r, q, _ => by
  simp only [Res] at q; subst q; simp only [VRel] at r; obtain ⟨t, rfl, ok⟩ := r
  exact ⟨_, .str _ t, by simp only [j0, PyData.canLay0]; exact ok.strOk⟩
 | .tup ts, p, v, r, q, hp => by
  simp only [Res] at q; obtain ⟨xs, rfl, q⟩ := q
  simp only [VRel] at r; obtain ⟨a, o, vs, n, rfl, h2, h3, h4, _, h5⟩ := r
  obtain ⟨as, ra, cl⟩ := iB hi hc h5 q (by simpa [plain] using hp)
  exact ⟨_, reads_tuple_at (hi _ _ h2) h3 h4 (by simpa [j0] using ra), by simpa [j0, PyData.canLay0] using cl⟩
 | .list ts, p, v, r, q, hp => by
  simp only [Res] at q
  rcases q with ⟨xs, rfl, q⟩ | ⟨a, xs, rfl, hσ, q⟩
  ·simp only [VRel] at r; obtain ⟨a, o, vs, n, rfl, h2, h3, _, h4, _, h5⟩ := r
   obtain ⟨as, ra, cl⟩ := iB hi hc h5 q (by simpa [plain] using hp)
   exact ⟨_, reads_list_at (hi _ _ h2) h3 h4 (by simpa [j0] using ra), by simpa [j0, PyData.canLay0] using cl⟩
  ·simp only [VRel] at r; subst r
   obtain ⟨a', o, vs, n, e, h2, h3, _, h4, _, h5⟩ := hc a xs hσ
   cases e
   obtain ⟨as, ra, cl⟩ := iB hi hc h5 q (by simpa [plain] using hp)
   exact ⟨_, reads_list_at h2 h3 h4 (by simpa [j0] using ra), by simpa [j0, PyData.canLay0] using cl⟩
 | .bool b, p, v, r, q, hp => by simp [plain] at hp
 | .inst _ _, p, v, r, q, hp => by simp [plain] at hp
 | .rng _ _, p, v, r, q, hp => by simp [plain] at hp
 | .ptr _, p, v, r, q, hp => by simp [plain] at hp
 | .dict _, p, v, r, q, hp => by simp [plain] at hp
theorem iB (hi : InH G h) (hc : lC P G h σ) : ∀ {ts : List PV} {ps : List PV} {vs : List Value}, VRels P G vs ps -> lN σ ps ts -> fF ts = true -> ∃ as, ReadsAll h vs (hW ts) as /\ PyData.canLayAll0 (hW ts) = true
 | [], ps, vs, r, q, _ => by
  simp only [lN] at q; subst q; simp only [VRels] at r; subst r
  exact ⟨_, .nil, rfl⟩
 | t :: ts, ps, vs, r, q, hp => by
  simp only [lN] at q; obtain ⟨y, ys, rfl, q1, q2⟩ := q
  simp only [VRels] at r; obtain ⟨v, w, rfl, r1, r2⟩ := r
  simp only [fF, Bool.and_eq_true] at hp
  obtain ⟨as, ra, c1⟩ := m7 hi hc r1 q1 hp.1
  obtain ⟨bs, rb, c2⟩ := iB hi hc r2 q2 hp.2
  exact ⟨_, .cons ra rb, by simp [hW, PyData.canLayAll0, c1, c2]⟩
end
end
mutual
theorem zb1 : ∀ t : PV, plain t = true -> (j0 t).depth <= dep t + 1
 | .none, _ => by simp [j0, PyData.depth]
 | .int _, _ => by simp [j0, PyData.depth]
 | .str _, _ => by simp [j0, PyData.depth]
 | .tup ts, h => by have := rN ts (by simpa [plain] using h); simp only [j0, PyData.depth, dep]; omega
 | .list ts, h => by have := rN ts (by simpa [plain] using h); simp only [j0, PyData.depth, dep]; omega
 | .bool _, h => by simp [plain] at h
 | .inst _ _, h => by simp [plain] at h
 | .rng _ _, h => by simp [plain] at h
 | .ptr _, h => by simp [plain] at h
 | .dict _, h => by simp [plain] at h
theorem rN : ∀ ts : List PV, fF ts = true -> PyData.depthAll (hW ts) <= zdt ts + 1
 | [], _ => by simp [hW, PyData.depthAll]
 | t :: ts, h => by
  simp only [fF, Bool.and_eq_true] at h
  have h1 := zb1 t h.1
  have h2 := rN ts h.2
  simp only [hW, PyData.depthAll, zdt]; omega
end
mutual
theorem zbX : ∀ t u : PV, plain t = true -> plain u = true -> (PyData.eqv (j0 t) (j0 u) = true ↔ t = u)
 | .none, u, _, hu => by cases u <;> simp_all [j0, PyData.eqv, plain]
 | .int _, u, _, hu => by cases u <;> simp_all [j0, PyData.eqv, plain]
 | .str x, u, _, hu => by
  cases u <;> simp_all [j0, PyData.eqv, plain]
 | .tup ts, u, ht, hu => by
  cases u <;> simp_all [j0, PyData.eqv, plain]
  exact rK ts _ ht hu
 | .list ts, u, ht, hu => by
  cases u <;> simp_all [j0, PyData.eqv, plain]
  exact rK ts _ ht hu
 | .bool _, _, h, _ => by simp [plain] at h
 | .inst _ _, _, h, _ => by simp [plain] at h
 | .rng _ _, _, h, _ => by simp [plain] at h
 | .ptr _, _, h, _ => by simp [plain] at h
 | .dict _, _, h, _ => by simp [plain] at h
theorem rK : ∀ ts us : List PV, fF ts = true -> fF us = true -> (PyData.eqvAll (hW ts) (hW us) = true ↔ ts = us)
 | [], us, _, _ => by cases us <;> simp [hW, PyData.eqvAll]
 | t :: ts, us, ht, hu => by
  cases us with
  | nil => simp [hW, PyData.eqvAll]
  | cons u us =>
   simp only [fF, Bool.and_eq_true] at ht hu
   simp only [hW, PyData.eqvAll, Bool.and_eq_true, List.cons.injEq, zbX t u ht.1 hu.1, rK ts us ht.2 hu.2]
end
section
variable {prog : Program} {w : World} {A : Around} {E : Value -> Shared -> Prop} {s : Shared} {G : GM} {P : Params} {a b : Value} {K : PV -> Prop} {σ : Nat -> Option Cell}
theorem d9 {t : Sem Value} {i : Bool} (hi : InH G s.heap) (hk : K (.bool i)) (h : ∀ Q : Value -> Shared -> Prop, Q (.bool i) s -> wpAny (model prog w) A t Q E s) : GW (model prog w) A P E G s t K :=
 h _ ⟨.bool i, G, hk, GS.refl hi, by simp [VRel]⟩
structure Room (n : Nat) (A : Around) : Prop where
 handled : A.handled = none
 depth : A.depth + n <= 900
 units : A.units + 20 * n <= 5000
theorem Room.le {n m : Nat} {A : Around} (h : Room n A) (hm : m <= n) : Room m A := ⟨h.handled, by have := h.depth; omega, by have := h.units; omega⟩
theorem Room.deeper {n : Nat} {A : Around} {env : Env} (h : Room (n + 1) A) : Room n (A.deeper env) := ⟨h.handled, by have := h.depth; simp only [Around.deeper]; omega, by have := h.units; simp only [Around.deeper]; omega⟩
theorem eq_G {n : Nat} (hA : Room n A) (ne : Bool) (hi : InH G s.heap) (hc : lC P G s.heap σ) {p q : PV} (ha : VRel P G a p) (hb : VRel P G b q) (h : eqW σ p q fun r => K (.bool (if ne then !r else r))) :
  GW (model prog w) A P E G s (compareOp (if ne then .NotEq else .Eq) a b) K := by
 have main : ∀ {da db : PyData} {as bs : List Addr} {r : Bool}, Reads s.heap a da as -> Reads s.heap b db bs -> da.canLay0 = true -> db.canLay0 = true -> da.depth <= 4001 -> PyData.eqv da db = r -> K (.bool (if ne then !r else r)) ->
   GW (model prog w) A P E G s (compareOp (if ne then .NotEq else .Eq) a b) K := by
  intro da db as bs r ra rb ca cb hd e hk
  have hu : A.units + min da.depth db.depth < cLine := by
   have := hA.units
   have : min da.depth db.depth <= da.depth := Nat.min_le_left _ _
   show _ < 9900
   omega
  subst e
  cases ne
  ·exact d9 hi hk fun Q q => SeqAt.compareEq_reads ra rb ca cb hu q
  ·exact d9 hi hk fun Q q => SeqAt.compareNe_reads ra rb ca cb hu q
 cases hr : eqS p q with
 | some r =>
  have hk : K (.bool (if ne then !r else r)) := by unfold eqW at h; rw [hr] at h; exact h
  clear h
  have st : ∀ {x : List Nat} {v : Value}, VRel P G v (.str x) -> ∃ t, v = .str ⟨x.toArray⟩ t /\ PyData.canLay0 (.str ⟨x.toArray⟩) = true := fun r => by
   simp only [VRel] at r; obtain ⟨t, e, ok⟩ := r; exact ⟨t, e, ok.strOk⟩
  cases p <;> first | (cases hr; done) | skip
  ·cases q <;> first | (cases hr; done) | skip
   cases hr
   simp only [VRel] at ha hb
   subst ha hb; exact main (.bool _) (.bool _) rfl rfl (Nat.le_add_left _ _) rfl hk
  ·cases q <;> first | (cases hr; done) | skip
   cases hr
   simp only [VRel] at ha hb
   obtain ⟨t, rfl⟩ := ha; obtain ⟨u, rfl⟩ := hb; exact main (.int _ t) (.int _ u) rfl rfl (Nat.le_add_left _ _) rfl hk
  ·cases q <;> first | (cases hr; done) | skip
   ·cases hr
    obtain ⟨t, rfl, ok⟩ := st ha
    simp only [VRel] at hb
    subst hb; exact main (.str _ t) .none ok rfl (Nat.le_add_left _ _) rfl hk
   ·rename_i x y
    cases hr
    obtain ⟨t, rfl, ok⟩ := st ha
    obtain ⟨u, rfl, ok'⟩ := st hb
    refine main (.str _ t) (.str _ u) ok ok' (Nat.le_add_left _ _) ?_ hk
    show decide ((⟨x.toArray⟩ : Str) = ⟨y.toArray⟩) = decide (x = y)
    refine decide_eq_decide.mpr ⟨fun e => ?_, fun e => by rw [e]⟩
    exact congrArg (fun s : Str => s.cps.toList) e
 | none =>
  unfold eqW at h
  rw [hr] at h
  obtain ⟨ta, tb, ra, rb, pa, pb, hd, hk⟩ := h
  obtain ⟨as, ra', ca⟩ := m7 hi hc ha ra pa
  obtain ⟨bs, rb', cb⟩ := m7 hi hc hb rb pb
  refine main ra' rb' ca cb (Nat.le_trans (zb1 ta pa) (by omega)) ?_ hk
  have := zbX ta tb pa pb
  by_cases e : ta = tb
  ·rw [this.mpr e]; simp [e]
  ·simp only [e, decide_false]; exact Bool.eq_false_iff.mpr fun x => e (this.mp x)
end
end Mine
end
section
open PySem PySem.W PyProof.Rows
open Builtin Builtin.Str
set_option Elab.async false
set_option autoImplicit false
namespace Mine
noncomputable def jI (x p : List Nat) (hi : Nat) : Nat -> Nat -> Nat -> Nat -> List Nat
 | 0, _, _, _ => []
 | n + 1, i, lim, free => if 0 < lim /\ free <= i /\ i + p.length <= hi /\ (x.drop i).take p.length = p then i :: jI x p hi n (i + 1) (lim - 1) (i + p.length) else jI x p hi n (i + 1) lim free
theorem uR (s sub : Str) (hi limit i : Nat) (acc : Array Nat) (free : Nat) :
  StrLaws.occBody s sub hi limit i (acc, free) = pure (.yield (if acc.size < limit /\ free <= i /\ i + sub.cps.toList.length <= hi /\ (s.cps.toList.drop i).take sub.cps.toList.length = sub.cps.toList then (acc.push i, i + sub.cps.toList.length) else (acc, free))) := by
 have e : sub.length = sub.cps.toList.length := by simp [Str.length]
 have e2 : (subAt s sub i = true) ↔ (s.cps.toList.drop i).take sub.cps.toList.length = sub.cps.toList := by
  rw [StrLaws.subAt_eq, beq_iff_eq, e]
 unfold StrLaws.occBody
 simp only [Bool.and_eq_true]
 by_cases c : acc.size < limit /\ free <= i /\ i + sub.cps.toList.length <= hi /\ (s.cps.toList.drop i).take sub.cps.toList.length = sub.cps.toList
 ·rw [if_pos c, if_pos ⟨⟨⟨c.1, c.2.1⟩, by rw [e]; exact c.2.2.1⟩, e2.mpr c.2.2.2⟩, e]
 ·rw [if_neg c, if_neg (fun h => c ⟨h.1.1.1, h.1.1.2, by rw [<- e]; exact h.1.2, e2.mp h.2⟩)]
theorem zcB (s sub : Str) (hi limit : Nat) : ∀ (n i : Nat) (acc : Array Nat) (free : Nat), acc.size <= limit ->
  (forIn (List.range' i n) (acc, free) (StrLaws.occBody s sub hi limit)).run.fst.toList = acc.toList ++ jI s.cps.toList sub.cps.toList hi n i (limit - acc.size) free := by
 intro n
 induction n with
 | zero => intro i acc free _; simp [jI]
 | succ n ih =>
  intro i acc free hz
  rw [List.range'_succ, List.forIn_cons, uR]
  unfold jI
  by_cases c : acc.size < limit /\ free <= i /\ i + sub.cps.toList.length <= hi /\ (s.cps.toList.drop i).take sub.cps.toList.length = sub.cps.toList
  ·rw [if_pos c, if_pos ⟨by omega, c.2⟩]
   show (forIn _ (acc.push i, i + sub.cps.toList.length) _ : Id _).run.fst.toList = _
   rw [ih _ _ _ (by simp; omega)]
   simp only [Array.toList_push, List.append_assoc, List.singleton_append, Array.size_push]
   congr 3
  ·rw [if_neg c, if_neg (fun h => c ⟨by omega, h.2⟩)]
   show (forIn _ (acc, free) _ : Id _).run.fst.toList = _
   exact ih _ _ _ hz
theorem sO (s sub : Str) (lo hi limit : Nat) : occurrences s sub lo hi limit = jI s.cps.toList sub.cps.toList hi (hi + 1 - lo) lo limit lo := by
 rw [StrLaws.occ_eq, zcB _ _ _ _ _ _ _ _ (by simp)]
 simp
theorem fR (p x : List Nat) : p.isPrefixOf x = true ↔ x.take p.length = p := by
 rw [List.isPrefixOf_iff_prefix]
 constructor
 ·rintro ⟨r, rfl⟩; simp
 ·intro h; exact ⟨x.drop p.length, by conv => rhs; rw [<- List.take_append_drop p.length x, h]⟩
theorem m8 {p x : List Nat} (h : p.isPrefixOf x = true) : p.length <= x.length := by
 rw [List.isPrefixOf_iff_prefix] at h; exact h.length_le
theorem qO {p n i : Nat} (hi : i <= n) (h : p <= n - i) : i + p <= n := Nat.add_sub_cancel' hi ▸ Nat.add_le_add_left h i
theorem zcW (x p : List Nat) : ∀ (n i f : Nat), f <= i -> i + n = x.length + 1 -> (match jI x p x.length n i 1 f with | k :: _ => (k : Int) | [] => -1) = l7 x p i n := by
 intro n
 induction n with
 | zero => intro i f _ _; rfl
 | succ n ih =>
  intro i f hf hn
  unfold jI l7
  by_cases c : p.isPrefixOf (x.drop i) = true
  ·have hl := m8 c
   rw [List.length_drop] at hl
   rw [if_pos c, if_pos ⟨by decide, hf, qO (Nat.le_of_lt_succ (Nat.lt_of_lt_of_eq (Nat.lt_add_of_pos_right (Nat.succ_pos n)) hn)) hl, (fR _ _).mp c⟩]
  ·rw [if_neg c, if_neg (fun h => c ((fR _ _).mpr h.2.2.2))]
   exact ih (i + 1) f (Nat.le_succ_of_le hf) (by rw [<- hn, Nat.add_assoc, Nat.add_comm 1])
theorem dF (n : Nat) (i : Int) (h : 0 <= i) : fromIndex n i = i.toNat := by unfold fromIndex; rw [if_neg (Int.not_lt.mpr h), Int.max_eq_right h]
theorem zbh (x p : List Nat) (i : Int) (h0 : 0 <= i) : Txt.find3 ⟨x.toArray⟩ ⟨p.toArray⟩ i = yS x p i.toNat := by
 unfold Txt.find3 yS
 rw [dF _ _ h0, sO, b6]
 by_cases hi : i.toNat <= x.length
 ·exact zcW x p _ _ _ (Nat.le_refl _) (Nat.add_sub_cancel' (Nat.le_succ_of_le hi))
 ·have : x.length + 1 - i.toNat = 0 := Nat.sub_eq_zero_of_le (Nat.lt_of_not_le hi)
  simp only [this]; rfl
theorem zcC (x p : List Nat) (f : Nat) : ∀ (n i : Nat), f <= i -> i + n = x.length + 1 -> i <= x.length -> (jI x p x.length n i 1 f ≠ [] ↔ yH p (x.drop i) = true) := by
 intro n
 induction n generalizing f with
 | zero =>
  intro i hf hn hx
  exact absurd hx (Nat.not_le_of_lt (Nat.lt_of_lt_of_eq (Nat.lt_succ_self _) (Eq.symm hn)))
 | succ n ih =>
  intro i hf hn hx
  unfold jI
  by_cases hl : i = x.length
  ·subst hl
   have : n = 0 := Nat.succ.inj (Nat.add_left_cancel hn)
   subst this
   rw [List.drop_length]
   by_cases hp : p = []
   ·subst hp; simp [yH, hf]
   ·have : p.length ≠ 0 := by simpa using hp
    rw [if_neg (fun h => this (Nat.eq_zero_of_le_zero (Nat.le_of_add_le_add_left (show x.length + p.length <= x.length + 0 from h.2.2.1))))]
    simp [jI, yH, hp]
  ·have hl' : i < x.length := Nat.lt_of_le_of_ne hx hl
   rw [List.drop_eq_getElem_cons hl']
   simp only [yH, Bool.or_eq_true]
   rw [<- List.drop_eq_getElem_cons hl']
   by_cases c : p.isPrefixOf (x.drop i) = true
   ·have hl := m8 c
    rw [List.length_drop] at hl
    rw [if_pos ⟨by decide, hf, qO (Nat.le_of_lt hl') hl, (fR _ _).mp c⟩]
    simp [c]
   ·rw [if_neg (fun h => c ((fR _ _).mpr h.2.2.2)), ih f (i + 1) (Nat.le_succ_of_le hf) (by rw [<- hn, Nat.add_assoc, Nat.add_comm 1]) hl']
    simp [c]
theorem kW (x p : List Nat) : (!(occurrences ⟨x.toArray⟩ ⟨p.toArray⟩ 0 (Str.length ⟨x.toArray⟩) 1).isEmpty) = yH p x := by
 rw [sO, b6]
 have := zcC x p 0 (x.length + 1 - 0) 0 (Nat.le_refl _) (Nat.zero_add _) (Nat.zero_le _)
 simp only [List.drop_zero] at this
 by_cases c : yH p x = true
 ·rw [c]; simpa using this.mpr c
 ·have h : jI x p x.length (x.length + 1 - 0) 0 1 0 = [] := by
   by_cases h : jI x p x.length (x.length + 1 - 0) 0 1 0 = []
   ·exact h
   ·exact absurd (this.mp h) c
  simp only [Bool.not_eq_true] at c
  rw [c]
  show (!(jI x p x.length (x.length + 1 - 0) 0 1 0).isEmpty) = false
  rw [h]; rfl
noncomputable def zdu (c : Nat) (x : List Nat) : Nat -> Nat -> Nat
 | 0, _ => 0
 | n + 1, i => if x[i]? = some c then zdu c x n (i + 1) + 1 else zdu c x n (i + 1)
theorem pI (c : Nat) (x : List Nat) : ∀ (n i : Nat), zdu c x n i = ((x.drop i).take n).count c
 | 0, i => by rw [List.take_zero]; rfl
 | n + 1, i => by
  unfold zdu
  rw [pI c x n (i + 1)]
  by_cases h : i < x.length
  ·rw [List.drop_eq_getElem_cons h, List.take_succ_cons, List.count_cons, List.getElem?_eq_getElem h]
   by_cases e : x[i] = c
   ·rw [if_pos (congrArg some e), if_pos (beq_iff_eq.mpr e)]
   ·rw [if_neg (fun q => e (Option.some.inj q)), if_neg (fun q => e (beq_iff_eq.mp q))]; rfl
  ·rw [List.getElem?_eq_none (Nat.le_of_not_lt h), if_neg (fun q => by cases q), List.drop_of_length_le (Nat.le_of_not_lt h), List.drop_of_length_le (Nat.le_succ_of_le (Nat.le_of_not_lt h))]
   rw [List.take_nil, List.take_nil]
theorem zbN (x : List Nat) (c i : Nat) : (x.drop i).take 1 = [c] ↔ x[i]? = some c := by
 by_cases h : i < x.length
 ·rw [List.drop_eq_getElem_cons h, List.getElem?_eq_getElem h]
  exact ⟨fun q => congrArg some (List.cons.inj q).1, fun q => congrArg (fun d => [d]) (Option.some.inj q)⟩
 ·rw [List.drop_of_length_le (Nat.le_of_not_lt h), List.getElem?_eq_none (Nat.le_of_not_lt h)]
  exact ⟨fun q => (by cases q), fun q => (by cases q)⟩
theorem y6 (x : List Nat) (c hi : Nat) : ∀ (n i lim f : Nat), f <= i -> n <= lim -> i + n = hi -> (jI x [c] hi (n + 1) i lim f).length = zdu c x n i := by
 intro n
 induction n with
 | zero =>
  intro i lim f _ _ hn
  have hn : i = hi := hn
  subst hn
  unfold jI
  rw [if_neg (fun h => Nat.not_succ_le_self i h.2.2.1)]; rfl
 | succ n ih =>
  intro i lim f hf hl hn
  have h1 : i + 1 + n = hi := by rw [<- hn, Nat.add_assoc, Nat.add_comm 1]
  unfold jI zdu
  by_cases c' : x[i]? = some c
  ·rw [if_pos ⟨Nat.lt_of_lt_of_le (Nat.succ_pos n) hl, hf, h1 ▸ Nat.le_add_right _ n, (zbN x c i).mpr c'⟩, if_pos c', List.length_cons, ih (i + 1) (lim - 1) (i + [c].length) (Nat.le_refl _) (Nat.le_sub_one_of_lt hl) h1]
  ·rw [if_neg (fun h => c' ((zbN x c i).mp h.2.2.2)), if_neg c']
   exact ih (i + 1) lim f (Nat.le_succ_of_le hf) (Nat.le_of_succ_le hl) h1
theorem zbm (x : List Nat) (c i j : Nat) : (occurrences ⟨x.toArray⟩ ⟨#[c]⟩ i (min j x.length) (x.length + 1)).length = ((x.take j).drop i).count c := by
 rw [sO, List.drop_take, List.take_eq_take_min, List.length_drop]
 by_cases hi : i <= min j x.length
 ·rw [Nat.succ_sub hi]
  refine (y6 x c _ _ _ _ _ (Nat.le_refl _) ?_ (Nat.add_sub_cancel' hi)).trans ((pI c x _ i).trans ?_)
  ·exact Nat.le_trans (Nat.sub_le _ _) (Nat.le_trans (Nat.min_le_right _ _) (Nat.le_succ _))
  ·rw [Nat.sub_min_sub_right]
 ·have h : min j x.length <= i := Nat.le_of_not_le hi
  rw [Nat.sub_eq_zero_of_le (Nat.lt_of_not_le hi), Nat.sub_min_sub_right, Nat.sub_eq_zero_of_le h]
  rfl
theorem kE (s : Str) (c hi i : Nat) (st : Option Nat) (hh : hi <= s.cps.toList.length) :
  StrLaws.lastBody s ⟨#[c]⟩ hi i st = pure (.yield (if i < hi /\ s.cps.toList[i]? = some c then some i else st)) := by
 have e2 : i < hi -> ((subAt s ⟨#[c]⟩ i = true) ↔ s.cps.toList[i]? = some c) := by
  intro hl
  have hlt : i < s.cps.toList.length := by omega
  rw [StrLaws.subAt_eq, beq_iff_eq]
  show (s.cps.toList.drop i).take 1 = [c] ↔ _
  rw [List.drop_eq_getElem_cons hlt, List.getElem?_eq_getElem hlt]
  simp
 unfold StrLaws.lastBody
 by_cases q : i < hi /\ s.cps.toList[i]? = some c
 ·rw [if_pos q, if_pos ⟨q.1, (e2 q.1).mpr q.2⟩]
 ·rw [if_neg q, if_neg (fun h => q ⟨h.1, (e2 h.1).mp h.2⟩)]
theorem x0 (s : Str) (c hi : Nat) (hh : hi <= s.cps.toList.length) : ∀ (n i : Nat) (st : Option Nat), i + n = hi ->
  (forIn (List.range' i (n + 1)) st (StrLaws.lastBody s ⟨#[c]⟩ hi)).run = oW c s.cps.toList n i st := by
 intro n
 induction n with
 | zero =>
  intro i st hn
  have hn : i = hi := hn
  subst hn
  rw [List.range'_succ, List.forIn_cons, kE _ _ _ _ _ hh, if_neg (fun h => Nat.lt_irrefl _ h.1)]
  rfl
 | succ n ih =>
  intro i st hn
  have h1 : i + 1 + n = hi := by rw [<- hn, Nat.add_assoc, Nat.add_comm 1]
  rw [List.range'_succ, List.forIn_cons, kE _ _ _ _ _ hh]
  show (forIn (List.range' (i + 1) (n + 1)) (if i < hi /\ s.cps.toList[i]? = some c then some i else st) _ : Id _).run = oW c _ n (i + 1) (if s.cps.toList[i]? = some c then some i else st)
  rw [ih (i + 1) _ h1]
  by_cases q : s.cps.toList[i]? = some c
  ·rw [if_pos q, if_pos ⟨h1 ▸ Nat.lt_of_lt_of_le (Nat.lt_succ_self i) (Nat.le_add_right _ n), q⟩]
  ·rw [if_neg q, if_neg fun h => q h.2]
theorem zaC (x : List Nat) (c i j : Nat) : (match lastOccurrence ⟨x.toArray⟩ ⟨#[c]⟩ i (min j x.length) with | some k => (k : Int) | none => -1) = eU c x i j := by
 rw [StrLaws.last_eq]
 unfold eU
 by_cases hi : i <= min j x.length
 ·rw [Nat.succ_sub hi, x0 ⟨x.toArray⟩ c _ (Nat.min_le_right _ _) _ _ _ (Nat.add_sub_cancel' hi)]
  show (match oW c x (min j x.length - i) i none with | some k => (k : Int) | none => -1) = _
  cases oW c x (min j x.length - i) i none <;> rfl
 ·rw [Nat.sub_eq_zero_of_le (Nat.lt_of_not_le hi), Nat.sub_eq_zero_of_le (Nat.le_of_not_le hi)]
  rfl
noncomputable def zaB (x z : List Nat) (w : Nat) : Nat -> List Nat -> List Nat
 | st, [] => x.drop st
 | st, c :: cs => (x.drop st).take (c - st) ++ z ++ zaB x z w (c + w) cs
theorem oE (x : Str) (z : Str) (w : Nat) : ∀ (cuts : List Nat) (st : Nat),
  (Str.join z (((st :: cuts.map (· + w)).zip (cuts ++ [x.length])).map fun (i, j) => strSub x i j)).cps.toList = zaB x.cps.toList z.cps.toList w st cuts
 | [], st => by
  simp only [List.map_nil, List.nil_append, List.zip_cons_cons, List.zip_nil_left, List.map_cons, Str.join, zaB]
  rw [StrLaws.strSub_toList]
  apply List.take_of_length_le
  simp [Str.length]
 | c :: cs, st => by
  have ih := oE x z w cs (c + w)
  have e : (((st :: (c :: cs).map (· + w)).zip (c :: cs ++ [x.length])).map fun (i, j) => strSub x i j) = strSub x st c :: ((((c + w) :: cs.map (· + w)).zip (cs ++ [x.length])).map fun (i, j) => strSub x i j) := by simp
  rw [e]
  cases hq : ((((c + w) :: cs.map (· + w)).zip (cs ++ [x.length])).map fun (i, j) => strSub x i j) with
  | nil =>
   exfalso
   have := congrArg List.length hq
   simp at this
  | cons y ys =>
   rw [hq] at ih
   simp only [Str.join, zaB]
   rw [Str.cps_append, Str.cps_append, Array.toList_append, Array.toList_append, ih, StrLaws.strSub_toList]
theorem zaA (x p z : List Nat) (hp : 0 < p.length) : ∀ (n i lim f m : Nat), i + n = x.length + 1 -> n <= lim ->
  (∀ st, f <= i -> st <= i -> i <= x.length -> x.length < m + i -> zaB x z p.length st (jI x p x.length n i lim f) = (x.drop st).take (i - st) ++ b8 p z m (x.drop i)) /\
  (i <= f -> f <= x.length -> x.length < m + f -> zaB x z p.length f (jI x p x.length n i lim f) = b8 p z m (x.drop f)) := by
 intro n
 induction n with
 | zero =>
  intro i lim f m hn _
  exact ⟨fun st _ _ hi _ => absurd hi (by omega), fun hi hf _ => absurd (Nat.le_trans hi hf) (by omega)⟩
 | succ n ih =>
  intro i lim f m hn hl
  have h1 : i + 1 + n = x.length + 1 := by rw [<- hn, Nat.add_assoc, Nat.add_comm 1]
  have A : ∀ st, f <= i -> st <= i -> i <= x.length -> x.length < m + i -> zaB x z p.length st (jI x p x.length (n + 1) i lim f) = (x.drop st).take (i - st) ++ b8 p z m (x.drop i) := by
   intro st hf hst hi hm
   unfold jI
   by_cases hlt : i < x.length
   ·obtain ⟨m, rfl⟩ : ∃ k, m = k + 1 := ⟨m - 1, by omega⟩
    have hm1 : x.length < m + (i + 1) := by rw [Nat.add_comm i, <- Nat.add_assoc]; exact hm
    have hr : b8 p z (m + 1) (x.drop i) = if p.isPrefixOf (x.drop i) = true then z ++ b8 p z m ((x.drop i).drop p.length) else x[i] :: b8 p z m (x.drop (i + 1)) := by
     rw [List.drop_eq_getElem_cons hlt]; rfl
    rw [hr]
    by_cases c : p.isPrefixOf (x.drop i) = true
    ·have hlen := m8 c
     rw [List.length_drop] at hlen
     rw [if_pos c, if_pos ⟨Nat.lt_of_lt_of_le (Nat.succ_pos n) hl, hf, by omega, (fR _ _).mp c⟩, zaB, (ih (i + 1) (lim - 1) (i + p.length) m h1 (Nat.le_sub_one_of_lt hl)).2 (Nat.add_le_add_left hp i) (by omega) (Nat.lt_of_lt_of_le hm1 (Nat.add_le_add_left (Nat.add_le_add_left hp i) m)), List.drop_drop, List.append_assoc]
    ·rw [if_neg c, if_neg (fun h => c ((fR _ _).mpr h.2.2.2)), (ih (i + 1) lim f m h1 (Nat.le_of_succ_le hl)).1 st (Nat.le_succ_of_le hf) (Nat.le_succ_of_le hst) hlt hm1]
     have hls : i - st < (x.drop st).length := by rw [List.length_drop]; omega
     have h2 : (x.drop st)[i - st] = x[i] := by rw [List.getElem_drop]; congr 1; exact Nat.add_sub_cancel' hst
     rw [Nat.succ_sub hst, List.take_succ_eq_append_getElem hls, h2, List.append_assoc]; rfl
   ·have hi : i = x.length := Nat.le_antisymm hi (Nat.le_of_not_lt hlt)
    subst hi
    obtain rfl : n = 0 := by omega
    rw [List.drop_length, if_neg]
    ·show x.drop st = _ ++ b8 p z m []
     rw [show b8 p z m [] = [] by cases m <;> rfl, List.append_nil, List.take_of_length_le (Nat.le_of_eq List.length_drop)]
    ·intro h; have := h.2.2.1; omega
  refine ⟨A, fun hi hf hm => ?_⟩
  rcases Nat.eq_or_lt_of_le hi with rfl | hlt
  ·rw [A i (Nat.le_refl _) (Nat.le_refl _) hf hm, Nat.sub_self]; rfl
  ·unfold jI
   rw [if_neg (fun h => absurd h.2.1 (Nat.not_le_of_lt hlt))]
   exact (ih (i + 1) lim f m h1 (Nat.le_of_succ_le hl)).2 hlt hf hm
theorem uN (x p z : List Nat) (hp : p ≠ []) : Txt.replace ⟨x.toArray⟩ ⟨p.toArray⟩ ⟨z.toArray⟩ = ⟨(oK p z x).toArray⟩ := by
 apply Str.ext'
 apply Array.toList_inj.mp
 have hp' : 0 < p.length := by cases p with | nil => exact absurd rfl hp | cons _ _ => simp
 have main := (zaA x p z hp' (x.length + 1) 0 (x.length + 1) 0 (x.length + 1) (Nat.zero_add _) (Nat.le_refl _)).1 0 (Nat.le_refl _) (Nat.le_refl _) (Nat.zero_le _) (Nat.lt_succ_self _)
 simp only [List.drop_zero, Nat.sub_self, List.take_zero, List.nil_append] at main
 show (Txt.replace _ _ _).cps.toList = oK p z x
 unfold oK
 rw [<- main]
 have ho : occurrences ⟨x.toArray⟩ ⟨p.toArray⟩ 0 (Str.length ⟨x.toArray⟩) (Str.length ⟨x.toArray⟩ + 1) = jI x p x.length (x.length + 1) 0 (x.length + 1) 0 := by
  rw [sO, b6]; rfl
 unfold Txt.replace
 rw [ho]
 by_cases hc : (jI x p x.length (x.length + 1) 0 (x.length + 1) 0).isEmpty = true
 ·have : jI x p x.length (x.length + 1) 0 (x.length + 1) 0 = [] := List.isEmpty_iff.mp hc
  rw [this]
  simp [zaB]
 ·have h0 : (p.length == 0) = false := beq_eq_false_iff_ne.mpr (by omega)
  rw [if_neg (by simp only [Bool.not_eq_true] at hc; rw [hc, b6, h0]; simp)]
  rw [StrLaws.glued_eq_join]
  have := oE ⟨x.toArray⟩ ⟨z.toArray⟩ p.length (jI x p x.length (x.length + 1) 0 (x.length + 1) 0) 0
  rw [b6]
  exact this
theorem lG (a b : Nat) : sliceRange (a : Int) (b : Int) 1 = (List.range (b - a)).map (fun k => a + k) := by
 unfold sliceRange
 by_cases h : (a : Int) < b
 ·have e : (((b : Int) - a + 1 - 1) / 1).toNat = b - a := by rw [Int.add_sub_cancel, Int.ediv_one, Int.toNat_sub]
  simp only [show ((1 : Int) > 0) = True from by simp, if_true, h, e]
  apply List.map_congr_left; intro k _; rw [Int.one_mul]; rfl
 ·have : b - a = 0 := Nat.sub_eq_zero_of_le (Nat.le_of_not_lt fun q => h (Int.ofNat_lt.mpr q))
  rw [this]
  simp [h]
theorem xK {n : Nat} {i : Int} (h : i < 0) : i + (n : Int) <= n := by
 have := Int.add_le_add_right (Int.le_of_lt h) (n : Int)
 rwa [Int.zero_add] at this
theorem zC (n : Nat) (i : Int) : max 0 (min (if i < 0 then i + (n : Int) else i) (n : Int)) = (fK n i : Int) := by
 unfold fK
 by_cases h : i < 0
 ·rw [if_pos h, if_pos h, Int.min_eq_left (xK h), Int.max_comm, Int.ofNat_toNat]
 ·have h := Int.not_lt.mp h
  rw [if_neg (Int.not_lt.mpr h), if_neg (Int.not_lt.mpr h), Int.max_eq_right (Int.le_min.mpr ⟨h, Int.natCast_nonneg n⟩)]
  by_cases k : i.toNat <= n
  ·rw [Nat.min_eq_left k, Int.min_eq_left (Int.toNat_le.mp k), Int.toNat_of_nonneg h]
  ·rw [Nat.min_eq_right (Nat.le_of_not_le k), Int.min_eq_right (Int.le_of_lt (Int.lt_of_not_ge fun q => k (Int.toNat_le.mpr q)))]
theorem zaJ (n : Nat) (i : Int) : fK n i <= n := by
 unfold fK
 by_cases h : i < 0
 ·rw [if_pos h]; exact Int.toNat_le.mpr (xK h)
 ·rw [if_neg h]; exact Nat.min_le_right _ _
theorem zbJ (lo hi : Option Int) (n : Nat) : strSliceIndices lo hi 1 n = (List.range ((hi.map (fK n)).getD n - (lo.map (fK n)).getD 0)).map (fun k => (lo.map (fK n)).getD 0 + k) := by
 rw [<- lG]
 unfold strSliceIndices
 simp only [show ((1 : Int) > 0) = True from by simp, if_true]
 cases lo <;> cases hi <;> simp only [zC, Option.map_none, Option.map_some, Option.getD_none, Option.getD_some] <;> rfl
theorem zdX (hi : Option Int) (n : Nat) : (hi.map (fK n)).getD n <= n := by
 cases hi with
 | none => simp
 | some i => simpa using zaJ _ _
theorem lT {α : Type} (l : List α) (lo hi : Option Int) : (strSliceIndices lo hi 1 l.length).filterMap (l[·]?) = slc l lo hi := by
 rw [zbJ]
 unfold slc
 by_cases h : (lo.map (fK l.length)).getD 0 <= (hi.map (fK l.length)).getD l.length
 ·exact StrLaws.picks l _ _ (by rw [Nat.add_sub_cancel' h]; exact zdX hi l.length)
 ·have : (hi.map (fK l.length)).getD l.length - (lo.map (fK l.length)).getD 0 = 0 := Nat.sub_eq_zero_of_le (Nat.le_of_not_le h)
  rw [this]; simp
theorem uF (lo hi : Option Int) {α : Type} (l : List α) : (strSliceIndices lo hi 1 l.length).length = (slc l lo hi).length := by
 rw [zbJ]
 unfold slc
 rw [List.length_map, List.length_range, List.length_take, List.length_drop]
 exact (Nat.min_eq_left (Nat.sub_le_sub_right (zdX hi l.length) _)).symm
theorem zax (l : Array Value) (lo hi : Option Int) : (slicePick l lo hi none).toList = slc l.toList lo hi := by
 rw [<- lT]
 unfold slicePick sliceBounds strSliceIndices
 simp only [Option.getD_none, Array.length_toList, Array.getElem?_toList]
 rfl
theorem lU {α : Type} (l : List α) (lo hi : Option Int) : (slc l lo hi).length <= l.length := by
 unfold slc; rw [List.length_take, List.length_drop]; exact Nat.le_trans (Nat.min_le_right _ _) (Nat.sub_le _ _)
theorem zaz {α : Type} {l : List α} {lo hi : Option Int} (h : (slc l lo hi).length = l.length) : slc l lo hi = l := ((List.take_sublist _ _).trans (List.drop_sublist _ _)).eq_of_length h
theorem zcs {α : Type} {l : List α} {lo hi : Option Int} {c : α} (h : c ∈ slc l lo hi) : c ∈ l := List.mem_of_mem_drop (List.mem_of_mem_take h)
section
variable {prog : Program} {w : World} {A : Around} {E : Value -> Shared -> Prop} {s : Shared} {G : GM} {P : Params} {a b : Value} {K : PV -> Prop} {σ : Nat -> Option Cell}
theorem okStr.slc {x : List Nat} (h : okStr x) (lo hi : Option Int) : okStr (slc x lo hi) :=
 ⟨fun c hc => h.1 c (zcs hc), Nat.le_trans (lU _ _ _) h.2⟩
theorem VRels.slc {vs : List Value} {ps : List PV} (h : VRels P G vs ps) (lo hi : Option Int) : VRels P G (slc vs lo hi) (slc ps lo hi) := by
 have e := h.length
 unfold Mine.slc
 rw [e]
 exact (h.drop _).take _
theorem fW {v sl : Value} {p r : PV} {lo hi : Option Int} {q : Addr} {vl vu : Value} (hi' : InH G s.heap) (hv : jW P G s.heap v p)
  (hs : s.heap.get? q = some { cls := .type "slice", data := .fields #[vl, vu, .none] }) (hl : ∃ t, vl = partValue (lo.map (·, t))) (hu : ∃ t, vu = partValue (hi.map (·, t)))
  (hr : (match p with | .str x => r = .str (Mine.slc x lo hi) | .list xs => r = .list (Mine.slc xs lo hi) | _ => False)) (hk : K r) :
  GW (model prog w) A P E G s (getItem v (.ref q)) K := by
 obtain ⟨t1, rfl⟩ := hl
 obtain ⟨t2, rfl⟩ := hu
 cases p <;> simp only at hr
 ·subst hr
  rename_i x
  simp only [jW, VRel] at hv
  obtain ⟨t, rfl, ok⟩ := hv
  refine wpAny_getItem_str_slice (l := lo.map (·, t1)) (u := hi.map (·, t2)) (st := none) ⟨_, hs, rfl, rfl⟩ rfl ?_
  have e1 : (lo.map (·, t1)).map (·.1) = lo := by cases lo <;> rfl
  have e2 : (hi.map (·, t2)).map (·.1) = hi := by cases hi <;> rfl
  have e3 : (slicePicked ⟨x.toArray⟩ (lo.map (·, t1)) (hi.map (·, t2)) none).filterMap ((⟨x.toArray⟩ : Str).cps[·]?) = slc x lo hi := by
   unfold slicePicked
   rw [e1, e2, b6]
   rw [<- lT]
   simp
  unfold sliceMade
  have ok' := ok.slc lo hi
  split
  ·rename_i hc
   simp only [Bool.and_eq_true, beq_iff_eq] at hc
   have hlen := hc.2
   have : slc x lo hi = x := zaz (by
    rw [b6] at hlen
    rw [<- uF]
    unfold slicePicked at hlen
    rw [e1, e2, b6] at hlen
    exact hlen)
   refine ⟨.str x, G, by rw [<- this]; rw [this] at hk ⊢; exact hk, GS.refl hi', ?_⟩
   simp only [VRel]
   exact ⟨t, rfl, ok⟩
  ·rw [e3]
   refine ⟨by rw [b6]; exact ok'.2, _, G, hk, GS.toks hi' _, ?_⟩
   simp only [VRel]
   exact ⟨_, rfl, ok'⟩
 ·subst hr
  rename_i xs
  obtain ⟨a, o, vs, n, rfl, h2, h3, h3', h4, h5, h6⟩ := hv
  refine wpAny_getItem_list_slice (lo := lo) (hi := hi) (st := none) (vs := .none) ⟨o, h2, h3, n, h4⟩ ⟨_, hs, rfl, rfl⟩ ?_ ?_ IsPart.none (by simp) ?_ h5
  ·cases lo with
   | none => exact IsPart.none
   | some i => exact IsPart.int _ _
  ·cases hi with
   | none => exact IsPart.none
   | some i => exact IsPart.int _ _
  ·have g := GS.push hi' { cls := .type "list", data := .seq (slicePick vs lo hi none) } rfl s.toks
   refine ⟨_, _, hk, g, ?_⟩
   simp only [VRel]
   have el : (slicePick vs lo hi none).toList = slc vs.toList lo hi := zax _ _ _
   refine ⟨_, _, _, _, rfl, cH, rfl, rfl, rfl, ?_, by rw [el]; exact (h6.slc lo hi).mono g.ext⟩
   rw [<- Array.length_toList, el]
   exact Nat.le_trans (lU _ _ _) (by simpa using h5)
end
open PySem.NumText
theorem iK {b c d : Nat} (h : lK b c = some d) : digit? c = some d /\ d < b /\ c ≠ 95 /\ 33 <= c /\ c < 128 := by
 unfold lK at h
 unfold digit?
 split at h
 ·rename_i q; cases h; rw [if_pos (by simp; omega)]; exact ⟨rfl, q.2.2, by omega, by omega, by omega⟩
 ·split at h
  ·rename_i q1 q; cases h
   rw [if_neg (by simp; omega), if_pos (by simp; omega)]; exact ⟨rfl, q.2.2, by omega, by omega, by omega⟩
  ·split at h
   ·rename_i q1 q2 q; cases h
    rw [if_neg (by simp; omega), if_neg (by simp; omega), if_pos (by simp; omega)]; exact ⟨rfl, q.2.2, by omega, by omega, by omega⟩
   ·cases h
theorem sQ {b : Nat} : ∀ (cs : List Nat) (acc n : Nat) (ds : Array Nat) (fl : Bool), fS b acc cs = some n -> ds.foldl (fun a d => a * b + d) 0 = acc ->
  ∃ ds', cs.foldlM (NumText.step b) (ds, fl) = some (ds', if cs = [] then fl else true) /\ ds'.foldl (fun a d => a * b + d) 0 = n /\ ds'.size = ds.size + cs.length
 | [], acc, n, ds, fl, h, e => by
  simp only [fS, Option.some.injEq] at h
  exact ⟨ds, rfl, by rw [e, h], rfl⟩
 | c :: cs, acc, n, ds, fl, h, e => by
  unfold fS at h
  split at h
  ·rename_i d hd
   obtain ⟨h1, h2, h3, _⟩ := iK hd
   have hs : NumText.step b (ds, fl) c = some (ds.push d, true) := by
    unfold NumText.step
    have : (c == 95) = false := beq_eq_false_iff_ne.mpr h3
    rw [this, h1]
    simp [h2]
   obtain ⟨ds', q1, q2, q3⟩ := sQ cs (acc * b + d) n (ds.push d) true h (by simp [e])
   refine ⟨ds', ?_, q2, by simp at q3 ⊢; omega⟩
   rw [List.foldlM_cons, hs]
   simp only [Option.bind_eq_bind, Option.bind_some]
   rw [q1]; simp
  ·cases h
theorem m9 {b : Nat} : ∀ (cs : List Nat) (acc n : Nat), fS b acc cs = some n -> ∀ c ∈ cs, ∃ d, lK b c = some d
 | [], _, _, _, _, h => by simp at h
 | c :: cs, acc, n, h, x, hx => by
  unfold fS at h
  split at h
  ·rename_i d hd
   rcases List.mem_cons.mp hx with rfl | hx
   ·exact ⟨d, hd⟩
   ·exact m9 cs _ _ h x hx
  ·cases h
theorem lX {b n : Nat} {cs : List Nat} (h : fS b 0 cs = some n) (hne : cs ≠ []) : ∃ ds, digits? b cs = some ds /\ ds.foldl (fun a d => a * b + d) 0 = n /\ ds.size = cs.length := by
 obtain ⟨ds, h1, h2, h3⟩ := sQ cs 0 n #[] false h rfl
 refine ⟨ds, ?_, h2, by simpa using h3⟩
 unfold digits?
 rw [h1, if_neg hne]; rfl
theorem pN {b c d : Nat} (h : lK b c = some d) : blank c = false := by
 obtain ⟨_, _, _, h1, h2⟩ := iK h
 unfold blank
 simp only [Bool.or_eq_false_iff, beq_eq_false_iff_ne, Bool.and_eq_false_iff, decide_eq_false_iff_not]
 omega
theorem gF {cs : List Nat} (h : ∀ c ∈ cs, blank c = false) : cs.dropWhile blank = cs := by
 cases cs with
 | nil => rfl
 | cons c cs => rw [List.dropWhile_cons, h c (by simp)]; rfl
theorem take_zero {cs : List Nat} (h : ∀ c ∈ cs, c ≠ 0) : cs.takeWhile (· != 0) = cs := by
 induction cs with
 | nil => rfl
 | cons c cs ih =>
  have : (c != 0) = true := by have := h c (by simp); simpa using this
  rw [List.takeWhile_cons, if_pos this, ih fun d hd => h d (by simp [hd])]
theorem mH {x : List Nat} (h : ∀ c ∈ x, c < 128) (h0 : ∀ c ∈ x, c ≠ 0) : numTextOf ⟨x.toArray⟩ = x /\ numSeenOf ⟨x.toArray⟩ = x := by
 have e : numTextOf ⟨x.toArray⟩ = x := by
  unfold numTextOf
  rw [if_pos]
  rw [Array.all_eq_true]
  intro i hi
  simp only [decide_eq_true_eq]
  exact h _ (by simp)
 refine ⟨e, ?_⟩
 unfold numSeenOf
 rw [e]; exact take_zero h0
theorem zQ (neg : Bool) (ds : Array Nat) (n : Nat) (h : ds.foldl (fun a d => a * 10 + d) 0 = n) : worth neg ds = if neg then -(n : Int) else n := by
 unfold worth; rw [h]
theorem gW {x : List Nat} {neg : Bool} {cs : List Nat} {n : Nat} (hx : (neg = true /\ x = 45 :: cs) \/ (neg = false /\ x = 43 :: cs) \/ (neg = false /\ x = cs)) (hne : cs ≠ []) (hn : fS 10 0 cs = some n) (hl : cs.length <= 4300) :
  PySem.intText? ⟨x.toArray⟩ = some (if neg then -(n : Int) else n) := by
 have hm := m9 cs 0 n hn
 have hasc : ∀ c ∈ x, c < 128 /\ c ≠ 0 := by
  have hc : ∀ c ∈ cs, c < 128 /\ c ≠ 0 := fun c hc => by
   obtain ⟨d, hd⟩ := hm c hc
   have := (iK hd).2.2.2
   omega
  intro c hc'
  rcases hx with ⟨_, rfl⟩ | ⟨_, rfl⟩ | ⟨_, rfl⟩
  ·rcases List.mem_cons.mp hc' with rfl | h
   ·omega
   ·exact hc c h
  ·rcases List.mem_cons.mp hc' with rfl | h
   ·omega
   ·exact hc c h
  ·exact hc c hc'
 obtain ⟨e1, e2⟩ := mH (fun c hc => (hasc c hc).1) fun c hc => (hasc c hc).2
 have hb : ∀ c ∈ cs, blank c = false := fun c hc => by obtain ⟨d, hd⟩ := hm c hc; exact pN hd
 have hbr : ∀ c ∈ cs.reverse, blank c = false := fun c hc => hb c (List.mem_reverse.mp hc)
 have hsign : sign (x.dropWhile blank) = (neg, cs) := by
  rcases hx with ⟨rfl, rfl⟩ | ⟨rfl, rfl⟩ | ⟨rfl, rfl⟩
  ·have : (45 :: cs).dropWhile blank = 45 :: cs := by rw [List.dropWhile_cons]; rfl
   rw [this]; rfl
  ·have : (43 :: cs).dropWhile blank = 43 :: cs := by rw [List.dropWhile_cons]; rfl
   rw [this]; rfl
  ·rw [gF hb]
   cases x with
   | nil => exact absurd rfl hne
   | cons c r =>
    obtain ⟨d, hd⟩ := hm c (by simp)
    have h1 : c ≠ 45 := by
     rintro rfl; simp [lK] at hd
    have h2 : c ≠ 43 := by
     rintro rfl; simp [lK] at hd
    unfold sign
    split
    ·rename_i heq; cases heq; exact absurd rfl h1
    ·rename_i heq; cases heq; exact absurd rfl h2
    ·rfl
 obtain ⟨ds, d1, d2, d3⟩ := lX hn hne
 have hcore : core x = cs := by
  unfold core
  rw [hsign]
  simp only
  rw [gF hbr, List.reverse_reverse]
 unfold PySem.intText?
 rw [e1, e2]
 simp only [beq_self_eq_true, if_true]
 rw [hcore, d1]
 simp only
 rw [if_pos (by omega), hsign, zQ _ _ n d2]
section
variable {prog : Program} {w : World} {A : Around} {E : Value -> Shared -> Prop} {s : Shared}
theorem zdy {M : Model} {A : Around} {E : Value -> Shared -> Prop} {s : Shared} {Q : Value -> Shared -> Prop} {v : Value} {text : List Nat} {n : Int}
  (hs : (text.takeWhile (· != 0)).length <= 640) (hr : (int_private% "readNumeral") 0 16 (text.takeWhile (· != 0)) = (int_private% "Numeral.value") n)
  (ha : ((text.takeWhile (· != 0)).length == text.length) = true) (h : Q (.int n s.toks) { s with toks := s.toks + 1 }) :
  wpAny M A ((int_private% "intFromText") v text 16) Q E s := by
 obtain ⟨hp, g, d, tk, os⟩ := s
 repeat (any_goals (first
  | assumption
  | (with_reducible refine wpAny_ite_true (decide_eq_true hs) ?_)
  | (with_reducible refine wpAny_ite_true (decide_eq_true ha) ?_)
  | wp_step))
 all_goals (try rw [hr])
 all_goals (try dsimp only)
 repeat (any_goals (first
  | assumption
  | (with_reducible refine wpAny_ite_true (decide_eq_true hs) ?_)
  | (with_reducible refine wpAny_ite_true (decide_eq_true ha) ?_)
  | wp_step))
theorem zaE {cs : List Nat} {n : Nat} (hn : fS 16 0 cs = some n) (hne : cs ≠ []) : (int_private% "readNumeral") 0 16 cs = (int_private% "Numeral.value") (n : Int) := by
 have hm := m9 cs 0 n hn
 have hb : ∀ c ∈ cs, blank c = false := fun c hc => by obtain ⟨d, hd⟩ := hm c hc; exact pN hd
 have hbr : ∀ c ∈ cs.reverse, blank c = false := fun c hc => hb c (List.mem_reverse.mp hc)
 obtain ⟨ds, d1, d2, d3⟩ := lX hn hne
 rw [readNumeral_eq, gF hb]
 have hsign : sign cs = (false, cs) := by
  cases cs with
  | nil => exact absurd rfl hne
  | cons c r =>
   obtain ⟨d, hd⟩ := hm c (by simp)
   unfold sign
   split
   ·rename_i heq; cases heq; simp [lK] at hd
   ·rename_i heq; cases heq; simp [lK] at hd
   ·rfl
 have hbased : based 16 cs = (16, false, cs) := by
  unfold based
  split
  ·rename_i p hp
   have : p ≠ 16 := by
    rintro rfl
    unfold prefix? at hp
    split at hp
    ·rename_i c r
     obtain ⟨d, hd⟩ := hm c (by simp)
     split at hp
     ·rename_i q
      simp only [Bool.or_eq_true, beq_iff_eq] at q
      rcases q with rfl | rfl <;> simp [lK] at hd
     ·split at hp
      ·cases hp
      ·split at hp <;> cases hp
    ·cases hp
   rw [if_neg]
   simp; omega
  ·rfl
 rw [hsign]
 simp only [hbased]
 rw [gF hbr, List.reverse_reverse, d1]
 unfold judge
 simp only [bne_self_eq_false, Bool.and_false, Bool.false_and, Bool.false_eq_true, if_false]
 rw [d2]
 rfl
set_option maxHeartbeats 4000000 in
theorem yM {x : List Nat} {u v : Tok} {n : Nat} (hl : x.length <= 640) (hne : x ≠ []) (hn : fS 16 0 x = some n) : Gives (Builtin.«int.__new__» ⟨[.type "int", .str ⟨x.toArray⟩ u, .int 16 v], []⟩) (.int n) :=
 .of_wp fun M A E s Q h => by
  obtain ⟨hp, g, d, tk, os⟩ := s
  have f1 := F.conv_sub_int
  have f2 := F.madeHere_int
  have f6 : typeOf (.str ⟨x.toArray⟩ u) = pure (.type "str") := rfl
  have hm := m9 x 0 n hn
  have hasc : ∀ c ∈ x, c < 128 /\ c ≠ 0 := fun c hc => by
   obtain ⟨d, hd⟩ := hm c hc
   have := (iK hd).2.2.2
   omega
  obtain ⟨e1, e2⟩ := mH (fun c hc => (hasc c hc).1) fun c hc => (hasc c hc).2
  have hs : (numSeenOf ⟨x.toArray⟩).length <= 640 := by rw [e2]; exact hl
  have hr : (int_private% "readNumeral") 0 16 (numSeenOf ⟨x.toArray⟩) = (int_private% "Numeral.value") (n : Int) /\ ((numSeenOf ⟨x.toArray⟩).length == (numTextOf ⟨x.toArray⟩).length) = true := by
   rw [e1, e2]; exact ⟨zaE hn hne, by simp⟩
  have hk := PySem.W.KIN.Hid.mk (And.intro hs hr)
  clear hs hr hl hn hm hasc e1 e2 hne
  repeat (any_goals (first
   | assumption
   | ((with_reducible show wpAny _ _ ((int_private% "intFromText") _ _ _) _ _ _); refine zdy hk.out.1 hk.out.2.1 hk.out.2.2 ?_)
   | wp_step))
  all_goals first | exact ⟨_, rfl, h⟩ | skip
end
theorem qD {P : Params} {G : GM} : ∀ {ps : List PV} {vs : List Value} {zs : List (List Nat)}, VRels P G vs ps -> gJ ps = some zs -> StrsAre vs (zs.map fun z => ⟨z.toArray⟩) /\ ∀ z ∈ zs, okStr z
 | [], vs, zs, r, h => by
  simp only [VRels] at r; subst r
  simp only [gJ, Option.some.injEq] at h; subst h
  exact ⟨.nil, by simp⟩
 | p :: ps, vs, zs, r, h => by
  simp only [VRels] at r
  obtain ⟨v, w, rfl, r1, r2⟩ := r
  obtain ⟨x, hx, h⟩ := Option.bind_eq_some_iff.mp h
  obtain ⟨ys, hy, rfl⟩ := Option.map_eq_some_iff.mp h
  cases p <;> first | (cases hx; done) | skip
  cases hx
  simp only [VRel] at r1
  obtain ⟨t, rfl, ok⟩ := r1
  obtain ⟨q1, q2⟩ := qD r2 hy
  refine ⟨.cons _ t q1, ?_⟩
  intro z hz
  rcases List.mem_cons.mp hz with rfl | hz
  ·exact ok
  ·exact q2 z hz
theorem zJ (zs : List (List Nat)) (x : List Nat) : ((zs.map fun z => (⟨z.toArray⟩ : Str)).any fun y => y == ⟨x.toArray⟩) = decide (x ∈ zs) := by
 rw [List.any_map]
 by_cases h : x ∈ zs
 ·rw [decide_eq_true h, List.any_eq_true]
  exact ⟨x, h, by simp⟩
 ·rw [decide_eq_false h, List.any_eq_false]
  intro z hz
  simp only [Function.comp]
  intro e
  have e := eq_of_beq e
  have : z = x := by simpa using congrArg (fun s : Str => s.cps.toList) e
  exact h (this ▸ hz)
theorem xZ : ∀ (x y : List Nat), (!(decide (y < x))) = leS x y
 | [], y => by cases y <;> rfl
 | a :: x, [] => rfl
 | a :: x, b :: y => by
  have ih := xZ x y
  rw [StrLaws.lt_cons_cons]
  show _ = if a = b then leS x y else decide (a < b)
  by_cases h : a = b
  ·subst h; simp only [Nat.lt_irrefl, decide_false, Bool.false_or, beq_self_eq_true, Bool.true_and, if_true]; exact ih
  ·rw [if_neg h]
   have : (b == a) = false := by simp; omega
   rw [this, Bool.false_and, Bool.or_false]
   by_cases h' : a < b
   ·rw [decide_eq_true h', decide_eq_false (by omega)]; rfl
   ·rw [decide_eq_false h', decide_eq_true (by omega)]; rfl
section
variable {prog : Program} {w : World} {A : Around} {E : Value -> Shared -> Prop} {s : Shared} {G : GM} {a b : Value} {K : PV -> Prop} {σ : Nat -> Option Cell}
theorem in_G (neg : Bool) {p q : PV} (hi : InH G s.heap) (ha : VRel w.params G a p) (hb : VRel w.params G b q) (h : inW p q fun r => K (.bool (if neg then !r else r))) :
  GW (model prog w) A w.params E G s (compareOp (if neg then .NotIn else .In) a b) K := by
 obtain ⟨x, rfl, h⟩ := dB h
 simp only [VRel] at ha
 obtain ⟨t, rfl, _⟩ := ha
 cases q <;> first | exact False.elim h | skip
 ·simp only [VRel] at hb
  obtain ⟨u, rfl, _⟩ := hb
  cases neg
  ·exact d9 hi h fun Q q => P.in_str (by rw [kW]; exact q)
  ·exact d9 hi h fun Q q => P.notIn_str (by rw [kW]; exact q)
 ·obtain ⟨zs, hz, h⟩ := h
  simp only [VRel] at hb
  obtain ⟨x, o, vs, n, rfl, h2, h3, h4, h5, h6⟩ := hb
  obtain ⟨q1, _⟩ := qD h6 hz
  have ht : IsTup s.heap x vs := ⟨o, hi _ _ h2, h3, n, h4⟩
  cases neg
  ·exact d9 hi h fun Q q => in_tuple_strs ht q1 (by rw [zJ]; exact q)
  ·exact d9 hi h fun Q q => notin_tuple_strs ht q1 (by rw [zJ]; exact q)
theorem is_G (neg : Bool) {p q : PV} (hi : InH G s.heap) (ha : VRel w.params G a p) (hb : VRel w.params G b q) (h : isW p q fun r => K (.bool (if neg then !r else r))) :
  GW (model prog w) A w.params E G s (compareOp (if neg then .IsNot else .Is) a b) K := by
 have main : ∀ {a b : Value} {r : Bool}, plainIs a b = true -> (a == b) = r -> K (.bool (if neg then !r else r)) -> GW (model prog w) A w.params E G s (compareOp (if neg then .IsNot else .Is) a b) K := by
  intro a b r h1 h2 hk
  subst h2
  cases neg
  ·exact d9 hi hk fun Q q => wpAny_is_plain h1 q
  ·exact d9 hi hk fun Q q => wpAny_isNot_plain h1 q
 cases q <;> first | exact False.elim h | skip
 ·simp only [VRel] at hb
  subst hb
  cases p <;> first | exact False.elim h | skip
  ·simp only [VRel] at ha
   subst ha; exact main rfl rfl h
  ·simp only [VRel] at ha
   obtain ⟨t, rfl⟩ := ha; exact main rfl rfl h
 ·rename_i y
  cases p <;> first | exact False.elim h | skip
  rename_i x
  simp only [VRel] at ha hb
  subst ha hb; exact main rfl (by cases x <;> cases y <;> rfl) h
theorem zeT {n : Nat} (hA : Room n A) {op : CmpOp} {p q : PV} (hi : InH G s.heap) (hc : lC w.params G s.heap σ) (ha : VRel w.params G a p) (hb : VRel w.params G b q)
  (h : zb3 σ op p q fun r => K (.bool r)) : GW (model prog w) A w.params E G s (compareOp op a b) K := by
 have twoI : ∀ {c : Int -> Int -> Bool} {op : CmpOp}, (asI p fun x => asI q fun y => K (.bool (c x y))) -> (∀ x t y u (Q : Value -> Shared -> Prop), Q (.bool (c x y)) s -> wpAny (model prog w) A (compareOp op (.int x t) (.int y u)) Q E s) -> GW (model prog w) A w.params E G s (compareOp op a b) K := by
  intro c op h k
  obtain ⟨x, rfl, h⟩ := b9 h
  obtain ⟨y, rfl, h⟩ := b9 (v := q) h
  simp only [VRel] at ha hb
  obtain ⟨t, rfl⟩ := ha; obtain ⟨u, rfl⟩ := hb
  exact d9 hi h fun Q q => k x t y u Q q
 cases op
 ·exact eq_G hA false hi hc ha hb h
 ·exact eq_G hA true hi hc ha hb h
 ·exact twoI h fun _ _ _ _ Q q => lt_int q
 ·have h : leP p q fun r => K (.bool r) := h
  cases p <;> first | exact False.elim h | skip
  ·exact twoI (c := fun x y => decide (x <= y)) h fun _ _ _ _ Q q => le_int q
  ·obtain ⟨y, rfl, h⟩ := dB (v := q) h
   simp only [VRel] at ha hb
   obtain ⟨t, rfl, _⟩ := ha; obtain ⟨u, rfl, _⟩ := hb
   exact d9 hi h fun Q q => P.le_str (by simpa [xZ] using q)
 ·exact twoI h fun _ _ _ _ Q q => gt_int q
 ·exact False.elim h
 ·exact is_G false hi ha hb h
 ·exact is_G true hi ha hb h
 ·exact in_G false hi ha hb h
 ·exact in_G true hi ha hb h
theorem zch {v : Value} {p : PV} {b : Bool} (hi : InH G s.heap) (hv : jW w.params G s.heap v p) (h : sE p = some b) :
  wpAny (model prog w) A (truthy v) (fun c s' => c = b /\ GS G s G s') E s := by
 have len2 : ∀ n : Nat, n <= aP -> (n : Int) < 2 ^ 63 := by intro n hn; unfold aP at hn; omega
 cases p <;> first | (cases h; done) | skip
 all_goals cases h
 ·simp only [jW, VRel] at hv; subst hv; exact truthy_none ⟨rfl, GS.refl hi⟩
 ·simp only [jW, VRel] at hv; subst hv; exact wpAny_truthy_bool ⟨rfl, GS.refl hi⟩
 ·simp only [jW, VRel] at hv; obtain ⟨t, rfl⟩ := hv
  rename_i i
  exact truthy_int ⟨by by_cases e : i = 0 <;> simp [e], GS.refl hi⟩
 ·simp only [jW, VRel] at hv; obtain ⟨t, rfl, ok⟩ := hv
  rename_i x
  refine P.truthy_str (by rw [b6]; exact Int.not_le.mpr (len2 _ ok.2)) ⟨?_, GS.toks hi _⟩
  rw [b6]
  cases x <;> rfl
 ·simp only [jW, VRel] at hv
  obtain ⟨x, o, vs, n, rfl, h2, h3, h4, h5, h6⟩ := hv
  rename_i xs
  refine truthy_tuple (items := vs) ⟨o, hi _ _ h2, h3, n, h4⟩ (len2 _ h5) ⟨?_, GS.toks hi _⟩
  have e := h6.length
  cases xs <;> simp at e <;> simp [Array.isEmpty, e]
 ·obtain ⟨x, vs, rfl, h2, h5, h6⟩ := LView.isList hv
  rename_i xs
  refine wpAny_truthy_list h2 (len2 _ h5) ⟨?_, GS.toks hi _⟩
  have e := h6.length
  cases xs <;> simp at e <;> simp [Array.isEmpty, e]
end
theorem nN {P : Params} : ∀ {es : List (List Nat × List Nat)} {vs : List DictEntry}, rZ P vs es ->
  (∀ e ∈ vs, ∃ k : List Nat, (∃ t, e.key = .str ⟨k.toArray⟩ t) /\ e.hash = PyData.keyHash P ⟨k.toArray⟩) /\
  (∀ k : List Nat, (∃ p t, es.lookup k = some p /\ (vs.find? fun d => Value.isStrOf ⟨k.toArray⟩ d.key).map (·.val) = some (.str ⟨p.toArray⟩ t) /\ okStr p) \/ (es.lookup k = none /\ (vs.find? fun d => Value.isStrOf ⟨k.toArray⟩ d.key).map (·.val) = none))
 | [], vs, r => by
  have r : vs = [] := r
  subst r
  exact ⟨fun e h => (nomatch h), fun k => .inr ⟨rfl, rfl⟩⟩
 | (k₀, p) :: es, vs, r => by
  obtain ⟨e, w, t, t', rfl, h1, h2, h3, h5, h4⟩ := (show ∃ e r t t', vs = e :: r /\ e.key = .str ⟨k₀.toArray⟩ t /\ e.hash = PyData.keyHash P ⟨k₀.toArray⟩ /\ e.val = .str ⟨p.toArray⟩ t' /\ okStr p /\ rZ P r es from r)
  obtain ⟨q1, q2⟩ := nN h4
  refine ⟨fun d hd => ?_, fun k => ?_⟩
  ·rcases List.mem_cons.mp hd with rfl | hd
   ·exact ⟨k₀, ⟨t, h1⟩, h2⟩
   ·exact q1 d hd
  ·rw [List.find?_cons, List.lookup_cons]
   by_cases hk : k = k₀
   ·subst hk
    have : Value.isStrOf ⟨k.toArray⟩ e.key = true := by rw [h1]; simp [Value.isStrOf]
    rw [this, beq_self_eq_true]
    exact .inl ⟨p, t', rfl, congrArg some h3, h5⟩
   ·have a : Value.isStrOf ⟨k.toArray⟩ e.key = false := by
     rw [h1]
     simp only [Value.isStrOf]
     apply Bool.eq_false_iff.mpr
     intro h
     have h := eq_of_beq h
     have : k₀ = k := by simpa using congrArg (fun s : Str => s.cps.toList) h
     exact hk this.symm
    have b : (k == k₀) = false := beq_eq_false_iff_ne.mpr hk
    rw [a, b]
    exact q2 k
section
variable {prog : Program} {w : World} {G : GM}
theorem zcI {h : Heap} {x : Addr} {es' : Array DictEntry} {n : Nat} {es : List (List Nat × List Nat)} (hi : InH G h) (hG : G x = some { cls := .type "dict", data := .dict es' n }) (hr : rZ w.params es'.toList es) :
  h.MapOf (strKind prog w) x (fun k => findBy Value.isStrOf es' k) :=
 ⟨_, es', n, hi _ _ hG, ⟨rfl, rfl, rfl⟩, rfl, fun e he => by
  obtain ⟨k, ⟨t, e1⟩, e2⟩ := (nN hr).1 e (Array.mem_toList_iff.mpr he)
  exact ⟨⟨k.toArray⟩, by rw [e1]; exact strKind_is prog w _ t, e2⟩, fun _ => rfl⟩
theorem zbg {es' : Array DictEntry} {es : List (List Nat × List Nat)} (hr : rZ w.params es'.toList es) (k : List Nat) :
  (∃ p t, es.lookup k = some p /\ findBy Value.isStrOf es' ⟨k.toArray⟩ = some (.str ⟨p.toArray⟩ t) /\ okStr p) \/ (es.lookup k = none /\ findBy Value.isStrOf es' ⟨k.toArray⟩ = none) := by
 obtain ⟨l⟩ := es'
 unfold findBy
 rw [List.find?_toArray]
 rcases (nN hr).2 k with ⟨p, t, h1, h2, h3⟩ | ⟨h1, h2⟩
 ·exact .inl ⟨p, t, h1, h2, h3⟩
 ·exact .inr ⟨h1, h2⟩
end
noncomputable def gP : Obj := { cls := .type "dict", data := .dict #[] }
noncomputable def zbB (P : Params) (G : GM) (sl : Array (Option Value)) (fs : List (Option PV)) : Prop :=
 sl.size <= fs.length /\ ∀ (i : Nat) (p : PV), fs[i]? = some (some p) -> ∃ v, sl[i]? = some (some v) /\ VRel P G v p
noncomputable def CellRel (P : Params) (G : GM) (h : Heap) (a : Nat) : Cell -> Prop
 | .lst xs => ∃ vs n, h.get? a = some { cls := .type "list", data := .seq vs n } /\ vs.size <= aP /\ VRels P G vs.toList xs
 | .ins c fs => ∃ dx sl, h.get? a = some { cls := .ref c, dict := some dx, data := .plain, slots := sl } /\ G dx = some gP /\ zbB P G sl fs
theorem CellRel.mono {P : Params} {G G' : GM} {h h' : Heap} {a : Nat} {c : Cell} (r : CellRel P G h a c) (hs : Sub G G') (hk : ∀ o, h.get? a = some o -> h'.get? a = some o) : CellRel P G' h' a c := by
 cases c with
 | lst xs => obtain ⟨vs, n, h1, h2, h3⟩ := r; exact ⟨vs, n, hk _ h1, h2, h3.mono hs⟩
 | ins c fs =>
  obtain ⟨dx, sl, h1, h2, h3, h4⟩ := r
  exact ⟨dx, sl, hk _ h1, hs _ _ h2, h3, fun i p e => let ⟨v, e1, e2⟩ := h4 i p e; ⟨v, e1, e2.mono hs⟩⟩
structure Rep (P : Params) (G : GM) (env : Env) (st : St) (s : Shared) : Prop where
 inh : InH G s.heap
 tk : 1 <= s.toks
 ns : ∃ m, s.heap.Ns env.locals m /\ ∀ x p, st.ρ x = some p -> env.kindOf x = some .local -> ∃ v, m x = some v /\ VRel P G v p
 kind : ∀ x p, st.ρ x = some p -> env.kindOf x = some .local \/ env.kindOf x = some .cell \/ env.kindOf x = some .free
 cel : ∀ x p, st.ρ x = some p -> env.kindOf x ≠ some .local -> ∃ c v, env.cells.lookup x = some c /\ s.heap.IsCell c (some v) /\ VRel P G v p
 cell0 : ∀ x, env.kindOf x = some .cell -> ∃ c v, env.cells.lookup x = some c /\ s.heap.IsCell c v
 gl : G env.locals = none
 gc : ∀ x c, env.cells.lookup x = some c -> G c = none /\ c ≠ env.locals
 cinj : ∀ x y c, env.cells.lookup x = some c -> env.cells.lookup y = some c -> x = y
 cells : ∀ a c, st.σ a = some c -> CellRel P G s.heap a c /\ G a = none /\ a ≠ env.locals /\ ∀ x, env.cells.lookup x ≠ some a
structure Tr (cw : Bool) (env : Env) (G : GM) (st : St) (s : Shared) (G' : GM) (st' : St) (s' : Shared) : Prop where
 ext : Sub G G'
 new : ∀ a o, G' a = some o -> G a = some o \/ s.heap.get? a = none
 keep : ∀ a o, s.heap.get? a = some o -> a ≠ env.locals -> (cw = true -> ∀ x, env.cells.lookup x ≠ some a) -> st.σ a = none -> s'.heap.get? a = some o
 alive : ∀ a, (s.heap.get? a).isSome = true -> (s'.heap.get? a).isSome = true
 dom : ∀ a, (st.σ a).isSome = true -> (st'.σ a).isSome = true
 fresh : ∀ a, (st'.σ a).isSome = true -> (st.σ a).isSome = true \/ s.heap.get? a = none
 os : s'.os = s.os
 gens : AllBare s.gens -> AllBare s'.gens
section
variable {P : Params} {G G' G'' : GM} {env : Env} {st st' st'' : St} {s s' s'' : Shared} {cw : Bool}
theorem Tr.refl : Tr cw env G st s G st s := ⟨.refl _, fun _ _ e => .inl e, fun _ _ e _ _ _ => e, fun _ e => e, fun _ e => e, fun _ e => .inl e, rfl, fun e => e⟩
theorem Tr.trans (h : Tr cw env G st s G' st' s') (h' : Tr cw env G' st' s' G'' st'' s'') : Tr cw env G st s G'' st'' s'' where
 ext := h.ext.trans h'.ext
 new := fun a o e => by
  rcases h'.new a o e with q | q
  ·exact h.new a o q
  ·right
   cases e' : s.heap.get? a with
   | none => rfl
   | some o' => have := h.alive a (by rw [e']; rfl); rw [q] at this; cases this
 keep := fun a o e h1 h2 h3 => h'.keep a o (h.keep a o e h1 h2 h3) h1 h2 (by
  cases q : st'.σ a with
  | none => rfl
  | some c =>
   rcases h.fresh a (by rw [q]; rfl) with r | r
   ·rw [h3] at r; cases r
   ·rw [e] at r; cases r)
 alive := fun a e => h'.alive a (h.alive a e)
 dom := fun a e => h'.dom a (h.dom a e)
 fresh := fun a e => by
  rcases h'.fresh a e with q | q
  ·exact h.fresh a q
  ·right
   cases e' : s.heap.get? a with
   | none => rfl
   | some o' => have := h.alive a (by rw [e']; rfl); rw [q] at this; cases this
 os := h'.os.trans h.os
 gens := fun e => h'.gens (h.gens e)
theorem GS.tr (g : GS G s G' s') : Tr cw env G st s G' st s' :=
 ⟨g.ext, g.new, fun a o e _ _ _ => g.keep a o e, fun a e => by
  obtain ⟨o, ho⟩ := Option.isSome_iff_exists.mp e
  rw [g.keep a o ho]; rfl, fun _ e => e, fun _ e => .inl e, g.os, g.gens⟩
theorem GS.none_stays (g : GS G s G' s') {a : Nat} {o : Obj} (ha : s.heap.get? a = some o) (h : G a = none) : G' a = none := by
 cases e : G' a with
 | none => rfl
 | some o' =>
  rcases g.new a o' e with q | q
  ·rw [h] at q; cases q
  ·rw [ha] at q; cases q
theorem bO {h h' : Heap} {c : Addr} {v : Option Value} (x : h.IsCell c v) (k : ∀ o, h.get? c = some o -> h'.get? c = some o) : h'.IsCell c v := let ⟨o, e, d⟩ := x; ⟨o, k o e, d⟩
theorem CellRel.alive {h : Heap} {a : Nat} {c : Cell} (r : CellRel P G h a c) : ∃ o, h.get? a = some o := by
 cases c with
 | lst xs => obtain ⟨vs, n, h1, _⟩ := r; exact ⟨_, h1⟩
 | ins c fs => obtain ⟨dx, sl, h1, _⟩ := r; exact ⟨_, h1⟩
noncomputable def CellsThere (env : Env) (h : Heap) : Prop := ∀ x c, env.cells.lookup x = some c -> ∃ o, h.get? c = some o
theorem Rep.grow (R : Rep P G env st s) (hct : CellsThere env s.heap) (g : GS G s G' s') (tk : 1 <= s'.toks) : Rep P G' env st s' where
 inh := g.inh
 tk := tk
 ns := by
  obtain ⟨m, h1, h2⟩ := R.ns
  exact ⟨m, h1.keeps g.keep, fun x p e k => let ⟨v, a, b⟩ := h2 x p e k; ⟨v, a, b.mono g.ext⟩⟩
 kind := R.kind
 cel := fun x p e k => let ⟨c, v, h1, h2, h3⟩ := R.cel x p e k; ⟨c, v, h1, bO h2 (g.keep c), h3.mono g.ext⟩
 cell0 := fun x e => let ⟨c, v, h1, h2⟩ := R.cell0 x e; ⟨c, v, h1, bO h2 (g.keep c)⟩
 gl := by
  obtain ⟨m, ⟨o, es, ep, h1, _⟩, h2⟩ := R.ns
  exact g.none_stays h1 R.gl
 gc := fun x c e => by
  obtain ⟨o, ho⟩ := hct x c e
  exact ⟨g.none_stays ho (R.gc x c e).1, (R.gc x c e).2⟩
 cinj := R.cinj
 cells := fun a c e => by
  obtain ⟨h1, h2, h3⟩ := R.cells a c e
  obtain ⟨o, ho⟩ := h1.alive
  exact ⟨h1.mono g.ext (g.keep a), g.none_stays ho h2, h3⟩
theorem CellsThere.grow (h : CellsThere env s.heap) (hk : ∀ a, (s.heap.get? a).isSome = true -> (s'.heap.get? a).isSome = true) : CellsThere env s'.heap := fun x c e => by
 obtain ⟨o, ho⟩ := h x c e
 exact Option.isSome_iff_exists.mp (hk c (by rw [ho]; rfl))
theorem Rep.cellsOk (R : Rep P G env st s) : lC P G s.heap st.σ := fun a xs e => by
 obtain ⟨⟨vs, n, h1, h2, h3⟩, _⟩ := R.cells a _ e
 exact ⟨a, _, vs, n, rfl, h1, rfl, rfl, rfl, h2, h3⟩
theorem Rep.view (R : Rep P G env st s) {v : Value} {p : PV} (h : VRel P G v p) : jW P G s.heap v (der st.σ p) := by
 cases p with
 | ptr a =>
  show jW P G s.heap v (Option.casesOn (motive := fun _ => PV) (dS (st.σ a)) (.ptr a) .list)
  cases e : st.σ a with
  | none => exact h
  | some c => cases c with
   | lst xs => simp only [VRel] at h; subst h; exact R.cellsOk a xs e
   | ins c fs => exact h
 | _ => exact h.view R.inh
end
section
variable {prog : Program} {w : World} {A : Around} {E : Value -> Shared -> Prop} {s : Shared} {G : GM} {env : Env} {st : St} {cw : Bool} {K : PV -> Prop}
noncomputable def ze0 (P : Params) (cw : Bool) (env : Env) (G : GM) (st : St) (s : Shared) (Q : PV -> St -> Prop) (v : Value) (s' : Shared) : Prop :=
 ∃ p G' st', Q p st' /\ Rep P G' env st' s' /\ CellsThere env s'.heap /\ Tr cw env G st s G' st' s' /\ VRel P G' v p
theorem iZ {t : Sem Value} {Q : PV -> St -> Prop} (R : Rep w.params G env st s) (hct : CellsThere env s.heap) (h : GW (model prog w) A w.params E G s t fun p => Q p st) :
  wpAny (model prog w) A t (ze0 w.params cw env G st s Q) E s := by
 refine wpAny_mono (wpAny_toks_of R.tk h) (fun v s' ⟨tk, p, G', hq, g, r⟩ => ?_) fun _ _ e => e.2
 exact ⟨p, G', st, hq, R.grow hct g tk, hct.grow (fun a e => by obtain ⟨o, ho⟩ := Option.isSome_iff_exists.mp e; rw [g.keep a o ho]; rfl), g.tr, r⟩
end
noncomputable def vV (P : Params) (G : GM) (h : Heap) (vs : List Value) : List PV -> Prop
 | [] => vs = []
 | x :: xs => ∃ v r, vs = v :: r /\ jW P G h v x /\ vV P G h r xs
noncomputable def i9 (name : Str) : Value :=
 if name = "int" then .type "int" else if name = "range" then .type "range" else if name = "len" then .builtin "len" else if name = "ord" then .builtin "ord"
 else if name = "chr" then .builtin "chr" else .builtin "sum"
theorem yF {P : Params} {G : GM} : ∀ {ps : List PV} {vs : List Value} {zs : List Int}, VRels P G vs ps -> sY ps = some zs -> ∃ xs : List (Int × Tok), vs = xs.map (fun x => .int x.1 x.2) /\ xs.map (·.1) = zs
 | [], vs, zs, r, h => by
  simp only [VRels] at r; subst r
  simp only [sY, Option.some.injEq] at h; subst h
  exact ⟨[], rfl, rfl⟩
 | p :: ps, vs, zs, r, h => by
  simp only [VRels] at r
  obtain ⟨v, w, rfl, r1, r2⟩ := r
  obtain ⟨x, hx, h⟩ := Option.bind_eq_some_iff.mp h
  obtain ⟨ys, hy, rfl⟩ := Option.map_eq_some_iff.mp h
  cases p <;> first | (cases hx; done) | skip
  cases hx
  simp only [VRel] at r1
  obtain ⟨t, rfl⟩ := r1
  obtain ⟨xs, q1, q2⟩ := yF r2 hy
  exact ⟨(x, t) :: xs, by rw [q1]; rfl, by rw [<- q2]; rfl⟩
section
variable {prog : Program} {w : World} {A : Around} {E : Value -> Shared -> Prop} {s : Shared} {G : GM} {K : PV -> Prop}
theorem GS.heap {G : GM} {s : Shared} (hi : InH G s.heap) {h' : Heap} (k : Nat) (hk : ∀ a o, s.heap.get? a = some o -> h'.get? a = some o) : GS G s G { s with heap := h', toks := k } :=
 ⟨.refl _, fun a o e => hk a o (hi a o e), fun _ _ e => .inl e, hk, rfl, fun e => e⟩
theorem qP {c : Nat} (h : c < 1114112) : okStr [c] := ⟨by simpa using h, by simp [aP]⟩
theorem lF (a b : Value) : checkTypeCall "int" ⟨[a, b], []⟩ = pure () := by kernel_rfl
theorem nB (a b : Value) : checkBuiltinCall "int.__new__" ⟨[.type "int", a, b], []⟩ = pure () := by kernel_rfl
theorem gC {P : Params} {h : Heap} {vs : List Value} {p : PV} (hv : vV P G h vs [p]) : ∃ v, vs = [v] /\ jW P G h v p := by
 obtain ⟨v, r, rfl, h1, rfl⟩ := hv; exact ⟨v, rfl, h1⟩
theorem uA {P : Params} {h : Heap} {v : Value} {i : Int} (hv : jW P G h v (.int i)) : ∃ t, v = .int i t := by simpa only [jW, VRel] using hv
theorem zS {P : Params} {h : Heap} {v : Value} {x : List Nat} (hv : jW P G h v (.str x)) : ∃ t, v = .str ⟨x.toArray⟩ t /\ okStr x := by simpa only [jW, VRel] using hv
theorem bi_G {n : Nat} (hA : Room n A) {name : Str} {vs : List Value} {ps : List PV} (hi : InH G s.heap) (hv : vV w.params G s.heap vs ps) (h : biP name ps K) :
  GW (model prog w) A w.params E G s (call (i9 name) vs) K := by
 have len2 : ∀ n : Nat, n <= aP -> (n : Int) < 2 ^ 63 := by intro n hn; unfold aP at hn; omega
 have int : ∀ {i t k}, K (.int i) -> ∃ r G', K r /\ GS G s G' { s with toks := k } /\ VRel w.params G' (.int i t) r := fun h => ⟨_, G, h, GS.toks hi _, by simp only [VRel]; exact ⟨_, rfl⟩⟩
 unfold biP at h
 by_cases q1 : name = "len"
 ·rw [if_pos q1] at h
  subst q1
  rw [show i9 "len" = .builtin "len" by decide +kernel]
  obtain ⟨p, rfl, ha⟩ := fG h
  clear h
  obtain ⟨v, rfl, hw⟩ := gC hv
  clear hv
  cases p <;> first | exact False.elim ha | skip
  ·obtain ⟨t, rfl, ok⟩ := zS hw
   exact P.len_str (by rw [b6]; exact Int.not_le.mpr (len2 _ ok.2)) (by rw [b6]; exact int ha)
  ·obtain ⟨a, its, rfl, h1, h2, h3⟩ := LView.isList hw
   exact len_list h1 (len2 _ h2) (by rw [<- Array.length_toList, h3.length]; exact int ha)
 rw [if_neg q1] at h
 by_cases q2 : name = "ord"
 ·rw [if_pos q2] at h
  subst q2
  rw [show i9 "ord" = .builtin "ord" by decide +kernel]
  obtain ⟨p, rfl, ha⟩ := fG h
  clear h
  obtain ⟨x, rfl, hb⟩ := dB ha
  obtain ⟨c, rfl, hc⟩ := fG hb
  obtain ⟨v, rfl, hw⟩ := gC hv
  clear hv
  obtain ⟨t, rfl, ok⟩ := zS hw
  exact P.ord_of_char (int hc)
 rw [if_neg q2] at h
 by_cases q3 : name = "chr"
 ·rw [if_pos q3] at h
  subst q3
  rw [show i9 "chr" = .builtin "chr" by decide +kernel]
  obtain ⟨p, rfl, ha⟩ := fG h
  clear h
  obtain ⟨i, rfl, h0, h1, hk⟩ := b9 ha
  obtain ⟨v, rfl, hw⟩ := gC hv
  clear hv
  obtain ⟨t, rfl⟩ := uA hw
  refine P.chr_of_int (by simp only [Bool.or_eq_false_iff, decide_eq_false_iff_not]; omega) ⟨_, G, hk, GS.toks hi _, ?_⟩
  simp only [VRel]
  exact ⟨_, rfl, qP (by omega)⟩
 rw [if_neg q3] at h
 by_cases q4 : name = "int"
 ·rw [if_pos q4] at h
  subst q4
  rw [show i9 "int" = .type "int" by decide +kernel]
  cases ps with
  | nil => exact False.elim h
  | cons p ps =>
   obtain ⟨x, rfl, hb⟩ := dB (v := p) h
   clear h
   cases ps with
   | nil =>
    cases x with
    | nil => exact False.elim hb
    | cons c x =>
     obtain ⟨hl, h⟩ := hb
     obtain ⟨v, rfl, hw⟩ := gC hv
     clear hv
     obtain ⟨t, rfl, ok⟩ := zS hw
     have hlen : Str.length ⟨(c :: x).toArray⟩ <= 640 := by rw [b6]; exact hl
     rcases h with ⟨rfl, hne, m, hm, hk⟩ | ⟨rfl, hne, m, hm, hk⟩ | ⟨m, hm, hk⟩
     ·exact PySem.W.KIN.call_text (gW (neg := true) (.inl ⟨rfl, rfl⟩) hne hm (by omega)) hlen (int hk)
     ·exact PySem.W.KIN.call_text (gW (neg := false) (.inr (.inl ⟨rfl, rfl⟩)) hne hm (by omega)) hlen (int hk)
     ·exact PySem.W.KIN.call_text (gW (neg := false) (.inr (.inr ⟨rfl, rfl⟩)) (by simp) hm (by simp; omega)) hlen (int hk)
   | cons q ps =>
    obtain ⟨b, e, hc⟩ := fG hb
    cases e
    obtain ⟨i, rfl, rfl, hne, hl, m, hm, hk⟩ := b9 hc
    obtain ⟨v, r, rfl, hv1, v', r', rfl, hv2, rfl⟩ := hv
    obtain ⟨t, rfl, ok⟩ := zS hv1
    obtain ⟨u, rfl⟩ := uA hv2
    refine callType_new F.called_int F.newNe_int (lF _ _) (nB _ _) (fun obj => F.initArgs_range_2 obj _ _) F.entry_int_new (yM (v := u) hl hne hm).meets ?_
    exact (show (Made.int (m : Int)).post _ s from ⟨rfl, _, G, hk, GS.toks hi _, by simp [VRel]⟩)
 rw [if_neg q4] at h
 by_cases q5 : name = "sum"
 ·rw [if_pos q5] at h
  subst q5
  rw [show i9 "sum" = .builtin "sum" by decide +kernel]
  obtain ⟨p, rfl, ha⟩ := fG h
  clear h
  obtain ⟨xs, rfl, is, hm, hk⟩ := pR ha
  obtain ⟨v, rfl, hw⟩ := gC hv
  clear hv
  obtain ⟨a, its, rfl, h1, h2, h3⟩ := LView.isList hw
  obtain ⟨ys, q1, q2⟩ := yF h3 hm
  have hl' : s.heap.IsList a (intItems ys.toArray) := by
   have : its = intItems ys.toArray := by
    apply Array.toList_inj.mp
    rw [q1]; simp [intItems]
   rw [<- this]; exact h1
  refine sum_intListG hA.handled hl' fun h' tk t' hk' => ⟨_, G, hk, GS.heap hi tk hk', ?_⟩
  simp only [VRel]
  refine ⟨t', ?_⟩
  congr 1
  rw [preSum_eq]
  rw [List.take_of_length_le (by simp)]
  rw [<- q2]
 rw [if_neg q5] at h
 by_cases q6 : name = "range"
 ·rw [if_pos q6] at h
  subst q6
  rw [show i9 "range" = .type "range" by decide +kernel]
  cases ps with
  | nil => exact False.elim h
  | cons p ps =>
   obtain ⟨lo, rfl, hb⟩ := b9 (v := p) h
   clear h
   cases ps with
   | nil =>
    obtain ⟨v, rfl, hw⟩ := gC hv
    clear hv
    obtain ⟨t, rfl⟩ := uA hw
    obtain ⟨_, _, h0, h1, hk⟩ := hb
    have g := GS.push hi { cls := .type "range", data := .fields #[.int 0 s.toks, .int lo t, .int 1 (s.toks + 1)] } rfl (s.toks + 1 + 1)
    refine call_range_1 ⟨_, _, hk, g, ?_⟩
    simp only [VRel]
    exact ⟨_, _, _, _, rfl, cH, Int.le_refl _, by decide, h0, h1⟩
   | cons q ps =>
    obtain ⟨b, e, hc⟩ := fG hb
    cases e
    obtain ⟨hi', rfl, h0, h1, h2, h3, hk⟩ := b9 hc
    obtain ⟨v, r, rfl, hv1, v', r', rfl, hv2, rfl⟩ := hv
    obtain ⟨t, rfl⟩ := uA hv1
    obtain ⟨u, rfl⟩ := uA hv2
    have g := GS.push hi { cls := .type "range", data := .fields #[.int lo t, .int hi' u, .int 1 s.toks] } rfl (s.toks + 1)
    refine call_range_2 ⟨_, _, hk, g, ?_⟩
    simp only [VRel]
    exact ⟨_, _, _, _, rfl, cH, h0, h1, h2, h3⟩
 rw [if_neg q6] at h
 exact False.elim h
theorem za8 {v iv dv : Value} {es : List (List Nat × List Nat)} {k : List Nat} {d : PV} (hi : InH G s.heap) (hv : VRel w.params G v (.dict es)) (hk : VRel w.params G iv (.str k)) (hd : VRel w.params G dv d) (hK : K (((es.lookup k).map .str).getD d)) :
  GW (model prog w) A w.params E G s (call (.builtin "dict.get") [v, iv, dv]) K := by
 simp only [VRel] at hk hv
 obtain ⟨t, rfl, _⟩ := hk
 obtain ⟨x, es', n, rfl, hne, hG, hr⟩ := hv
 have hm := zcI (prog := prog) hi hG hr
 have hb' : (x == sysModules) = false := beq_eq_false_iff_ne.mpr hne
 refine wpAny_call (codeAny_call_builtin F.slot_dict_get.plain F.entry_dict_get (F.slot_dict_get.check _ _ _ _ _ _ _ _ hm.typeIs (F.args_dict_get_3 _ _ _)
  (meets_dict_get_default (strKind prog w) x (strKind_is prog w _ t) hb' dv A (wants _ E) s ⟨_, hm, ?_⟩)))
 rcases zbg hr k with ⟨q, t', h1, h2, h3⟩ | ⟨h1, h2⟩
 ·rw [h1] at hK
  show ∃ r G', _
  rw [h2]
  exact ⟨_, G, hK, GS.toks hi _, t', rfl, h3⟩
 ·rw [h1] at hK
  show ∃ r G', _
  rw [h2]
  exact ⟨_, G, hK, GS.toks hi _, hd⟩
theorem kH {α : Type} {xs : List α} {k : Int} {c : α} (h : pY xs k = some c) : seqIndex? k xs.length = some (if k < 0 then k + xs.length else k).toNat /\ xs[(if k < 0 then k + xs.length else k).toNat]? = some c /\ -(xs.length : Int) <= k /\ k < xs.length := by
 unfold pY at h
 unfold seqIndex?
 by_cases h1 : k < 0
 ·rw [if_pos h1] at h
  simp only [if_pos h1]
  split at h
  ·rename_i h2
   have h3 := (List.getElem?_eq_some_iff.mp h).1
   exact ⟨by rw [if_pos (by simp; omega)], h, by omega, by omega⟩
  ·cases h
 ·rw [if_neg h1] at h
  simp only [if_neg h1]
  have h3 := (List.getElem?_eq_some_iff.mp h).1
  exact ⟨by rw [if_pos (by simp; omega)], h, by omega, by omega⟩
theorem zcS {v iv : Value} {x : List Nat} {k : Int} {c : Nat} (hi : InH G s.heap) (hv : VRel w.params G v (.str x)) (hk : VRel w.params G iv (.int k)) (h : pY x k = some c) (hK : K (.str [c])) :
  GW (model prog w) A w.params E G s (getItem v iv) K := by
 simp only [VRel] at hv hk
 obtain ⟨t, rfl, ok⟩ := hv
 obtain ⟨u, rfl⟩ := hk
 obtain ⟨h1, h2, h3, h4⟩ := kH h
 have hz := ok.2
 unfold aP at hz
 refine P.getItem_str (c := c) (by simp only [Bool.or_eq_false_iff, decide_eq_false_iff_not]; omega) ?_ ⟨_, G, hK, GS.toks hi _, ?_⟩
 ·rw [b6, h1]; simpa using h2
 ·simp only [VRel]
  exact ⟨_, rfl, qP (ok.1 c (List.mem_of_getElem? h2))⟩
theorem za1 {v iv : Value} {xs : List PV} {k : Int} {p : PV} (hi : InH G s.heap) (hv : LView w.params G s.heap v xs) (hk : VRel w.params G iv (.int k)) (h : pY xs k = some p) (hK : K p) :
  GW (model prog w) A w.params E G s (getItem v iv) K := by
 simp only [VRel] at hk
 obtain ⟨u, rfl⟩ := hk
 obtain ⟨a, vs, rfl, g1, g2, g3⟩ := hv.isList
 obtain ⟨h1, h2, h3, h4⟩ := kH h
 have hl := g3.length
 simp only [Array.length_toList] at hl
 unfold aP at g2
 obtain ⟨v, e1, e2⟩ := g3.get h2
 have e1' : vs[(if k < 0 then k + xs.length else k).toNat]? = some v := by simpa using e1
 by_cases h0 : k < 0
 ·rw [if_pos h0] at e1'
  exact wpAny_getItem_list_neg g1 h0 (by omega) (by omega) (by rw [hl]; exact e1') ⟨p, G, hK, GS.refl hi, e2⟩
 ·rw [if_neg h0] at e1'
  exact wpAny_getItem_list g1 (by omega) (by omega) e1' ⟨p, G, hK, GS.refl hi, e2⟩
theorem zcR {v iv : Value} {xs : List PV} {k : Int} {p : PV} (hi : InH G s.heap) (hv : VRel w.params G v (.tup xs)) (hk : VRel w.params G iv (.int k)) (h : pY xs k = some p) (hK : K p) :
  GW (model prog w) A w.params E G s (getItem v iv) K := by
 simp only [VRel] at hk hv
 obtain ⟨u, rfl⟩ := hk
 obtain ⟨a, o, vs, n, rfl, g2, g3, g4, g5, g6⟩ := hv
 obtain ⟨h1, h2, h3, h4⟩ := kH h
 have hl := g6.length
 simp only [Array.length_toList] at hl
 unfold aP at g5
 obtain ⟨v, e1, e2⟩ := g6.get h2
 exact getItem_tuple (items := vs) ⟨o, hi _ _ g2, g3, n, g4⟩ (by omega) (by omega) (by rw [hl]; exact h1) (by simpa using e1) ⟨p, G, hK, GS.refl hi, e2⟩
end
theorem o7 (x y : Str) (i j : Int) (t u v z : Tok) : Gives («str.rfind» ⟨[.str x t, .str y u, .int i v, .int j z], []⟩) (.int (match lastOccurrence x y (fromIndex x.length i) (min (fromIndex x.length j) x.length) with | some k => (k : Int) | none => -1)) := by
 show Gives (match lastOccurrence x y (fromIndex x.length i) (min (fromIndex x.length j) x.length) with | some k => retInt k | none => (do rule "str.rfind.not-found"; retInt (-1))) _
 cases lastOccurrence x y (fromIndex x.length i) (min (fromIndex x.length j) x.length) with
 | none => exact .rule (.of_eq rfl)
 | some k => exact .of_eq rfl
theorem o8 (x y : Str) (i j : Int) (t u v z : Tok) : Gives («str.count» ⟨[.str x t, .str y u, .int i v, .int j z], []⟩) (.int (occurrences x y (fromIndex x.length i) (min (fromIndex x.length j) x.length) (x.length + 1)).length) := by
 show Gives (retInt (occurrences x y (fromIndex x.length i) (min (fromIndex x.length j) x.length) (x.length + 1)).length) _
 exact .of_eq rfl
theorem zex (x p : List Nat) (i : Nat) : (decide (i + Str.length ⟨p.toArray⟩ <= Str.length ⟨x.toArray⟩) && subAt ⟨x.toArray⟩ ⟨p.toArray⟩ i) = (decide (i <= x.length) && p.isPrefixOf (x.drop i)) := by
 rw [StrLaws.subAt_eq, b6, b6]
 show (decide (i + p.length <= x.length) && ((x.drop i).take p.length == p)) = _
 by_cases c : p.isPrefixOf (x.drop i) = true
 ·have h1 := m8 c
  rw [List.length_drop] at h1
  have h2 := (fR _ _).mp c
  rw [c, h2, beq_self_eq_true, Bool.and_true, Bool.and_true]
  exact decide_eq_decide.mpr ⟨fun q => Nat.le_trans (Nat.le_add_right _ _) q, fun q => qO q h1⟩
 ·have h2 : ¬ (x.drop i).take p.length = p := fun h => c ((fR _ _).mpr h)
  have h3 : ((x.drop i).take p.length == p) = false := beq_eq_false_iff_ne.mpr h2
  simp only [Bool.not_eq_true] at c
  rw [h3, c, Bool.and_false, Bool.and_false]
section
variable {prog : Program} {w : World} {A : Around} {E : Value -> Shared -> Prop} {s : Shared} {G : GM} {K : PV -> Prop}
theorem sW : ∀ zs : List (List Nat), (Str.join ⟨#[]⟩ (zs.map fun z => ⟨z.toArray⟩)) = ⟨zs.flatten.toArray⟩
 | [] => rfl
 | [x] => by simp [Str.join]
 | x :: y :: r => by
  have ih := sW (y :: r)
  simp only [List.map_cons] at ih ⊢
  simp only [Str.join, ih]
  apply Str.ext'
  simp [Str.cps_append]
theorem wK {vs : List Value} {ys : List Str} (h : StrsAre vs ys) : ∃ l : List (Str × Tok), vs = strValues l /\ l.map (·.1) = ys := by
 induction h with
 | nil => exact ⟨[], rfl, rfl⟩
 | cons y t _ ih =>
  obtain ⟨l, h1, h2⟩ := ih
  exact ⟨(y, t) :: l, by rw [h1]; rfl, by rw [<- h2]; rfl⟩
theorem zdT {v l : Value} {xs : List PV} {zs : List (List Nat)} (hi : InH G s.heap) (hv : VRel w.params G v (.str [])) (hl : LView w.params G s.heap l xs) (hz : gJ xs = some zs) (hs : zs.flatten.length <= aP) (hK : K (.str zs.flatten)) :
  GW (model prog w) A w.params E G s (call (.builtin "str.join") [v, l]) K := by
 simp only [VRel] at hv
 obtain ⟨t, rfl, _⟩ := hv
 obtain ⟨a, vs, rfl, g1, g2, g3⟩ := hl.isList
 obtain ⟨q1, q2⟩ := qD g3 hz
 obtain ⟨ls, e1, e2⟩ := wK q1
 have hl' : s.heap.IsList a (strValues ls).toArray := by rw [<- e1]; simpa using g1
 refine SC.join hl' e2 ?_ fun t' k => ⟨_, G, hK, GS.toks hi _, ?_⟩
 ·unfold JoinOk tooLong
  rw [StrLaws.joinTotal]
  simp only [Bool.not_eq_true', decide_eq_false_iff_not, gt_iff_lt, Nat.not_lt]
  have : ((zs.map fun z => (⟨z.toArray⟩ : Str)).map (·.length)).sum = zs.flatten.length := by
   rw [List.length_flatten, List.map_map]
   exact congrArg List.sum (List.map_congr_left fun z _ => by simp [Str.length])
  rw [this]
  have h0 : (⟨([] : List Nat).toArray⟩ : Str).length = 0 := rfl
  rw [h0, Nat.mul_zero, Nat.add_zero]
  exact hs
 ·simp only [VRel]
  refine ⟨t', ?_, ?_, hs⟩
  ·unfold Txt.join
   rw [StrLaws.glued_eq_join]
   exact congrArg (fun x => Value.str x t') (sW zs)
  ·intro c hc
   obtain ⟨z, hz1, hz2⟩ := List.mem_flatten.mp hc
   exact (q2 z hz1).1 c hz2
noncomputable def dD (name : Str) : String := if name = "startswith" then "str.startswith" else if name = "find" then "str.find" else if name = "rfind" then "str.rfind" else if name = "count" then "str.count" else "str.join"
noncomputable def dR (name : Str) (o : PV) : String := if rD o = true then (if name = "append" then "list.append" else "list.pop") else if isD o = true then "dict.get" else dD name
end
section
variable {P : Params} {G : GM} {env : Env} {st : St} {s : Shared} {cw : Bool}
theorem Rep.setCell (R : Rep P G env st s) {a : Nat} {c c' : Cell} (hσ : st.σ a = some c) {h' : Heap} (hs : Heap.SameBut a s.heap h') (hr : CellRel P G h' a c') {k : Nat} (hk : 1 <= k) :
  Rep P G env ⟨st.ρ, aR st.σ a c'⟩ { s with heap := h', toks := k } /\ Tr cw env G st s G ⟨st.ρ, aR st.σ a c'⟩ { s with heap := h', toks := k } := by
 obtain ⟨h1, h2, h3, h4⟩ := R.cells a c hσ
 have other : ∀ b o, b ≠ a -> s.heap.get? b = some o -> h'.get? b = some o := fun b o hb e => (hs.2 b hb).trans e
 refine ⟨⟨?_, hk, ?_, R.kind, ?_, ?_, R.gl, R.gc, R.cinj, ?_⟩, ⟨.refl _, fun _ _ e => .inl e, ?_, ?_, ?_, ?_, rfl, fun e => e⟩⟩
 ·intro b o e
  refine other b o ?_ (R.inh b o e)
  rintro rfl; rw [h2] at e; cases e
 ·obtain ⟨m, g1, g2⟩ := R.ns
  exact ⟨m, g1.at' fun o e => other _ o (Ne.symm h3) e, g2⟩
 ·intro x p e kk
  obtain ⟨c, v, g1, g2, g3⟩ := R.cel x p e kk
  exact ⟨c, v, g1, bO g2 fun o e => other _ o (by rintro rfl; exact h4 x g1) e, g3⟩
 ·intro x e
  obtain ⟨c, v, g1, g2⟩ := R.cell0 x e
  exact ⟨c, v, g1, bO g2 fun o e => other _ o (by rintro rfl; exact h4 x g1) e⟩
 ·intro b d e
  simp only [aR] at e
  split at e
  ·rename_i q; subst q; cases e; exact ⟨hr, h2, h3, h4⟩
  ·rename_i q
   obtain ⟨g1, g2⟩ := R.cells b d e
   exact ⟨g1.mono (.refl _) fun o e => other b o q e, g2⟩
 ·intro b o e _ _ hb
  refine other b o ?_ e
  rintro rfl; rw [hσ] at hb; cases hb
 ·intro b e
  by_cases q : b = a
  ·subst q; obtain ⟨o, ho⟩ := hr.alive; show (h'.get? b).isSome = true; rw [ho]; rfl
  ·show (h'.get? b).isSome = true; rw [hs.2 b q]; exact e
 ·intro b e; show (aR st.σ a c' b).isSome = true; unfold aR; split; rfl; exact e
 ·intro b e
  left
  simp only [aR] at e
  split at e
  ·rename_i q; subst q; rw [hσ]; rfl
  ·exact e
theorem CellsThere.same {h h' : Heap} (hc : CellsThere env h) {a : Nat} (hs : Heap.SameBut a h h') (ha : (h'.get? a).isSome = true) : CellsThere env h' := fun x c e => by
 obtain ⟨o, ho⟩ := hc x c e
 by_cases q : c = a
 ·subst q; exact Option.isSome_iff_exists.mp ha
 ·exact ⟨o, (hs.2 c q).trans ho⟩
theorem Rep.newCell (R : Rep P G env st s) (hct : CellsThere env s.heap) {vs : List Value} {xs : List PV} (hr : VRels P G vs xs) (hz : vs.length <= aP) {k : Nat} (hk : 1 <= k) :
  st.σ s.heap.objs.size = none /\ Rep P G env ⟨st.ρ, aR st.σ s.heap.objs.size (.lst xs)⟩ { s with heap := s.heap.push { cls := .type "list", data := .seq vs.toArray }, toks := k } /\
   CellsThere env (s.heap.push { cls := .type "list", data := .seq vs.toArray }) /\
   Tr cw env G st s G ⟨st.ρ, aR st.σ s.heap.objs.size (.lst xs)⟩ { s with heap := s.heap.push { cls := .type "list", data := .seq vs.toArray }, toks := k } := by
 have nw : ∀ o, s.heap.get? s.heap.objs.size ≠ some o := fun o e => absurd (Heap.lt_size e) (Nat.lt_irrefl _)
 have nw' : s.heap.get? s.heap.objs.size = none := by
  cases e : s.heap.get? s.heap.objs.size with
  | none => rfl
  | some o => exact absurd e (nw o)
 have hσ : st.σ s.heap.objs.size = none := by
  cases e : st.σ s.heap.objs.size with
  | none => rfl
  | some c => obtain ⟨h1, _⟩ := R.cells _ c e; obtain ⟨o, ho⟩ := h1.alive; exact absurd ho (nw o)
 have kp : ∀ b o, s.heap.get? b = some o -> (s.heap.push { cls := .type "list", data := .seq vs.toArray }).get? b = some o := fun b o e => Heap.get?_push_of_some _ e
 refine ⟨hσ, ⟨fun b o e => kp b o (R.inh b o e), hk, ?_, R.kind, ?_, ?_, R.gl, R.gc, R.cinj, ?_⟩, ?_, ⟨.refl _, fun _ _ e => .inl e, fun b o e _ _ _ => kp b o e, ?_, ?_, ?_, rfl, fun e => e⟩⟩
 ·obtain ⟨m, g1, g2⟩ := R.ns
  exact ⟨m, g1.at' fun o e => kp _ o e, g2⟩
 ·intro x p e kk
  obtain ⟨c, v, g1, g2, g3⟩ := R.cel x p e kk
  exact ⟨c, v, g1, bO g2 fun o e => kp _ o e, g3⟩
 ·intro x e
  obtain ⟨c, v, g1, g2⟩ := R.cell0 x e
  exact ⟨c, v, g1, bO g2 fun o e => kp _ o e⟩
 ·intro b d e
  simp only [aR] at e
  split at e
  ·rename_i q; subst q; cases e
   refine ⟨⟨vs.toArray, 0, Heap.get?_push_size _ rfl, by simpa using hz, by simpa using hr⟩, ?_, ?_, ?_⟩
   ·cases e : G s.heap.objs.size with
    | none => rfl
    | some o => exact absurd (R.inh _ _ e) (nw o)
   ·obtain ⟨m, ⟨o, _, _, g1, _⟩, _⟩ := R.ns
    intro q; rw [<- q] at g1; exact nw o g1
   ·intro x e
    obtain ⟨o, ho⟩ := hct x _ e
    exact nw o ho
  ·obtain ⟨g1, g2⟩ := R.cells b d e
   exact ⟨g1.mono (.refl _) fun o e => kp b o e, g2⟩
 ·intro x c e
  obtain ⟨o, ho⟩ := hct x c e
  exact ⟨o, kp c o ho⟩
 ·intro b e
  obtain ⟨o, ho⟩ := Option.isSome_iff_exists.mp e
  show ((s.heap.push _).get? b).isSome = true
  rw [kp b o ho]; rfl
 ·intro b e; show (aR st.σ _ _ b).isSome = true; unfold aR; split; rfl; exact e
 ·intro b e
  simp only [aR] at e
  split at e
  ·rename_i q; subst q; exact .inr nw'
  ·exact .inl e
end
section
variable {prog : Program} {w : World} {A : Around} {E : Value -> Shared -> Prop} {s : Shared} {G : GM} {env : Env} {st : St} {cw : Bool} {Q : PV -> St -> Prop}
theorem y3 (R : Rep w.params G env st s) : ∀ {vs : List Value} {ps : List PV}, VRels w.params G vs ps -> vV w.params G s.heap vs (ps.map (der st.σ))
 | vs, [], h => by simp only [VRels] at h; subst h; simp [vV]
 | vs, p :: ps, h => by
  simp only [VRels] at h
  obtain ⟨v, r, rfl, h1, h2⟩ := h
  simp only [List.map_cons, vV]
  exact ⟨v, r, rfl, R.view h1, y3 R h2⟩
theorem zcG {n : Nat} (hA : Room n A) (R : Rep w.params G env st s) (hct : CellsThere env s.heap) {name : Str} {v : Value} {o : PV} {vs : List Value} {ps : List PV}
  (hv : VRel w.params G v o) (hs : VRels w.params G vs ps) (h : eG st.σ name o ps fun r σ' => Q r ⟨st.ρ, σ'⟩) :
  wpAny (model prog w) A (call (.builtin (dR name o)) (v :: vs)) (ze0 w.params cw env G st s Q) E s := by
 have dec : ∀ (i : Int) (n : Nat), 0 <= i -> decide (i.toNat <= n) = decide (i <= n) := fun i n h => decide_eq_decide.mpr (by omega)
 have vS : ∀ {v : Value} {x : List Nat}, VRel w.params G v (.str x) -> ∃ t, v = .str ⟨x.toArray⟩ t := fun h => by simp only [VRel] at h; obtain ⟨t, e, _⟩ := h; exact ⟨t, e⟩
 have vI : ∀ {v : Value} {i : Int}, VRel w.params G v (.int i) -> ∃ t, v = .int i t := fun h => by simpa only [VRel] using h
 unfold eG at h
 by_cases q1 : name = "append"
 ·rw [if_pos q1] at h
  obtain ⟨a, rfl, ha⟩ := pQ h
  obtain ⟨p, rfl, xs, h1, h2, hq⟩ := fG ha
  clear h ha
  simp only [VRel] at hv; subst hv
  obtain ⟨u, r, rfl, hu, rfl⟩ := hs
  obtain ⟨⟨its, m, g1, g2, g3⟩, g4, g5, g6⟩ := R.cells a _ h1
  have hl := g3.length
  rw [Array.length_toList] at hl
  rw [show dR name (.ptr a) = "list.append" from (if_pos rfl).trans (if_pos q1)]
  refine wpAny_list_append_plain ⟨m, g1⟩ (fun h' hp hsb => ?_) g2
  obtain ⟨m', hp⟩ := hp
  have cr : CellRel w.params G h' a (.lst (xs ++ [p])) := ⟨_, m', hp, by rw [Array.size_push, hl]; exact h2, by rw [Array.toList_push]; exact g3.append (VRels.one hu)⟩
  obtain ⟨R', T'⟩ := R.setCell (cw := cw) h1 hsb cr R.tk
  exact ⟨.none, G, _, hq, R', hct.same hsb (by obtain ⟨o, ho⟩ := cr.alive; rw [ho]; rfl), T', by simp only [VRel]⟩
 rw [if_neg q1] at h
 clear q1
 by_cases q1 : name = "startswith"
 ·rw [if_pos q1] at h
  subst q1
  obtain ⟨x, rfl, ha⟩ := dB h
  obtain ⟨p, j, rfl, hb⟩ := n6 ha
  obtain ⟨i, rfl, h0, h1, hq⟩ := b9 hb
  clear h ha hb
  rw [show dR "startswith" (.str x) = "str.startswith" from (by decide +kernel : dD "startswith" = "str.startswith")]
  obtain ⟨t, rfl⟩ := vS hv
  obtain ⟨u, r, rfl, hu, u', r', rfl, hi, rfl⟩ := hs
  obtain ⟨t', rfl⟩ := vI hi
  obtain ⟨p, rfl, hq⟩ := dB hq
  obtain ⟨t'', rfl⟩ := vS hu
  refine iZ R hct (d9 R.inh hq fun Q q => SC.startswith3 ?_)
  unfold Txt.startswith3
  rw [dF _ _ h0, zex, dec _ _ h0]; exact q
 rw [if_neg q1] at h
 clear q1
 by_cases q1 : name = "find"
 ·rw [if_pos q1] at h
  subst q1
  obtain ⟨x, rfl, ha⟩ := dB h
  obtain ⟨p, j, rfl, hb⟩ := n6 ha
  obtain ⟨p, rfl, hc⟩ := dB hb
  obtain ⟨i, rfl, h0, h1, hq⟩ := b9 hc
  clear h ha hb hc
  rw [show dR "find" (.str x) = "str.find" from (by decide +kernel : dD "find" = "str.find")]
  obtain ⟨t, rfl⟩ := vS hv
  obtain ⟨u, r, rfl, hu, u', r', rfl, hi, rfl⟩ := hs
  obtain ⟨t', rfl⟩ := vI hi
  obtain ⟨t'', rfl⟩ := vS hu
  exact iZ R hct (l6 R.inh hq fun Q q => SC.find3 (by rw [zbh _ _ _ h0]; exact q))
 rw [if_neg q1] at h
 clear q1
 have mQ : ∀ {K : Nat -> Int -> Int -> Prop}, zdC ps K -> ∃ c i j t u z, vs = [.str ⟨#[c]⟩ t, .int i u, .int j z] /\ 0 <= i /\ 0 <= j /\ K c i j := fun h => by
  obtain ⟨p, a, b, rfl, ha⟩ := mP h
  obtain ⟨p, rfl, hb⟩ := dB ha
  obtain ⟨c, rfl, hc⟩ := fG hb
  obtain ⟨i, rfl, hd⟩ := b9 hc
  obtain ⟨j, rfl, h0, _, h1, _, hq⟩ := b9 hd
  obtain ⟨u, r, rfl, k1, u', r', rfl, k2, u'', r'', rfl, k3, rfl⟩ := hs
  obtain ⟨t, rfl⟩ := vS k1
  obtain ⟨t', rfl⟩ := vI k2
  obtain ⟨t'', rfl⟩ := vI k3
  exact ⟨c, i, j, _, _, _, rfl, h0, h1, hq⟩
 by_cases q1 : name = "rfind"
 ·rw [if_pos q1] at h
  subst q1
  obtain ⟨x, rfl, ha⟩ := dB h
  obtain ⟨c, i, j, _, _, _, rfl, h0, h1, hq⟩ := mQ ha
  rw [show dR "rfind" (.str x) = "str.rfind" from (by decide +kernel : dD "rfind" = "str.rfind")]
  obtain ⟨t, rfl⟩ := vS hv
  refine iZ R hct (l6 R.inh hq fun Q q => call_gives F.slot_str_rfind (typeIs_str _ _ _) F.entry_str_rfind (F.args_str_rfind_4 _ _ _ _) (o7 _ _ _ _ _ _ _ _) ?_)
  rw [dF _ _ h0, dF _ _ h1, b6]
  rw [<- zaC x c i.toNat j.toNat] at q
  exact q
 rw [if_neg q1] at h
 clear q1
 by_cases q1 : name = "count"
 ·rw [if_pos q1] at h
  subst q1
  obtain ⟨x, rfl, ha⟩ := dB h
  obtain ⟨c, i, j, _, _, _, rfl, h0, h1, hq⟩ := mQ ha
  rw [show dR "count" (.str x) = "str.count" from (by decide +kernel : dD "count" = "str.count")]
  obtain ⟨t, rfl⟩ := vS hv
  refine iZ R hct (l6 R.inh hq fun Q q => call_gives F.slot_str_count (typeIs_str _ _ _) F.entry_str_count (F.args_str_count_4 _ _ _ _) (o8 _ _ _ _ _ _ _ _) ?_)
  rw [dF _ _ h0, dF _ _ h1, b6]
  rw [zbm x c i.toNat j.toNat]
  exact q
 rw [if_neg q1] at h
 clear q1 mQ
 by_cases q1 : name = "join"
 ·rw [if_pos q1] at h
  subst q1
  obtain ⟨x, rfl, rfl, ha⟩ := dB h
  obtain ⟨l, rfl, hb⟩ := fG ha
  obtain ⟨xs, e, zs, hz, hl, hq⟩ := pR hb
  clear h ha hb
  rw [show dR "join" (.str []) = "str.join" from (by decide +kernel : dD "join" = "str.join")]
  obtain ⟨u, r, rfl, hl', rfl⟩ := hs
  have hl' := R.view hl'
  rw [e] at hl'
  exact iZ R hct (zdT R.inh hv hl' hz hl hq)
 rw [if_neg q1] at h
 clear q1
 by_cases q1 : name = "pop"
 ·rw [if_pos q1] at h
  subst q1
  obtain ⟨a, rfl, rfl, xs, p, h1, hq⟩ := pQ h
  clear h
  simp only [VRel] at hv; subst hv
  have hs : vs = [] := hs
  subst hs
  rw [show dR "pop" (.ptr a) = "list.pop" from (by decide +kernel : (if Str.ofString "pop" = Str.ofString "append" then "list.append" else "list.pop") = "list.pop")]
  obtain ⟨⟨its, m, g1, g2, g3⟩, g4, g5, g6⟩ := R.cells a _ h1
  have hl := g3.length
  simp only [Array.length_toList, List.length_append, List.length_cons, List.length_nil] at hl
  obtain ⟨y, hy, ry⟩ := g3.get (i := xs.length) (p := p) (by simp)
  have hy' : its[its.size - 1]? = some y := by
   rw [show its.size - 1 = xs.length by omega]; simpa using hy
  refine call_meets F.slot_list_pop ⟨_, g1, rfl⟩ F.entry_list_pop (F.args_list_pop_1 _) (MeetsSeq.list_pop_last a its m y hy' g2) ⟨g1, ?_⟩
  have hsz : its.eraseIdxIfInBounds (its.size - 1) = its.pop := by
   unfold Array.eraseIdxIfInBounds
   rw [dif_pos (by omega)]
   apply Array.toList_inj.mp
   rw [Array.toList_eraseIdx, Array.toList_pop, List.dropLast_eq_take]
   simp only [Array.length_toList]
   rw [List.eraseIdx_eq_take_drop_succ]
   rw [List.drop_eq_nil_of_le (by simp; omega), List.append_nil]
  have hsb : Heap.SameBut a s.heap (s.heap.update a (Obj.mapSeq fun xs => xs.eraseIdxIfInBounds (its.size - 1))) := Heap.SameBut.update ..
  have cr : CellRel w.params G (s.heap.update a (Obj.mapSeq fun xs => xs.eraseIdxIfInBounds (its.size - 1))) a (.lst xs) := by
   refine ⟨its.pop, (if its.pop.size == its.size then m else m + 1), ?_, ?_, ?_⟩
   ·rw [Heap.get?_update_self _ g1 (by simp only [Obj.mapSeq]; rfl)]
    simp only [Obj.mapSeq, hsz]
   ·simp only [Array.size_pop]; unfold aP at *; omega
   ·have := g3.take xs.length
    rw [List.take_left'] at this
    ·rw [Array.toList_pop, List.dropLast_eq_take]
     simp only [Array.length_toList]
     rw [show its.size - 1 = xs.length by omega]; exact this
    ·rfl
  obtain ⟨R', T'⟩ := R.setCell (cw := cw) h1 hsb cr R.tk
  exact ⟨p, G, _, hq, R', hct.same hsb (by obtain ⟨o, ho⟩ := cr.alive; rw [ho]; rfl), T', ry⟩
 rw [if_neg q1] at h
 clear q1
 by_cases q1 : name = "get"
 ·rw [if_pos q1] at h
  subst q1
  obtain ⟨es, rfl, ha⟩ := zb8 h
  obtain ⟨k, d, rfl, hb⟩ := n6 ha
  obtain ⟨k, rfl, hq⟩ := dB hb
  clear h ha hb
  rw [show dR "get" (.dict es) = "dict.get" from rfl]
  obtain ⟨u, r, rfl, hu, u', r', rfl, hd, rfl⟩ := hs
  exact iZ R hct (za8 R.inh hv hu hd hq)
 rw [if_neg q1] at h
 exact False.elim h
end
noncomputable def aX (F : Fn) : Prop := ∀ ps (K K' : PV -> Prop), (∀ p, K p -> K' p) -> F ps K -> F ps K'
structure CtxMono (C : Ctx) : Prop where
 fn : ∀ x F, C.fn x = some F -> aX F
 cls : ∀ x F, C.cls x = some F -> aX F
theorem dW {d n : Prop} {b : Bool -> Prop} {i : Int -> Prop} {s : List Nat -> Prop} {t l : List PV -> Prop} {p : Nat -> Prop} {d' n' : Prop} {b' : Bool -> Prop} {i' : Int -> Prop} {s' : List Nat -> Prop} {t' l' : List PV -> Prop} {p' : Nat -> Prop}
  (hd : d -> d') (hn : n -> n') (hb : ∀ x, b x -> b' x) (hi : ∀ x, i x -> i' x) (hs : ∀ x, s x -> s' x) (ht : ∀ x, t x -> t' x) (hl : ∀ x, l x -> l' x) (hp : ∀ x, p x -> p' x) {v : PV} (x : pvc d n b i s t l p v) : pvc d' n' b' i' s' t' l' p' v := by
 cases v
 ·exact hn x
 ·exact hb _ x
 ·exact hi _ x
 ·exact hs _ x
 ·exact ht _ x
 ·exact hl _ x
 ·exact hd x
 ·exact hd x
 ·exact hp _ x
 ·exact hd x
theorem pS {a b : PV} {K K' : PV -> Prop} (h : ∀ p, K p -> K' p) : zej a b K -> zej a b K' :=
 dW id id (fun _ => id) (fun _ => aY fun _ => h _) (fun _ => bM fun _ x => ⟨x.1, h _ x.2⟩) (fun _ => id) (fun _ => id) fun _ => id
theorem n9 {a b : PV} {K K' : PV -> Prop} (h : ∀ p, K p -> K' p) : zep a b K -> zep a b K' := aY fun _ => aY fun _ => h _
theorem aU {c : Prop} [Decidable c] {A B A' B' : Prop} (h : A -> A') (k : B -> B') (x : if c then A else B) : if c then A' else B' := by
 by_cases q : c
 ·rw [if_pos q] at x ⊢; exact h x
 ·rw [if_neg q] at x ⊢; exact k x
theorem zF {op : Operator} {a b : PV} {K K' : PV -> Prop} (h : ∀ p, K p -> K' p) (x : zes op a b K) : zes op a b K' := by
 cases op <;> first | exact False.elim x | skip
 ·exact aU (jU fun _ => jU fun _ y => ⟨y.1, h _ y.2⟩) (pS h) x
 ·exact n9 h x
 ·exact bM (fun _ => aY fun _ y => ⟨y.1, y.2.1, y.2.2.1, h _ y.2.2.2⟩) x
 ·exact aY (fun _ => aY fun _ y => ⟨y.1, h _ y.2⟩) x
 ·exact aY (fun _ => aY fun _ y => ⟨y.1, y.2.1, h _ y.2.2⟩) x
theorem za0 {op : Operator} {a b : PV} {K K' : PV -> Prop} (h : ∀ p, K p -> K' p) (x : inP op a b K) : inP op a b K' := by
 cases op <;> first | exact False.elim x | skip
 ·exact pS h x
 ·exact n9 h x
theorem tM {σ : Nat -> Option Cell} {a b : PV} {K K' : Bool -> Prop} (h : ∀ p, K p -> K' p) (x : eqW σ a b K) : eqW σ a b K' := by
 exact eV (fun ⟨ta, tb, h1, h2, h3, h4, h5, h6⟩ => ⟨ta, tb, h1, h2, h3, h4, h5, h _ h6⟩) h x
theorem sX {a b : PV} {K K' : Bool -> Prop} (h : ∀ p, K p -> K' p) : isW a b K -> isW a b K' :=
 dW id (dW id (h _) (fun _ => id) (fun _ => h _) (fun _ => id) (fun _ => id) (fun _ => id) fun _ => id) (fun _ => dW id id (fun _ => h _) (fun _ => id) (fun _ => id) (fun _ => id) (fun _ => id) fun _ => id)
  (fun _ => id) (fun _ => id) (fun _ => id) (fun _ => id) fun _ => id
theorem sZ {a b : PV} {K K' : Bool -> Prop} (h : ∀ p, K p -> K' p) : inW a b K -> inW a b K' :=
 bM fun _ => dW id id (fun _ => id) (fun _ => id) (fun _ => h _) (fun _ ⟨z, h1, h2⟩ => ⟨z, h1, h _ h2⟩) (fun _ => id) fun _ => id
theorem kY {σ : Nat -> Option Cell} {op : CmpOp} {a b : PV} {K K' : Bool -> Prop} (h : ∀ p, K p -> K' p) (x : zb3 σ op a b K) : zb3 σ op a b K' := by
 cases op
 ·exact tM h x
 ·exact tM (fun _ => h _) x
 ·exact aY (fun _ => aY fun _ => h _) x
 ·exact dW id id (fun _ => id) (fun _ => aY fun _ => h _) (fun _ => bM fun _ => h _) (fun _ => id) (fun _ => id) (fun _ => id) x
 ·exact aY (fun _ => aY fun _ => h _) x
 ·exact x
 ·exact sX h x
 ·exact sX (fun _ => h _) x
 ·exact sZ h x
 ·exact sZ (fun _ => h _) x
theorem tW {name : Str} {ps : List PV} {K K' : PV -> Prop} (h : ∀ p, K p -> K' p) : biP name ps K -> biP name ps K' := by
 have rg : ∀ {a b}, zeq a b K -> zeq a b K' := fun ⟨a, b, c, d, e⟩ => ⟨a, b, c, d, h _ e⟩
 refine aU (dH fun _ => dW id id (fun _ => id) (fun _ => id) (fun _ => h _) (fun _ => id) (fun _ => h _) fun _ => id) (aU (dH fun _ => bM fun _ => dH fun _ => h _) (aU (dH fun _ => aY fun _ x => ⟨x.1, x.2.1, h _ x.2.2⟩)
  (aU (fun x => ?_) (aU (dH fun _ => jU fun _ ⟨n, h3, h4⟩ => ⟨n, h3, h _ h4⟩) (aU (fun x => ?_) id)))))
 ·cases ps with
  | nil => exact x
  | cons a r =>
   refine bM (fun z y => ?_) x
   cases r with
   | nil =>
    cases z with
    | nil => exact y
    | cons c x => exact ⟨y.1, y.2.imp (fun ⟨h1, h2, n, h3, h4⟩ => ⟨h1, h2, n, h3, h _ h4⟩) (Or.imp (fun ⟨h1, h2, n, h3, h4⟩ => ⟨h1, h2, n, h3, h _ h4⟩) fun ⟨n, h3, h4⟩ => ⟨n, h3, h _ h4⟩)⟩
   | cons b r => exact dH (fun _ => aY fun _ ⟨h1, h2, h3, n, h4, h5⟩ => ⟨h1, h2, h3, n, h4, h _ h5⟩) y
 ·cases ps with
  | nil => exact x
  | cons a r =>
   refine aY (fun i x => ?_) x
   cases r with
   | nil => exact rg x
   | cons b r => exact dH (fun _ => aY fun _ => rg) x
theorem lZ {σ : Nat -> Option Cell} {name : Str} {o : PV} {ps : List PV} {K K' : PV -> (Nat -> Option Cell) -> Prop} (h : ∀ p s, K p s -> K' p s) : eG σ name o ps K -> eG σ name o ps K' := by
 have s3 : ∀ {K K' : Nat -> Int -> Int -> Prop}, (∀ c i j, K c i j -> K' c i j) -> zdC ps K -> zdC ps K' := fun k => lP fun _ _ _ => bM fun _ => dH fun _ => aY fun _ => aY fun _ ⟨a, b, c, d, e⟩ => ⟨a, b, c, d, k _ _ _ e⟩
 exact aU (jT fun _ => dH fun _ ⟨xs, h1, h2, h3⟩ => ⟨xs, h1, h2, h _ _ h3⟩)
  (aU (bM fun _ => mM fun _ _ => aY fun _ ⟨a, b, c⟩ => ⟨a, b, bM (fun _ => h _ _) c⟩)
  (aU (bM fun _ => mM fun _ _ => bM fun _ => aY fun _ ⟨a, b, c⟩ => ⟨a, b, h _ _ c⟩)
  (aU (bM fun _ => s3 fun _ _ _ => h _ _) (aU (bM fun _ => s3 fun _ _ _ => h _ _) (aU (bM fun _ ⟨e, x⟩ => ⟨e, dH (fun _ => jU fun _ ⟨z, h1, h2, h3⟩ => ⟨z, h1, h2, h _ _ h3⟩) x⟩) (aU (jT fun _ ⟨e, xs, v, h1, h2⟩ => ⟨e, xs, v, h1, h _ _ h2⟩) (aU (zbw fun _ => mM fun _ _ => bM fun _ => h _ _) id)))))))
theorem iD {C : Ctx} {pos : Pos} {vs : List PV} {Q Q' : PV -> St -> Prop} {st : St} (h : ∀ p s, Q p s -> Q' p s) : bF C pos vs Q st -> bF C pos vs Q' st :=
 aU (fun x a e => h _ _ (x a e)) (h _ _)
theorem fC {I : (Bool -> St -> Prop) -> St -> Prop} {El : (PV -> St -> Prop) -> St -> Prop} {tgt : Expr} {ρ0 : dG} {Q Q' : List PV -> (Nat -> Option Cell) -> Prop}
  (hI : ∀ K K' s, (∀ b s, K b s -> K' b s) -> I K s -> I K' s) (hE : ∀ K K' s, (∀ p s, K p s -> K' p s) -> El K s -> El K' s) (h : ∀ vs σ, Q vs σ -> Q' vs σ) :
  ∀ (items acc : List PV) (σ : Nat -> Option Cell), cG I El tgt ρ0 Q items acc σ -> cG I El tgt ρ0 Q' items acc σ
 | [], acc, σ, x => h _ _ x
 | _ :: vs, _, _, x => aZ (fun _ => hI _ _ _ fun _ _ => aU (hE _ _ _ fun _ _ => fC hI hE h vs _ _) (fC hI hE h vs _ _)) x
theorem f9 {K K' : Bool -> St -> Prop} (h : ∀ b s, K b s -> K' b s) (v : PV) (st : St) : tst K v st -> tst K' v st := aZ fun _ => h _ _
theorem zW {op : UnaryOp} {v : PV} {K K' : PV -> Prop} (h : ∀ p, K p -> K' p) (x : unP op v K) : unP op v K' := by
 cases op
 ·exact x
 ·exact aZ (fun _ => h _) x
 ·exact x
 ·exact aY (fun _ => h _) x
theorem uO {name p q : Str} {v : PV} {K K' : PV -> Prop} (h : ∀ p, K p -> K' p) : zaD name p q v K -> zaD name p q v K' :=
 bM fun _ x => ⟨x.1, x.2.1, x.2.2.1, x.2.2.2.1, x.2.2.2.2.1, h _ x.2.2.2.2.2⟩
theorem vR {C : Ctx} {n : Str} {v : PV} {K K' : PV -> Prop} (h : ∀ p, K p -> K' p) (x : zbu C n v K) : zbu C n v K' := by
 cases v <;> first | exact False.elim x | skip
 exact eV (aZ h) (fun _ => aZ h) x
theorem w7 {v : PV} {lo hi : Option Int} {K K' : PV -> Prop} (h : ∀ p, K p -> K' p) : zct v lo hi K -> zct v lo hi K' :=
 dW id id (fun _ => id) (fun _ => id) (fun _ => h _) (fun _ => id) (fun _ => h _) fun _ => id
theorem o0 {v i : PV} {K K' : PV -> Prop} (h : ∀ p, K p -> K' p) : zbP v i K -> zbP v i K' :=
 aY fun _ => dW id id (fun _ => id) (fun _ => id) (fun _ => aZ fun _ => h _) (fun _ => aZ h) (fun _ => aZ h) fun _ => id
theorem vP {C : Ctx} (M : CtxMono C) {f : Str} {vs : List PV} {st : St} {K K' : PV -> Prop} (h : ∀ p, K p -> K' p) (x : jO C f vs st K) : jO C f vs st K' := by
 unfold jO at x ⊢
 cases e : C.fn f with
 | some F => rw [e] at x; exact M.fn _ _ e _ _ _ (fun p q => ⟨q.1, h _ q.2⟩) x
 | none =>
  rw [e] at x
  cases e : C.cls f with
  | some F => rw [e] at x; exact M.cls _ _ e _ _ _ h x
  | none => rw [e] at x; exact ⟨x.1, tW h x.2⟩
mutual
theorem aV {C : Ctx} (M : CtxMono C) : ∀ (e : Expr) {κ : Kn} {Q Q' : PV -> St -> Prop} {st : St}, (∀ p s, Q p s -> Q' p s) -> wE C e κ Q st -> wE C e κ Q' st
 | .Constant _ _ _, _, _, _, _, h, x => aZ (fun _ => h _ _) x
 | .Name _ _, _, _, _, _, h, x => aU (aZ fun _ => h _ _) (aZ fun _ => h _ _) x
 | .BoolOp _ vs _, _, _, _, _, h, x => r9 M vs h x
 | .BinOp l _ r _, _, _, _, _, h, x => aV M l (fun _ _ => aV M r fun _ _ => zF fun _ => h _ _) x
 | .UnaryOp _ y _, _, _, _, _, h, x => aV M y (fun _ _ => zW fun _ => h _ _) x
 | .IfExp t b o _, _, _, _, _, h, x => aV M t (f9 fun _ _ => aU (aV M b h) (aV M o h)) x
 | .Compare l _ cs _, _, _, _, _, h, x => aV M l (fun _ _ => r8 M cs h) x
 | .Call f args _ _, κ, Q, Q', st, h, x => ⟨x.1, eV (aZ fun _ ⟨a, b, c⟩ => ⟨a, b, bZ M args (fun _ _ => vP M fun _ => h _ _) c⟩)
   (fun _ => eV (v7 M f fun _ _ ⟨a, b⟩ => ⟨a, bZ M args (fun _ _ => lZ fun _ _ => h _ _) b⟩) fun _ => v7 M f fun _ _ => uO fun _ => h _ _) x.2⟩
 | .Attribute o _ _, _, _, _, _, h, x => aV M o (fun _ _ => vR fun _ => h _ _) x
 | .Subscript o i _, _, _, _, _, h, x => aV M o (fun _ _ => aU (zR M i fun _ _ _ => w7 fun _ => h _ _) (aV M i fun _ _ => o0 fun _ => h _ _)) x
 | .List es _, _, _, _, _, h, x => bZ M es (fun _ _ => iD h) x
 | .Tuple es _ _, _, _, _, _, h, x => bZ M es (fun _ _ => h _ _) x
 | .Dict ks vs _, _, _, _, _, h, x => aZ (fun _ => h _ _) x
 | .ListComp elt gens sc p, κ, Q, Q', st, h, x => match gens, x with
  | [⟨_, iter, ifs, _⟩], x => ⟨x.1, x.2.1, x.2.2.1, aV M iter (fun _ _ => aZ fun _ y => ⟨y.1, fC (I := fun K s' => wIf C ifs (cS sc.names) K s') (El := fun K s' => wE C elt (cS sc.names) K s') (fun _ _ _ k z => r5 M ifs k z) (fun _ _ _ k z => aV M elt k z) (fun _ _ z => iD h z) _ _ _ y.2⟩) x.2.2.2⟩
  | [], x => False.elim x
  | ⟨_, _, _, _⟩ :: _ :: _, x => False.elim x
 | .NamedExpr _ _ _, _, _, _, _, _, x => x
 | .Lambda _ _ _ _, _, _, _, _, _, x => x
 | .Set _ _ _, _, _, _, _, _, x => x
 | .SetComp _ _ _ _, _, _, _, _, _, x => x
 | .DictComp _ _ _ _ _, _, _, _, _, _, x => x
 | .GeneratorExp _ _ _ _, _, _, _, _, _, x => x
 | .Await _ _, _, _, _, _, _, x => x
 | .Yield _ _, _, _, _, _, _, x => x
 | .YieldFrom _ _, _, _, _, _, _, x => x
 | .FormattedValue _ _ _ _, _, _, _, _, _, x => x
 | .JoinedStr _ _, _, _, _, _, _, x => x
 | .Starred _ _, _, _, _, _, _, x => x
 | .Slice _ _ _ _, _, _, _, _, _, x => x
theorem bZ {C : Ctx} (M : CtxMono C) : ∀ (es : List Expr) {κ : Kn} {Q Q' : List PV -> St -> Prop} {st : St}, (∀ p s, Q p s -> Q' p s) -> wEs C es κ Q st -> wEs C es κ Q' st
 | [], _, _, _, _, h, x => h _ _ x
 | e :: es, _, _, _, _, h, x => aV M e (fun _ _ => bZ M es fun _ _ => h _ _) x
theorem r4 {C : Ctx} (M : CtxMono C) : ∀ (e : Option Expr) {κ : Kn} {Q Q' : Option Int -> St -> Prop} {st : St}, (∀ p s, Q p s -> Q' p s) -> wOp C e κ Q st -> wOp C e κ Q' st
 | none, _, _, _, _, h, x => h _ _ x
 | some e, _, _, _, _, h, x => aV M e (fun _ _ => aY fun _ y => ⟨y.1, y.2.1, h _ _ y.2.2⟩) x
theorem v7 {C : Ctx} (M : CtxMono C) : ∀ (e : Expr) {κ : Kn} {Q Q' : PV -> St -> Prop} {st : St}, (∀ p s, Q p s -> Q' p s) -> wA C e κ Q st -> wA C e κ Q' st
 | .Attribute o _ _, _, _, _, _, h, x => aV M o h x
 | .BoolOp _ _ _, _, _, _, _, _, x => x
 | .NamedExpr _ _ _, _, _, _, _, _, x => x
 | .BinOp _ _ _ _, _, _, _, _, _, x => x
 | .UnaryOp _ _ _, _, _, _, _, _, x => x
 | .Lambda _ _ _ _, _, _, _, _, _, x => x
 | .IfExp _ _ _ _, _, _, _, _, _, x => x
 | .Dict _ _ _, _, _, _, _, _, x => x
 | .Set _ _ _, _, _, _, _, _, x => x
 | .ListComp _ _ _ _, _, _, _, _, _, x => x
 | .SetComp _ _ _ _, _, _, _, _, _, x => x
 | .DictComp _ _ _ _ _, _, _, _, _, _, x => x
 | .GeneratorExp _ _ _ _, _, _, _, _, _, x => x
 | .Await _ _, _, _, _, _, _, x => x
 | .Yield _ _, _, _, _, _, _, x => x
 | .YieldFrom _ _, _, _, _, _, _, x => x
 | .Compare _ _ _ _, _, _, _, _, _, x => x
 | .Call _ _ _ _, _, _, _, _, _, x => x
 | .FormattedValue _ _ _ _, _, _, _, _, _, x => x
 | .JoinedStr _ _, _, _, _, _, _, x => x
 | .Constant _ _ _, _, _, _, _, _, x => x
 | .Subscript _ _ _, _, _, _, _, _, x => x
 | .Starred _ _, _, _, _, _, _, x => x
 | .Name _ _, _, _, _, _, _, x => x
 | .List _ _, _, _, _, _, _, x => x
 | .Tuple _ _ _, _, _, _, _, _, x => x
 | .Slice _ _ _ _, _, _, _, _, _, x => x
theorem zR {C : Ctx} (M : CtxMono C) : ∀ (e : Expr) {κ : Kn} {Q Q' : Option Int -> Option Int -> St -> Prop} {st : St}, (∀ p q s, Q p q s -> Q' p q s) -> wSl C e κ Q st -> wSl C e κ Q' st
 | .Slice l u _ _, _, _, _, _, h, x => ⟨x.1, r4 M l (fun _ _ => r4 M u fun _ _ => h _ _ _) x.2⟩
 | .BoolOp _ _ _, _, _, _, _, _, x => x
 | .NamedExpr _ _ _, _, _, _, _, _, x => x
 | .BinOp _ _ _ _, _, _, _, _, _, x => x
 | .UnaryOp _ _ _, _, _, _, _, _, x => x
 | .Lambda _ _ _ _, _, _, _, _, _, x => x
 | .IfExp _ _ _ _, _, _, _, _, _, x => x
 | .Dict _ _ _, _, _, _, _, _, x => x
 | .Set _ _ _, _, _, _, _, _, x => x
 | .ListComp _ _ _ _, _, _, _, _, _, x => x
 | .SetComp _ _ _ _, _, _, _, _, _, x => x
 | .DictComp _ _ _ _ _, _, _, _, _, _, x => x
 | .GeneratorExp _ _ _ _, _, _, _, _, _, x => x
 | .Await _ _, _, _, _, _, _, x => x
 | .Yield _ _, _, _, _, _, _, x => x
 | .YieldFrom _ _, _, _, _, _, _, x => x
 | .Compare _ _ _ _, _, _, _, _, _, x => x
 | .Call _ _ _ _, _, _, _, _, _, x => x
 | .FormattedValue _ _ _ _, _, _, _, _, _, x => x
 | .JoinedStr _ _, _, _, _, _, _, x => x
 | .Constant _ _ _, _, _, _, _, _, x => x
 | .Attribute _ _ _, _, _, _, _, _, x => x
 | .Subscript _ _ _, _, _, _, _, _, x => x
 | .Starred _ _, _, _, _, _, _, x => x
 | .Name _ _, _, _, _, _, _, x => x
 | .List _ _, _, _, _, _, _, x => x
 | .Tuple _ _ _, _, _, _, _, _, x => x
theorem r9 {C : Ctx} (M : CtxMono C) {op : BoolOp} : ∀ (es : List Expr) {κ : Kn} {Q Q' : PV -> St -> Prop} {st : St}, (∀ p s, Q p s -> Q' p s) -> wBo C op es κ Q st -> wBo C op es κ Q' st
 | [], _, _, _, _, _, x => x
 | e :: es, _, _, _, _, h, x => aU (aV M e h) (aV M e fun _ _ => aZ fun _ => aU (h _ _) (r9 M es h)) x
theorem r8 {C : Ctx} (M : CtxMono C) : ∀ (es : List Expr) {ops : List CmpOp} {κ : Kn} {a : PV} {Q Q' : PV -> St -> Prop} {st : St}, (∀ p s, Q p s -> Q' p s) -> wCh C es ops κ a Q st -> wCh C es ops κ a Q' st
 | [], _, _, _, _, _, _, _, x => x
 | r :: rs, _, _, _, _, _, _, h, x => aZ (fun _ => aV M r fun _ _ => kY fun _ => aU (fun y => ⟨y.1, h _ _ y.2⟩) (aU (r8 M rs h) (h _ _))) x
theorem r5 {C : Ctx} (M : CtxMono C) : ∀ (es : List Expr) {κ : Kn} {Q Q' : Bool -> St -> Prop} {st : St}, (∀ p s, Q p s -> Q' p s) -> wIf C es κ Q st -> wIf C es κ Q' st
 | [], _, _, _, _, h, x => h _ _ x
 | e :: es, _, _, _, _, h, x => aV M e (f9 fun _ _ => aU (r5 M es h) (h _ _)) x
end
end Mine
end
section
open PySem PySem.W PyProof.Rows
open Builtin Builtin.Str
set_option Elab.async false
set_option autoImplicit false
set_option linter.unusedVariables false
namespace Mine
theorem e5 {K : Bool -> St -> Prop} {v : PV} {st : St} {b : Bool} (e : sE (der st.σ v) = some b) : tst K v st = K b st := by unfold tst; rw [e]; rfl
structure Bs where
 K : Frag
 h₀ : Heap
 mg : Str -> Option Value
 mb : Str -> Option Value
structure BsOk (B : Bs) : Prop where
 kin : B.K.In B.h₀
 g : B.h₀.Ns mainGlobals B.mg
 b : B.h₀.Ns builtinsNs B.mb
 lim : B.h₀.NoLimit
noncomputable def Over (B : Bs) (G : GM) : Prop := ∀ a o, B.h₀.get? a = some o -> G a = some o
theorem Over.ext {B : Bs} {G G' : GM} (h : Over B G) (e : Sub G G') : Over B G' := fun a o x => e _ _ (h a o x)
structure EnvOk (env : Env) : Prop where
 kind : env.scope.kind = .function
 glob : env.globals = mainGlobals
 bi : env.builtins = builtinsNs
noncomputable def KOk (κ : Kn) (env : Env) : Prop := ∀ x, env.kindOf x = if κ x = some .free then some .cell else κ x
theorem KOk.glob {κ : Kn} {env : Env} (h : KOk κ env) {x : Str} (e : κ x = some .globalImplicit) : env.kindOf x = some .globalImplicit := by rw [h x, e]; rfl
theorem KOk.loc {κ : Kn} {env : Env} (h : KOk κ env) {x : Str} (e : κ x = some .local) : env.kindOf x = some .local := by rw [h x, e]; rfl
theorem KOk.cell {κ : Kn} {env : Env} (h : KOk κ env) {x : Str} (e : κ x = some .cell \/ κ x = some .free) : env.kindOf x = some .cell := by rw [h x]; rcases e with e | e <;> rw [e] <;> rfl
structure Ok (B : Bs) (P : Params) (G : GM) (env : Env) (st : St) (s : Shared) : Prop where
 over : Over B G
 rep : Rep P G env st s
 ct : CellsThere env s.heap
noncomputable def Lands {α : Type} (B : Bs) (P : Params) (cw : Bool) (env : Env) (G : GM) (st : St) (s : Shared) (X : GM -> St -> α -> Prop) (a : α) (s' : Shared) : Prop :=
 ∃ G' st', X G' st' a /\ Ok B P G' env st' s' /\ Tr cw env G st s G' st' s'
noncomputable def VX (P : Params) (Q : PV -> St -> Prop) : GM -> St -> Value -> Prop := fun G' st' v => ∃ p, Q p st' /\ VRel P G' v p
noncomputable def VsX (P : Params) (Q : List PV -> St -> Prop) : GM -> St -> List Value -> Prop := fun G' st' vs => ∃ ps, Q ps st' /\ VRels P G' vs ps
noncomputable def BX (K : Bool -> St -> Prop) : GM -> St -> Bool -> Prop := fun _ st' b => K b st'
section
variable {prog : Program} {w : World} {A : Around} {E : Value -> Shared -> Prop} {s : Shared} {G : GM} {env : Env} {st : St} {cw : Bool} {B : Bs} {P : Params} {α β : Type}
theorem Lands.after {G₁ : GM} {st₁ : St} {s₁ : Shared} {X : GM -> St -> α -> Prop} {a : α} {s' : Shared} (T : Tr cw env G st s G₁ st₁ s₁) (h : Lands B P cw env G₁ st₁ s₁ X a s') : Lands B P cw env G st s X a s' :=
 let ⟨G', st', h1, h2, h3⟩ := h; ⟨G', st', h1, h2, T.trans h3⟩
theorem x8 {X : GM -> St -> α -> Prop} {Y : GM -> St -> β -> Prop} {m : Sem α} {f : α -> Sem β}
  (h : wpAny (model prog w) A m (Lands B P cw env G st s X) E s)
  (k : ∀ a G' st' s', X G' st' a -> Ok B P G' env st' s' -> Sub G G' -> wpAny (model prog w) A (f a) (Lands B P cw env G' st' s' Y) E s') :
  wpAny (model prog w) A m (fun a s' => wpAny (model prog w) A (f a) (Lands B P cw env G st s Y) E s') E s :=
 wpAny_mono h (fun a s' ⟨G', st', h1, h2, h3⟩ => wpAny_mono (k a G' st' s' h1 h2 h3.ext) (fun _ _ x => x.after h3) fun _ _ e => e) fun _ _ e => e
theorem aG {X : GM -> St -> α -> Prop} {R : α -> Shared -> Prop} {m : Sem α} (h : wpAny (model prog w) A m (Lands B P cw env G st s X) E s)
  (k : ∀ a G' st' s', X G' st' a -> Ok B P G' env st' s' -> Tr cw env G st s G' st' s' -> R a s') : wpAny (model prog w) A m R E s :=
 wpAny_mono h (fun a s' ⟨G', st', h1, h2, h3⟩ => k a G' st' s' h1 h2 h3) fun _ _ e => e
theorem aL {X : GM -> St -> α -> Prop} {m : Sem α} {G₁ : GM} {st₁ : St} {s₁ : Shared} (T : Tr cw env G st s G₁ st₁ s₁)
  (h : wpAny (model prog w) A m (Lands B P cw env G₁ st₁ s₁ X) E s₁) : wpAny (model prog w) A m (Lands B P cw env G st s X) E s₁ :=
 wpAny_mono h (fun _ _ x => x.after T) fun _ _ e => e
theorem x9 {X : GM -> St -> α -> Prop} {Y : GM -> St -> α -> Prop} {m : Sem α}
  (h : wpAny (model prog w) A m (Lands B P cw env G st s X) E s) (k : ∀ a G' st', X G' st' a -> Y G' st' a) : wpAny (model prog w) A m (Lands B P cw env G st s Y) E s :=
 wpAny_mono h (fun a s' ⟨G', st', h1, h2, h3⟩ => ⟨G', st', k a G' st' h1, h2, h3⟩) fun _ _ e => e
theorem aK {X : GM -> St -> α -> Prop} {a : α} (O : Ok B P G env st s) (h : X G st a) : Lands B P cw env G st s X a s := ⟨G, st, h, O, .refl⟩
theorem Ok.grow (O : Ok B P G env st s) {G' : GM} {s' : Shared} (g : GS G s G' s') (tk : 1 <= s'.toks) : Ok B P G' env st s' :=
 ⟨O.over.ext g.ext, O.rep.grow O.ct g tk, O.ct.grow fun a e => by
  obtain ⟨o, ho⟩ := Option.isSome_iff_exists.mp e
  rw [g.keep a o ho]; rfl⟩
theorem gE {X : GM -> St -> α -> Prop} {a : α} {s' : Shared} {G' : GM} (O : Ok B P G env st s) (g : GS G s G' s') (tk : 1 <= s'.toks) (h : X G' st a) : Lands B P cw env G st s X a s' :=
 ⟨G', st, h, O.grow g tk, g.tr⟩
theorem bJ {t : Sem Value} {Q : PV -> St -> Prop} (O : Ok B P G env st s) (h : GW (model prog w) A P E G s t fun p => Q p st) :
  wpAny (model prog w) A t (Lands B P cw env G st s (VX P Q)) E s :=
 wpAny_mono (wpAny_toks_of O.rep.tk h) (fun v s' ⟨tk, p, G', hq, g, r⟩ => gE O g tk ⟨p, hq, r⟩) fun _ _ e => e.2
theorem u9 {t : Sem Value} {Q : PV -> St -> Prop} (O : Ok B w.params G env st s) (h : wpAny (model prog w) A t (ze0 w.params cw env G st s Q) E s) :
  wpAny (model prog w) A t (Lands B w.params cw env G st s (VX w.params Q)) E s :=
 wpAny_mono h (fun v s' ⟨p, G', st', hq, h1, h2, h3, h4⟩ => ⟨G', st', ⟨p, hq, h4⟩, ⟨O.over.ext h3.ext, h1, h2⟩, h3⟩) fun _ _ e => e
theorem x7 {v : Value} {p : PV} {K : Bool -> St -> Prop} (O : Ok B w.params G env st s) (hv : VRel w.params G v p) (h : tst K p st) :
  wpAny (model prog w) A (truthy v) (Lands B w.params cw env G st s (BX K)) E s := by
 obtain ⟨b, e, h⟩ := bS h
 refine wpAny_mono (wpAny_toks_of O.rep.tk (zch O.rep.inh (O.rep.view hv) e)) (fun c s' ⟨tk, hc, g⟩ => ?_) fun _ _ e => e.2
 subst hc
 exact gE O g tk h
end
noncomputable def KeepsAt (prog : Program) (w : World) (h : Heap) (f : Value) : Prop := ∃ k, Looks (model prog w) h (keeperOf f) k
noncomputable def Meets (prog : Program) (w : World) (B : Bs) (n : Nat) (v : Value) (F : Fn) : Prop :=
 KeepsAt prog w B.h₀ v /\ ∀ (A : Around) (E : Value -> Shared -> Prop) (G : GM) (s : Shared) (args : List Value) (ps : List PV) (K : PV -> Prop),
  Room n A -> InH G s.heap -> 1 <= s.toks -> Over B G -> VRels w.params G args ps -> F ps K -> GW (model prog w) A w.params E G s (call v args) K
theorem Meets.le {prog : Program} {w : World} {B : Bs} {n m : Nat} {v : Value} {F : Fn} (h : Meets prog w B n v F) (hm : n <= m) : Meets prog w B m v F :=
 ⟨h.1, fun A E G s args ps K hA => h.2 A E G s args ps K (hA.le hm)⟩
noncomputable def zb9 (K : Frag) (c : Nat) (name : Str) (i : Nat) : Prop :=
 findIn K (.ref c) "__getattribute__" = some (some (.builtin "object.__getattribute__")) /\ findIn K (.ref c) "__getattr__" = some none /\
 ∃ p, findObj K c (some gP) name = some (.bind (.builtin "member_descriptor.__get__") (.ref p)) /\ slotIn K p c = some i /\
  findIn K (.ref c) "__setattr__" = some (some (.builtin "object.__setattr__")) /\ plainOver K c = true /\ takerIn K c name = some (some (.ref p)) /\ typeIn K (.ref p) = some (.type "member_descriptor") /\ i < 1000
noncomputable def zeo (P : Params) (B : Bs) (c : Nat) (name : Str) (v : PV) : Prop :=
 findIn B.K (.ref c) "__getattribute__" = some (some (.builtin "object.__getattribute__")) /\
 ∃ u, findObj B.K c (some gP) name = some (.value u) /\ handedIn u = true /\ VRel P (fun a => B.h₀.get? a) u v
noncomputable def tZ (prog : Program) (w : World) (B : Bs) (C : Ctx) (n : Nat) : Prop :=
 ∃ nodeV fV, B.mg "Node" = some nodeV /\ KeepsAt prog w B.h₀ fV /\
  (∀ (A : Around) (E : Value -> Shared -> Prop) (s : Shared) (Q : Value × List Value -> Shared -> Prop) (pl : Sem Bool) (b : Bool), (∀ a o, B.h₀.get? a = some o -> s.heap.get? a = some o) -> Looks (model prog w) B.h₀ pl b ->
   (∀ k, s.toks <= k -> Q (fV, []) { s with toks := k }) -> wpAny (model prog w) A (getMethod nodeV "__init__" pl) Q E s) /\
  (∀ (A : Around) (E : Value -> Shared -> Prop) (cw : Bool) (env : Env) (G : GM) (st : St) (s : Shared) (ad : Nat) (va vb : Value) (pa pb : PV) (K : St -> Prop), Room n A -> Ok B w.params G env st s -> VRel w.params G va pa -> VRel w.params G vb pb ->
   (setCell C ad "source_line" pa st fun st1 => setCell C ad "source_column" pb st1 K) ->
   wpAny (model prog w) A (call fV [.ref ad, va, vb]) (Lands B w.params cw env G st s (fun _ st' _ => K st')) E s)
structure CtxOk (prog : Program) (w : World) (B : Bs) (C : Ctx) (n : Nat) : Prop where
 mono : CtxMono C
 val : ∀ x v, C.val x = some v -> ∃ u, B.mg x = some u /\ VRel w.params (fun a => B.h₀.get? a) u v
 fn : ∀ x F, C.fn x = some F -> ∃ u, B.mg x = some u /\ Meets prog w B n u F
 cls : ∀ x F, C.cls x = some F -> ∃ u, B.mg x = some u /\ Meets prog w B n u F
 bi : ∀ x, C.bi x = true -> B.mg x = none /\ B.mb x = some (i9 x)
 slot : ∀ c x i, C.slot c x = some i -> zb9 B.K c x i
 cval : ∀ c x v, C.cval c x = some v -> zeo w.params B c x v
 ini : C.ini = true -> tZ prog w B C n
noncomputable def cC (prog : Program) (w : World) (B : Bs) (C : Ctx) (n : Nat) (e : Expr) : Prop :=
 ∀ (A : Around) (E : Value -> Shared -> Prop) (cw : Bool) (env : Env) (κ : Kn) (G : GM) (st : St) (s : Shared) (Q : PV -> St -> Prop), Room n A -> EnvOk env -> KOk κ env -> Ok B w.params G env st s ->
  wE C e κ Q st -> wpAny (model prog w) A (eval e env) (Lands B w.params cw env G st s (VX w.params Q)) E s
noncomputable def lM (prog : Program) (w : World) (B : Bs) (C : Ctx) (n : Nat) (e : Expr) : Prop :=
 ∀ (A : Around) (E : Value -> Shared -> Prop) (cw : Bool) (env : Env) (κ : Kn) (G : GM) (st : St) (s : Shared) (K : Bool -> St -> Prop), Room n A -> EnvOk env -> KOk κ env -> Ok B w.params G env st s ->
  wE C e κ (tst K) st ->
  wpAny (model prog w) A (isTrue e env (eval e env)) (Lands B w.params cw env G st s (BX K)) E s
section
variable {prog : Program} {w : World} {B : Bs} {C : Ctx} {n : Nat}
theorem lS {e : Expr} (h : cC prog w B C n e) (he : ∀ env whole, isTrue e env whole = (do let v <- whole; standAt e.pos; holding [v] (truthy v))) : lM prog w B C n e := by
 intro A E cw env κ G st s K hA hE hκ O hw
 refine isTrue_plain (x8 (h A E cw env κ G st s _ hA hE hκ O hw) fun v G' st' s' ⟨p, hq, hv⟩ O' _ => ?_) (he env _)
 exact x7 O' hv hq
noncomputable def okC : Const -> Bool
 | .str s => s.cps.toList.all (· < 1114112) && decide (s.cps.toList.length <= 16777216)
 | _ => true
theorem wW {c : Const} {k : Nat} {p : Pos} (ok : okC c = true) : cC prog w B C n (.Constant c k p) := by
 intro A E cw env κ G st s Q hA hE hκ O hw
 obtain ⟨v, hv, hw⟩ := bS hw
 refine bJ O ?_
 cases c <;> first | (cases hv; done) | skip
 all_goals cases hv
 ·exact Constant_none ⟨.none, G, hw, GS.refl O.rep.inh, by simp [VRel]⟩
 ·exact Constant_bool ⟨.bool _, G, hw, GS.refl O.rep.inh, by simp [VRel]⟩
 ·rw [arm_eval_Constant]
  exact wpAny_mkInt ⟨.int _, G, hw, GS.toks O.rep.inh _, by simp [VRel]⟩
 ·rename_i x
  refine Calls.Constant_str ⟨.str _, G, hw, GS.toks O.rep.inh _, ?_⟩
  simp only [okC, Bool.and_eq_true, List.all_eq_true, decide_eq_true_eq] at ok
  simp only [VRel]
  exact ⟨_, rfl, ok.1, ok.2⟩
theorem dI {A : Around} {E : Value -> Shared -> Prop} {env : Env} {G : GM} {s : Shared} {x : Str} {u : Value} {Q : Value -> Shared -> Prop} (hB : BsOk B) (hE : EnvOk env) (hi : InH G s.heap) (ho : Over B G) (hv : B.mg x = some u) (h : Q u s) :
  wpAny (model prog w) A (loadGlobal env x) Q E s :=
 Calls.loadGlobal_global (mg := B.mg) (by rw [hE.glob]; exact hB.g.keeps fun b o e => hi _ _ (ho _ _ e)) hv h
theorem nE {A : Around} {E : Value -> Shared -> Prop} {env : Env} {G : GM} {s : Shared} {x : Str} {u : Value} {Q : Value -> Shared -> Prop} (hB : BsOk B) (hE : EnvOk env) (hi : InH G s.heap) (ho : Over B G) (hn : B.mg x = none) (hv : B.mb x = some u) (h : Q u s) :
  wpAny (model prog w) A (loadGlobal env x) Q E s :=
 Calls.loadGlobal_builtin (mg := B.mg) (mb := B.mb) (by rw [hE.glob]; exact hB.g.keeps fun b o e => hi _ _ (ho _ _ e)) hn (by rw [hE.bi]; exact hB.b.keeps fun b o e => hi _ _ (ho _ _ e)) hv h
end
section
variable {prog : Program} {w : World} {B : Bs} {C : Ctx} {n : Nat}
theorem rC {x : Str} {p : Pos} (hB : BsOk B) (hC : CtxOk prog w B C n) (ok2 : (x == ("__classdict__" : Str)) = false) (A : Around) (E : Value -> Shared -> Prop) (cw : Bool) (env : Env) (κ : Kn) (G : GM) (st : St) (s : Shared) (Q : PV -> St -> Prop)
  (hE : EnvOk env) (hκ : KOk κ env) (O : Ok B w.params G env st s) (hw : wE C (.Name x p) κ Q st) : wpAny (model prog w) A (loadName env x) (Lands B w.params cw env G st s (VX w.params Q)) E s := by
 have R := O.rep
 rw [fN] at hw
 by_cases hk : κ x = some .globalImplicit
 ·rw [if_pos hk] at hw
  obtain ⟨v, hv, hq⟩ := bS hw
  obtain ⟨u, h1, h2⟩ := hC.val x v hv
  rw [loadName_read hE.kind (hκ.glob hk)]
  exact dI hB hE R.inh O.over h1 (aK O ⟨v, hq, h2.mono fun a o e => O.over a o e⟩)
 ·rw [if_neg hk] at hw
  obtain ⟨v, e, hw⟩ := bS hw
  ·by_cases hl : env.kindOf x = some .local
   ·obtain ⟨m, hm, hx⟩ := R.ns
    obtain ⟨u, h1, h2⟩ := hx x v e hl
    exact wpAny_loadName_local hE.kind hl hm h1 (aK O ⟨v, hw, h2⟩)
   ·obtain ⟨c, u, h1, h2, h3⟩ := R.cel x v e hl
    rcases R.kind x v e with h | h | h
    ·exact absurd h hl
    ·exact wpAny_loadName_cell hE.kind h h1 h2 (aK O ⟨v, hw, h3⟩)
    ·exact wpAny_loadName_free hE.kind h h1 h2 (aK O ⟨v, hw, h3⟩) ok2
theorem zak {x : Str} {p : Pos} (hB : BsOk B) (hC : CtxOk prog w B C n) (ok : (x == ("__debug__" : Str)) = false) (ok2 : (x == ("__classdict__" : Str)) = false) : cC prog w B C n (.Name x p) := by
 intro A E cw env κ G st s Q hA hE hκ O hw
 exact wpAny_Name (rC hB hC ok2 A E cw env κ G st s Q hE hκ O hw) ok
theorem zcr {l r : Expr} {op : Operator} {p : Pos} (hl : cC prog w B C n l) (hr : cC prog w B C n r) : cC prog w B C n (.BinOp l op r p) := by
 intro A E cw env κ G st s Q hA hE hκ O hw
 exact wpAny_BinOp (aG (hl A E cw env κ G st s _ hA hE hκ O hw) fun a G1 st1 s1 ⟨u, hq, hv⟩ O1 T1 =>
  aG (hr A E cw env κ G1 st1 s1 _ hA hE hκ O1 hq) fun b G2 st2 s2 ⟨u2, hq2, hv2⟩ O2 T2 =>
   aL (T1.trans T2) (bJ O2 (zeg O2.rep.inh (O2.rep.view (hv.mono T2.ext)) (O2.rep.view hv2) hq2)))
theorem zbK {x : Expr} {op : UnaryOp} {p : Pos} (hx : cC prog w B C n x) : cC prog w B C n (.UnaryOp op x p) := by
 intro A E cw env κ G st s Q hA hE hκ O hw
 refine wpAny_UnaryOp (aG (hx A E cw env κ G st s _ hA hE hκ O hw) fun a G1 st1 s1 ⟨u, hq, hv⟩ O1 T1 => aL T1 ?_)
 cases op <;> first | exact False.elim hq | skip
 ·obtain ⟨b, hb, hq⟩ := bS hq
  refine not_of (wpAny_mono (wpAny_toks_of O1.rep.tk (zch O1.rep.inh (O1.rep.view hv) hb)) (fun c s' ⟨tk, hc, g⟩ => ?_) fun _ _ e => e.2)
  subst hc
  exact gE O1 g tk ⟨_, hq, by simp only [VRel]⟩
 ·obtain ⟨i, hi, hq⟩ := b9 hq
  have hv' := O1.rep.view hv
  rw [hi] at hv'
  obtain ⟨t, rfl⟩ := uA hv'
  exact bJ O1 (l6 O1.rep.inh hq fun Q q => neg_int q)
theorem wV {t b o : Expr} {p : Pos} (ht : lM prog w B C n t) (hb : cC prog w B C n b) (ho : cC prog w B C n o) : cC prog w B C n (.IfExp t b o p) := by
 intro A E cw env κ G st s Q hA hE hκ O hw
 refine IfExp_ (aG (ht A E cw env κ G st s _ hA hE hκ O hw) fun c G1 st1 s1 hq O1 T1 => ?_)
 simp only [BX] at hq
 cases c
 ·exact aL T1 (ho A E cw env κ G1 st1 s1 _ hA hE hκ O1 (by simpa using hq))
 ·exact aL T1 (hb A E cw env κ G1 st1 s1 _ hA hE hκ O1 (by simpa using hq))
theorem zar {x : Expr} {p : Pos} (hM : CtxMono C) (hx : lM prog w B C n x) : lM prog w B C n (.UnaryOp .Not x p) := by
 intro A E cw env κ G st s K hA hE hκ O hw
 refine isTrue_not (wpAny_mono (hx A E cw env κ G st s (fun b st1 => K (!b) st1) hA hE hκ O (aV hM x (fun u st1 h => ?_) hw)) (fun c s1 x => x) fun _ _ e => e)
 obtain ⟨b, e, h⟩ := bS h
 rw [e5 e]
 have h' : tst K (.bool (!b)) st1 := h
 rwa [e5 (b := !b) rfl] at h'
theorem uK {t b o : Expr} {p : Pos} (ht : lM prog w B C n t) (hb : lM prog w B C n b) (ho : lM prog w B C n o) : lM prog w B C n (.IfExp t b o p) := by
 intro A E cw env κ G st s K hA hE hκ O hw
 refine isTrue_IfExp (aG (ht A E cw env κ G st s _ hA hE hκ O hw) fun c G1 st1 s1 hq O1 T1 => ?_)
 simp only [BX] at hq
 cases c
 ·exact aL T1 (ho A E cw env κ G1 st1 s1 K hA hE hκ O1 (by simpa using hq))
 ·exact aL T1 (hb A E cw env κ G1 st1 s1 K hA hE hκ O1 (by simpa using hq))
theorem zbM {op : BoolOp} {p : Pos} : ∀ (es : List Expr), (∀ e ∈ es, cC prog w B C n e) -> cC prog w B C n (.BoolOp op es p)
 | [], _ => fun A E cw env κ G st s Q hA hE hκ O hw => False.elim hw
 | [e], h => fun A E cw env κ G st s Q hA hE hκ O hw => BoolOp_one (h e (by simp) A E cw env κ G st s Q hA hE hκ O hw)
 | e :: e' :: es, h => by
  intro A E cw env κ G st s Q hA hE hκ O hw
  have ih := zbM (p := p) (op := op) (e' :: es) fun x hx => h x (List.mem_cons_of_mem _ hx)
  have he := h e (by simp) A E cw env κ G st s _ hA hE hκ O (show wE C e κ (fun v st1 => opt (sE (der st1.σ v)) fun b => if b = (op == .Or) then Q v st1 else wBo C op (e' :: es) κ Q st1) st from hw)
  have main : ∀ {G1 : GM} {st1 : St} {s1 : Shared} {a : Value} {u : PV} {R : Bool -> Shared -> Prop}, Tr cw env G st s G1 st1 s1 -> (opt (sE (der st1.σ u)) fun b => if b = (op == .Or) then Q u st1 else wBo C op (e' :: es) κ Q st1) -> VRel w.params G1 a u -> Ok B w.params G1 env st1 s1 ->
    (∀ s', Lands B w.params cw env G st s (VX w.params Q) a s' -> R (op == .Or) s') -> (∀ b s', b ≠ (op == .Or) -> wpAny (model prog w) A (eval (.BoolOp op (e' :: es) p) env) (Lands B w.params cw env G st s (VX w.params Q)) E s' -> R b s') -> wpAny (model prog w) A (truthy a) R E s1 := by
   intro G1 st1 s1 a u R T1 hq hv O1 k1 k2
   obtain ⟨b, e1, hq⟩ := bS hq
   refine wpAny_mono (wpAny_toks_of O1.rep.tk (zch O1.rep.inh (O1.rep.view hv) e1)) (fun c s' ⟨tk, hc, g⟩ => ?_) fun _ _ e => e.2
   subst hc
   by_cases hb : c = (op == .Or)
   ·rw [if_pos hb] at hq; rw [hb]
    exact k1 s' ((gE (X := VX w.params Q) O1 g tk ⟨u, hq, hv.mono g.ext⟩).after T1)
   ·rw [if_neg hb] at hq
    exact k2 c s' hb (aL (T1.trans g.tr) (ih A E cw env κ G1 st1 s' Q hA hE hκ (O1.grow g tk) hq))
  cases op
  ·refine BoolOp_and (aG he fun a G1 st1 s1 ⟨u, hq, hv⟩ O1 T1 => main T1 hq hv O1 (fun s' h => h) fun b s' hb h => ?_)
   cases b
   ·exact absurd rfl hb
   ·exact h
  ·refine BoolOp_or (aG he fun a G1 st1 s1 ⟨u, hq, hv⟩ O1 T1 => main T1 hq hv O1 (fun s' h => h) fun b s' hb h => ?_)
   cases b
   ·exact h
   ·exact absurd rfl hb
theorem wZ {op : BoolOp} {p : Pos} : ∀ (es : List Expr), (∀ e ∈ es, lM prog w B C n e) -> es ≠ [] -> lM prog w B C n (.BoolOp op es p)
 | [], _, ne => absurd rfl ne
 | [e], h, _ => by
  intro A E cw env κ G st s K hA hE hκ O hw
  have he := h e (by simp) A E cw env κ G st s K hA hE hκ O hw
  cases op
  ·refine isTrue_and (aG he fun c G1 st1 s1 hq O1 T1 => ?_)
   cases c
   ·exact (aK (X := BX K) O1 hq).after T1
   ·exact isTrue_and_nil ((aK (X := BX K) O1 hq).after T1)
  ·refine isTrue_or (aG he fun c G1 st1 s1 hq O1 T1 => ?_)
   cases c
   ·exact isTrue_or_nil ((aK (X := BX K) O1 hq).after T1)
   ·exact (aK (X := BX K) O1 hq).after T1
 | e :: e' :: es, h, _ => by
  intro A E cw env κ G st s K hA hE hκ O hw
  have ih := wZ (p := p) (op := op) (e' :: es) (fun x hx => h x (List.mem_cons_of_mem _ hx)) (by simp)
  have he := h e (by simp) A E cw env κ G st s (fun b st1 => if b = (op == .Or) then K b st1 else wBo C op (e' :: es) κ (tst K) st1) hA hE hκ O (by
   refine cast (congrArg (fun q => wE C e κ q st) ?_) hw
   funext v st1
   show (opt (sE (der st1.σ v)) fun b => if b = (op == .Or) then tst K v st1 else _) = opt (sE (der st1.σ v)) fun b => if b = (op == .Or) then K b st1 else _
   cases e1 : sE (der st1.σ v) with
   | none => rfl
   | some b => show (if b = (op == .Or) then tst K v st1 else _) = _; rw [e5 e1]; rfl)
  have go : ∀ {G1 : GM} {st1 : St} {s1 : Shared} (c : Bool), c ≠ (op == .Or) -> (if c = (op == .Or) then K c st1 else wBo C op (e' :: es) κ (tst K) st1) -> Ok B w.params G1 env st1 s1 -> wpAny (model prog w) A (isTrue (.BoolOp op (e' :: es) p) env (eval (.BoolOp op (e' :: es) p) env)) (Lands B w.params cw env G1 st1 s1 (BX K)) E s1 :=
   fun c hc hq O1 => ih A E cw env κ _ _ _ K hA hE hκ O1 (by rw [if_neg hc] at hq; exact hq)
  cases op
  ·refine isTrue_and (aG he fun c G1 st1 s1 hq O1 T1 => ?_)
   cases c
   ·exact (aK (X := BX K) O1 hq).after T1
   ·exact aL T1 (go true (by decide) hq O1)
  ·refine isTrue_or (aG he fun c G1 st1 s1 hq O1 T1 => ?_)
   cases c
   ·exact aL T1 (go false (by decide) hq O1)
   ·exact (aK (X := BX K) O1 hq).after T1
end
section
variable {prog : Program} {w : World} {B : Bs} {C : Ctx} {n : Nat}
theorem jR {A : Around} {E : Value -> Shared -> Prop} {cw : Bool} {env : Env} {G : GM} {st : St} {s : Shared} {a b : Value} {pa pb : PV} {op : CmpOp} {K : Bool -> St -> Prop} {R : Value -> Shared -> Prop}
  (hA : Room n A) (O : Ok B w.params G env st s) (ha : VRel w.params G a pa) (hb : VRel w.params G b pb) (h : zb3 st.σ op pa pb fun c => K c st)
  (k : ∀ (c : Bool) (G' : GM) (st' : St) (s' : Shared), K c st' -> Ok B w.params G' env st' s' -> Tr cw env G st s G' st' s' -> R (.bool c) s') : wpAny (model prog w) A (compareOp op a b) R E s := by
 refine aG (cw := cw) (bJ (Q := fun v st' => ∃ c, v = .bool c /\ K c st') O
   (zeT hA O.rep.inh O.rep.cellsOk ha hb (kY (fun c hc => ⟨c, rfl, hc⟩) h))) fun cv G2 st2 s2 ⟨v, ⟨c, hc, hq2⟩, hv2⟩ O2 T2 => ?_
 subst hc
 simp only [VRel] at hv2; subst hv2
 exact k c G2 st2 s2 hq2 O2 T2
theorem zbL {p : Pos} : ∀ (cs : List Expr) (ops : List CmpOp), (∀ e ∈ cs, cC prog w B C n e) -> cs.length = ops.length ->
  ∀ (A : Around) (E : Value -> Shared -> Prop) (cw : Bool) (env : Env) (κ : Kn) (G : GM) (st : St) (s : Shared) (Q : PV -> St -> Prop) (a : Value) (pa : PV), Room n A -> EnvOk env -> KOk κ env -> Ok B w.params G env st s ->
   VRel w.params G a pa -> wCh C cs ops κ pa Q st -> wpAny (model prog w) A (compareChain p a ops (evalEach cs env)) (Lands B w.params cw env G st s (VX w.params Q)) E s
 | [], ops, _, _ => by
  intro A E cw env κ G st s Q a pa hA hE hκ O ha hw
  exact False.elim hw
 | [r], [op], h, _ => by
  intro A E cw env κ G st s Q a pa hA hE hκ O ha hw
  exact chain_last (aG (h r (by simp) A E cw env κ G st s _ hA hE hκ O hw) fun b G1 st1 s1 ⟨u, hq, hv⟩ O1 T1 =>
   aL T1 (jR (K := fun c st' => ([] : List CmpOp).isEmpty = true /\ Q (.bool c) st') hA O1 (ha.mono T1.ext) hv hq fun c G2 st2 s2 hq2 O2 T2 => (aK (X := VX w.params Q) O2 ⟨_, hq2.2, by simp only [VRel]⟩).after T2))
 | r :: r' :: rs, op :: op' :: ops, h, hl => by
  intro A E cw env κ G st s Q a pa hA hE hκ O ha hw
  have ih := zbL (p := p) (r' :: rs) (op' :: ops) (fun x hx => h x (List.mem_cons_of_mem _ hx)) (by simpa using hl)
  refine chain_link (aG (h r (by simp) A E cw env κ G st s _ hA hE hκ O hw) fun b G1 st1 s1 ⟨u, hq, hv⟩ O1 T1 => ?_)
  refine jR (cw := cw) (K := fun c st' => if c = true then wCh C (r' :: rs) (op' :: ops) κ u Q st' else Q (.bool false) st') hA O1 (ha.mono T1.ext) hv hq fun c G2 st2 s2 hq2 O2 T2 => ?_
  refine wpAny_truthy_bool ?_
  cases c
  ·exact (aK (X := VX w.params Q) O2 ⟨.bool false, hq2, by simp only [VRel]⟩).after (T1.trans T2)
  ·exact aL (T1.trans T2) (ih A E cw env κ G2 st2 s2 Q b u hA hE hκ O2 (hv.mono T2.ext) hq2)
theorem wY {p : Pos} : ∀ (cs : List Expr) (ops : List CmpOp), (∀ e ∈ cs, cC prog w B C n e) -> cs.length = ops.length ->
  ∀ (A : Around) (E : Value -> Shared -> Prop) (cw : Bool) (env : Env) (κ : Kn) (G : GM) (st : St) (s : Shared) (K : Bool -> St -> Prop) (a : Value) (pa : PV), Room n A -> EnvOk env -> KOk κ env -> Ok B w.params G env st s ->
   VRel w.params G a pa -> wCh C cs ops κ pa (tst K) st -> wpAny (model prog w) A (testChain p a ops (evalEach cs env)) (Lands B w.params cw env G st s (BX K)) E s
 | [], ops, _, _ => by
  intro A E cw env κ G st s Q a pa hA hE hκ O ha hw
  exact False.elim hw
 | [r], [op], h, _ => by
  intro A E cw env κ G st s K a pa hA hE hκ O ha hw
  exact test_last (aG (h r (by simp) A E cw env κ G st s _ hA hE hκ O hw) fun b G1 st1 s1 ⟨u, hq, hv⟩ O1 T1 =>
   jR (cw := cw) (K := fun c st' => ([] : List CmpOp).isEmpty = true /\ tst K (.bool c) st') hA O1 (ha.mono T1.ext) hv hq fun c G2 st2 s2 hq2 O2 T2 =>
    wpAny_truthy_bool ((aK (X := BX K) O2 (by have hq2 := hq2.2; rwa [e5 (b := c) rfl] at hq2)).after (T1.trans T2)))
 | r :: r' :: rs, op :: op' :: ops, h, hl => by
  intro A E cw env κ G st s K a pa hA hE hκ O ha hw
  have ih := wY (p := p) (r' :: rs) (op' :: ops) (fun x hx => h x (List.mem_cons_of_mem _ hx)) (by simpa using hl)
  refine test_link (aG (h r (by simp) A E cw env κ G st s _ hA hE hκ O hw) fun b G1 st1 s1 ⟨u, hq, hv⟩ O1 T1 => ?_)
  refine jR (cw := cw) (K := fun c st' => if c = true then wCh C (r' :: rs) (op' :: ops) κ u (tst K) st' else tst K (.bool false) st') hA O1 (ha.mono T1.ext) hv hq fun c G2 st2 s2 hq2 O2 T2 => ?_
  refine wpAny_truthy_bool ?_
  cases c
  ·exact (aK (X := BX K) O2 hq2).after (T1.trans T2)
  ·exact aL (T1.trans T2) (ih A E cw env κ G2 st2 s2 K b u hA hE hκ O2 (hv.mono T2.ext) hq2)
theorem zcq {l : Expr} {ops : List CmpOp} {cs : List Expr} {p : Pos} (hl : cC prog w B C n l) (h : ∀ e ∈ cs, cC prog w B C n e) (hlen : cs.length = ops.length) (hm : lastMarks ops cs = false) :
  cC prog w B C n (.Compare l ops cs p) := by
 intro A E cw env κ G st s Q hA hE hκ O hw
 rw [arm_eval_Compare, markedEach_of_false _ _ _ hm]
 exact wpAny_bind (aG (hl A E cw env κ G st s _ hA hE hκ O hw) fun a G1 st1 s1 ⟨u, hq, hv⟩ O1 T1 =>
  aL T1 (zbL cs ops h hlen A E cw env κ G1 st1 s1 Q a u hA hE hκ O1 hv hq))
theorem zas {l : Expr} {ops : List CmpOp} {cs : List Expr} {p : Pos} (hl : cC prog w B C n l) (h : ∀ e ∈ cs, cC prog w B C n e) (hlen : cs.length = ops.length) (hm : lastMarks ops cs = false) :
  lM prog w B C n (.Compare l ops cs p) := by
 intro A E cw env κ G st s K hA hE hκ O hw
 show wpAny _ _ (do testChain p (<- PySem.eval l env) ops (markedEach ops cs (evalEach cs env))) _ _ _
 rw [markedEach_of_false _ _ _ hm]
 exact wpAny_bind (aG (hl A E cw env κ G st s _ hA hE hκ O hw) fun a G1 st1 s1 ⟨u, hq, hv⟩ O1 T1 =>
  aL T1 (wY cs ops h hlen A E cw env κ G1 st1 s1 K a u hA hE hκ O1 hv hq))
theorem hY {e : Expr} (h : cM e = true) (es : List Expr) (env : Env) : starEach (e :: es) env = (false, PySem.eval e env) :: starEach es env := by
 cases e <;> first | rfl | cases h
theorem e6 {p : Pos} : ∀ (es : List Expr), (∀ e ∈ es, cC prog w B C n e) -> es.all cM = true ->
  ∀ (A : Around) (E : Value -> Shared -> Prop) (cw : Bool) (env : Env) (κ : Kn) (G : GM) (st : St) (s : Shared) (Q : List PV -> St -> Prop), Room n A -> EnvOk env -> KOk κ env -> Ok B w.params G env st s ->
   wEs C es κ Q st -> wpAny (model prog w) A (spliced (backTo p (starEach es env))) (Lands B w.params cw env G st s (VsX w.params Q)) E s
 | [], _, _ => by
  intro A E cw env κ G st s Q hA hE hκ O hw
  exact Calls.spliced_nil (aK O ⟨[], hw, .nil⟩)
 | e :: es, h, hs => by
  intro A E cw env κ G st s Q hA hE hκ O hw
  simp only [List.all_cons, Bool.and_eq_true] at hs
  rw [hY hs.1]
  show wpAny _ _ (spliced ((false, PySem.eval e env) :: backTo p (starEach es env))) _ _ _
  exact Calls.spliced_cons (aG (h e (by simp) A E cw env κ G st s _ hA hE hκ O hw) fun a G1 st1 s1 ⟨u, hq, hv⟩ O1 T1 =>
   aG (e6 es (fun x hx => h x (List.mem_cons_of_mem _ hx)) hs.2 A E cw env κ G1 st1 s1 _ hA hE hκ O1 hq) fun vs G2 st2 s2 ⟨us, hq2, hv2⟩ O2 T2 =>
    (aK (X := VsX w.params Q) O2 ⟨u :: us, hq2, .cons (hv.mono T2.ext) hv2⟩).after (T1.trans T2))
theorem mU {p : Pos} {f : Value} (es : List Expr) (h : ∀ e ∈ es, cC prog w B C n e) (hs : es.all cM = true)
  (A : Around) (E : Value -> Shared -> Prop) (cw : Bool) (env : Env) (κ : Kn) (G : GM) (st : St) (s : Shared) (Q : List PV -> St -> Prop) (hA : Room n A) (hE : EnvOk env) (hκ : KOk κ env) (O : Ok B w.params G env st s)
  (hw : wEs C es κ Q st) : wpAny (model prog w) A (evalArgs f true (backTo p (starEach es env)) []) (fun a s' => ∃ vs, a = ⟨vs, []⟩ /\ Lands B w.params cw env G st s (VsX w.params Q) vs s') E s := by
 have hh := e6 (p := p) es h hs A E cw env κ G st s Q hA hE hκ O hw
 cases es with
 | nil =>
  exact PySem.evalArgs_none ⟨[], rfl, aK O ⟨[], hw, .nil⟩⟩
 | cons e es =>
  simp only [List.all_cons, Bool.and_eq_true] at hs
  rw [hY hs.1] at hh ⊢
  exact Calls.evalArgs_plain (wpAny_mono hh (fun vs s' x => ⟨vs, rfl, x⟩) fun _ _ e => e)
theorem jV {p : Pos} : ∀ (es : List Expr) (env : Env), es.all cM = true -> (backTo p (starEach es env)).any (·.1) = false
 | [], _, _ => rfl
 | e :: es, env, h => by
  simp only [List.all_cons, Bool.and_eq_true] at h
  rw [hY h.1]
  exact jV es env h.2
theorem gS {p : Pos} : ∀ (es : List Expr) (env : Env), es.all cM = true -> (backTo p (starEach es env)).all (fun x => !x.1) = true
 | [], _, _ => rfl
 | e :: es, env, h => by
  simp only [List.all_cons, Bool.and_eq_true] at h
  rw [hY h.1]
  exact gS es env h.2
theorem eN {A : Around} {E : Value -> Shared -> Prop} {s : Shared} {pos : Pos} {f : Value} {first : List Value} {args : List (Bool × Sem Value)} {Q : Value -> Shared -> Prop} (hst : args.any (·.1) = false)
  (h : wpAny (model prog w) A (evalArgs f true args []) (fun a s₁ => KeepsAt prog w s₁.heap f /\ wpAny (model prog w) A (call f (first ++ a.pos) a.kw) Q E s₁) E s) :
  wpAny (model prog w) A (callWith pos f first args []) Q E s := by
 unfold callWith
 refine wpAny_bind (wpAny_holding (wpAny_mono h (fun a s₁ h₁ => wpAny_bind (wpAny_standAt ?_)) fun _ _ x => x))
 obtain ⟨⟨k, hk⟩, hc⟩ := h₁
 rw [show (args.any (·.1) || ([] : List (Option Str × Sem Value)).any (·.1.isNone)) = false from (Bool.or_false _).trans hst]
 have fin : ∀ t : Sem Value, wpAny (model prog w) A t Q E s₁ -> wpAny (model prog w) A (t >>= fun r => holding [r] point >>= fun _ => pure r) Q E s₁ :=
  fun t ht => wpAny_bind (wpAny_mono ht (fun r s₂ hr => wpAny_bind (wpAny_holding (wpAny_point (wpAny_pure hr)))) fun _ _ x => x)
 refine wpAny_bind (hk.here ?_)
 cases k <;> dsimp only
 ·refine wpAny_ite ?_
  split
  ·exact fin _ hc
  ·exact fin _ (by unfold callMarked; exact Calls.wpAny_keep hc)
 ·refine wpAny_ite ?_
  split
  ·exact fin _ hc
  ·exact fin _ (by unfold callMarked; exact Calls.wpAny_keep hc)
 ·exact fin _ hc
 ·exact fin _ (wpAny_operate' hc)
theorem fB (h : Heap) (id : String) : KeepsAt prog w h (.builtin id) := ⟨.machine, Looks.of_pure rfl⟩
theorem vB (h : Heap) (id : String) : KeepsAt prog w h (.type id) := ⟨.machine, Looks.of_pure rfl⟩
theorem KeepsAt.keeps {h h' : Heap} {f : Value} (x : KeepsAt prog w h f) (k : ∀ b o, h.get? b = some o -> h'.get? b = some o) : KeepsAt prog w h' f := let ⟨r, hr⟩ := x; ⟨r, hr.keeps k⟩
theorem zaW (h : Heap) (x : Str) : KeepsAt prog w h (i9 x) := by
 unfold i9
 (repeat' split) <;> first | exact vB _ _ | exact fB _ _
end
theorem pH {σ : Nat -> Option Cell} : ∀ {ps : List PV}, ps.any rD = false -> ps.map (der σ) = ps
 | [], _ => rfl
 | p :: ps, h => by
  simp only [List.any_cons, Bool.or_eq_false_iff] at h
  rw [List.map_cons, pH h.2]
  cases p <;> first | rfl | cases h.1
theorem VRel.scalar {P : Params} {G G' : GM} {v : Value} {p : PV} (h : VRel P G v p) (hs : j6 p = true) : VRel P G' v p := by
 cases p <;> first | (cases hs; done) | (simp only [VRel] at h ⊢; exact h)
noncomputable def frz (G : GM) (σ : Nat -> Option Cell) (h : Heap) : GM := fun a => if (dS (σ a)).isSome = true then h.get? a else G a
noncomputable def zV (G : GM) (σ : Nat -> Option Cell) : GM := fun a => if (dS (σ a)).isSome = true then none else G a
theorem iO {c : Option Cell} (h : (dS c).isSome = true) : ∃ xs, c = some (.lst xs) := by
 cases c with
 | none => cases h
 | some c => cases c with
  | lst xs => exact ⟨xs, rfl⟩
  | ins c fs => cases h
section
variable {prog : Program} {w : World} {B : Bs} {C : Ctx} {n : Nat} {P : Params} {G G' : GM} {env : Env} {st : St} {s s' : Shared}
theorem tF {σ : Nat -> Option Cell} {h : Heap} (hc : ∀ a c, σ a = some c -> G a = none) : Sub G (frz G σ h) := fun a o e => by
 unfold frz
 by_cases q : (dS (σ a)).isSome = true
 ·obtain ⟨xs, q⟩ := iO q
  rw [hc a _ q] at e; cases e
 ·rw [if_neg q]; exact e
theorem kI (R : Rep P G env st s) : Sub G (frz G st.σ s.heap) := tF fun a c e => (R.cells a c e).2.1
theorem zbQ (R : Rep P G env st s) : InH (frz G st.σ s.heap) s.heap := by
 intro a o e
 unfold frz at e
 by_cases q : (dS (st.σ a)).isSome = true
 ·rw [if_pos q] at e; exact e
 ·rw [if_neg q] at e; exact R.inh a o e
theorem zcV (R : Rep P G env st s) {v : Value} {p : PV} (h : VRel P G v p) : VRel P (frz G st.σ s.heap) v (der st.σ p) := by
 cases p with
 | ptr a =>
  show VRel P (frz G st.σ s.heap) v (Option.casesOn (motive := fun _ => PV) (dS (st.σ a)) (.ptr a) .list)
  by_cases q : (dS (st.σ a)).isSome = true
  ·obtain ⟨xs, e⟩ := iO q
   simp only [VRel] at h; subst h
   obtain ⟨⟨vs, m, h1, h2, h3⟩, _⟩ := R.cells a _ e
   have hf : frz G st.σ s.heap a = s.heap.get? a := if_pos q
   rw [e]
   simp only [dS, VRel]
   exact ⟨a, _, vs, m, rfl, hf.trans h1, rfl, rfl, rfl, h2, h3.mono (kI R)⟩
  ·cases e : dS (st.σ a) with
   | none => exact h.mono (kI R)
   | some xs => rw [e] at q; exact absurd rfl q
 | _ => exact h.mono (kI R)
theorem tG (R : Rep P G env st s) : ∀ {vs : List Value} {ps : List PV}, VRels P G vs ps -> VRels P (frz G st.σ s.heap) vs (ps.map (der st.σ))
 | vs, [], h => h
 | vs, p :: ps, h => let ⟨v, r, e, h1, h2⟩ := h; e ▸ .cons (zcV R h1) (tG R h2)
theorem zU (R : Rep P G env st s) (g : GS (frz G st.σ s.heap) s G' s') : GS G s (zV G' st.σ) s' where
 ext := fun a o e => by
  unfold zV
  by_cases q : (dS (st.σ a)).isSome = true
  ·obtain ⟨xs, q⟩ := iO q
   rw [(R.cells a _ q).2.1] at e; cases e
  ·rw [if_neg q]; exact g.ext a o (kI R a o e)
 inh := fun a o e => by
  unfold zV at e
  by_cases q : (dS (st.σ a)).isSome = true
  ·rw [if_pos q] at e; cases e
  ·rw [if_neg q] at e; exact g.inh a o e
 new := fun a o e => by
  unfold zV at e
  by_cases q : (dS (st.σ a)).isSome = true
  ·rw [if_pos q] at e; cases e
  ·rw [if_neg q] at e
   rcases g.new a o e with h | h
   ·unfold frz at h
    rw [if_neg q] at h; exact .inl h
   ·exact .inr h
 keep := g.keep
 os := g.os
 gens := g.gens
theorem zde {A : Around} {E : Value -> Shared -> Prop} {cw : Bool} {f : Value} {F : Fn} {vs : List Value} {ps : List PV} {Q : PV -> St -> Prop} (hA : Room n A) (hF : Meets prog w B n f F) (O : Ok B w.params G env st s)
  (hv : VRels w.params G vs ps) (h : F (ps.map (der st.σ)) fun r => (ps.any rD = false \/ j6 r = true) /\ Q r st) :
  wpAny (model prog w) A (call f vs) (Lands B w.params cw env G st s (VX w.params Q)) E s := by
 refine bJ O ?_
 by_cases hp : ps.any rD = false
 ·rw [pH hp] at h
  exact (hF.2 A E G s vs ps _ hA O.rep.inh O.rep.tk O.over hv h).mono fun r x => x.2
 ·have hg := hF.2 A E (frz G st.σ s.heap) s vs _ _ hA (zbQ O.rep) O.rep.tk (O.over.ext (kI O.rep)) (tG O.rep hv) h
  exact wpAny_mono hg (fun v s' ⟨r, G', ⟨h1, h2⟩, h3, h4⟩ => ⟨r, _, h2, zU O.rep h3, h4.scalar (h1.resolve_left hp)⟩) fun _ _ e => e
theorem zbq {A : Around} {E : Value -> Shared -> Prop} {cw : Bool} {f : Value} {F : Fn} {vs : List Value} {ps : List PV} {Q : PV -> St -> Prop} (hA : Room n A) (hF : Meets prog w B n f F) (O : Ok B w.params G env st s)
  (hv : VRels w.params G vs ps) (h : F ps fun r => Q r st) : wpAny (model prog w) A (call f vs) (Lands B w.params cw env G st s (VX w.params Q)) E s :=
 bJ O (hF.2 A E G s vs ps _ hA O.rep.inh O.rep.tk O.over hv h)
theorem zdf {A : Around} {E : Value -> Shared -> Prop} {cw : Bool} {x : Str} {vs : List Value} {ps : List PV} {Q : PV -> St -> Prop} (hA : Room n A) (O : Ok B w.params G env st s)
  (hv : VRels w.params G vs ps) (h : biP x (ps.map (der st.σ)) fun r => Q r st) : wpAny (model prog w) A (call (i9 x) vs) (Lands B w.params cw env G st s (VX w.params Q)) E s :=
 bJ O (bi_G hA O.rep.inh (y3 O.rep hv) h)
theorem Ok.keepsAt {f : Value} (O : Ok B P G env st s) (h : KeepsAt prog w B.h₀ f) : KeepsAt prog w s.heap f := h.keeps fun a o e => O.rep.inh a o (O.over a o e)
theorem zap {x : Str} {np p : Pos} {args : List Expr} (hB : BsOk B) (hC : CtxOk prog w B C n) (h : ∀ e ∈ args, cC prog w B C n e) (hs : args.all cM = true) (ok : (x == ("__debug__" : Str)) = false) :
  cC prog w B C n (.Call (.Name x np) args [] p) := by
 intro A E cw env κ G st s Q hA hE hκ O hw
 rw [zcc] at hw
 obtain ⟨_, hk, hn, hw⟩ := hw
 have go : ∀ (f : Value), KeepsAt prog w B.h₀ f -> (∀ G' st' s' vs ps, Ok B w.params G' env st' s' -> VRels w.params G' vs ps -> jO C x ps st' (fun r => Q r st') -> wpAny (model prog w) A (call f vs) (Lands B w.params cw env G' st' s' (VX w.params Q)) E s') ->
   wpAny (model prog w) A (loadGlobal env x) (fun v s' => v = f /\ s' = s) E s -> wpAny (model prog w) A (PySem.eval (.Call (.Name x np) args [] p) env) (Lands B w.params cw env G st s (VX w.params Q)) E s := by
  intro f hf k hl
  refine wpAny_Call_NameR (wpAny_Name ?_ ok)
  rw [loadName_read hE.kind (hκ.glob hk)]
  refine wpAny_mono hl (fun v s' ⟨e1, e2⟩ => ?_) fun _ _ e => e
  subst e1 e2
  refine eN (jV args env hs) (wpAny_mono (mU args h hs A E cw env κ G st s' _ hA hE hκ O hw) (fun a s1 ⟨vs, ha, G1, st1, ⟨ps, hq, hv⟩, O1, T1⟩ => ?_) fun _ _ e => e)
  subst ha
  exact ⟨O1.keepsAt hf, aL T1 (k G1 st1 s1 vs ps O1 hv hq)⟩
 cases e1 : C.fn x with
 | some F =>
  obtain ⟨u, h1, h2⟩ := hC.fn x F e1
  exact go u h2.1 (fun G' st' s' vs ps O' hv hq => zde hA h2 O' hv (by unfold jO at hq; rw [e1] at hq; exact hq)) (dI hB hE O.rep.inh O.over h1 ⟨rfl, rfl⟩)
 | none =>
  cases e2 : C.cls x with
  | some F =>
   obtain ⟨u, h1, h2⟩ := hC.cls x F e2
   exact go u h2.1 (fun G' st' s' vs ps O' hv hq => zbq hA h2 O' hv (by unfold jO at hq; rw [e1, e2] at hq; exact hq)) (dI hB hE O.rep.inh O.over h1 ⟨rfl, rfl⟩)
  | none =>
   by_cases e3 : C.bi x = true
   ·obtain ⟨h1, h2⟩ := hC.bi x e3
    exact go (i9 x) (zaW _ x) (fun G' st' s' vs ps O' hv hq => zdf hA O' hv (by unfold jO at hq; rw [e1, e2] at hq; exact hq.2)) (nE hB hE O.rep.inh O.over h1 h2 ⟨rfl, rfl⟩)
   ·unfold vA at hn
    rw [e1, e2] at hn
    exact absurd (by simpa using hn) e3
end
noncomputable def iC (o : Expr) : Bool := zdg (exc false (fun _ => true) (fun _ => true) (fun _ => false) (fun _ _ _ => true) (fun _ _ => false) (fun _ _ => false) o) (fun f _ _ => (atN f).isSome || (nmE f).any fun x => x != ("super" : Str)) true o
theorem zG {id : Str} {q pos : Pos} {args : List Expr} {kws : List Keyword} (h : (id != ("super" : Str)) = true) (attr : Str) (env : Env) (t : Sem Value) : attributeBase (.Call (.Name id q) args kws pos) attr env t = t := by
 cases args with
 | cons => rfl
 | nil =>
  cases kws with
  | cons => rfl
  | nil =>
   unfold attributeBase
   dsimp only
   rw [h, Bool.true_or, Bool.true_or, Bool.true_or, if_pos rfl]
theorem rR {o : Expr} : iC o = true -> ∀ (attr : Str) (env : Env) (t : Sem Value), attributeBase o attr env t = t := by
 refine dO (P := fun o => iC o = true -> ∀ (attr : Str) (env : Env) (t : Sem Value), attributeBase o attr env t = t) (fun _ _ _ _ _ _ _ => rfl) (fun _ _ _ _ _ _ => rfl) (fun _ _ _ _ _ _ _ => rfl) (fun _ _ _ _ _ _ _ => rfl) (fun _ _ _ _ _ _ _ _ => rfl) (fun _ _ _ _ _ _ _ _ => rfl) (fun f as ks p h attr env t => ?_) (fun _ _ _ _ _ _ _ => rfl) (fun e h1 h2 h => ?_) o
 ·have h : ((atN f).isSome || (nmE f).any fun x => x != ("super" : Str)) = true := h
  cases hf : atN f with
  | some n =>
   obtain ⟨o, p, rfl⟩ := nT hf
   rfl
  | none =>
   rw [hf] at h
   cases hn : nmE f with
   | none => rw [hn] at h; cases h
   | some id =>
    obtain ⟨q, rfl⟩ := fA hn
    exact zG h attr env t
 ·rw [iC, h2, h1] at h
  cases h
section
variable {prog : Program} {w : World} {B : Bs} {C : Ctx} {n : Nat}
theorem pK {A : Around} {E : Value -> Shared -> Prop} {s : Shared} {env : Env} {o : Expr} {name : Str} {apos pos : Pos} {args : List Expr} {Q : Value -> Shared -> Prop}
  (hb : iC o = true) (hs : args.all cM = true) (hlen : args.length < 30) (hline : (apos.endLine == pos.line) = true)
  (h : wpAny (model prog w) A (PySem.eval o env) (fun ov s₁ => ∃ T mid, PlainAttrs T /\ Slot T name mid /\ typeOf (.builtin mid) = pure (.type "method_descriptor") /\ s₁.TypeIs ov T /\ (∀ a, ov = .ref a -> ∃ ob, s₁.heap.get? a = some ob /\ ob.dict = none) /\
   wpAny (model prog w) A (callWith pos (.builtin mid) [ov] (backTo pos (starEach args env)) []) Q E s₁) E s) :
  wpAny (model prog w) A (PySem.eval (.Call (.Attribute o name apos) args [] pos) env) Q E s := by
 have hform : methodCallForm (args.length + ([] : List Keyword).length) (backTo pos (starEach args env)) (backToKw pos (keywordEach [] env)) = true := by
  unfold methodCallForm
  rw [gS args env hs]
  exact zei rfl (decide_eq_true hlen)
 have hpos : methodCallPos true o env apos pos = pure pos := by unfold methodCallPos; simp [hline]
 rw [arm_eval_Call, rR hb]
 refine wpAny_bind (wpAny_mono h (fun ov s₁ ⟨T, mid, h1, h2, h3, h4, h5, h6⟩ => ?_) fun _ _ e => e)
 refine wpAny_bind (wpAny_standAt ?_)
 unfold methodCall
 rw [hform]
 refine wpAny_bind (wpAny_holding (getMethod_builtin h4 h1 h2 h3 h5 ?_))
 exact wpAny_bind (wpAny_of_eq hpos h6)
theorem mL {s : Shared} {v : Value} {x : List Nat} {P : Params} {G : GM} (h : VRel P G v (.str x)) : s.TypeIs v "str" /\ ∀ a, v = .ref a -> ∃ ob, s.heap.get? a = some ob /\ ob.dict = none := by
 simp only [VRel] at h
 obtain ⟨t, rfl, _⟩ := h
 exact ⟨typeIs_str _ _ _, fun a e => by cases e⟩
theorem xP {G : GM} {env : Env} {st : St} {s : Shared} {name : Str} {o : PV} {v : Value} (O : Ok B w.params G env st s) (hv : VRel w.params G v o) (h : mOk st.σ name o = true) :
  ∃ T, PlainAttrs T /\ Slot T name (dR name o) /\ typeOf (.builtin (dR name o)) = pure (.type "method_descriptor") /\ s.TypeIs v T /\ (∀ a, v = .ref a -> ∃ ob, s.heap.get? a = some ob /\ ob.dict = none) := by
 cases o <;> first | (cases h; done) | skip
 ·rename_i x
  obtain ⟨t1, t2⟩ := mL (s := s) hv
  refine ⟨"str", PySem.F.plainAttrs_str, ?_⟩
  show Slot "str" name (dD name) /\ typeOf (.builtin (dD name)) = _ /\ _
  have h : (name == "startswith" || name == "find" || name == "rfind" || name == "count" || name == "join") = true := h
  rw [Bool.or_eq_true, Bool.or_eq_true, Bool.or_eq_true, Bool.or_eq_true, beq_iff_eq, beq_iff_eq, beq_iff_eq, beq_iff_eq, beq_iff_eq] at h
  rcases h with (((h | h) | h) | h) | h <;> subst h
  ·rw [show dD "startswith" = "str.startswith" by decide +kernel]; exact ⟨PySem.F.slot_str_startswith, PySem.F.type_str_startswith, t1, t2⟩
  ·rw [show dD "find" = "str.find" by decide +kernel]; exact ⟨PySem.F.slot_str_find, PySem.F.type_str_find, t1, t2⟩
  ·rw [show dD "rfind" = "str.rfind" by decide +kernel]; exact ⟨PySem.F.slot_str_rfind, PySem.F.type_str_rfind, t1, t2⟩
  ·rw [show dD "count" = "str.count" by decide +kernel]; exact ⟨PySem.F.slot_str_count, PySem.F.type_str_count, t1, t2⟩
  ·rw [show dD "join" = "str.join" by decide +kernel]; exact ⟨PySem.F.slot_str_join, PySem.F.type_str_join, t1, t2⟩
 ·rename_i a
  have h : ((name == "append" || name == "pop") && (dS (st.σ a)).isSome) = true := h
  rw [Bool.and_eq_true, Bool.or_eq_true, beq_iff_eq, beq_iff_eq] at h
  obtain ⟨hn, h2⟩ := h
  obtain ⟨xs, e⟩ := iO h2
  simp only [VRel] at hv; subst hv
  obtain ⟨⟨vs, m, g1, g2, g3⟩, _⟩ := O.rep.cells a _ e
  have t2 : ∀ b, Value.ref a = .ref b -> ∃ ob, s.heap.get? b = some ob /\ ob.dict = none := fun b e => by cases e; exact ⟨_, g1, rfl⟩
  refine ⟨"list", PySem.F.plainAttrs_list, ?_⟩
  show Slot "list" name (if name = "append" then "list.append" else "list.pop") /\ typeOf (.builtin (if name = "append" then "list.append" else "list.pop")) = _ /\ _
  rcases hn with hn | hn <;> subst hn
  ·rw [if_pos rfl]; exact ⟨PySem.F.slot_list_append, PySem.F.type_list_append, ⟨_, g1, rfl⟩, t2⟩
  ·rw [if_neg (by decide +kernel)]; exact ⟨PySem.F.slot_list_pop, PySem.F.type_list_pop, ⟨_, g1, rfl⟩, t2⟩
 ·rename_i es
  have h : ((true && name == "get") || false) = true := h
  rw [Bool.or_false, Bool.true_and, beq_iff_eq] at h
  subst h
  simp only [VRel] at hv
  obtain ⟨a, es', m, rfl, h1, h2, h3⟩ := hv
  have g1 := O.rep.inh _ _ h2
  exact ⟨"dict", PySem.F.plainAttrs_dict, PySem.F.slot_dict_get, PySem.F.type_dict_get, ⟨_, g1, rfl⟩, fun b e => by cases e; exact ⟨_, g1, rfl⟩⟩
theorem zal {o : Expr} {name : Str} {apos p : Pos} {args : List Expr} (ho : cC prog w B C n o) (h : ∀ e ∈ args, cC prog w B C n e) (hs : args.all cM = true) (hb : iC o = true) (hlen : args.length < 30)
  (hline : (apos.endLine == p.line) = true) (hr : bT args = none) : cC prog w B C n (.Call (.Attribute o name apos) args [] p) := by
 intro A E cw env κ G st s Q hA hE hκ O hw
 rw [eO, hr] at hw
 refine pK hb hs hlen hline (aG (ho A E cw env κ G st s _ hA hE hκ O hw.2) fun ov G1 st1 s1 ⟨u, ⟨hm, hq⟩, hv⟩ O1 T1 => ?_)
 obtain ⟨T, h1, h2, h3, h4, h5⟩ := xP O1 hv hm
 refine ⟨T, dR name u, h1, h2, h3, h4, h5, ?_⟩
 refine eN (jV args env hs) (wpAny_mono (mU args h hs A E cw env κ G1 st1 s1 _ hA hE hκ O1 hq) (fun a s2 ⟨vs, ha, G2, st2, ⟨ps, hq2, hv2⟩, O2, T2⟩ => ?_) fun _ _ e => e)
 subst ha
 exact ⟨fB _ _, aL (T1.trans T2) (u9 O2 (zcG hA O2.rep O2.ct (hv.mono T2.ext) hv2 hq2))⟩
theorem oJ {as : List Expr} {x y : Str} (h : bT as = some (x, y)) : ∃ k1 p1 k2 p2, as = [.Constant (.str x) k1 p1, .Constant (.str y) k2 p2] := by
 match as, h with
 | [a, b], h =>
  obtain ⟨p, h1, h⟩ := Option.bind_eq_some_iff.mp h
  obtain ⟨q, h2, e⟩ := Option.map_eq_some_iff.mp h
  cases e
  obtain ⟨k1, p1, rfl⟩ := jP h1
  obtain ⟨k2, p2, rfl⟩ := jP h2
  exact ⟨_, _, _, _, rfl⟩
theorem m5 {p q : List Nat} (hp : p ≠ []) (hq : q.length = 1) : ∀ (n : Nat) (x : List Nat), (b8 p q n x).length <= x.length
 | 0, x => by simp [b8]
 | n + 1, [] => by simp [b8]
 | n + 1, c :: x => by
  unfold b8
  have h1 : 0 < p.length := List.length_pos_iff.mpr hp
  split
  ·have := m5 hp hq n ((c :: x).drop p.length)
   simp only [List.length_append, hq, List.length_drop, List.length_cons] at *
   by_cases h2 : p.length <= x.length + 1
   ·omega
   ·rename_i hpre
    have := (List.isPrefixOf_iff_prefix.mp hpre).length_le
    simp only [List.length_cons] at this
    omega
  ·have := m5 hp hq n x
   simp only [List.length_cons] at *
   omega
theorem m4 {p q : List Nat} : ∀ (n : Nat) (x : List Nat) (c : Nat), c ∈ b8 p q n x -> c ∈ x \/ c ∈ q
 | 0, x, c, h => .inl (by simpa [b8] using h)
 | n + 1, [], c, h => by simp [b8] at h
 | n + 1, d :: x, c, h => by
  unfold b8 at h
  split at h
  ·rcases List.mem_append.mp h with h | h
   ·exact .inr h
   ·rcases m4 n _ c h with h | h
    ·exact .inl (List.mem_of_mem_drop h)
    ·exact .inr h
  ·rcases List.mem_cons.mp h with h | h
   ·subst h; exact .inl (by simp)
   ·rcases m4 n _ c h with h | h
    ·exact .inl (List.mem_cons_of_mem _ h)
    ·exact .inr h
theorem zaj {o : Expr} {name : Str} {apos p : Pos} {args : List Expr} {x y : Str} (ho : cC prog w B C n o) (hb : iC o = true)
  (hline : (apos.endLine == p.line) = true) (hr : bT args = some (x, y)) (hoy : okC (.str y) = true) : cC prog w B C n (.Call (.Attribute o name apos) args [] p) := by
 intro A E cw env κ G st s Q hA hE hκ O hw
 rw [eO, hr] at hw
 obtain ⟨k1, p1, k2, p2, rfl⟩ := oJ hr
 refine pK hb rfl (show 2 < 30 by decide) hline (aG (ho A E cw env κ G st s _ hA hE hκ O hw.2) fun ov G1 st1 s1 ⟨u, hq, hv⟩ O1 T1 => ?_)
 obtain ⟨z, rfl, rfl, hz, hx, hy, hxy, hq⟩ := dB hq
 obtain ⟨t1, t2⟩ := mL (s := s1) hv
 refine ⟨"str", "str.replace", PySem.F.plainAttrs_str, PySem.F.slot_str_replace, PySem.F.type_str_replace, t1, t2, ?_⟩
 refine eN rfl (Calls.evalArgs_plain (Calls.spliced_cons (Calls.Constant_str (k := k1) (pos := p1) (Calls.spliced_cons (Calls.Constant_str (k := k2) (pos := p2) (Calls.spliced_nil ?_))))))
 have g := GS.toks O1.rep.inh (s1.toks + 1 + 1)
 have O2 := O1.grow g (Nat.le_add_left 1 _)
 refine ⟨fB _ _, aL (T1.trans g.tr) (bJ O2 ?_)⟩
 simp only [VRel] at hv
 obtain ⟨t, rfl, okz⟩ := hv
 have tk := O1.rep.tk
 simp only [okC, Bool.and_eq_true, List.all_eq_true, decide_eq_true_eq] at hoy
 have okr : okStr (oK x.cps.toList y.cps.toList z) := by
  refine ⟨fun c hc => ?_, Nat.le_trans (m5 hx hy _ _) okz.2⟩
  rcases m4 _ _ c hc with h | h
  ·exact okz.1 c h
  ·exact hoy.1 c h
 have ly : y.length = 1 := by rw [<- hy]; exact (Array.length_toList).symm
 refine SC.replace (Nat.ne_of_gt tk) (Nat.succ_ne_zero _) (Nat.ne_of_lt (Nat.lt_succ_self _)) (beq_eq_false_iff_ne.mpr hxy) (by rw [b6, ly]; omega) fun t' k => ⟨_, G1, hq, GS.toks O2.rep.inh k, ?_⟩
 have main := uN z x.cps.toList y.cps.toList hx
 rw [show (⟨x.cps.toList.toArray⟩ : Str) = x by simp, show (⟨y.cps.toList.toArray⟩ : Str) = y by simp] at main
 rw [main]
 simp only [VRel]
 exact ⟨t', rfl, okr⟩
end
section
variable {prog : Program} {w : World} {B : Bs} {C : Ctx} {n : Nat}
theorem vE {P : Params} {G : GM} {v : Value} {p : PV} (h : VRel P G v p) : handedIn v = true := by
 cases p <;> simp only [VRel] at h
 ·subst h; rfl
 ·subst h; rfl
 ·obtain ⟨t, rfl⟩ := h; rfl
 ·obtain ⟨t, rfl, _⟩ := h; rfl
 ·obtain ⟨a, _, _, _, rfl, _⟩ := h; rfl
 ·obtain ⟨a, _, _, _, rfl, _⟩ := h; rfl
 ·obtain ⟨vs, ⟨x, dx, rfl, _⟩, _⟩ := h; rfl
 ·obtain ⟨a, _, _, _, rfl, _⟩ := h; rfl
 ·subst h; rfl
 ·obtain ⟨a, _, _, rfl, _⟩ := h; rfl
theorem zeh {A : Around} {E : Value -> Shared -> Prop} {G : GM} {s : Shared} {name : Str} {v : Value} {p : PV} {K : PV -> Prop} {x : Bool} (hB : BsOk B) (hC : CtxOk prog w B C n) (hi : InH G s.heap) (ho : Over B G)
  (hv : VRel w.params G v p) (h : zbu C name p K) : GW (model prog w) A w.params E G s (getAttr v name x) K := by
 cases p <;> first | exact False.elim h | skip
 rename_i c fs
 simp only [VRel] at hv
 obtain ⟨vs, ⟨a, dx, rfl, h1, h2⟩, h3⟩ := hv
 have I : PySem.W.InstAt s.heap a _ c (some gP) := ⟨hi _ _ h1, rfl, rfl, hi _ _ h2⟩
 have X : B.K.In s.heap := hB.kin.keeps fun b o e => hi _ _ (ho _ _ e)
 have h : oN (C.slot c name) (opt (C.cval c name) K) fun i => opt fs[i]? K := h
 cases hs : C.slot c name with
 | some i =>
  rw [hs] at h
  obtain ⟨s1, s2, q, s3, s4, _⟩ := hC.slot c name i hs
  obtain ⟨u, hu, h⟩ := bS h
  obtain ⟨uv, e1, e2⟩ := h3.get hu
  refine get_bind X I s1 s3 s2 ?_
  refine wpAny_call (slot_get (v := uv) (od := some gP) (X.keeps fun _ _ e => e) ⟨I.at_, I.cls, I.no, hi _ _ h2⟩ s4 ?_ ?_)
  ·show ((vs.map some).toArray[i]?).join = _
   rw [List.getElem?_toArray, List.getElem?_map, e1]; rfl
  ·dsimp only
   rw [handedOut_of (vE e2)]
   exact wpAny_pure ⟨u, G, h, GS.toks hi _, e2⟩
 | none =>
  rw [hs] at h
  obtain ⟨u, hu, h⟩ := bS h
  obtain ⟨s1, uv, s2, s3, s4⟩ := hC.cval c name u hu
  exact get_value X I s1 s2 s3 ⟨u, G, h, GS.toks hi _, s4.mono ho⟩
theorem zaq {o : Expr} {name : Str} {p : Pos} (hB : BsOk B) (hC : CtxOk prog w B C n) (ho : cC prog w B C n o) (hb : iC o = true) : cC prog w B C n (.Attribute o name p) := by
 intro A E cw env κ G st s Q hA hE hκ O hw
 rw [arm_eval_Attribute, rR hb]
 refine wpAny_bind (aG (ho A E cw env κ G st s _ hA hE hκ O hw) fun ov G1 st1 s1 ⟨u, hq, hv⟩ O1 T1 => ?_)
 refine wpAny_bind (wpAny_standAt (wpAny_bind (wpAny_holding ?_)))
 refine aG (cw := cw) (bJ (Q := Q) O1 (zeh hB hC O1.rep.inh O1.over hv hq)) fun r G2 st2 s2 hr O2 T2 => ?_
 exact wpAny_bind (wpAny_letTemporaryGo (wpAny_pure ((aK (X := VX w.params Q) O2 hr).after (T1.trans T2))))
theorem zeM {A : Around} {E : Value -> Shared -> Prop} {G : GM} {s : Shared} {v iv : Value} {p i : PV} {K : PV -> Prop} (hi : InH G s.heap) (hv : jW w.params G s.heap v p) (hiv : VRel w.params G iv i) (h : zbP p i K) :
  GW (model prog w) A w.params E G s (getItem v iv) K /\ ∃ T id, s.TypeIs v T /\ typeLookup (.type T) "__getitem__" = pure (some (.builtin id)) := by
 obtain ⟨k, rfl, h⟩ := b9 h
 cases p <;> first | exact False.elim h | skip
 ·obtain ⟨c, hc, h⟩ := bS h
  exact ⟨zcS hi hv hiv hc h, "str", _, (mL (P := w.params) (G := G) hv).1, PySem.F.slot_str_getitem.lookup⟩
 ·obtain ⟨c, hc, h⟩ := bS h
  refine ⟨zcR hi hv hiv hc h, "tuple", _, ?_, PySem.F.slot_tuple_getitem.lookup⟩
  simp only [jW, VRel] at hv
  obtain ⟨a, o, vs, m, rfl, h1, h2, _⟩ := hv
  exact ⟨o, hi _ _ h1, h2⟩
 ·obtain ⟨c, hc, h⟩ := bS h
  refine ⟨za1 hi hv hiv hc h, "list", _, ?_, PySem.F.slot_list_getitem.lookup⟩
  obtain ⟨a, o, vs, m, rfl, h1, h2, _⟩ := hv
  exact ⟨o, h1, h2⟩
theorem zcp {o i : Expr} {p : Pos} (ho : cC prog w B C n o) (hi : cC prog w B C n i) (hs : ∀ a b, subscripted i false a b = operate [a, b] (getItem a b)) (hu : zaY i = false) : cC prog w B C n (.Subscript o i p) := by
 intro A E cw env κ G st s Q hA hE hκ O hw
 rw [zdz, hu] at hw
 refine Subscript_ (aG (ho A E cw env κ G st s _ hA hE hκ O hw) fun ov G1 st1 s1 ⟨u, hq, hv⟩ O1 T1 => ?_)
 refine aG (hi A E cw env κ G1 st1 s1 _ hA hE hκ O1 hq) fun iv G2 st2 s2 ⟨u2, hq2, hv2⟩ O2 T2 => ?_
 obtain ⟨g, T, id, t1, t2⟩ := zeM (prog := prog) (A := A) (E := E) O2.rep.inh (O2.rep.view (hv.mono T2.ext)) hv2 hq2
 exact tail_any t1 t2 (aL (T1.trans T2) (bJ O2 g)) (hs ov iv)
theorem sL {l : Option Expr} (h : ∀ e, l = some e -> cC prog w B C n e) (A : Around) (E : Value -> Shared -> Prop) (cw : Bool) (env : Env) (κ : Kn) (G : GM) (st : St) (s : Shared) (Q : Option Int -> St -> Prop) (hA : Room n A) (hE : EnvOk env) (hκ : KOk κ env) (O : Ok B w.params G env st s)
  (hw : wOp C l κ Q st) : wpAny (model prog w) A (PySem.evalPart l env) (Lands B w.params cw env G st s (fun _ st' v => ∃ i, Q i st' /\ ∃ t, v = partValue (i.map (·, t)))) E s := by
 cases l with
 | none =>
  rw [evalPart_none]
  exact wpAny_pure (aK O ⟨none, hw, s.toks, rfl⟩)
 | some e =>
  rw [evalPart_some]
  refine x9 (h e rfl A E cw env κ G st s _ hA hE hκ O hw) fun v G' st' ⟨p, hq, hv⟩ => ?_
  obtain ⟨i, rfl, hq⟩ := b9 hq
  simp only [VRel] at hv
  obtain ⟨t, rfl⟩ := hv
  exact ⟨some i, hq.2.2, t, rfl⟩
theorem w4 {A : Around} {E : Value -> Shared -> Prop} {G : GM} {s : Shared} {v vl vu : Value} {y : PV} {q : Addr} {lo hi : Option Int} {K : PV -> Prop} (hi' : InH G s.heap) (hv : jW w.params G s.heap v y)
  (hs : s.heap.get? q = some { cls := .type "slice", data := .fields #[vl, vu, .none] }) (hl : ∃ t, vl = partValue (lo.map (·, t))) (hu : ∃ t, vu = partValue (hi.map (·, t))) (h : zct y lo hi K) :
  ∃ T ci, s.TypeIs v T /\ typeLookup (.type T) "__getitem__" = pure (some (.builtin ci)) /\ GW (model prog w) A w.params E G s (getItem v (.ref q)) K := by
 cases y <;> first | exact False.elim h | skip
 ·rename_i y
  exact ⟨"str", _, (mL (P := w.params) (G := G) hv).1, PySem.F.slot_str_getitem.lookup, fW (sl := .none) (lo := lo) (hi := hi) (r := .str (slc y lo hi)) hi' hv hs hl hu rfl h⟩
 ·rename_i y
  have t3 := fW (prog := prog) (w := w) (A := A) (E := E) (K := K) (sl := .none) (lo := lo) (hi := hi) (r := .list (slc y lo hi)) hi' hv hs hl hu rfl h
  obtain ⟨a, ob, vs, m, rfl, h1, h2, _⟩ := hv
  exact ⟨"list", _, ⟨ob, h1, h2⟩, PySem.F.slot_list_getitem.lookup, t3⟩
theorem wT {o : Expr} {l u : Option Expr} {sp p : Pos} (ho : cC prog w B C n o) (hl : ∀ e, l = some e -> cC prog w B C n e) (hu : ∀ e, u = some e -> cC prog w B C n e) :
  cC prog w B C n (.Subscript o (.Slice l u none sp) p) := by
 intro A E cw env κ G st s Q hA hE hκ O hw
 rw [zdA] at hw
 refine Subscript_ (aG (ho A E cw env κ G st s _ hA hE hκ O hw) fun ov G1 st1 s1 ⟨x, hq, hv⟩ O1 T1 => ?_)
 refine PySem.wpAny_Slice (aG (sL hl A E cw env κ G1 st1 s1 _ hA hE hκ O1 hq.2) fun lv G2 st2 s2 ⟨lo, hq2, hlv⟩ O2 T2 => ?_)
 refine aG (sL hu A E cw env κ G2 st2 s2 _ hA hE hκ O2 hq2) fun uv G3 st3 s3 ⟨hi, hq3, huv⟩ O3 T3 => ?_
 refine wpAny_pure ?_
 have g : GS G3 s3 G3 { s3 with heap := s3.heap.push { cls := .type "slice", data := .fields #[lv, uv, .none] } } := GS.heap O3.rep.inh s3.toks fun a o e => Heap.get?_push_of_some _ e
 have O4 := O3.grow g O3.rep.tk
 have hv4 := O4.rep.view (hv.mono (T2.ext.trans T3.ext))
 have hat : (s3.heap.push { cls := .type "slice", data := .fields #[lv, uv, .none] }).get? s3.heap.objs.size = some { cls := .type "slice", data := .fields #[lv, uv, .none] } := Heap.get?_push_size _ rfl
 obtain ⟨T, ci, t1, t2, t3⟩ := w4 (prog := prog) (A := A) (E := E) O4.rep.inh hv4 hat hlv huv hq3
 exact tail_any (ops := [.ref s3.heap.objs.size, ov]) t1 t2 (aL (T1.trans (T2.trans (T3.trans g.tr))) (bJ O4 t3)) rfl
theorem uT {A : Around} {E : Value -> Shared -> Prop} {cw : Bool} {env : Env} {G : GM} {st : St} {s : Shared} {pos : Pos} {vs : List Value} {ps : List PV} {Q : PV -> St -> Prop} (O : Ok B w.params G env st s) (hv : VRels w.params G vs ps) (hz : vs.length <= aP)
  (h : bF C pos ps Q st) : wpAny (model prog w) A (newList vs) (Lands B w.params cw env G st s (VX w.params Q)) E s := by
 unfold bF at h
 by_cases q : C.mutL pos.line = true
 ·rw [if_pos q] at h
  obtain ⟨h1, h2, h3, h4⟩ := O.rep.newCell (cw := cw) O.ct hv hz (k := s.toks) O.rep.tk
  refine wpAny_newObj_type ⟨G, _, ⟨.ptr s.heap.objs.size, h _ h1, by simp [VRel]⟩, ⟨O.over, h2, h3⟩, h4⟩ (by show vs.toArray.size <= sizeLine; rw [List.size_toArray]; exact hz)
 ·rw [if_neg q] at h
  exact bJ O (xN O.rep.inh hv hz h)
theorem qA : ∀ (es : List Expr) {κ : Kn} {Q : List PV -> St -> Prop} {st : St}, CtxMono C -> wEs C es κ Q st -> wEs C es κ (fun ps st' => ps.length = es.length /\ Q ps st') st
 | [], _, _, _, _, h => ⟨rfl, h⟩
 | e :: es, _, _, _, hM, h => aV hM e (fun v st1 h1 => bZ hM es (fun ps st2 h2 => ⟨congrArg Nat.succ h2.1, h2.2⟩) (qA es hM h1)) h
theorem zam {es : List Expr} {p : Pos} (hM : CtxMono C) (h : ∀ e ∈ es, cC prog w B C n e) (hs : es.all cM = true) (hz : es.length <= 1000) : cC prog w B C n (.List es p) := by
 intro A E cw env κ G st s Q hA hE hκ O hw
 rw [arm_eval_List]
 refine wpAny_bind (wpAny_standAt (wpAny_bind (aG (e6 es h hs A E cw env κ G st s _ hA hE hκ O (qA es hM hw)) fun vs G1 st1 s1 ⟨ps, ⟨hl, hq⟩, hv⟩ O1 T1 => ?_)))
 exact aL T1 (uT O1 hv (by rw [hv.length, hl]; unfold aP; omega) hq)
theorem wR {es : List Expr} {x : Nat} {p : Pos} (hM : CtxMono C) (h : ∀ e ∈ es, cC prog w B C n e) (hs : es.all cM = true) (hz : es.length <= 1000) : cC prog w B C n (.Tuple es x p) := by
 intro A E cw env κ G st s Q hA hE hκ O hw
 rw [arm_eval_Tuple]
 refine wpAny_bind (wpAny_standAt (wpAny_bind (aG (e6 es h hs A E cw env κ G st s _ hA hE hκ O (qA es hM hw)) fun vs G1 st1 s1 ⟨ps, ⟨hl, hq⟩, hv⟩ O1 T1 => ?_)))
 exact aL T1 (bJ O1 (uS O1.rep.inh hv (by rw [hv.length, hl]; unfold aP; omega) hq))
end
structure Itr (prog : Program) (w : World) (A : Around) (P : Params) (I : Addr) (G : GM) (items : List PV) (Ws : Nat -> Heap -> Prop) : Prop where
 frame : ∀ i h h', Ws i h -> (∀ o, h.get? I = some o -> h'.get? I = some o) -> InH G h' -> Ws i h'
 item : ∀ i p (s : Shared) (Q : Option Value -> Shared -> Prop) (E : Value -> Shared -> Prop), items[i]? = some p -> Ws i s.heap ->
  (∀ v h' tk, VRel P G v p -> Ws (i + 1) h' -> (∀ b o, b ≠ I -> s.heap.get? b = some o -> h'.get? b = some o) ->
   (∀ (target : Expr) (E' : Value -> Shared -> Prop) (Q' : Unit -> Shared -> Prop), Q' () { s with heap := h', toks := tk } -> wpAny (model prog w) A (letOwnedTupleGo target (.ref I) v) Q' E' { s with heap := h', toks := tk }) ->
   Q (some v) { s with heap := h', toks := tk }) -> wpAny (model prog w) A (pyNext (.ref I)) Q E s
 done : ∀ (s : Shared) (Q : Option Value -> Shared -> Prop) (E : Value -> Shared -> Prop), Ws items.length s.heap ->
  (∀ h' tk, (∀ b o, b ≠ I -> s.heap.get? b = some o -> h'.get? b = some o) -> Q none { s with heap := h', toks := tk }) -> wpAny (model prog w) A (pyNext (.ref I)) Q E s
 alive : ∀ i h, Ws i h -> ∃ o, h.get? I = some o
 self : ∀ i (s : Shared) (Q : Value -> Shared -> Prop) (E : Value -> Shared -> Prop), Ws i s.heap -> Q (.ref I) s -> wpAny (model prog w) A (pyIter (.ref I)) Q E s
section
variable {prog : Program} {w : World} {A : Around} {E : Value -> Shared -> Prop} {s : Shared} {G : GM} {P : Params}
theorem kD {target : Expr} {I : Addr} {v : Value} {Q : Unit -> Shared -> Prop} (hv : ∀ a, v ≠ .ref a) (h : Q () s) : wpAny (model prog w) A (letOwnedTupleGo target (.ref I) v) Q E s := by
 have : letOwnedTupleGo target (.ref I) v = pure () := by cases target <;> first | rfl | (cases v <;> first | rfl | exact absurd rfl (hv _))
 rw [this]; exact wpAny_pure h
theorem dM {h : Heap} : h.get? h.objs.size = none := by
 cases e : h.get? h.objs.size with
 | none => rfl
 | some o => exact absurd (Heap.lt_size e) (Nat.lt_irrefl _)
theorem zaX (hh : A.handled = none) {I ax : Addr} {vs : Array Value} {items : List PV} (hne : ax ≠ I) (hl : ∀ h, InH G h -> h.IsList ax vs) (hr : VRels P G vs.toList items) :
  Itr prog w A P I G items (fun i h => h.IsListIter I ax i /\ h.IsList ax vs) := by
 have W := Walks.list (prog := prog) (w := w) hh I ax hne vs
 have hlen := hr.length
 simp only [Array.length_toList] at hlen
 refine ⟨fun i h h' st hk hi => ⟨st.1.at fun o e => hk o e, hl h' hi⟩, fun i p s Q E hp st hQ => ?_, fun s Q E st hQ => ?_, fun i h st => let ⟨o, ho, _⟩ := st.1; ⟨o, ho⟩, fun i s Q E st hQ => W.self i s Q E st hQ⟩
 ·have hi : i < items.length := (List.getElem?_eq_some_iff.mp hp).1
  refine W.item i s Q E (by omega) st fun v h' tk hv st' hk => ?_
  obtain ⟨q, hq, hvq⟩ := hr.get' (i := i) (v := v) (by simpa using hv)
  rw [hp] at hq; cases hq
  exact hQ v h' tk hvq st' (fun b o hb e => hk b o (by simpa using hb) e) fun target E' Q' hq => letGo_listiter st'.1 hq
 ·exact W.done s Q E (by rw [hlen]; exact st) fun h' tk hk => hQ h' tk fun b o hb e => hk b o (by simpa using hb) e
theorem yA {I : Addr} {x : List Nat} {St : Nat -> Heap -> Prop} (W : Walks prog w A I [I] [I] x.length (SignAt ⟨x.toArray⟩) St) (al : ∀ i h, St i h -> ∃ o, h.get? I = some o) (ok : okStr x) :
  Itr prog w A P I G (x.map fun c => .str [c]) St := by
 refine ⟨fun i h h' st hk hi => W.frame i h h' st fun b hb o e => by simp only [List.mem_singleton] at hb; subst hb; exact hk o e, fun i p s Q E hp st hQ => ?_, fun s Q E st hQ => ?_, al, fun i s Q E st hQ => W.self i s Q E st hQ⟩
 ·rw [List.getElem?_map, Option.map_eq_some_iff] at hp
  obtain ⟨c, hc, rfl⟩ := hp
  refine W.item i s Q E (List.getElem?_eq_some_iff.mp hc).1 st fun v h' tk hv st' hk => ?_
  obtain ⟨d, u, hd, rfl⟩ := hv
  have : d = c := by
   have hd' : x[i]? = some d := by simpa using hd
   rw [hc] at hd'; cases hd'; rfl
  subst this
  refine hQ _ h' tk ?_ st' (fun b o hb e => hk b o (by simpa using hb) e) fun target E' Q' hq => kD (fun a e => by cases e) hq
  simp only [VRel]
  exact ⟨u, rfl, qP (ok.1 d (List.mem_of_getElem? hc))⟩
 ·exact W.done s Q E (by simpa using st) fun h' tk hk => hQ h' tk fun b o hb e => hk b o (by simpa using hb) e
theorem yB (hh : A.handled = none) {I : Addr} {lo hi : Int} :
  Itr prog w A P I G ((List.range (hi - lo).toNat).map fun (k : Nat) => .int (lo + k)) (fun i h => IsRangeIter h I (lo + (i : Nat) * 1) (((hi - lo).toNat : Int) - (i : Nat)) 1) := by
 have W := Walks.range (prog := prog) (w := w) hh I lo 1 (hi - lo).toNat
 refine ⟨fun i h h' st hk hi => W.frame i h h' st fun b hb o e => by simp only [List.mem_singleton] at hb; subst hb; exact hk o e, fun i p s Q E hp st hQ => ?_, fun s Q E st hQ => ?_, fun i h st => ⟨_, st⟩, fun i s Q E st hQ => W.self i s Q E st hQ⟩
 ·rw [List.getElem?_map, Option.map_eq_some_iff] at hp
  obtain ⟨c, hc, rfl⟩ := hp
  have hlt := (List.getElem?_eq_some_iff.mp hc).1
  rw [List.length_range] at hlt
  have : c = i := by rw [List.getElem?_range hlt] at hc; cases hc; rfl
  subst this
  refine W.item c s Q E hlt st fun v h' tk hv st' hk => ?_
  obtain ⟨u, rfl⟩ := hv
  refine hQ _ h' tk ?_ st' (fun b o hb e => hk b o (by simpa using hb) e) fun target E' Q' hq => kD (fun a e => by cases e) hq
  simp only [VRel]
  exact ⟨u, by simp⟩
 ·exact W.done s Q E (by simpa using st) fun h' tk hk => hQ h' tk fun b o hb e => hk b o (by simpa using hb) e
theorem xC {lo hj : Int} (h : 0 <= lo /\ lo <= 16777216 /\ 0 <= hj /\ hj <= 16777216) : Builtin.Range.small lo hj 1 = true := by
 have f : ∀ i : Int, 0 <= i -> i <= 16777216 -> Builtin.Range.rangeFitsLong i = true := by
  intro i h0 h1
  unfold Builtin.Range.rangeFitsLong
  simp
  omega
 have e : 0 <= Builtin.Range.rangeSize lo hj 1 /\ Builtin.Range.rangeSize lo hj 1 <= 16777216 := by
  unfold Builtin.Range.rangeSize
  rw [if_pos (by decide)]
  split <;> omega
 simp only [Builtin.Range.small, Bool.and_eq_true, Bool.or_eq_true]
 refine ⟨⟨⟨⟨f _ h.1 h.2.1, f _ h.2.2.1 h.2.2.2⟩, f _ (by omega) (by omega)⟩, f _ e.1 e.2⟩, .inr ?_⟩
 rw [if_pos (by decide)]
 exact f _ (by omega) (by omega)
theorem yC {v : Value} {p : PV} {items : List PV} {Q : Value -> Shared -> Prop} (hi : InH G s.heap) (hv : VRel P G v p) (e : fU p = some items)
  (h : ∀ I h' Ws, GS G s G { s with heap := h' } -> s.heap.get? I = none -> I < h'.objs.size -> (∀ A', A'.handled = none -> Itr prog w A' P I G items Ws) -> Ws 0 h' -> Q (.ref I) { s with heap := h' }) :
  wpAny (model prog w) A (pyIter v) Q E s := by
 have push : ∀ o : Obj, GS G s G { s with heap := s.heap.push o } /\ s.heap.get? s.heap.objs.size = none /\ s.heap.objs.size < (s.heap.push o).objs.size := fun o =>
  ⟨GS.heap hi s.toks fun a o' e => Heap.get?_push_of_some _ e, dM, by rw [Heap.size_push]; omega⟩
 cases p <;> first | (cases e; done) | skip
 all_goals cases e
 ·rename_i x
  simp only [VRel] at hv
  obtain ⟨t, rfl, ok⟩ := hv
  cases ha : (⟨x.toArray⟩ : Str).cps.all (· < 128)
  ·refine wpAny_pyIter_wide ha ?_
   obtain ⟨p1, p2, p3⟩ := push { cls := .type "str_iterator", data := .fields #[.str ⟨x.toArray⟩ t, .int 0 0] }
   exact h _ _ _ p1 p2 p3 (fun A' hA => yA (St := fun i h => h.IsStrIter s.heap.objs.size "str_iterator" ⟨x.toArray⟩ t i) (by simpa using Walks.strWide hA _ ⟨x.toArray⟩ t) (fun i h st => let ⟨o, ho, _⟩ := st; ⟨o, ho⟩) ok) ⟨_, Heap.get?_push_size _ rfl, rfl, rfl⟩
  ·refine wpAny_pyIter_ascii ha ?_
   obtain ⟨p1, p2, p3⟩ := push { cls := .type "str_ascii_iterator", data := .fields #[.str ⟨x.toArray⟩ t, .int 0 0] }
   exact h _ _ _ p1 p2 p3 (fun A' hA => yA (St := fun i h => h.IsStrIter s.heap.objs.size "str_ascii_iterator" ⟨x.toArray⟩ t i) (by simpa using Walks.strAscii hA _ ⟨x.toArray⟩ t) (fun i h st => let ⟨o, ho, _⟩ := st; ⟨o, ho⟩) ok) ⟨_, Heap.get?_push_size _ rfl, rfl, rfl⟩
 ·simp only [VRel] at hv
  obtain ⟨ax, ⟨c, d, dt, sl⟩, vs, m, rfl, h1, h2, h3, h4, h5, h6⟩ := hv
  simp only at h2 h3 h4; subst h2 h3 h4
  have hl : ∀ h, InH G h -> h.IsList ax vs := fun h ih => ⟨_, ih _ _ h1, rfl, m, rfl⟩
  have hne : ax ≠ s.heap.objs.size := fun q => by have := hi _ _ h1; rw [q, dM] at this; cases this
  refine wpAny_pyIter_list (hl _ hi) ?_
  obtain ⟨p1, p2, p3⟩ := push { cls := .type "list_iterator", data := .fields #[.ref ax, .int 0 0] }
  exact h _ _ _ p1 p2 p3 (fun A' hA => zaX hA hne hl h6) ⟨⟨_, Heap.get?_push_size _ rfl, rfl, rfl⟩, hl _ p1.inh⟩
 ·rename_i lo hj
  simp only [VRel] at hv
  obtain ⟨r, t, u, z, rfl, h1, h2⟩ := hv
  refine wpAny_pyIter_range (hi _ _ h1) (xC h2) ?_
  obtain ⟨p1, p2, p3⟩ := push { cls := .type "range_iterator", data := .fields #[rawInt lo, rawInt (Builtin.Range.rangeSize lo hj 1), rawInt 1] }
  refine h _ _ _ p1 p2 p3 (fun A' hA => yB hA) ?_
  have e1 : Builtin.Range.rangeSize lo hj 1 = ((hj - lo).toNat : Int) := by
   unfold Builtin.Range.rangeSize
   rw [if_pos (by decide)]
   split <;> omega
  have e2 : rawInt (lo + ((0 : Nat) : Int) * 1) = rawInt lo := by simp
  have e3 : rawInt (((hj - lo).toNat : Int) - ((0 : Nat) : Int)) = rawInt (Builtin.Range.rangeSize lo hj 1) := by rw [e1]; simp
  show Heap.get? _ _ = _
  rw [e2, e3]
  exact Heap.get?_push_size _ rfl
end
section
variable {prog : Program} {w : World} {A : Around} {E : Value -> Shared -> Prop} {s : Shared} {G : GM} {P : Params} {env : Env} {st : St} {cw : Bool} {B : Bs}
theorem xO (R : Rep P G env st s) {a : Addr} {o : Obj} (h : G a = some o) : a ≠ env.locals := fun q => by have := R.gl; rw [<- q, h] at this; cases this
theorem Rep.storeLocal (R : Rep P G env st s) {x : Str} {p : PV} {v : Value} {m : Str -> Option Value} {h' : Heap} {k : Nat} (hl : env.kindOf x = some .local) (hv : VRel P G v p)
  (hx : ∀ y q, st.ρ y = some q -> env.kindOf y = some .local -> ∃ u, m y = some u /\ VRel P G u q)
  (hn : h'.Ns env.locals (fun y => if y = x then some v else m y)) (hs : Heap.SameBut env.locals s.heap h') (hk : 1 <= k) :
  Rep P G env ⟨upd st.ρ x p, st.σ⟩ { s with heap := h', toks := k } where
 inh := fun a o e => (hs.2 a (xO R e)).trans (R.inh a o e)
 tk := hk
 ns := ⟨_, hn, fun y q e hy => by
  simp only [upd] at e
  by_cases q1 : y = x
  ·rw [if_pos q1] at e; cases e
   exact ⟨v, by rw [if_pos q1], hv⟩
  ·rw [if_neg q1] at e
   obtain ⟨u, h1, h2⟩ := hx y q e hy
   exact ⟨u, by rw [if_neg q1]; exact h1, h2⟩⟩
 kind := fun y q e => by
  simp only [upd] at e
  by_cases q1 : y = x
  ·subst q1; exact .inl hl
  ·rw [if_neg q1] at e; exact R.kind y q e
 cel := fun y q e hy => by
  simp only [upd] at e
  by_cases q1 : y = x
  ·subst q1; exact absurd hl hy
  ·rw [if_neg q1] at e
   obtain ⟨c, u, h1, h2, h3⟩ := R.cel y q e hy
   exact ⟨c, u, h1, h2.sameBut hs (R.gc y c h1).2, h3⟩
 cell0 := fun y e => by
  obtain ⟨c, u, h1, h2⟩ := R.cell0 y e
  exact ⟨c, u, h1, h2.sameBut hs (R.gc y c h1).2⟩
 gl := R.gl
 gc := R.gc
 cinj := R.cinj
 cells := fun a c e => by
  obtain ⟨h1, h2, h3, h4⟩ := R.cells a c e
  refine ⟨?_, h2, h3, h4⟩
  exact h1.mono (.refl _) fun o ho => (hs.2 a h3).trans ho
theorem Ok.storeLocal (O : Ok B P G env st s) {x : Str} {p : PV} {v : Value} {m : Str -> Option Value} {h' : Heap} {k : Nat} (hl : env.kindOf x = some .local) (hv : VRel P G v p)
  (hx : ∀ y q, st.ρ y = some q -> env.kindOf y = some .local -> ∃ u, m y = some u /\ VRel P G u q) (hm : s.heap.Ns env.locals m)
  (hn : h'.Ns env.locals (fun y => if y = x then some v else m y)) (hs : Heap.SameBut env.locals s.heap h') (hk : 1 <= k) :
  Ok B P G env ⟨upd st.ρ x p, st.σ⟩ { s with heap := h', toks := k } /\ Tr cw env G st s G ⟨upd st.ρ x p, st.σ⟩ { s with heap := h', toks := k } := by
 have al : (h'.get? env.locals).isSome = true := by obtain ⟨o, _, _, h1, _⟩ := hn; rw [h1]; rfl
 refine ⟨⟨O.over, O.rep.storeLocal hl hv hx hn hs hk, O.ct.same hs al⟩, ⟨.refl _, fun _ _ e => .inl e, fun a o e h1 _ _ => (hs.2 a h1).trans e, fun a e => ?_, fun _ e => e, fun _ e => .inl e, rfl, fun e => e⟩⟩
 by_cases q : a = env.locals
 ·subst q; exact al
 ·show (h'.get? a).isSome = true
  rw [hs.2 a q]; exact e
theorem Rep.storeCell (R : Rep P G env st s) {x : Str} {p : PV} {v : Value} {c : Addr} {h' : Heap} {k : Nat} (hl : env.kindOf x = some .cell) (hc : env.cells.lookup x = some c) (hv : VRel P G v p)
  (hn : h'.IsCell c (some v)) (hs : Heap.SameBut c s.heap h') (hk : 1 <= k) :
  Rep P G env ⟨upd st.ρ x p, st.σ⟩ { s with heap := h', toks := k } where
 inh := fun a o e => (hs.2 a fun q => by have := (R.gc x c hc).1; rw [<- q, e] at this; cases this).trans (R.inh a o e)
 tk := hk
 ns := by
  obtain ⟨m, h1, h2⟩ := R.ns
  refine ⟨m, h1.sameBut hs (Ne.symm (R.gc x c hc).2), fun y q e hy => ?_⟩
  simp only [upd] at e
  by_cases q1 : y = x
  ·subst q1; rw [hl] at hy; cases hy
  ·rw [if_neg q1] at e; exact h2 y q e hy
 kind := fun y q e => by
  simp only [upd] at e
  by_cases q1 : y = x
  ·subst q1; exact .inr (.inl hl)
  ·rw [if_neg q1] at e; exact R.kind y q e
 cel := fun y q e hy => by
  simp only [upd] at e
  by_cases q1 : y = x
  ·subst q1; rw [if_pos rfl] at e; cases e
   exact ⟨c, v, hc, hn, hv⟩
  ·rw [if_neg q1] at e
   obtain ⟨d, u, h1, h2, h3⟩ := R.cel y q e hy
   exact ⟨d, u, h1, h2.sameBut hs fun q2 => q1 (R.cinj y x c (q2 ▸ h1) hc), h3⟩
 cell0 := fun y e => by
  by_cases q1 : y = x
  ·subst q1; exact ⟨c, some v, hc, hn⟩
  ·obtain ⟨d, u, h1, h2⟩ := R.cell0 y e
   exact ⟨d, u, h1, h2.sameBut hs fun q2 => q1 (R.cinj y x c (q2 ▸ h1) hc)⟩
 gl := R.gl
 gc := R.gc
 cinj := R.cinj
 cells := fun a d e => by
  obtain ⟨h1, h2, h3, h4⟩ := R.cells a d e
  refine ⟨?_, h2, h3, h4⟩
  exact h1.mono (.refl _) fun o ho => (hs.2 a fun q => h4 x (q ▸ hc)).trans ho
theorem Ok.storeCell (O : Ok B P G env st s) {x : Str} {p : PV} {v : Value} {c : Addr} {h' : Heap} {k : Nat} (hl : env.kindOf x = some .cell) (hc : env.cells.lookup x = some c) (hv : VRel P G v p)
  (hn : h'.IsCell c (some v)) (hs : Heap.SameBut c s.heap h') (hk : 1 <= k) :
  Ok B P G env ⟨upd st.ρ x p, st.σ⟩ { s with heap := h', toks := k } /\ Tr true env G st s G ⟨upd st.ρ x p, st.σ⟩ { s with heap := h', toks := k } := by
 have al : (h'.get? c).isSome = true := by obtain ⟨o, h1, _⟩ := hn; rw [h1]; rfl
 refine ⟨⟨O.over, O.rep.storeCell hl hc hv hn hs hk, O.ct.same hs al⟩, ⟨.refl _, fun _ _ e => .inl e, fun a o e h1 h2 _ => (hs.2 a fun q => h2 rfl x (q ▸ hc)).trans e, fun a e => ?_, fun _ e => e, fun _ e => .inl e, rfl, fun e => e⟩⟩
 by_cases q : a = c
 ·subst q; exact al
 ·show (h'.get? a).isSome = true
  rw [hs.2 a q]; exact e
noncomputable def zdo (cw : Bool) (env : Env) (x : Str) : Prop := env.kindOf x = some .local \/ (cw = true /\ env.kindOf x = some .cell)
theorem mS {x : Str} {p : PV} {v : Value} (hE : EnvOk env) (O : Ok B P G env st s) (hx : zdo cw env x) (hv : VRel P G v p) :
  wpAny (model prog w) A (storeName env x v) (Lands B P cw env G st s (fun _ st' _ => st' = ⟨upd st.ρ x p, st.σ⟩)) E s := by
 have hp : (env.scope.kind == .class || (env.scope.kind == .module && env.locals != env.globals)) = false := by rw [hE.kind]; rfl
 rcases hx with hl | ⟨rfl, hl⟩
 ·obtain ⟨m, h1, h2⟩ := O.rep.ns
  refine wpAny_storeName_local hl h1 (fun h' hn hs => ?_) hp
  obtain ⟨O', T'⟩ := O.storeLocal (cw := cw) (k := s.toks + 1) hl hv h2 h1 hn hs (by omega)
  exact ⟨G, _, rfl, O', T'⟩
 ·obtain ⟨c, u, h1, h2⟩ := O.rep.cell0 x hl
  refine wpAny_storeName_cell hE.kind hl h1 h2 fun h' hn hs => ?_
  obtain ⟨O', T'⟩ := O.storeCell (k := s.toks) hl h1 hv hn hs O.rep.tk
  exact ⟨G, _, rfl, O', T'⟩
theorem oO {vs : List PV} {ρ ρ' : dG} (h : dQ [] vs ρ = some ρ') : vs = [] /\ ρ' = ρ := by
 cases vs with
 | nil => cases h; exact ⟨rfl, rfl⟩
 | cons v vs => cases h
theorem lY {e : Expr} {es : List Expr} {vs : List PV} {ρ ρ' : dG} (h : dQ (e :: es) vs ρ = some ρ') : ∃ x px v us, e = .Name x px /\ vs = v :: us /\ dQ es us (upd ρ x v) = some ρ' := by
 obtain ⟨x, hx, h⟩ := Option.bind_eq_some_iff.mp h
 obtain ⟨px, rfl⟩ := fA hx
 cases vs with
 | nil => cases h
 | cons v us => exact ⟨x, px, v, us, rfl, rfl, h⟩
theorem tU (hE : EnvOk env) : ∀ (es : List Expr) (ps : List PV) (vs : List Value) (ρ' : dG) (G : GM) (st : St) (s : Shared), Ok B P G env st s -> (∀ x ∈ es.filterMap nmE, zdo cw env x) -> VRels P G vs ps ->
  dQ es ps st.ρ = some ρ' -> wpAny (model prog w) A (assignInOrder ((assignEach es env).map (·.2)) vs) (Lands B P cw env G st s (fun _ st' _ => st' = ⟨ρ', st.σ⟩)) E s
 | [], ps, vs, ρ', G, st, s, O, hx, hr, h => by
  obtain ⟨rfl, rfl⟩ := oO h
  cases hr
  exact wpAny_pure (aK O rfl)
 | e :: es, ps, vs, ρ', G, st, s, O, hx, hr, h => by
  obtain ⟨x, px, p, ps, rfl, rfl, h⟩ := lY h
  obtain ⟨v, us, rfl, h1, h2⟩ := hr
  show wpAny _ _ (do holding us (assign (.Name x px) env v); assignInOrder ((assignEach es env).map (·.2)) us) _ _ _
  refine wpAny_bind (wpAny_holding (wpAny_assign_Name (aG (mS (p := p) hE O (hx x List.mem_cons_self) h1) fun _ G1 st1 s1 e1 O1 T1 => ?_)))
  subst e1
  exact aL T1 (tU hE es ps us ρ' G1 _ s1 O1 (fun y hy => hx y (List.mem_cons_of_mem _ hy)) (h2.mono T1.ext) h)
theorem gQ (env : Env) : ∀ (es : List Expr) (ps : List PV) (ρ ρ' : dG), dQ es ps ρ = some ρ' -> (assignEach es env).length = ps.length /\ (assignEach es env).findIdx? (·.1) = none
 | [], ps, _, _, h => by obtain ⟨rfl, _⟩ := oO h; exact ⟨rfl, rfl⟩
 | e :: es, ps, ρ, ρ', h => by
  obtain ⟨x, px, v, us, rfl, rfl, h⟩ := lY h
  obtain ⟨h1, h2⟩ := gQ env es us _ _ h
  refine ⟨congrArg Nat.succ h1, ?_⟩
  show ((false, assign (.Name x px) env) :: assignEach es env).findIdx? (·.1) = none
  rw [List.findIdx?_cons, h2]; rfl
theorem k7 (hh : A.handled = none) (hE : EnvOk env) {t : Expr} {p : PV} {v : Value} {ρ' : dG} (O : Ok B P G env st s) (hx : ∀ x ∈ cA t, zdo cw env x) (hv : VRel P G v p) (h : iP t p st.ρ = some ρ') :
  wpAny (model prog w) A (assign t env v) (Lands B P cw env G st s (fun _ st' _ => st' = ⟨ρ', st.σ⟩)) E s := by
 unfold iP at h
 unfold cA at hx
 cases hn : nmE t with
 | some x =>
  rw [hn] at h hx
  obtain ⟨px, rfl⟩ := fA hn
  cases h
  exact wpAny_assign_Name (mS hE O (hx x List.mem_cons_self) hv)
 | none =>
  rw [hn] at h hx
  obtain ⟨es, he, hb⟩ := Option.bind_eq_some_iff.mp h
  clear h
  obtain ⟨k, ppos, rfl⟩ := wC he
  cases p <;> first | (cases hb; done) | skip
  rename_i ps
  have h : dQ es ps st.ρ = some ρ' := hb
  clear hb
  simp only [VRel] at hv
  obtain ⟨a, ⟨c, d, dt, sl⟩, vs, m, rfl, h1, h2, h3, h4, h5⟩ := hv
  simp only at h2 h3; subst h2 h3
  obtain ⟨l1, l2⟩ := gQ env es ps _ _ h
  have l3 := h5.length
  rw [Array.length_toList] at l3
  refine wpAny_assign_Tuple hh ⟨_, O.rep.inh _ _ h1, rfl, m, rfl⟩ (by rw [l1, l3]) l2 fun h' hx' => ?_
  have g : GS G s G { s with heap := h' } := GS.heap O.rep.inh s.toks fun a o e => hx' a o (fun q => by rw [q, dM] at e; cases e) e
  exact aL g.tr (tU hE es ps vs.toList ρ' G st _ (O.grow g O.rep.tk) hx h5 h)
end
structure Fr (G : GM) (σ : Nat -> Option Cell) (s : Shared) (G' : GM) (σ' : Nat -> Option Cell) (s' : Shared) : Prop where
 ext : Sub G G'
 new : ∀ a o, G' a = some o -> G a = some o \/ s.heap.get? a = none
 keep : ∀ a o, s.heap.get? a = some o -> σ a = none -> s'.heap.get? a = some o
 alive : ∀ a, (s.heap.get? a).isSome = true -> (s'.heap.get? a).isSome = true
 dom : ∀ a, (σ a).isSome = true -> (σ' a).isSome = true
 fresh : ∀ a, (σ' a).isSome = true -> (σ a).isSome = true \/ s.heap.get? a = none
 os : s'.os = s.os
 gens : AllBare s.gens -> AllBare s'.gens
section
variable {P : Params} {G G' G'' : GM} {env cenv : Env} {st st' st'' : St} {s s' s'' : Shared} {cw : Bool} {σ σ' σ'' : Nat -> Option Cell} {B : Bs}
theorem Fr.refl : Fr G σ s G σ s := ⟨.refl _, fun _ _ e => .inl e, fun _ _ e _ => e, fun _ e => e, fun _ e => e, fun _ e => .inl e, rfl, fun e => e⟩
theorem Fr.tr {ρ ρ' : dG} (F : Fr G σ s G' σ' s') : Tr cw env G ⟨ρ, σ⟩ s G' ⟨ρ', σ'⟩ s' := ⟨F.ext, F.new, fun a o e _ _ h => F.keep a o e h, F.alive, F.dom, F.fresh, F.os, F.gens⟩
theorem eW {a : Addr} (k : (s.heap.get? a).isSome = true -> (s'.heap.get? a).isSome = true) (h : s'.heap.get? a = none) : s.heap.get? a = none := by
 cases e : s.heap.get? a with
 | none => rfl
 | some o => have := k (by rw [e]; rfl); rw [h] at this; cases this
theorem Fr.then (F : Fr G σ s G' σ' s') {ρ' ρ'' : dG} (T : Tr false cenv G' ⟨ρ', σ'⟩ s' G'' ⟨ρ'', σ''⟩ s'') (hl : s.heap.get? cenv.locals = none) : Fr G σ s G'' σ'' s'' where
 ext := F.ext.trans T.ext
 new := fun a o e => by
  rcases T.new a o e with q | q
  ·exact F.new a o q
  ·exact .inr (eW (F.alive a) q)
 keep := fun a o e h => T.keep a o (F.keep a o e h) (fun q => by rw [q, hl] at e; cases e) (fun q => by cases q) (by
  cases q : σ' a with
  | none => exact q
  | some c =>
   rcases F.fresh a (by rw [q]; rfl) with r | r
   ·rw [h] at r; cases r
   ·rw [e] at r; cases r)
 alive := fun a e => T.alive a (F.alive a e)
 dom := fun a e => T.dom a (F.dom a e)
 fresh := fun a e => by
  rcases T.fresh a e with q | q
  ·exact F.fresh a q
  ·exact .inr (eW (F.alive a) q)
 os := T.os.trans F.os
 gens := fun e => T.gens (F.gens e)
theorem Fr.at1 (F : Fr G σ s G' σ' s') {I : Addr} (hI : s.heap.get? I = none) {h' : Heap} {k : Nat} (hk : ∀ b o, b ≠ I -> s'.heap.get? b = some o -> h'.get? b = some o) : Fr G σ s G' σ' { s' with heap := h', toks := k } where
 ext := F.ext
 new := F.new
 keep := fun a o e h => hk a o (fun q => by rw [q, hI] at e; cases e) (F.keep a o e h)
 alive := fun a e => by
  obtain ⟨o, ho⟩ := Option.isSome_iff_exists.mp (F.alive a e)
  show (h'.get? a).isSome = true
  rw [hk a o (fun q => by rw [q, hI] at e; cases e) ho]; rfl
 dom := F.dom
 fresh := F.fresh
 os := F.os
 gens := F.gens
theorem Fr.gs (F : Fr G σ s G' σ' s') (g : GS G' s' G'' s'') : Fr G σ s G'' σ' s'' where
 ext := F.ext.trans g.ext
 new := fun a o e => by
  rcases g.new a o e with q | q
  ·exact F.new a o q
  ·exact .inr (eW (F.alive a) q)
 keep := fun a o e h => g.keep a o (F.keep a o e h)
 alive := fun a e => by
  obtain ⟨o, ho⟩ := Option.isSome_iff_exists.mp (F.alive a e)
  rw [g.keep a o ho]; rfl
 dom := F.dom
 fresh := F.fresh
 os := g.os.trans F.os
 gens := fun e => g.gens (F.gens e)
theorem Ok.back {ρ : dG} {env' : Env} {ρ' : dG} (O : Ok B P G env ⟨ρ, σ⟩ s) (F : Fr G σ s G' σ' s') (O' : Ok B P G' env' ⟨ρ', σ'⟩ s') : Ok B P G' env ⟨ρ, σ'⟩ s' := by
 have R := O.rep
 have hσ : ∀ a, G a = none -> a ≠ env.locals -> True := fun _ _ _ => trivial
 obtain ⟨m, hn, hx⟩ := R.ns
 have σl : σ env.locals = none := by
  cases e : σ env.locals with
  | none => rfl
  | some c => exact absurd rfl (R.cells _ c e).2.2.1
 have σc : ∀ x c, env.cells.lookup x = some c -> σ c = none := by
  intro x c e
  cases q : σ c with
  | none => rfl
  | some d => exact absurd e ((R.cells _ d q).2.2.2 x)
 have hl : ∃ o, s.heap.get? env.locals = some o := by obtain ⟨o, _, _, h1, _⟩ := hn; exact ⟨o, h1⟩
 refine ⟨O'.over, ⟨O'.rep.inh, O'.rep.tk, ⟨m, hn.at' fun o e => F.keep _ o e σl, fun x p e hk => let ⟨v, h1, h2⟩ := hx x p e hk; ⟨v, h1, h2.mono F.ext⟩⟩, R.kind, ?_, ?_, ?_, ?_, R.cinj, ?_⟩, ?_⟩
 ·intro x p e hk
  obtain ⟨c, v, h1, h2, h3⟩ := R.cel x p e hk
  exact ⟨c, v, h1, bO h2 fun o e => F.keep c o e (σc x c h1), h3.mono F.ext⟩
 ·intro x e
  obtain ⟨c, v, h1, h2⟩ := R.cell0 x e
  exact ⟨c, v, h1, bO h2 fun o e => F.keep c o e (σc x c h1)⟩
 ·cases e : G' env.locals with
  | none => rfl
  | some o =>
   obtain ⟨o', ho⟩ := hl
   rcases F.new _ o e with q | q
   ·rw [R.gl] at q; cases q
   ·rw [ho] at q; cases q
 ·intro x c e
  refine ⟨?_, (R.gc x c e).2⟩
  cases q : G' c with
  | none => rfl
  | some o =>
   obtain ⟨o', ho⟩ := O.ct x c e
   rcases F.new _ o q with q1 | q1
   ·rw [(R.gc x c e).1] at q1; cases q1
   ·rw [ho] at q1; cases q1
 ·intro a c e
  obtain ⟨h1, h2, _⟩ := O'.rep.cells a c e
  refine ⟨h1, h2, ?_⟩
  rcases F.fresh a (by dsimp only at e; rw [e]; rfl) with q | q
  ·obtain ⟨d, hd⟩ := Option.isSome_iff_exists.mp q
   exact (R.cells a d hd).2.2
  ·refine ⟨fun q1 => ?_, fun x q1 => ?_⟩
   ·obtain ⟨o', ho⟩ := hl; rw [q1, ho] at q; cases q
   ·obtain ⟨o', ho⟩ := O.ct x a q1; rw [ho] at q; cases q
 ·intro x c e
  obtain ⟨o, ho⟩ := O.ct x c e
  exact ⟨o, F.keep c o ho (σc x c e)⟩
theorem Ok.at1 {ρ : dG} (O : Ok B P G env ⟨ρ, σ⟩ s) {I : Addr} (h1 : G I = none) (h2 : σ I = none) (h3 : I ≠ env.locals) (h4 : ∀ x, env.cells.lookup x ≠ some I) {h' : Heap} {k : Nat} (hk : 1 <= k)
  (kp : ∀ b o, b ≠ I -> s.heap.get? b = some o -> h'.get? b = some o) : Ok B P G env ⟨ρ, σ⟩ { s with heap := h', toks := k } := by
 have R := O.rep
 obtain ⟨m, hn, hx⟩ := R.ns
 refine ⟨O.over, ⟨fun a o e => kp a o (fun q => by rw [q, h1] at e; cases e) (R.inh a o e), hk, ⟨m, hn.at' fun o e => kp _ o (Ne.symm h3) e, hx⟩, R.kind, ?_, ?_, R.gl, R.gc, R.cinj, ?_⟩, ?_⟩
 ·intro x p e hk
  obtain ⟨c, v, g1, g2, g3⟩ := R.cel x p e hk
  exact ⟨c, v, g1, bO g2 fun o e => kp c o (fun q => h4 x (q ▸ g1)) e, g3⟩
 ·intro x e
  obtain ⟨c, v, g1, g2⟩ := R.cell0 x e
  exact ⟨c, v, g1, bO g2 fun o e => kp c o (fun q => h4 x (q ▸ g1)) e⟩
 ·intro a c e
  obtain ⟨g1, g2, g3⟩ := R.cells a c e
  exact ⟨g1.mono (.refl _) fun o ho => kp a o (fun q => by rw [q] at e; dsimp only at e; rw [h2] at e; cases e) ho, g2, g3⟩
 ·intro x c e
  obtain ⟨o, ho⟩ := O.ct x c e
  exact ⟨o, kp c o (fun q => h4 x (q ▸ e)) ho⟩
theorem Ok.again {ρ₀ ρa ρb : dG} (hρ : ∀ x p, ρ₀ x = some p -> env.kindOf x ≠ some .local) (O : Ok B P G env ⟨ρ₀, σ⟩ s) (T : Tr false env G ⟨ρa, σ⟩ s G' ⟨ρb, σ'⟩ s') (O' : Ok B P G' env ⟨ρb, σ'⟩ s') : Ok B P G' env ⟨ρ₀, σ'⟩ s' := by
 have R := O.rep
 obtain ⟨m, hn, _⟩ := O'.rep.ns
 refine ⟨O'.over, ⟨O'.rep.inh, O'.rep.tk, ⟨m, hn, fun x p e hk => absurd hk (hρ x p e)⟩, R.kind, ?_, O'.rep.cell0, O'.rep.gl, O'.rep.gc, R.cinj, O'.rep.cells⟩, O'.ct⟩
 intro x p e hk
 obtain ⟨c, v, h1, h2, h3⟩ := R.cel x p e hk
 refine ⟨c, v, h1, bO h2 fun o e => T.keep c o e (R.gc x c h1).2 (fun q => by cases q) ?_, h3.mono T.ext⟩
 cases q : σ c with
 | none => exact q
 | some d => exact absurd h1 ((R.cells _ d q).2.2.2 x)
end
noncomputable def iN (names : List (Str × NameKind)) : List Str := ((names.filter fun n => n.2 == .free).map (·.1)).reverse
noncomputable def iM (env : Env) (names : List (Str × NameKind)) : List (Str × Addr) := (iN names).map fun x => (x, (env.cells.lookup x).getD 0)
theorem zb4 (env : Env) : ∀ (names : List (Str × NameKind)) (acc : List (Str × Addr)), (∀ n ∈ names, n.2 = .free -> ∃ c, env.cells.lookup n.1 = some c) ->
  (forIn names acc fun (x : Str × NameKind) (r : List (Str × Addr)) => (if (x.2 == NameKind.free) = true then (do let c <- cellOf env x.1; pure (ForInStep.yield ((x.1, c) :: r))) else pure (ForInStep.yield r) : Sem (ForInStep (List (Str × Addr))))) =
   pure (iM env names ++ acc)
 | [], acc, _ => rfl
 | (n, k) :: r, acc, h => by
  rw [List.forIn_cons]
  have ih := fun a => zb4 env r a fun x hx => h x (List.mem_cons_of_mem _ hx)
  by_cases hk : k = .free
  ·subst hk
   obtain ⟨c, hc⟩ := h (n, .free) (by simp) rfl
   have e1 : cellOf env n = pure c := by unfold cellOf; dsimp only at hc; rw [hc]
   simp only [beq_self_eq_true, if_true, e1, pure_bind]
   rw [ih]
   simp only [iM, iN, List.filter_cons, beq_self_eq_true, if_true, List.map_cons, List.reverse_cons, List.map_append, List.map_nil, List.append_assoc, List.singleton_append]
   dsimp only at hc
   rw [hc]; rfl
  ·have hb : (k == NameKind.free) = false := by simpa using hk
   simp only [hb, Bool.false_eq_true, if_false, pure_bind]
   rw [ih]
   simp only [iM, iN, List.filter_cons, hb, Bool.false_eq_true, if_false]
theorem mE {scope : Scope} {env : Env} (h : ∀ n ∈ scope.names, n.2 = .free -> ∃ c, env.cells.lookup n.1 = some c) : closureFor scope env = pure (iM env scope.names) := by
 have := zb4 env scope.names [] h
 rw [List.append_nil] at this
 show (forIn scope.names [] (fun (x : Str × NameKind) (r : List (Str × Addr)) => (if (x.2 == NameKind.free) = true then (do let c <- cellOf env x.1; pure (ForInStep.yield ((x.1, c) :: r))) else pure (ForInStep.yield r) : Sem (ForInStep (List (Str × Addr))))) >>= fun cs => pure cs) = _
 rw [this]
 rfl
theorem kC {α : Type} (f : Str -> α) : ∀ (l : List Str) (x : Str), List.lookup x (l.map fun a => (a, f a)) = if x ∈ l then some (f x) else none
 | [], x => rfl
 | a :: l, x => by
  rw [List.map_cons, List.lookup_cons]
  by_cases h : x = a
  ·subst h; simp
  ·have hb : (x == a) = false := by simpa using h
   rw [hb, kC f l x]
   simp [h]
theorem mF (env : Env) (names : List (Str × NameKind)) (x : Str) : List.lookup x (iM env names) = if (x, NameKind.free) ∈ names then some ((env.cells.lookup x).getD 0) else none := by
 unfold iM
 rw [kC]
 have : x ∈ iN names ↔ (x, NameKind.free) ∈ names := by
  unfold iN
  simp only [List.mem_reverse, List.mem_map, List.mem_filter, beq_iff_eq]
  constructor
  ·rintro ⟨⟨a, k⟩, ⟨h1, h2⟩, h3⟩; dsimp only at h2 h3; subst h2 h3; exact h1
  ·intro h; exact ⟨_, ⟨h, rfl⟩, rfl⟩
 by_cases h : (x, NameKind.free) ∈ names
 ·rw [if_pos (this.mpr h), if_pos h]
 ·rw [if_neg (fun q => h (this.mp q)), if_neg h]
theorem mem_of_lookup {α : Type} : ∀ {l : List (Str × α)} {x : Str} {a : α}, List.lookup x l = some a -> (x, a) ∈ l
 | [], _, _, h => by simp at h
 | (n, k) :: r, x, a, h => by
  rw [List.lookup_cons] at h
  cases hx : x == n with
  | true => rw [hx] at h; cases h; have := beq_iff_eq.mp hx; subst this; simp
  | false => rw [hx] at h; exact List.mem_cons_of_mem _ (mem_of_lookup h)
theorem gM {env : Env} (hk : env.scope.kind = .function) : ∀ {names : List (Str × NameKind)}, (∀ n ∈ names, n.2 = .free -> env.kindOf n.1 = some .cell) -> ∀ x,
  (names.map fun (n, k) => if (k == NameKind.free && env.scope.kind == .function && env.kindOf n == some .cell) then (n, NameKind.cell) else (n, k)).lookup x = if names.lookup x = some .free then some .cell else names.lookup x
 | [], _, x => rfl
 | (n, k) :: r, h, x => by
  have ih := gM hk (names := r) (fun n hn => h n (List.mem_cons_of_mem _ hn)) x
  rw [List.map_cons]
  by_cases hf : k = .free
  ·subst hf
   have e := h (n, .free) (by simp) rfl
   dsimp only at e ⊢
   have e2 : (NameKind.free == NameKind.free && env.scope.kind == .function && env.kindOf n == some .cell) = true := by rw [hk, e]; rfl
   rw [if_pos e2, List.lookup_cons, List.lookup_cons]
   cases hx : x == n with
   | true => rfl
   | false => exact ih
  ·have hb : (k == NameKind.free) = false := by simpa using hf
   have e2 : (k == NameKind.free && env.scope.kind == .function && env.kindOf n == some .cell) = false := by rw [hb]; rfl
   dsimp only
   rw [if_neg (by rw [e2]; decide), List.lookup_cons, List.lookup_cons]
   cases hx : x == n with
   | true => dsimp only; rw [if_neg (by simpa using hf)]
   | false => exact ih
section
variable {P : Params} {G : GM} {env : Env} {s : Shared} {σ : Nat -> Option Cell} {B : Bs} {κ : Kn} {sc : Scope}
theorem iV (hκ : KOk κ env) (h : dA κ sc = true) : ∀ n ∈ sc.names, n.2 = .free -> env.kindOf n.1 = some .cell := by
 intro n hn e
 unfold dA at h
 simp only [Bool.and_eq_true, List.all_eq_true] at h
 have := h.2 n hn
 rw [e] at this
 simp only [Bool.or_eq_true, beq_iff_eq] at this
 exact hκ.cell this
theorem w9 (h : dA κ sc = true) : ∀ n ∈ sc.names, n.2 ≠ .cell := by
 intro n hn e
 unfold dA at h
 simp only [Bool.and_eq_true, List.all_eq_true] at h
 have := h.2 n hn
 rw [e] at this; cases this
theorem sJ (h : dA κ sc = true) : ∀ n ∈ sc.names, n.2 = .local -> sc.names.lookup n.1 = some .local := by
 intro n hn e
 unfold dA at h
 simp only [Bool.and_eq_true, List.all_eq_true] at h
 have := h.2 n hn
 rw [e] at this
 simpa using this
theorem mV (h : dA κ sc = true) : sc.kind = .function := by
 unfold dA at h
 simp only [Bool.and_eq_true, beq_iff_eq] at h
 exact h.1
theorem iG (hE : EnvOk env) (hκ : KOk κ env) (h : dA κ sc = true) (cl : List (Str × Addr)) (L : Addr) : KOk (cS sc.names) (compEnvC sc cl L env) := fun x => gM hE.kind (iV hκ h) x
theorem vM (hE : EnvOk env) (h : dA κ sc = true) (cl : List (Str × Addr)) (L : Addr) : EnvOk (compEnvC sc cl L env) := ⟨(by show sc.kind = _; exact mV h), hE.glob, hE.bi⟩
theorem kZ {ρ : dG} (O : Ok B P G env ⟨ρ, σ⟩ s) (hκ : KOk κ env) (h : dA κ sc = true) {x : Str} {c : Addr} (e : List.lookup x (iM env sc.names) = some c) : env.cells.lookup x = some c /\ (x, NameKind.free) ∈ sc.names := by
 rw [mF] at e
 split at e
 ·rename_i hm
  obtain ⟨d, v, h1, h2⟩ := O.rep.cell0 x (iV hκ h _ hm rfl)
  cases e
  rw [h1]; exact ⟨rfl, hm⟩
 ·cases e
theorem zbo {ρ : dG} (O : Ok B P G env ⟨ρ, σ⟩ s) (hE : EnvOk env) (hκ : KOk κ env) (h : dA κ sc = true) {L : Addr} {m : Str -> Option Value} (g1 : G L = none) (g2 : σ L = none) (g3 : ∀ x, env.cells.lookup x ≠ some L) (g4 : s.heap.Ns L m) :
  Ok B P G (compEnvC sc (iM env sc.names) L env) ⟨fX sc.names ρ, σ⟩ s := by
 have R := O.rep
 have hk := iG hE hκ h (iM env sc.names) L
 have fr : ∀ x p, fX sc.names ρ x = some p -> sc.names.lookup x = some .free /\ ρ x = some p := by
  intro x p e
  unfold fX at e
  split at e
  ·rename_i q; exact ⟨q, e⟩
  ·cases e
 have kd : ∀ x p, fX sc.names ρ x = some p -> (compEnvC sc (iM env sc.names) L env).kindOf x = some .cell := fun x p e => hk.cell (.inr (fr x p e).1)
 have cx : ∀ x, sc.names.lookup x = some .free -> ∀ c, env.cells.lookup x = some c -> List.lookup x (iM env sc.names) = some c := by
  intro x e c hc
  rw [mF, if_pos (mem_of_lookup e), hc]; rfl
 refine ⟨O.over, ⟨R.inh, R.tk, ⟨m, g4, fun x p e q => ?_⟩, fun x p e => .inr (.inl (kd x p e)), fun x p e _ => ?_, fun x e => ?_, g1, fun x c e => ?_, fun x y c e1 e2 => ?_, fun a c e => ?_⟩, fun x c e => ?_⟩
 ·rw [kd x p e] at q; cases q
 ·obtain ⟨q1, q2⟩ := fr x p e
  have q3 := iV hκ h _ (mem_of_lookup q1) rfl
  obtain ⟨c, v, h1, h2, h3⟩ := R.cel x p q2 (by dsimp only at q3; rw [q3]; decide)
  exact ⟨c, v, cx x q1 c h1, h2, h3⟩
 ·have q1 : sc.names.lookup x = some .free := by
   have := hk x
   rw [e] at this
   split at this
   ·rename_i q; exact q
   ·exact absurd rfl (w9 h _ (mem_of_lookup this.symm))
  obtain ⟨c, v, h1, h2⟩ := R.cell0 x (iV hκ h _ (mem_of_lookup q1) rfl)
  exact ⟨c, v, cx x q1 c h1, h2⟩
 ·have := (kZ O hκ h e).1
  exact ⟨(R.gc x c this).1, fun q => g3 x (by rw [<- show c = L from q]; exact this)⟩
 ·exact R.cinj x y c (kZ O hκ h e1).1 (kZ O hκ h e2).1
 ·obtain ⟨h1, h2, h3, h4⟩ := R.cells a c e
  exact ⟨h1, h2, fun q => (by rw [show a = L from q] at e; dsimp only at e; rw [g2] at e; cases e), fun x q => h4 x (kZ O hκ h q).1⟩
 ·exact O.ct x c (kZ O hκ h e).1
end
section
variable {prog : Program} {w : World} {B : Bs} {C : Ctx} {n : Nat}
theorem oZ {A : Around} {E : Value -> Shared -> Prop} {env : Env} {s : Shared} {Q : Bool -> Shared -> Prop} : ∀ (ifs : List Expr), Q false s ->
  wpAny (model prog w) A (forIn ifs false fun c r => if r = true then do let ok <- isTrue c env (PySem.eval c env); pure (ForInStep.yield ok) else pure (ForInStep.yield r)) Q E s
 | [], h => wpAny_pure h
 | c :: ifs, h => by
  rw [List.forIn_cons]
  simp only [Bool.false_eq_true, if_false, pure_bind]
  exact oZ ifs h
theorem wU : ∀ (ifs : List Expr), (∀ e ∈ ifs, lM prog w B C n e) ->
  ∀ (A : Around) (E : Value -> Shared -> Prop) (cw : Bool) (env : Env) (κ : Kn) (G : GM) (st : St) (s : Shared) (K : Bool -> St -> Prop), Room n A -> EnvOk env -> KOk κ env -> Ok B w.params G env st s ->
   wIf C ifs κ K st -> wpAny (model prog w) A (forIn ifs true fun c r => if r = true then do let ok <- isTrue c env (PySem.eval c env); pure (ForInStep.yield ok) else pure (ForInStep.yield r)) (Lands B w.params cw env G st s (BX K)) E s
 | [], _ => by
  intro A E cw env κ G st s K hA hE hκ O hw
  exact wpAny_pure (aK O hw)
 | e :: es, h => by
  intro A E cw env κ G st s K hA hE hκ O hw
  rw [List.forIn_cons]
  simp only [if_true]
  refine wpAny_bind (wpAny_bind (aG (h e (by simp) A E cw env κ G st s (fun b st1 => if b = true then wIf C es κ K st1 else K false st1) hA hE hκ O hw) fun b G1 st1 s1 hq O1 T1 => wpAny_pure ?_))
  dsimp only [BX] at hq
  cases b with
  | true => exact aL T1 (wU es (fun x hx => h x (List.mem_cons_of_mem _ hx)) A E cw env κ G1 st1 s1 K hA hE hκ O1 hq)
  | false => exact oZ es ((aK (X := BX K) O1 hq).after T1)
noncomputable def TE (prog : Program) (w : World) (A : Around) (R : Result -> Shared -> Prop) (env : Env) := notedBy (model prog w) A env fun e s' => R (.error e) s'
noncomputable def T4 (prog : Program) (w : World) (A : Around) (R : Result -> Shared -> Prop) (env : Env) (acc : Value) (N : Shared -> Prop) : Value -> Shared -> Prop := fun x s₄ => wpAny (model prog w) A (call (.builtin "list.append") [acc, x]) (fun _ => N) (TE prog w A R env) s₄
noncomputable def T3 (prog : Program) (w : World) (A : Around) (R : Result -> Shared -> Prop) (env : Env) (acc : Value) (elt : Expr) (N : Shared -> Prop) (ok : Bool) (s₃ : Shared) : Prop := if ok = true then wpAny (model prog w) A (PySem.eval elt env) (T4 prog w A R env acc N) (TE prog w A R env) s₃ else N s₃
noncomputable def T2 (prog : Program) (w : World) (A : Around) (R : Result -> Shared -> Prop) (env : Env) (acc : Value) (elt : Expr) (ifs : List Expr) (N : Shared -> Prop) : Unit -> Shared -> Prop := fun _ s₂ =>
 wpAny (model prog w) A (forIn ifs true fun c r => if r = true then do let ok <- isTrue c env (PySem.eval c env); pure (ForInStep.yield ok) else pure (ForInStep.yield r)) (T3 prog w A R env acc elt N) (TE prog w A R env) s₂
noncomputable def T1 (prog : Program) (w : World) (A : Around) (R : Result -> Shared -> Prop) (env : Env) (acc : Value) (elt tgt : Expr) (ifs : List Expr) (N : Shared -> Prop) (v : Value) : Unit -> Shared -> Prop := fun _ s₁ => wpAny (model prog w) A (assign tgt env v) (T2 prog w A R env acc elt ifs N) (TE prog w A R env) s₁
noncomputable def T0 (prog : Program) (w : World) (A : Around) (R : Result -> Shared -> Prop) (env : Env) (it acc : Value) (elt tgt : Expr) (ifs : List Expr) (N : Shared -> Prop) : Option Value -> Shared -> Prop := fun r s₁ => match r with
 | none => R (.ok .next) s₁
 | some v => wpAny (model prog w) A (letOwnedTupleGo tgt it v) (T1 prog w A R env acc elt tgt ifs N v) (TE prog w A R env) s₁
theorem vO {A : Around} {R : Result -> Shared -> Prop} {s : Shared} {elt target iter : Expr} {ifs : List Expr} {scope : Scope} {pos : Pos} {it acc : Value} {env : Env} (I : Nat -> Shared -> Prop)
  (turn : ∀ n s, I n s -> wpAny (model prog w) A (pyNext it) (T0 prog w A R env it acc elt target ifs fun s => ∃ m, m < n /\ I m s) (TE prog w A R env) s)
  (n : Nat) (h : I n s) : codeAny (model prog w) A (.compLoop (.ListComp elt [⟨target, iter, ifs, 0⟩] scope pos) 0 it acc env) R s := by
 refine codeAny_loop rfl I (fun n s hI => ?_) n h
 show wpAny _ A ((compTurn (.ListComp elt [⟨target, iter, ifs, 0⟩] scope pos) 0 it acc env).onRaise (fun x => do noteFrame x env; theTreesLotGoes x)) _ _ s
 refine wpAny_noted ?_
 rw [compTurn_list]
 refine wpAny_bind (wpAny_standAt (wpAny_bind (wpAny_mono (turn n s hI) (fun r s₁ h₁ => ?_) fun _ _ h' => h')))
 cases r with
 | none => exact wpAny_pure h₁
 | some v =>
  refine wpAny_bind (wpAny_mono h₁ (fun _ s₁' h₁' => ?_) fun _ _ h' => h')
  refine wpAny_bind (wpAny_mono h₁' (fun _ s₂ h₂ => wpAny_bind (wpAny_mono h₂ (fun ok s₃ h₃ => ?_) fun _ _ h' => h')) fun _ _ h' => h')
  cases ok with
  | false => exact wpAny_pure ⟨rfl, h₃⟩
  | true => exact wpAny_bind (wpAny_bind (wpAny_mono h₃ (fun x s₄ h₄ => wpAny_bind (wpAny_mono h₄ (fun _ s₅ h₅ => wpAny_pure (wpAny_pure ⟨rfl, h₅⟩)) fun _ _ h' => h')) fun _ _ h' => h'))
theorem gR {cenv : Env} {G G' : GM} {st st' : St} {s s' : Shared} {cw : Bool} (T : Tr cw cenv G st s G' st' s') {a : Addr} {o : Obj} (h : s.heap.get? a = some o) (g : G a = none) : G' a = none := by
 cases e : G' a with
 | none => rfl
 | some o' =>
  rcases T.new a o' e with q | q
  ·rw [g] at q; cases q
  ·rw [h] at q; cases q
theorem d5 {cenv : Env} {G G' : GM} {st st' : St} {s s' : Shared} {cw : Bool} (T : Tr cw cenv G st s G' st' s') {a : Addr} {o : Obj} (h : s.heap.get? a = some o) (g : st.σ a = none) : st'.σ a = none := by
 cases e : st'.σ a with
 | none => rfl
 | some c =>
  rcases T.fresh a (by rw [e]; rfl) with q | q
  ·rw [g] at q; cases q
  ·rw [h] at q; cases q
theorem y8 {A : Around} {elt tgt iter : Expr} {ifs : List Expr} {sc : Scope} {pos : Pos} {cenv : Env} {I D : Addr} {items : List PV} {Ws : Nat -> Heap -> Prop} {G₀ : GM} {σ₀ : Nat -> Option Cell} {s₀ s : Shared} {ρ₀ : dG} {R : Result -> Shared -> Prop}
  {Qc : List PV -> (Nat -> Option Cell) -> Prop}
  (he : cC prog w B C n elt) (hifs : ∀ e ∈ ifs, lM prog w B C n e) (hA : Room n A) (hE : EnvOk cenv) (hκ : KOk (cS sc.names) cenv) (hT : Itr prog w A w.params I G₀ items Ws) (hz : items.length <= aP)
  (hnames : ∀ x ∈ cA tgt, cenv.kindOf x = some .local) (hρ : ∀ x p, ρ₀ x = some p -> cenv.kindOf x ≠ some .local)
  (d1 : D ≠ I) (d2 : D ≠ cenv.locals) (d3 : ∀ x, cenv.cells.lookup x ≠ some D) (i2 : I ≠ cenv.locals) (i3 : ∀ x, cenv.cells.lookup x ≠ some I)
  (b1 : s₀.heap.get? D = none) (b2 : s₀.heap.get? I = none) (b3 : s₀.heap.get? cenv.locals = none)
  (hR : ∀ (G' : GM) (σ' : Nat -> Option Cell) (s' : Shared) (acc : List PV) (ys : Array Value), Qc acc σ' -> Ok B w.params G' cenv ⟨ρ₀, σ'⟩ s' -> s'.heap.PlainList D ys -> VRels w.params G' ys.toList acc -> Fr G₀ σ₀ s₀ G' σ' s' -> G' D = none -> σ' D = none ->
   acc.length <= items.length -> R (.ok .next) s')
  (O : Ok B w.params G₀ cenv ⟨ρ₀, σ₀⟩ s) (hws : Ws 0 s.heap) (hD : s.heap.PlainList D #[]) (F : Fr G₀ σ₀ s₀ G₀ σ₀ s) (g1 : G₀ D = none) (g2 : σ₀ D = none) (g3 : G₀ I = none) (g4 : σ₀ I = none)
  (hc : cG (fun K s' => wIf C ifs (cS sc.names) K s') (fun K s' => wE C elt (cS sc.names) K s') tgt ρ₀ Qc items [] σ₀) :
  codeAny (model prog w) A (.compLoop (.ListComp elt [⟨tgt, iter, ifs, 0⟩] sc pos) 0 (.ref I) (.ref D) cenv) R s := by
 let I' : Nat -> Shared -> Prop := fun k s' => ∃ done rest acc ys Gj σj, items = done ++ rest /\ k = rest.length + 1 /\ Ws done.length s'.heap /\ Ok B w.params Gj cenv ⟨ρ₀, σj⟩ s' /\ s'.heap.PlainList D ys /\ VRels w.params Gj ys.toList acc /\
  acc.length <= done.length /\ cG (fun K s' => wIf C ifs (cS sc.names) K s') (fun K s' => wE C elt (cS sc.names) K s') tgt ρ₀ Qc rest acc σj /\ Fr G₀ σ₀ s₀ Gj σj s' /\ Gj D = none /\ σj D = none /\ Gj I = none /\ σj I = none
 refine vO I' ?_ (items.length + 1) ⟨[], items, [], #[], G₀, σ₀, rfl, rfl, hws, O, hD, .nil, Nat.le_refl _, hc, F, g1, g2, g3, g4⟩
 clear hc F O hws hD g1 g2 g3 g4 s
 refine fun k s => x6 fun done rest acc ys Gj σj => a13 fun hit hk hws O hD hys hal hc F g1 g2 g3 g4 => via ?_
 intro Gl
 cases rest with
 | nil =>
  rw [List.append_nil] at hit
  subst hit
  refine wpAny_with_toks (n := 1) O.rep.tk (hT.done s _ _ hws fun h' tk hk htk => ?_)
  exact hR Gj σj _ acc ys hc (O.at1 g3 g4 i2 i3 htk hk) (hD.at fun o e => hk D o d1 e) hys (F.at1 b2 hk) g1 g2 hal
 | cons v rest =>
  obtain ⟨ρ1, hb, hc⟩ := bS hc
  refine wpAny_with_toks (n := 1) O.rep.tk (hT.item done.length v s _ _ (by rw [hit]; simp) hws fun val h1 tk hval hws1 hk1 hgo htk => ?_)
  have O1 := O.at1 g3 g4 i2 i3 htk hk1
  have F1 := F.at1 (k := tk) b2 hk1
  have D1 : h1.PlainList D ys := hD.at fun o e => hk1 D o d1 e
  refine hgo _ _ _ (via ?_)
  intro Gl
  obtain ⟨oI, aI⟩ := hT.alive _ _ hws1
  obtain ⟨nD, aD⟩ := D1
  refine aG (k7 (cw := false) hA.handled hE O1 (fun x hx => .inl (hnames x hx)) (hval.mono F.ext) hb) fun _ G2 st2 s2 e2 O2 T2 => ?_
  subst e2
  refine aG (wU ifs hifs A _ false cenv (cS sc.names) G2 _ s2 _ hA hE hκ O2 hc) fun ok G3 st3 s3 hq O3 T3 => ?_
  have T13 := T2.trans T3
  have lt : rest.length + 1 < k := hk ▸ Nat.lt_succ_self _
  cases ok with
  | false =>
   obtain ⟨ρ3, σ3⟩ := st3
   simp only [BX, Bool.false_eq_true, if_false] at hq
   refine ⟨rest.length + 1, lt, done ++ [v], rest, acc, ys, G3, σ3, by rw [hit]; simp, rfl, ?_, Ok.again hρ O1 T13 O3, ⟨nD, T13.keep D _ aD d2 (fun q => by cases q) g2⟩, hys.mono T13.ext, by simp; omega, hq, F1.then T13 b3, gR T13 aD g1, d5 T13 aD g2, gR T13 aI g3, d5 T13 aI g4⟩
   rw [List.length_append, List.length_singleton]
   exact hT.frame _ _ _ hws1 (fun o e => T13.keep I o e i2 (fun q => by cases q) g4) fun a o e => O3.rep.inh a o ((F1.then T13 b3).ext a o e)
  | true =>
   simp only [BX, if_true] at hq
   refine aG (he A _ false cenv (cS sc.names) G3 st3 s3 _ hA hE hκ O3 hq) fun x G4 st4 s4 ⟨p, hq4, hx⟩ O4 T4 => ?_
   have T14 := T13.trans T4
   obtain ⟨ρ4, σ4⟩ := st4
   have aD4 := T14.keep D _ aD d2 (fun q => by cases q) g2
   have aI4 := T14.keep I _ aI i2 (fun q => by cases q) g4
   have l1 := hys.length
   simp only [Array.length_toList] at l1
   have hsz : items.length = done.length + (rest.length + 1) := by rw [hit]; simp
   refine wpAny_list_append_plain (s := s4) ⟨nD, aD4⟩ (fun h5 hp5 hs5 => ?_) (by show ys.size <= sizeLine; unfold aP at hz; show ys.size <= 16777216; omega)
   have k5 : ∀ b o, b ≠ D -> s4.heap.get? b = some o -> h5.get? b = some o := fun b o hb e => (hs5.2 b hb).trans e
   have O5 := (Ok.again hρ O1 T14 O4).at1 (h' := h5) (k := s4.toks) (gR T14 aD g1) (d5 T14 aD g2) d2 d3 O4.rep.tk k5
   refine ⟨rest.length + 1, lt, done ++ [v], rest, acc ++ [p], ys.push x, G4, σ4, by rw [hit]; simp, rfl, ?_, O5, hp5, ?_, by simp; omega, hq4, (F1.then T14 b3).at1 b1 k5, gR T14 aD g1, d5 T14 aD g2, gR T14 aI g3, d5 T14 aI g4⟩
   ·rw [List.length_append, List.length_singleton]
    exact hT.frame _ _ _ hws1 (fun o e => k5 I o (Ne.symm d1) (T14.keep I o e i2 (fun q => by cases q) g4)) fun a o e => O5.rep.inh a o ((F1.then T14 b3).ext a o e)
   ·rw [Array.toList_push]; exact (hys.mono T14.ext).append (.one hx)
end
theorem nA {h : Heap} {a : Addr} (e : h.objs.size <= a) : h.get? a = none := by
 cases q : h.get? a with
 | none => rfl
 | some o => exact absurd (Heap.lt_size q) (Nat.not_lt.mpr e)
section
variable {prog : Program} {w : World} {B : Bs} {C : Ctx} {n : Nat} {P : Params} {G G' : GM} {env : Env} {st : St} {s s' : Shared} {σ σ' : Nat -> Option Cell} {ρ : dG}
theorem Ok.g0 (O : Ok B P G env ⟨ρ, σ⟩ s) {a : Addr} (h : s.heap.get? a = none) : G a = none := by
 cases e : G a with
 | none => rfl
 | some o => have := O.rep.inh a o e; rw [h] at this; cases this
theorem Ok.s0 (O : Ok B P G env ⟨ρ, σ⟩ s) {a : Addr} (h : s.heap.get? a = none) : σ a = none := by
 cases e : σ a with
 | none => rfl
 | some c => obtain ⟨o, ho⟩ := (O.rep.cells a c e).1.alive; rw [h] at ho; cases ho
theorem Ok.c0 (O : Ok B P G env ⟨ρ, σ⟩ s) {a : Addr} (h : s.heap.get? a = none) : ∀ x, env.cells.lookup x ≠ some a := fun x e => by
 obtain ⟨o, ho⟩ := O.ct x a e; rw [h] at ho; cases ho
theorem Ok.l0 (O : Ok B P G env ⟨ρ, σ⟩ s) {a : Addr} (h : s.heap.get? a = none) : a ≠ env.locals := fun e => by
 obtain ⟨m, ⟨o, _, _, h1, _⟩, _⟩ := O.rep.ns; rw [<- e, h] at h1; cases h1
theorem mD {A : Around} {E : Value -> Shared -> Prop} {elt tgt iter : Expr} {ifs : List Expr} {sc : Scope} {pos : Pos} {κ : Kn} {xv : Value} {p : PV} {items : List PV} {Qc : List PV -> (Nat -> Option Cell) -> Prop} {RR : Value -> Addr -> Result -> Shared -> Prop}
  (he : cC prog w B C n elt) (hifs : ∀ e ∈ ifs, lM prog w B C n e) (hA : Room n A) (hE : EnvOk env) (hκ : KOk κ env) (hsc : dA κ sc = true) (hn : ∀ x ∈ cA tgt, sc.names.lookup x = some .local)
  (O : Ok B w.params G env ⟨ρ, σ⟩ s) (hv : VRel w.params G xv p) (hi : fU p = some items) (hz : items.length <= aP)
  (hc : cG (fun K s' => wIf C ifs (cS sc.names) K s') (fun K s' => wE C elt (cS sc.names) K s') tgt (fX sc.names ρ) Qc items [] σ)
  (hR : ∀ (D L : Addr) (G' : GM) (σ' : Nat -> Option Cell) (s' : Shared) (acc : List PV) (ys : Array Value) (m : Str -> Option Value), Qc acc σ' -> Ok B w.params G' env ⟨ρ, σ'⟩ s' -> Fr G σ s G' σ' s' -> s'.heap.PlainList D ys -> VRels w.params G' ys.toList acc ->
   G' D = none -> σ' D = none -> s.heap.get? D = none -> s'.heap.Ns L m -> s.heap.get? L = none -> G' L = none -> σ' L = none -> D ≠ L -> acc.length <= aP -> RR (.ref D) L (.ok .next) s') :
  wpAny (model prog w) A (pyIter xv) (fun it s₂ => wpAny (model prog w) A (newList []) (fun acc s₃ => wpAny (model prog w) A (newFunctionEnv sc env.globals (iM env sc.names) [] env.qual none .none (some env)) (fun cenv s₄ =>
   codeAny (model prog w) A (.compStart (.ListComp elt [⟨tgt, iter, ifs, 0⟩] sc pos) 0 it acc { cenv with scope := relabel sc env }) (RR acc cenv.locals) s₄) E s₃) E s₂) E s := by
 refine yC O.rep.inh hv hi fun I h' Ws g hI hlt hT hws => ?_
 refine wpAny_newObj_type (wpAny_newFunctionEnv (w9 hsc) (by intro y hy; simp at hy) (fun h₁ hns hsb => ?_) (mV hsc))
 dsimp only at hns hsb ⊢
 generalize hH2 : h'.push { cls := .type "list", dict := none, data := .seq ([] : List Value).toArray } = H2 at hns hsb ⊢
 have hC : H2.objs.size = h'.objs.size + 1 := by rw [<- hH2, Heap.size_push]
 have k1 : ∀ b o, h'.get? b = some o -> h₁.get? b = some o := fun b o e => hsb.extBut b o (by have := Heap.lt_size e; rw [hC]; exact Nat.ne_of_lt (Nat.lt_succ_of_lt this)) (Heap.get?_push_of_some _ (hH2 ▸ Heap.get?_push_of_some _ e))
 have k0 : ∀ b o, s.heap.get? b = some o -> h₁.get? b = some o := fun b o e => k1 b o (g.keep b o e)
 have n1 : ∀ a, h'.objs.size <= a -> s.heap.get? a = none := fun a ha => eW (s := s) (s' := { s with heap := h' }) (fun e => by
  obtain ⟨o, ho⟩ := Option.isSome_iff_exists.mp e
  show (h'.get? a).isSome = true
  rw [g.keep a o ho]; rfl) (nA ha)
 have nD := n1 h'.objs.size (Nat.le_refl _)
 have neDL : h'.objs.size ≠ H2.objs.size := by rw [hC]; exact Nat.ne_of_lt (Nat.lt_succ_self _)
 have neID : I ≠ h'.objs.size := Nat.ne_of_lt hlt
 have neIL : I ≠ H2.objs.size := by rw [hC]; exact Nat.ne_of_lt (Nat.lt_succ_of_lt hlt)
 have nL := n1 H2.objs.size (by rw [hC]; exact Nat.le_succ _)
 have hD : h₁.PlainList h'.objs.size #[] := ⟨_, hsb.extBut _ _ neDL (Heap.get?_push_of_some _ (hH2 ▸ Heap.get?_push_size _ rfl))⟩
 have g4 : GS G s G { s with heap := h₁, toks := s.toks } := GS.heap O.rep.inh s.toks k0
 have O4 : Ok B w.params G env ⟨ρ, σ⟩ { s with heap := h₁, toks := s.toks } := O.grow g4 O.rep.tk
 have hTA := hT A hA.handled
 have hws4 : Ws 0 h₁ := hTA.frame _ _ _ hws (fun o e => k1 I o e) O4.rep.inh
 have Oc := zbo (m := fun x => List.lookup x []) O4 hE hκ hsc (L := H2.objs.size) (O.g0 nL) (O.s0 nL) (O.c0 nL) hns
 have F4 : Fr G σ s G σ { s with heap := h₁, toks := s.toks } := Fr.refl.gs g4
 have loop : codeAny (model prog w) A (.compLoop (.ListComp elt [⟨tgt, iter, ifs, 0⟩] sc pos) 0 (.ref I) (.ref h'.objs.size) (compEnvC sc (iM env sc.names) H2.objs.size env)) (RR (.ref h'.objs.size) H2.objs.size) { s with heap := h₁, toks := s.toks } := by
  refine y8 (s₀ := s) (G₀ := G) (σ₀ := σ) (ρ₀ := fX sc.names ρ) (Qc := Qc) he hifs hA (vM hE hsc _ _) (iG hE hκ hsc _ _) hTA hz (fun x hx => (iG hE hκ hsc _ _).loc (hn x hx)) (fun x p e => ?_)
   (Ne.symm neID) neDL (fun x e => O.c0 nD x (kZ O hκ hsc e).1) neIL (fun x e => O.c0 hI x (kZ O hκ hsc e).1) nD hI nL ?_ Oc hws4 hD F4 (O.g0 nD) (O.s0 nD) (O.g0 hI) (O.s0 hI) hc
  ·rcases Oc.rep.kind x p e with q | q | q
   ·exfalso
    unfold fX at e
    split at e
    ·rename_i q1
     have := (iG hE hκ hsc (iM env sc.names) H2.objs.size) x
     rw [show cS sc.names x = some .free from q1, q] at this
     cases this
    ·cases e
   ·rw [q]; decide
   ·rw [q]; decide
  ·intro G' σ' s' acc ys hq O' hp hr F' d1 d2 hl
   obtain ⟨m, hm, _⟩ := O'.rep.ns
   refine hR _ _ G' σ' s' acc ys m hq (Ok.back O F' O') F' hp hr d1 d2 nD hm nL O'.rep.gl ?_ neDL (Nat.le_trans hl hz)
   cases q : σ' H2.objs.size with
   | none => rfl
   | some c => exact absurd rfl (O'.rep.cells _ c q).2.2.1
 exact codeAny_compStart_list loop (hTA.self 0 _ _ _ hws4 loop)
theorem Ok.addCell (O : Ok B P G env ⟨ρ, σ⟩ s) {D : Addr} {ys : Array Value} {acc : List PV} (hp : s.heap.PlainList D ys) (hr : VRels P G ys.toList acc) (hz : acc.length <= aP) (h1 : G D = none) (h3 : D ≠ env.locals) (h4 : ∀ x, env.cells.lookup x ≠ some D) :
  Ok B P G env ⟨ρ, aR σ D (.lst acc)⟩ s := by
 have R := O.rep
 refine ⟨O.over, ⟨R.inh, R.tk, R.ns, R.kind, R.cel, R.cell0, R.gl, R.gc, R.cinj, fun a c e => ?_⟩, O.ct⟩
 simp only [aR] at e
 split at e
 ·rename_i q; subst q; cases e
  obtain ⟨m, hm⟩ := hp
  have l := hr.length
  simp only [Array.length_toList] at l
  exact ⟨⟨ys, m, hm, by omega, hr⟩, h1, h3, h4⟩
 ·exact R.cells a c e
theorem Ok.addFrozen (O : Ok B P G env ⟨ρ, σ⟩ s) {D : Addr} {o : Obj} (ho : s.heap.get? D = some o) (h2 : σ D = none) (h3 : D ≠ env.locals) (h4 : ∀ x, env.cells.lookup x ≠ some D) (h1 : G D = none) : Ok B P (hH G D o) env ⟨ρ, σ⟩ s := by
 have R := O.rep
 have hx : Sub G (hH G D o) := fun a o' e => by
  unfold hH; split
  ·rename_i q; rw [q, h1] at e; cases e
  ·exact e
 have gn : ∀ a, a ≠ D -> hH G D o a = G a := fun a ha => by unfold hH; rw [if_neg ha]
 refine ⟨O.over.ext hx, ⟨fun a o' e => ?_, R.tk, ?_, R.kind, ?_, R.cell0, ?_, ?_, R.cinj, ?_⟩, O.ct⟩
 ·unfold hH at e; split at e
  ·rename_i q; subst q; cases e; exact ho
  ·exact R.inh a o' e
 ·obtain ⟨m, g1, g2⟩ := R.ns
  exact ⟨m, g1, fun x p e k => let ⟨v, a, b⟩ := g2 x p e k; ⟨v, a, b.mono hx⟩⟩
 ·intro x p e k
  obtain ⟨c, v, g1, g2, g3⟩ := R.cel x p e k
  exact ⟨c, v, g1, g2, g3.mono hx⟩
 ·rw [gn _ (Ne.symm h3)]; exact R.gl
 ·intro x c e
  rw [gn c fun q => h4 x (q ▸ e)]; exact R.gc x c e
 ·intro a c e
  obtain ⟨g1, g2, g3⟩ := R.cells a c e
  exact ⟨g1.mono hx fun _ h => h, by rw [gn a fun q => by dsimp only at e; rw [q, h2] at e; cases e]; exact g2, g3⟩
theorem Fr.addCell (F : Fr G σ s G' σ' s') {D : Addr} (h : s.heap.get? D = none) {c : Cell} : Fr G σ s G' (aR σ' D c) s' :=
 ⟨F.ext, F.new, F.keep, F.alive, fun a e => by unfold aR; split; rfl; exact F.dom a e, fun a e => by
  unfold aR at e; split at e
  ·rename_i q; subst q; exact .inr h
  ·exact F.fresh a e, F.os, F.gens⟩
theorem Fr.addFrozen (F : Fr G σ s G' σ' s') {D : Addr} {o : Obj} (h : s.heap.get? D = none) (h1 : G' D = none) : Fr G σ s (hH G' D o) σ' s' :=
 ⟨fun a o' e => by
  have := F.ext a o' e
  unfold hH; split
  ·rename_i q; rw [q, h1] at this; cases this
  ·exact this, fun a o' e => by
  unfold hH at e; split at e
  ·rename_i q; subst q; exact .inr h
  ·exact F.new a o' e, F.keep, F.alive, F.dom, F.fresh, F.os, F.gens⟩
theorem tQ {pos : Pos} {Q : PV -> St -> Prop} {D L : Addr} {acc : List PV} {ys : Array Value} (O₀ : Ok B P G env ⟨ρ, σ⟩ s) (hq : bF C pos acc Q ⟨ρ, σ'⟩) (O : Ok B P G' env ⟨ρ, σ'⟩ s') (F : Fr G σ s G' σ' s') (hp : s'.heap.PlainList D ys) (hr : VRels P G' ys.toList acc)
  (h1 : G' D = none) (h2 : σ' D = none) (h3 : s.heap.get? D = none) (l1 : G' L = none) (l2 : σ' L = none) (hDL : D ≠ L) (hz : acc.length <= aP) :
  ∃ p G'' σ'', Q p ⟨ρ, σ''⟩ /\ Ok B P G'' env ⟨ρ, σ''⟩ s' /\ Fr G σ s G'' σ'' s' /\ VRel P G'' (.ref D) p /\ G'' L = none /\ σ'' L = none := by
 unfold bF at hq
 split at hq
 ·refine ⟨.ptr D, G', aR σ' D (.lst acc), hq D h2, O.addCell hp hr hz h1 (O₀.l0 h3) (O₀.c0 h3), F.addCell h3, by simp [VRel], l1, ?_⟩
  unfold aR; rw [if_neg (Ne.symm hDL)]; exact l2
 ·obtain ⟨m, hm⟩ := hp
  have l := hr.length
  simp only [Array.length_toList] at l
  have F' := F.addFrozen (o := { cls := .type "list", data := .seq ys m }) h3 h1
  refine ⟨.list acc, _, σ', hq, O.addFrozen hm h2 (O₀.l0 h3) (O₀.c0 h3) h1, F', ?_, ?_, l2⟩
  ·simp only [VRel]
   refine ⟨D, _, ys, m, rfl, cH, rfl, rfl, rfl, by omega, hr.mono fun a o e => ?_⟩
   unfold hH; split
   ·rename_i q; rw [q, h1] at e; cases e
   ·exact e
  ·unfold hH; rw [if_neg (Ne.symm hDL)]; exact l1
end
noncomputable def qR : Expr -> Bool
 | .Set _ _ _ => false
 | _ => true
theorem kK {e : Expr} (h : qR e = true) (env : Env) (x : Value) : foldedSetIterable e env x = pure x := by
 cases e <;> first | rfl | cases h
noncomputable def zeS (l : List (Str × Str)) : Bool := l.all (fun e => okC (.str e.1) && okC (.str e.2)) && (!l.isEmpty && (decide (l.length <= 15) && decide ((l.map (·.1)).Nodup)))
noncomputable def okN (x : Str) : Bool := !(x == ("__debug__" : Str)) && !(x == ("__classdict__" : Str))
noncomputable def zb7 (f : Expr) (p : Pos) : Bool := exc true (fun _ => true) (fun _ => true) (fun _ => true) (fun _ _ ap => ap.endLine == p.line) (fun _ _ => true) (fun _ _ => true) f
mutual
noncomputable def okE : Expr -> Bool
 | .Constant c _ _ => okC c
 | .Name x _ => okN x
 | .BoolOp _ vs _ => zaF vs && !vs.isEmpty
 | .BinOp l _ r _ => okE l && okE r
 | .UnaryOp _ x _ => okE x
 | .IfExp t b o _ => okE t && (okE b && okE o)
 | .Compare l ops cs _ => okE l && (zaF cs && ((cs.length == ops.length) && !(lastMarks ops cs)))
 | .Call f args _ p => okE f && (zaF args && (args.all cM && (decide (args.length < 30) && zb7 f p)))
 | .Attribute o _ _ => iC o && okE o
 | .Subscript o i _ => okE o && okE i
 | .List es _ => zaF es && (es.all cM && decide (es.length <= 1000))
 | .Tuple es _ _ => zaF es && (es.all cM && decide (es.length <= 1000))
 | .ListComp elt [⟨_, iter, ifs, _⟩] _ _ => okE elt && (okE iter && (zaF ifs && qR iter))
 | .Slice l u sp _ => sp.isNone && (okO l && okO u)
 | .Dict ks vs _ => (rM ks vs).all zeS
 | _ => true
noncomputable def okO : Option Expr -> Bool
 | none => true
 | some e => okE e
noncomputable def zaF : List Expr -> Bool
 | [] => true
 | e :: es => okE e && zaF es
end
theorem zac {i : Expr} (h : zaY i = false) (a b : Value) : subscripted i false a b = operate [a, b] (getItem a b) := by
 cases i <;> first | (cases h; done) | rfl
section
variable {prog : Program} {w : World} {B : Bs} {C : Ctx} {n : Nat}
theorem zH {P : Params} {G G' : GM} {env : Env} {s s' : Shared} {σ σ' : Nat -> Option Cell} {ρ ρ' : dG} {L : Addr} {h' : Heap} {k : Nat} (hk : 1 <= k) (O₀ : Ok B P G env ⟨ρ, σ⟩ s) (hL : s.heap.get? L = none) (O : Ok B P G' env ⟨ρ', σ'⟩ s') (l1 : G' L = none) (l2 : σ' L = none)
  (hs : Heap.SameBut L s'.heap h') : Ok B P G' env ⟨ρ', σ'⟩ { s' with heap := h', toks := k } :=
 O.at1 l1 l2 (O₀.l0 hL) (O₀.c0 hL) hk fun b o hb e => (hs.2 b hb).trans e
theorem zao {elt tgt iter : Expr} {ifs : List Expr} {asy : Int} {sc : Scope} {pos : Pos} (he : cC prog w B C n elt) (hi : cC prog w B C n iter) (hifs : ∀ e ∈ ifs, lM prog w B C n e) (hs : qR iter = true) :
  cC prog w B C n (.ListComp elt [⟨tgt, iter, ifs, asy⟩] sc pos) := by
 intro A E cw env κ G st s Q hA hE hκ O hw
 rw [v6] at hw
 obtain ⟨rfl, hsc, hn, hw⟩ := hw
 have hn' : ∀ x ∈ cA tgt, sc.names.lookup x = some .local := fun x hx => by simpa using List.all_eq_true.mp hn x hx
 have hclos := mE (scope := sc) (env := env) fun m hm hf => by
  obtain ⟨c, v, h1, h2⟩ := O.rep.cell0 m.1 (iV hκ hsc m hm hf)
  exact ⟨c, h1⟩
 rw [eval_ListComp]
 refine wpAny_comprehension_free (use := none) rfl (fun x => kK hs env x) hclos (mV hsc) (sJ hsc) ?_
 refine aG (hi A E cw env κ G st s _ hA hE hκ O hw) fun xv G1 st1 s1 ⟨p, hq, hv⟩ O1 T1 => ?_
 obtain ⟨ρ1, σ1⟩ := st1
 obtain ⟨items, hit, hq⟩ := bS hq
 ·refine mD he hifs hA hE hκ hsc hn' O1 hv hit hq.1 hq.2 fun D L G' σ' s' acc ys m hq' O' F' hp hr d1 d2 d3 hm hL l1 l2 hDL hz => ?_
  refine ⟨m, hm, fun h' hs' => ?_⟩
  obtain ⟨p', G'', σ'', hQ, O2, F2, hv2, l3, l4⟩ := tQ O1 hq' O' F' hp hr d1 d2 d3 l1 l2 hDL hz
  refine ⟨G'', ⟨ρ1, σ''⟩, ⟨p', hQ, hv2⟩, zH O2.rep.tk O1 hL O2 l3 l4 hs', ?_⟩
  exact T1.trans (F2.at1 hL fun b o hb e => (hs'.2 b hb).trans e).tr
theorem aW {a b : Bool} (h : (a && b) = true) : a = true /\ b = true := Bool.and_eq_true_iff.mp h
theorem zaT {ks : List (Option Expr)} {vs : List Expr} {a b : Str} {k1 k2 : Nat} {p1 p2 : Pos} {r : List (PyData × PyData)} (h : litPairs ks vs = some r) : litPairs (some (.Constant (.str a) k1 p1) :: ks) (.Constant (.str b) k2 p2 :: vs) = some ((.str a, .str b) :: r) := by
 show (litPairs ks vs).bind (fun r => some ((PyData.str a, PyData.str b) :: r)) = _
 rw [h]; rfl
theorem tP : ∀ {ks : List (Option Expr)} {vs : List Expr} {l : List (Str × Str)}, rM ks vs = some l ->
  ks.length = l.length /\ vs.length = l.length /\ ks.all (·.isSome) = true /\ litPairs ks vs = some (l.map fun e => (.str e.1, .str e.2))
 | [], [], l, h => by cases h; exact ⟨rfl, rfl, rfl, rfl⟩
 | [], _ :: _, _, h => by cases h
 | k :: ks, vs, l, h => by
  obtain ⟨k', hk, h0⟩ := Option.bind_eq_some_iff.mp h
  subst hk
  obtain ⟨a, ha, h1⟩ := Option.bind_eq_some_iff.mp h0
  obtain ⟨v, hv, h2⟩ := Option.bind_eq_some_iff.mp h1
  obtain ⟨b, hb, h3⟩ := Option.bind_eq_some_iff.mp h2
  obtain ⟨r, hr, e⟩ := Option.map_eq_some_iff.mp h3
  subst e
  cases vs with
  | nil => cases hv
  | cons v' vs =>
   cases hv
   obtain ⟨_, _, rfl⟩ := jP ha
   obtain ⟨_, _, rfl⟩ := jP hb
   obtain ⟨h1, h2, h3, h4⟩ := tP hr
   exact ⟨congrArg (· + 1) h1, congrArg (· + 1) h2, h3, zaT h4⟩
theorem tO {prog : Program} {w : World} : ∀ {l : List (Str × Str)} {es : List DictEntry} {kvs : List (Str × Value)}, Pairs (strKind prog w) es kvs -> PyProof.V.FlatPairs PyData.str kvs (l.map fun e => (.str e.1, .str e.2)) ->
  (∀ e ∈ es, ∃ k, (strKind prog w).is k e.key = true /\ e.hash = (strKind prog w).hash k) -> l.all (fun e => okC (.str e.1) && okC (.str e.2)) = true -> rZ w.params es (dlP l)
 | [], es, kvs, p, f, _, _ => by
  cases f
  cases p
  rfl
 | (k, v) :: l, es, kvs, p, f, hk, ho => by
  rw [List.map_cons] at f
  cases f with
  | cons hf f =>
   cases p with
   | cons h1 h2 p =>
    rename_i v' kvs e es
    obtain ⟨t, rfl⟩ := hf.str_inv
    have ho := aW ho
    obtain ⟨k', g1, g2⟩ := hk e List.mem_cons_self
    have e1 : k' = k := Value.isStrOf_inj _ _ _ g1 h1
    subst e1
    obtain ⟨t', ht⟩ := Value.isStrOf_shape g1
    have o2 := (aW ho.1).2
    have o3 := aW o2
    exact ⟨e, es, t', t, rfl, ht, g2, h2, ⟨fun c hc => of_decide_eq_true (List.all_eq_true.mp o3.1 c hc), of_decide_eq_true o3.2⟩, tO p f (fun e he => hk e (List.mem_cons_of_mem _ he)) ho.2⟩
theorem zan {prog : Program} {w : World} {B : Bs} {C : Ctx} {n : Nat} {ks : List (Option Expr)} {vs : List Expr} {pos : Pos} (hB : BsOk B) (ho' : okE (.Dict ks vs pos) = true) : cC prog w B C n (.Dict ks vs pos) := by
 intro A E cw env κ G st s Q hA hE hκ O hw
 obtain ⟨l, hl, hw⟩ := bS hw
 have ho : zeS l = true := by have : (rM ks vs).all zeS = true := ho'; rw [hl] at this; exact this
 obtain ⟨h1, h2, h3, h4⟩ := tP hl
 obtain ⟨o1, ho⟩ := aW ho
 obtain ⟨o2, ho⟩ := aW ho
 obtain ⟨o3, o4⟩ := aW ho
 have o3 := of_decide_eq_true o3
 have o4 := of_decide_eq_true o4
 refine bJ O ?_
 have sK : ∀ r : List (Str × Str), strKeyed (r.map fun e => (PyData.str e.1, PyData.str e.2)) = true /\ strKeysOf (r.map fun e => (PyData.str e.1, PyData.str e.2)) = r.map (·.1) := fun r => by
  induction r with
  | nil => exact ⟨rfl, rfl⟩
  | cons e r ih => exact ⟨ih.1, by simp only [List.map_cons, strKeysOf, ih.2]⟩
 refine Dict_lits_str h4 (sK l).1 (by rw [(sK l).2]; exact o4) h3 (h1.trans h2.symm) (fun e => by subst e; cases l with | nil => cases o2 | cons a b => cases h1) (by rw [h1]; exact o3) fun a o h₁ tk ha hget ⟨kvs, hd, hf⟩ hkp => ?_
 obtain ⟨es, ep, hx, hdat, hkeys, hp, hn⟩ := hd
 have hG : ∀ c, s.heap.objs.size <= c -> s.heap.get? c = none := fun c h => nA h
 have hGa : G a = none := by
  cases q : G a with
  | none => rfl
  | some o => have := O.rep.inh _ _ q; rw [hG a ha] at this; cases this
 have hsz : sysModules < s.heap.objs.size := by
  obtain ⟨o', es', ep', q, _⟩ := hB.g
  have := Heap.lt_size (O.rep.inh _ _ (O.over _ _ q))
  exact Nat.lt_trans (by decide) this
 have hobj : o = { cls := .type "dict", data := .dict es ep } := by
  obtain ⟨c1, c2, c3⟩ := hx
  cases o
  cases c1; cases c2; cases c3; cases hdat
  rfl
 refine ⟨.dict (dlP l), hH G a o, hw, ⟨fun b o' e => ?_, fun b o' e => ?_, fun b o' e => ?_, hkp, rfl, fun e => e⟩, ?_⟩
 ·unfold hH
  split
  ·rename_i q; subst q; rw [hGa] at e; cases e
  ·exact e
 ·unfold hH at e
  split at e
  ·rename_i q; subst q; cases e; exact hget
  ·exact hkp _ _ (O.rep.inh _ _ e)
 ·unfold hH at e
  split at e
  ·rename_i q; subst q; exact .inr (hG _ ha)
  ·exact .inl e
 ·exact ⟨a, es, ep, rfl, fun e => by rw [e] at ha; exact absurd hsz (Nat.not_lt.mpr ha), by rw [<- hobj]; exact cH, tO (prog := prog) hp hf (fun e he => hkeys e (Array.mem_toList_iff.mp he)) o1⟩
theorem eM {b : Bool} (h : (!b) = true) : b = false := by cases b <;> first | rfl | cases h
noncomputable def zek (prog : Program) (w : World) (B : Bs) (C : Ctx) (n : Nat) (e : Expr) : Prop := exc True (fun _ => True) (fun _ => True) (fun _ => True) (fun o _ _ => iC o = true /\ cC prog w B C n o) (fun l u => (∀ e, l = some e -> cC prog w B C n e) /\ ∀ e, u = some e -> cC prog w B C n e)
 (fun elt gens => ∀ tgt iter ifs asy, gens = [⟨tgt, iter, ifs, asy⟩] -> cC prog w B C n elt /\ cC prog w B C n iter /\ (∀ f ∈ ifs, lM prog w B C n f) /\ qR iter = true) e
noncomputable def zdx (prog : Program) (w : World) (B : Bs) (C : Ctx) (n : Nat) (e : Expr) : Prop := cC prog w B C n e /\ lM prog w B C n e /\ zek prog w B C n e
theorem zP {e : Expr} (a : cC prog w B C n e) (b : ∀ env whole, isTrue e env whole = (do let v <- whole; standAt e.pos; holding [v] (truthy v))) (c : zek prog w B C n e) : zdx prog w B C n e := ⟨a, lS a b, c⟩
theorem bad {e : Expr} (h : ∀ κ Q st, ¬ wE C e κ Q st) (c : zek prog w B C n e) : zdx prog w B C n e :=
 ⟨fun _ _ _ _ _ _ _ _ _ _ _ _ _ hw => (h _ _ _ hw).elim, fun _ _ _ _ _ _ _ _ _ _ _ _ _ hw => (h _ _ _ hw).elim, c⟩
theorem wX {f : Expr} {args : List Expr} {kws : List Keyword} {p : Pos} (hB : BsOk B) (hC : CtxOk prog w B C n) (hf : okE f = true) (hf' : zek prog w B C n f) (ha : ∀ e ∈ args, zdx prog w B C n e) (hoks : zaF args = true) (hs : args.all cM = true) (hl : args.length < 30) (hp : zb7 f p = true) : cC prog w B C n (.Call f args kws p) := by
 intro A E cw env κ G st s Q hA hE hκ O hw
 have hk : kws = [] := by have := hw.1; cases kws <;> first | rfl | cases this
 subst hk
 cases f <;> first | exact False.elim hw.2 | skip
 ·obtain ⟨h1, h2⟩ := hf'
  cases hr : bT args with
  | none => exact zal h2 (fun e he => (ha e he).1) hs h1 hl hp hr A E cw env κ G st s Q hA hE hκ O hw
  | some xy =>
   have hy : okC (.str xy.2) = true := by
    obtain ⟨k1, p1, k2, p2, q⟩ := oJ (x := xy.1) (y := xy.2) hr
    subst q
    exact (aW (aW hoks).2).1
   exact zaj h2 h1 hp hr hy A E cw env κ G st s Q hA hE hκ O hw
 ·exact zap hB hC (fun e he => (ha e he).1) hs (eM (aW hf).1) A E cw env κ G st s Q hA hE hκ O hw
theorem zai {o i : Expr} {p : Pos} (ho : cC prog w B C n o) (hk : okE i = true) (hi : zdx prog w B C n i) : cC prog w B C n (.Subscript o i p) := by
 cases h : zaY i with
 | false => exact zcp ho hi.1 (zac h) h
 | true =>
  cases i <;> first | (cases h; done) | skip
  rename_i l u sp q
  cases sp with
  | none => exact wT ho hi.2.2.1 hi.2.2.2
  | some sp => cases hk
mutual
theorem dU (hB : BsOk B) (hC : CtxOk prog w B C n) : ∀ e : Expr, okE e = true -> zdx prog w B C n e
 | .Constant _ _ _, h => zP (wW h) (fun _ _ => rfl) trivial
 | .Name _ _, h => zP (zak hB hC (eM (aW h).1) (eM (aW h).2)) (fun _ _ => rfl) trivial
 | .BoolOp _ vs _, h => ⟨zbM vs fun e he => (gL hB hC vs (aW h).1 e he).1, wZ vs (fun e he => (gL hB hC vs (aW h).1 e he).2.1) (fun q => by subst q; cases (aW h).2), trivial⟩
 | .BinOp l _ r _, h => zP (zcr (dU hB hC l (aW h).1).1 (dU hB hC r (aW h).2).1) (fun _ _ => rfl) trivial
 | .UnaryOp op x _, h => ⟨zbK (dU hB hC x h).1, by
   have hx := dU hB hC x h
   cases op with
   | Not => exact zar hC.mono hx.2.1
   | _ => exact lS (zbK hx.1) fun _ _ => rfl, trivial⟩
 | .IfExp t b o _, h => ⟨wV (dU hB hC t (aW h).1).2.1 (dU hB hC b (aW (aW h).2).1).1 (dU hB hC o (aW (aW h).2).2).1, uK (dU hB hC t (aW h).1).2.1 (dU hB hC b (aW (aW h).2).1).2.1 (dU hB hC o (aW (aW h).2).2).2.1, trivial⟩
 | .Compare l _ cs _, h => ⟨zcq (dU hB hC l (aW h).1).1 (fun e he => (gL hB hC cs (aW (aW h).2).1 e he).1) (beq_iff_eq.mp (aW (aW (aW h).2).2).1) (eM (aW (aW (aW h).2).2).2),
   zas (dU hB hC l (aW h).1).1 (fun e he => (gL hB hC cs (aW (aW h).2).1 e he).1) (beq_iff_eq.mp (aW (aW (aW h).2).2).1) (eM (aW (aW (aW h).2).2).2), trivial⟩
 | .Call f args _ _, h => zP (wX hB hC (aW h).1 (dU hB hC f (aW h).1).2.2 (gL hB hC args (aW (aW h).2).1) (aW (aW h).2).1 (aW (aW (aW h).2).2).1 (of_decide_eq_true (aW (aW (aW (aW h).2).2).2).1) (aW (aW (aW (aW h).2).2).2).2) (fun _ _ => rfl) trivial
 | .Attribute o _ _, h => zP (zaq hB hC (dU hB hC o (aW h).2).1 (aW h).1) (fun _ _ => rfl) ⟨(aW h).1, (dU hB hC o (aW h).2).1⟩
 | .Subscript o i _, h => zP (zai (dU hB hC o (aW h).1).1 (aW h).2 (dU hB hC i (aW h).2)) (fun _ _ => rfl) trivial
 | .List es _, h => zP (zam hC.mono (fun e he => (gL hB hC es (aW h).1 e he).1) (aW (aW h).2).1 (of_decide_eq_true (aW (aW h).2).2)) (fun _ _ => rfl) trivial
 | .Tuple es _ _, h => zP (wR hC.mono (fun e he => (gL hB hC es (aW h).1 e he).1) (aW (aW h).2).1 (of_decide_eq_true (aW (aW h).2).2)) (fun _ _ => rfl) trivial
 | .ListComp elt [⟨_, iter, ifs, _⟩] _ _, h =>
   have s : cC prog w B C n elt /\ cC prog w B C n iter /\ (∀ f ∈ ifs, lM prog w B C n f) /\ qR iter = true := ⟨(dU hB hC elt (aW h).1).1, (dU hB hC iter (aW (aW h).2).1).1, fun f hf => (gL hB hC ifs (aW (aW (aW h).2).2).1 f hf).2.1, (aW (aW (aW h).2).2).2⟩
   zP (zao s.1 s.2.1 s.2.2.1 s.2.2.2) (fun _ _ => rfl) fun _ _ _ _ e => by cases e; exact s
 | .ListComp _ [] _ _, _ => bad (fun _ _ _ h => h) fun _ _ _ _ e => by cases e
 | .ListComp _ (⟨_, _, _, _⟩ :: _ :: _) _ _, _ => bad (fun _ _ _ h => h) fun _ _ _ _ e => by cases e
 | .Slice l u _ _, h => bad (fun _ _ _ h => h) ⟨zdI hB hC l (aW (aW h).2).1, zdI hB hC u (aW (aW h).2).2⟩
 | .NamedExpr _ _ _, _ => bad (fun _ _ _ h => h) trivial
 | .Lambda _ _ _ _, _ => bad (fun _ _ _ h => h) trivial
 | .Dict _ _ _, h => zP (zan hB h) (fun _ _ => rfl) trivial
 | .Set _ _ _, _ => bad (fun _ _ _ h => h) trivial
 | .SetComp _ _ _ _, _ => bad (fun _ _ _ h => h) trivial
 | .DictComp _ _ _ _ _, _ => bad (fun _ _ _ h => h) trivial
 | .GeneratorExp _ _ _ _, _ => bad (fun _ _ _ h => h) trivial
 | .Await _ _, _ => bad (fun _ _ _ h => h) trivial
 | .Yield _ _, _ => bad (fun _ _ _ h => h) trivial
 | .YieldFrom _ _, _ => bad (fun _ _ _ h => h) trivial
 | .FormattedValue _ _ _ _, _ => bad (fun _ _ _ h => h) trivial
 | .JoinedStr _ _, _ => bad (fun _ _ _ h => h) trivial
 | .Starred _ _, _ => bad (fun _ _ _ h => h) trivial
theorem gL (hB : BsOk B) (hC : CtxOk prog w B C n) : ∀ es : List Expr, zaF es = true -> ∀ e ∈ es, zdx prog w B C n e
 | [], _ => fun _ h => nomatch h
 | a :: es, h => List.forall_mem_cons.mpr ⟨dU hB hC a (aW h).1, gL hB hC es (aW h).2⟩
theorem zdI (hB : BsOk B) (hC : CtxOk prog w B C n) : ∀ e : Option Expr, okO e = true -> ∀ x, e = some x -> cC prog w B C n x
 | none, _ => fun _ h => nomatch h
 | some a, h => fun _ e => by cases e; exact (dU hB hC a h).1
end
theorem snd (hB : BsOk B) (hC : CtxOk prog w B C n) {e : Expr} (h : okE e = true) : cC prog w B C n e := (dU hB hC e h).1
theorem sndT (hB : BsOk B) (hC : CtxOk prog w B C n) {e : Expr} (h : okE e = true) : lM prog w B C n e := (dU hB hC e h).2.1
end
noncomputable section
noncomputable abbrev oU (K : St -> Prop) (Q : Fl -> St -> Prop) (fl : Fl) (st : St) : Prop := Fl.casesOn (motive := fun _ => Prop) fl (K st) (Q .next st) (K st) fun r => Q (.ret r) st
noncomputable def eT (T : (PV -> St -> Prop) -> St -> Prop) (B : (Fl -> St -> Prop) -> St -> Prop) (O : (Fl -> St -> Prop) -> St -> Prop) (Q : Fl -> St -> Prop) : Nat -> St -> Prop
 | 0, _ => False
 | n + 1, st => T (tst fun b st1 => if b = true then B (oU (eT T B O Q n) Q) st1 else O Q st1) st
noncomputable def gX (tgt : Expr) (B : (Fl -> St -> Prop) -> St -> Prop) (O : (Fl -> St -> Prop) -> St -> Prop) (Q : Fl -> St -> Prop) : List PV -> St -> Prop
 | [], st => O Q st
 | v :: vs, st => opt (iP tgt v st.ρ) fun ρ1 => B (oU (gX tgt B O Q vs) Q) ⟨ρ1, st.σ⟩
noncomputable def d6 (κ : Kn) (x : Str) : Bool := κ x == some .local || κ x == some .cell
noncomputable def pO (ts : List Expr) : Option (Str × Str) := List.casesOn (motive := fun _ => Option (Str × Str)) ts none fun t r => List.casesOn (motive := fun _ => Option (Str × Str)) r
 (exc none (fun _ => none) (fun _ => none) (fun _ => none) (fun o n _ => (nmE o).map fun x => (x, n)) (fun _ _ => none) (fun _ _ => none) t) fun _ _ => none
noncomputable def eD (C : Ctx) (κ : Kn) (targets : List Expr) (v : PV) (st : St) (K : St -> Prop) : Prop :=
 oN (pO targets) (targets.all (fun t => (cA t).all (d6 κ)) = true /\ opt (nQ targets v st.ρ) fun ρ' => K ⟨ρ', st.σ⟩)
  fun xn => opt (st.ρ xn.1) fun p => asP p fun a => setCell C a xn.2 v st K
noncomputable def cJ (e : Expr) : Option (List Expr) := zdg none (fun f args kws => exc none (fun _ => none) (fun _ => none) (fun _ => none) (fun o m _ => if nmE o = some "Node" /\ m = "__init__" /\ kws.isEmpty = true then some args else none) (fun _ _ => none) (fun _ _ => none) f) none e
noncomputable def yG (C : Ctx) (vs : List PV) (st : St) (K : St -> Prop) : Prop := mQ vs fun p va vb => asP p fun ad => setCell C ad "source_line" va st fun st3 => setCell C ad "source_column" vb st3 K
noncomputable def jK (e : Expr) : Bool := Expr.casesOn (motive_1 := fun _ => Bool) e (fun _ _ _ => false) (fun _ _ _ => false) (fun _ _ _ _ => false) (fun _ _ _ => false) (fun _ _ _ _ => false) (fun _ _ _ _ => false) (fun _ _ _ => false) (fun _ _ _ => false) (fun _ _ _ _ => true) (fun _ _ _ _ => true) (fun _ _ _ _ _ => true) (fun _ _ _ _ => false) (fun _ _ => false) (fun _ _ => false) (fun _ _ => false) (fun _ _ _ _ => false) (fun _ _ _ _ => false) (fun _ _ _ _ => false) (fun _ _ => false) (fun _ _ _ => false) (fun _ _ _ => false) (fun _ _ _ => false) (fun _ _ => false) (fun _ _ => false) (fun _ _ => false) (fun _ _ _ => false) (fun _ _ _ _ => false)
noncomputable def eP (K : St -> Prop) (Q : Fl -> St -> Prop) (fl : Fl) (st : St) : Prop := Fl.casesOn (motive := fun _ => Prop) fl (K st) (Q .brk st) (Q .cont st) fun v => Q (.ret v) st
mutual
noncomputable def wS (C : Ctx) (κ : Kn) : Stmt -> (Fl -> St -> Prop) -> St -> Prop
 | .Expr v _, Q, st => oN (cJ v) (jK v = false /\ wE C v κ (fun _ st1 => Q .next st1) st) fun args => C.ini = true /\ κ "Node" = some .globalImplicit /\ wEs C args κ (fun vs st1 => yG C vs st1 fun st2 => Q .next st2) st
 | .Break _, Q, st => Q .brk st
 | .Continue _, Q, st => Q .cont st
 | .Return e _, Q, st => opt e fun e => wE C e κ (fun v st1 => Q (.ret v) st1) st
 | .Assign ts e _, Q, st => wE C e κ (fun v st1 => eD C κ ts v st1 fun st2 => Q .next st2) st
 | .AugAssign t op e _, Q, st => opt (nmE t) fun x => d6 κ x = true /\ opt (st.ρ x) fun old => wE C e κ (fun v st1 => inP op old v fun r => Q .next ⟨upd st1.ρ x r, st1.σ⟩) st
 | .If t b o _, Q, st => wE C t κ (tst fun c st1 => if c = true then wSs C κ b Q st1 else wSs C κ o Q st1) st
 | .While t b o _, Q, st => ∃ n, eT (wE C t κ) (wSs C κ b) (wSs C κ o) Q n st
 | .For tgt iter b o _, Q, st => (cA tgt).all (d6 κ) = true /\ wE C iter κ (fun v st1 => opt (fU v) fun items => items.length <= aP /\ gX tgt (wSs C κ b) (wSs C κ o) Q items st1) st
 | .Try b hs o fin _, Q, st => hs.isEmpty = false /\ fin.isEmpty = true /\ wSs C κ b (eP (fun st1 => wSs C κ o Q st1) Q) st
 | _, _, _ => False
noncomputable def wSs (C : Ctx) (κ : Kn) : List Stmt -> (Fl -> St -> Prop) -> St -> Prop
 | [], Q, st => Q .next st
 | s :: ss, Q, st => wS C κ s (eP (fun st1 => wSs C κ ss Q st1) Q) st
end
end
theorem iT {C : Ctx} {κ : Kn} {v : Expr} {p : Pos} {Q : Fl -> St -> Prop} {st : St} : wS C κ (.Expr v p) Q st = oN (cJ v) (jK v = false /\ wE C v κ (fun _ st1 => Q .next st1) st) fun args => C.ini = true /\ κ "Node" = some .globalImplicit /\ wEs C args κ (fun vs st1 => yG C vs st1 fun st2 => Q .next st2) st := rfl
section mono
variable {C : Ctx}
theorem gD {K K' : St -> Prop} {Q Q' : Fl -> St -> Prop} (h : ∀ s, K s -> K' s) (hq : ∀ f s, Q f s -> Q' f s) (f : Fl) (s : St) (x : oU K Q f s) : oU K' Q' f s := by
 cases f
 ·exact h s x
 ·exact hq _ s x
 ·exact h s x
 ·exact hq _ s x
theorem j5 {K K' : St -> Prop} {Q Q' : Fl -> St -> Prop} (h : ∀ s, K s -> K' s) (hq : ∀ f s, Q f s -> Q' f s) (f : Fl) (s : St) (x : eP K Q f s) : eP K' Q' f s := by
 cases f
 ·exact h s x
 ·exact hq _ s x
 ·exact hq _ s x
 ·exact hq _ s x
theorem fQ {a : Nat} {name : Str} {v : PV} {st : St} {K K' : St -> Prop} (h : ∀ s, K s -> K' s) : setCell C a name v st K -> setCell C a name v st K' := fun ⟨c, fs, i, h1, h2, h3, h4⟩ => ⟨c, fs, i, h1, h2, h3, h _ h4⟩
theorem pP {κ : Kn} {ts : List Expr} {v : PV} {st : St} {K K' : St -> Prop} (h : ∀ s, K s -> K' s) : eD C κ ts v st K -> eD C κ ts v st K' :=
 eV (fun x => ⟨x.1, aZ (fun _ => h _) x.2⟩) fun _ => aZ fun _ => jT fun _ => fQ h
theorem vC {vs : List PV} {st : St} {K K' : St -> Prop} (h : ∀ s, K s -> K' s) : yG C vs st K -> yG C vs st K' :=
 lP fun _ _ _ => jT fun _ => fQ fun _ => fQ h
theorem gI {T : (PV -> St -> Prop) -> St -> Prop} {B O : (Fl -> St -> Prop) -> St -> Prop} {Q Q' : Fl -> St -> Prop}
  (hT : ∀ K K' s, (∀ b s, K b s -> K' b s) -> T K s -> T K' s) (hB : ∀ K K' s, (∀ b s, K b s -> K' b s) -> B K s -> B K' s) (hO : ∀ K K' s, (∀ b s, K b s -> K' b s) -> O K s -> O K' s) (h : ∀ f s, Q f s -> Q' f s) :
  ∀ n st, eT T B O Q n st -> eT T B O Q' n st
 | 0, _, x => x
 | n + 1, _, x => hT _ _ _ (f9 fun _ _ => aU (hB _ _ _ (gD (gI hT hB hO h n) h)) (hO _ _ _ h)) x
theorem jL {tgt : Expr} {B O : (Fl -> St -> Prop) -> St -> Prop} {Q Q' : Fl -> St -> Prop}
  (hB : ∀ K K' s, (∀ b s, K b s -> K' b s) -> B K s -> B K' s) (hO : ∀ K K' s, (∀ b s, K b s -> K' b s) -> O K s -> O K' s) (h : ∀ f s, Q f s -> Q' f s) :
  ∀ items st, gX tgt B O Q items st -> gX tgt B O Q' items st
 | [], _, x => hO _ _ _ h x
 | _ :: vs, _, x => aZ (fun _ => hB _ _ _ (gD (jL hB hO h vs) h)) x
mutual
theorem v5 (M : CtxMono C) : ∀ (s : Stmt) {κ : Kn} {Q Q' : Fl -> St -> Prop} {st : St}, (∀ f s, Q f s -> Q' f s) -> wS C κ s Q st -> wS C κ s Q' st
 | .Expr v _, _, _, _, _, h, x => eV (fun x => ⟨x.1, aV M v (fun _ _ => h _ _) x.2⟩) (fun _ x => ⟨x.1, x.2.1, bZ M _ (fun _ _ => vC fun _ => h _ _) x.2.2⟩) x
 | .Break _, _, _, _, _, h, x => h _ _ x
 | .Continue _, _, _, _, _, h, x => h _ _ x
 | .Return _ _, _, _, _, _, h, x => aZ (fun e => aV M e fun _ _ => h _ _) x
 | .Assign _ e _, _, _, _, _, h, x => aV M e (fun _ _ => pP fun _ => h _ _) x
 | .AugAssign _ _ e _, _, _, _, _, h, x => aZ (fun _ x => ⟨x.1, aZ (fun _ => aV M e fun _ _ => za0 fun _ => h _ _) x.2⟩) x
 | .If t b o _, _, _, _, _, h, x => aV M t (f9 fun _ _ => aU (cU M b h) (cU M o h)) x
 | .While t b o _, κ, _, _, _, h, x => x.imp fun n => gI (T := wE C t κ) (B := wSs C κ b) (O := wSs C κ o) (fun _ _ _ hk => aV M t hk) (fun _ _ _ hk => cU M b hk) (fun _ _ _ hk => cU M o hk) h n _
 | .For _ iter b o _, κ, _, _, _, h, x => ⟨x.1, aV M iter (fun _ _ => aZ fun _ y => ⟨y.1, jL (B := wSs C κ b) (O := wSs C κ o) (fun _ _ _ hk => cU M b hk) (fun _ _ _ hk => cU M o hk) h _ _ y.2⟩) x.2⟩
 | .Try b _ o _ _, _, _, _, _, h, x => ⟨x.1, x.2.1, cU M b (j5 (fun _ => cU M o h) h) x.2.2⟩
 | .FunctionDef _ _ _ _ _ _ _ _ _ _, _, _, _, _, _, x => x
 | .AsyncFunctionDef _ _ _ _ _ _ _ _ _ _, _, _, _, _, _, x => x
 | .ClassDef _ _ _ _ _ _ _ _ _ _ _, _, _, _, _, _, x => x
 | .Delete _ _, _, _, _, _, _, x => x
 | .TypeAlias _ _ _ _ _ _ _, _, _, _, _, _, x => x
 | .AnnAssign _ _ _ _ _, _, _, _, _, _, x => x
 | .AsyncFor _ _ _ _ _, _, _, _, _, _, x => x
 | .With _ _ _, _, _, _, _, _, x => x
 | .AsyncWith _ _ _, _, _, _, _, _, x => x
 | .Match _ _ _, _, _, _, _, _, x => x
 | .Raise _ _ _, _, _, _, _, _, x => x
 | .TryStar _ _ _ _ _, _, _, _, _, _, x => x
 | .Assert _ _ _, _, _, _, _, _, x => x
 | .Import _ _, _, _, _, _, _, x => x
 | .ImportFrom _ _ _ _, _, _, _, _, _, x => x
 | .Global _ _, _, _, _, _, _, x => x
 | .Nonlocal _ _, _, _, _, _, _, x => x
 | .Pass _, _, _, _, _, _, x => x
theorem cU (M : CtxMono C) : ∀ (ss : List Stmt) {κ : Kn} {Q Q' : Fl -> St -> Prop} {st : St}, (∀ f s, Q f s -> Q' f s) -> wSs C κ ss Q st -> wSs C κ ss Q' st
 | [], _, _, _, _, h, x => h _ _ x
 | s :: ss, _, _, _, _, h, x => v5 M s (j5 (fun _ => cU M ss h) h) x
end
end mono
end Mine
end
section
set_option maxRecDepth 100000
open PySem PySem.W PyProof.Rows
open Builtin Builtin.Str
set_option Elab.async false
set_option autoImplicit false
set_option linter.unusedVariables false
namespace Mine
section
open PySem.Calls Builtin.ObjectAttr Builtin.Getset_descriptor
variable {prog : Program} {w : World} {A : Around} {K : Frag} {x C : Addr} {s : Shared} {R : Result -> Shared -> Prop}
theorem zau {ox : Obj} {od : Option Obj} {v : Value} {p i : Nat} (X : K.In s.heap) (I : PySem.W.InstAt s.heap x ox C od)
  (hp : slotIn K p C = some i) (hi : i < 1000) (hf : ox.isFreed = false)
  (h : ∀ h', h'.get? x = some { ox with slots := (ox.slots ++ Array.replicate (i + 1 - ox.slots.size) none).setIfInBounds i (some v) } -> Heap.SameBut x s.heap h' -> R (.ok (.ret .none)) { s with heap := h' }) :
  codeAny (model prog w) A (.call (.builtin "member_descriptor.__set__") ⟨[.ref p, .ref x, v], []⟩) R s := by
 obtain ⟨n, tn, owner, behind, tb, d, sl, cd, ho, hc, hm, hb, rfl⟩ := slot_of X hp
 obtain ⟨hh, g, dr, t, os⟩ := s
 have L0 := I.type (M := model prog w)
 have L1 := looks_mroIn (M := model prog w) X hm
 have L2 : Looks (model prog w) hh (Slots.slotNamesOf (.ref C)) cd.slotNames := (looks_clsIn X hc).andThen .now
 have hx := I.at_
 dsimp only at ho hx L0 L1
 have f0 := looks_field (M := model prog w) ho 0 (v := .str n tn) rfl
 have f1 := looks_field (M := model prog w) ho 1 (v := owner) rfl
 have f3 := looks_field (M := model prog w) ho 3 (v := .builtin "proto.slot#set") rfl
 have f4 := looks_field (M := model prog w) ho 4 (v := .int behind tb) rfl
 refine codeAny_call_builtin KF.slot_mset.plain KF.entry_mset (KF.slot_mset.check _ _ _ _ _ _ _ _ ⟨_, ho, rfl⟩ (KF.args_mset _ _ _) ?_)
 unfold Builtin.«member_descriptor.__set__» descrSet descrStoreThrough descrCheckInstance descrNameAndClass isInstance
 have f5 : Looks (model prog w) hh (descrItself (.ref p)) [.ref p] := ((Looks.ld (part := none) ho).andThen .now).andThen (Looks.of_pure (by kernel_rfl))
 repeat lk
 refine ⟨Code.quiet_builtin _ (by decide +kernel), codeAny_builtin KF.entry_slotset ?_⟩
 unfold Builtin.«proto.slot#set» Slots.target
 repeat lk
 rw [if_neg hb]
 refine wpAny_pure (wpAny_bind ?_)
 unfold setSlotAt
 dsimp only
 rw [if_neg (by rw [sizeLine_eq]; omega)]
 refine wpAny_updatePart hx (wpAny_pure (h _ (Heap.get?_update_self _ hx ?_) (Heap.SameBut.update ..)))
 obtain ⟨a, b, c, d⟩ := ox
 cases c <;> first | rfl | cases hf
end
section
variable {prog : Program} {w : World} {B : Bs} {C : Ctx} {n : Nat}
theorem zbp {A : Around} {E : Value -> Shared -> Prop} {cw : Bool} {env : Env} {G : GM} {st : St} {s : Shared} {a c i : Nat} {fs : List (Option PV)} {name : Str} {v : Value} {p : PV} (hB : BsOk B) (hC : CtxOk prog w B C n) (O : Ok B w.params G env st s)
  (hσ : st.σ a = some (.ins c fs)) (hs : C.slot c name = some i) (hi : i < fs.length) (hv : VRel w.params G v p) :
  wpAny (model prog w) A (setAttr (.ref a) name v) (Lands B w.params cw env G st s (fun _ st' _ => st' = ⟨st.ρ, aR st.σ a (.ins c (fs.set i (some p)))⟩)) E s := by
 obtain ⟨_, _, q, _, s4, s5, s6, s7, s8, s9⟩ := hC.slot c name i hs
 obtain ⟨⟨dx, sl, h1, h2, h3, h4⟩, g1, g2, g3⟩ := O.rep.cells a _ hσ
 have X : B.K.In s.heap := hB.kin.keeps fun b o e => O.rep.inh _ _ (O.over _ _ e)
 have I : PySem.W.InstAt s.heap a _ c (some gP) := ⟨h1, rfl, rfl, O.rep.inh _ _ h2⟩
 refine set_plain X I s5 (osa_descr (s := { s with toks := s.toks + 1 }) (od := some gP) KF.slot_mset X ⟨I.at_, I.cls, I.no, O.rep.inh _ _ h2⟩ s6 s7 s8 ?_)
 refine zau (s := { s with toks := s.toks + 1 }) (od := some gP) X ⟨I.at_, I.cls, I.no, O.rep.inh _ _ h2⟩ s4 s9 rfl fun h' hx hsb => ?_
 have cr : CellRel w.params G h' a (.ins c (fs.set i (some p))) := by
  refine ⟨dx, _, hx, h2, ?_, fun j q hj => ?_⟩
  ·simp only [Array.size_setIfInBounds, Array.size_append, Array.size_replicate, List.length_set]; omega
  ·by_cases e : j = i
   ·subst e
    rw [List.getElem?_set_self hi] at hj
    cases hj
    refine ⟨v, ?_, hv⟩
    rw [Array.getElem?_setIfInBounds_self_of_lt]
    simp only [Array.size_append, Array.size_replicate]; omega
   ·rw [List.getElem?_set_ne (Ne.symm e)] at hj
    obtain ⟨u, e1, e2⟩ := h4 j q hj
    refine ⟨u, ?_, e2⟩
    rw [Array.getElem?_setIfInBounds_ne (Ne.symm e)]
    have hlt := (Array.getElem?_eq_some_iff.mp e1).1
    rw [Array.getElem?_append_left hlt]; exact e1
 obtain ⟨R', T'⟩ := O.rep.setCell (cw := cw) hσ hsb cr (show 1 <= s.toks + 1 by omega)
 exact ⟨G, _, rfl, ⟨O.over, R', O.ct.same hsb (by rw [hx]; rfl)⟩, T'⟩
end
end Mine
end
section
open PySem PySem.W PyProof.Rows
open Builtin Builtin.Str
set_option Elab.async false
set_option autoImplicit false
set_option linter.unusedVariables false
namespace Mine
noncomputable def FX (P : Params) (Q : Fl -> St -> Prop) : GM -> St -> Flow -> Prop := fun G' st' f => match f with
 | .next => Q .next st'
 | .brk => Q .brk st'
 | .cont => Q .cont st'
 | .ret v => ∃ p, Q (.ret p) st' /\ VRel P G' v p
noncomputable def nZ (prog : Program) (w : World) (B : Bs) (C : Ctx) (n : Nat) (s : Stmt) : Prop :=
 ∀ (A : Around) (E : Value -> Shared -> Prop) (env : Env) (κ : Kn) (G : GM) (st : St) (sh : Shared) (Q : Fl -> St -> Prop), Room n A -> EnvOk env -> KOk κ env -> Ok B w.params G env st sh ->
  wS C κ s Q st -> wpAny (model prog w) A (exec s env) (Lands B w.params true env G st sh (FX w.params Q)) E sh
noncomputable def gH (prog : Program) (w : World) (B : Bs) (C : Ctx) (n : Nat) (ss : List Stmt) : Prop :=
 ∀ (A : Around) (E : Value -> Shared -> Prop) (env : Env) (κ : Kn) (G : GM) (st : St) (sh : Shared) (Q : Fl -> St -> Prop), Room n A -> EnvOk env -> KOk κ env -> Ok B w.params G env st sh ->
  wSs C κ ss Q st -> wpAny (model prog w) A (execs ss env) (Lands B w.params true env G st sh (FX w.params Q)) E sh
section
variable {prog : Program} {w : World} {B : Bs} {C : Ctx} {n : Nat}
theorem zaf : gH prog w B C n [] := by
 intro A E env κ G st s Q hA hE hκ O hw
 exact wpAny_execs_nil (aK O hw)
theorem wP {s : Stmt} {ss : List Stmt} (h : nZ prog w B C n s) (hs : gH prog w B C n ss) : gH prog w B C n (s :: ss) := by
 intro A E env κ G st sh Q hA hE hκ O hw
 refine wpAny_execs_cons (aG (h A E env κ G st sh _ hA hE hκ O hw) fun f G1 st1 s1 hq O1 T1 => ?_)
 cases f with
 | next => exact aL T1 (hs A E env κ G1 st1 s1 Q hA hE hκ O1 hq)
 | brk => exact (aK (X := FX w.params Q) (a := Flow.brk) O1 hq).after T1
 | cont => exact (aK (X := FX w.params Q) (a := Flow.cont) O1 hq).after T1
 | ret v => exact (aK (X := FX w.params Q) (a := Flow.ret v) O1 (by obtain ⟨p, h1, h2⟩ := hq; exact ⟨p, h1, h2⟩)).after T1
theorem uI {p : Pos} : nZ prog w B C n (.Break p) := by
 intro A E env κ G st s Q hA hE hκ O hw
 exact wpAny_Break (aK (X := FX w.params Q) (a := Flow.brk) O hw)
theorem wO {p : Pos} : nZ prog w B C n (.Continue p) := by
 intro A E env κ G st s Q hA hE hκ O hw
 rw [show exec (.Continue p) env = (do standAt p; pure .cont) from rfl]
 exact wpAny_bind (wpAny_standAt (wpAny_pure (aK (X := FX w.params Q) (a := Flow.cont) O hw)))
theorem qI {e : Expr} {p : Pos} (he : cC prog w B C n e) : nZ prog w B C n (.Return (some e) p) := by
 intro A E env κ G st s Q hA hE hκ O hw
 exact wpAny_Return_some (aG (he A E true env κ G st s _ hA hE hκ O hw) fun v G1 st1 s1 ⟨u, hq, hv⟩ O1 T1 =>
  (aK (X := FX w.params Q) (a := Flow.ret v) O1 ⟨u, hq, hv⟩).after T1)
theorem sR {env : Env} (hE : EnvOk env) : interactive env = false := by unfold interactive; rw [hE.kind]; rfl
theorem uE {e : Expr} (h : jK e = false) (line : Nat) (env : Env) : swapsWith e none line env = pure false := by
 cases e <;> first | rfl | cases h
theorem wN {e : Expr} {p : Pos} (he : cC prog w B C n e) (hi : cJ e = none) : nZ prog w B C n (.Expr e p) := by
 intro A E env κ G st s Q hA hE hκ O hw
 rw [iT, hi] at hw
 exact wpAny_Expr_any (aG (he A E true env κ G st s _ hA hE hκ O hw.2) fun v G1 st1 s1 ⟨u, hq, hv⟩ O1 T1 =>
  (aK (X := FX w.params Q) (a := Flow.next) O1 hq).after T1) (sR hE) (uE hw.1 _ _)
theorem zco {t : Expr} {b o : List Stmt} {p : Pos} (ht : lM prog w B C n t) (hb : gH prog w B C n b) (ho : gH prog w B C n o) : nZ prog w B C n (.If t b o p) := by
 intro A E env κ G st s Q hA hE hκ O hw
 refine wpAny_If (aG (ht A E true env κ G st s _ hA hE hκ O hw) fun c G1 st1 s1 hq O1 T1 => ?_)
 cases c
 ·exact aL T1 (ho A E env κ G1 st1 s1 Q hA hE hκ O1 hq)
 ·exact aL T1 (hb A E env κ G1 st1 s1 Q hA hE hκ O1 hq)
theorem zae {b o : List Stmt} {h₀ : ExceptHandler} {hs : List ExceptHandler} {p : Pos} (hb : gH prog w B C n b) (ho : gH prog w B C n o) : nZ prog w B C n (.Try b (h₀ :: hs) o [] p) := by
 intro A E env κ G st s Q hA hE hκ O hw
 rw [show exec (.Try b (h₀ :: hs) o [] p) env = (do standAt p; tryStmt false (execs b env) (h₀ :: hs) (execs o env) [] env) from rfl]
 refine wpAny_bind (wpAny_standAt (wpAny_tryStmt_except (aG (hb A _ env κ G st s _ hA hE hκ O hw.2.2) fun f G1 st1 s1 hq O1 T1 => ?_)))
 cases f with
 | next => exact aL T1 (ho A E env κ G1 st1 s1 Q hA hE hκ O1 hq)
 | brk => exact (aK (X := FX w.params Q) (a := Flow.brk) O1 hq).after T1
 | cont => exact (aK (X := FX w.params Q) (a := Flow.cont) O1 hq).after T1
 | ret v => exact (aK (X := FX w.params Q) (a := Flow.ret v) O1 (by obtain ⟨p, h1, h2⟩ := hq; exact ⟨p, h1, h2⟩)).after T1
theorem zdV {A : Around} {E : Value -> Shared -> Prop} {G : GM} {s : Shared} {op : Operator} {a b : Value} {p q : PV} {K : PV -> Prop} (hi : InH G s.heap) (ha : VRel w.params G a p) (hb : VRel w.params G b q) (h : inP op p q K) :
  GW (model prog w) A w.params E G s (inplaceOp op a b) K := by
 have twoI : ∀ {r : Int -> Int -> Int}, (asI p fun x => asI q fun y => K (.int (r x y))) -> (∀ x t y u (Q : Value -> Shared -> Prop), Q (.int (r x y) s.toks) { s with toks := s.toks + 1 } -> wpAny (model prog w) A (inplaceOp op (.int x t) (.int y u)) Q E s) -> GW (model prog w) A w.params E G s (inplaceOp op a b) K := by
  intro r h k
  obtain ⟨x, rfl, h1⟩ := b9 (v := p) h
  obtain ⟨y, rfl, h2⟩ := b9 (v := q) h1
  simp only [VRel] at ha hb
  obtain ⟨t, rfl⟩ := ha; obtain ⟨u, rfl⟩ := hb
  exact l6 hi h2 fun Q q => k x t y u Q q
 cases op <;> first | exact False.elim h | skip
 ·cases p <;> first | exact False.elim h | skip
  ·exact twoI (r := fun x y => x + y) h fun _ _ _ _ Q q => iadd_int q
  ·obtain ⟨y, rfl, hz, hk⟩ := dB (v := q) h
   simp only [VRel] at ha hb
   obtain ⟨t, rfl, hx⟩ := ha
   obtain ⟨u, rfl, hy⟩ := hb
   refine SB.iadd (fun t' k => ?_) (by rw [b6, b6]; exact hz)
   refine ⟨_, G, hk, GS.toks hi _, ?_⟩
   simp only [VRel]
   exact ⟨t', by rw [lR], jH hx hy hz⟩
 ·exact twoI (r := fun x y => x - y) h fun _ _ _ _ Q q => isub_int q
theorem mT {κ : Kn} {env : Env} (hκ : KOk κ env) {x : Str} (h : d6 κ x = true) : zdo true env x := by
 unfold d6 at h
 simp only [Bool.or_eq_true, beq_iff_eq] at h
 rcases h with h | h
 ·exact .inl (hκ.loc h)
 ·exact .inr ⟨rfl, hκ.cell (.inl h)⟩
theorem zah {x : Str} {px p : Pos} {op : Operator} {e : Expr} (hB : BsOk B) (hC : CtxOk prog w B C n) (he : cC prog w B C n e) (ok2 : (x == ("__classdict__" : Str)) = false) : nZ prog w B C n (.AugAssign (.Name x px) op e p) := by
 intro A E env κ G st s Q hA hE hκ O hw
 obtain ⟨hst, hw⟩ := (show d6 κ x = true /\ opt (st.ρ x) _ from hw)
 have hst' := hst
 unfold d6 at hst
 obtain ⟨old, e0, hw⟩ := bS hw
 refine wpAny_AugAssign_Name ?_
 have hN' := rC (p := px) hB hC ok2 A E true env κ G st s (fun v st' => v = old /\ st' = st) hE hκ O (by rw [fN, if_neg (fun q => by rw [q] at hst; cases hst), e0]; exact ⟨rfl, rfl⟩)
 refine aG hN' fun ov G1 st1 s1 ⟨u, ⟨hu, hst1⟩, hv⟩ O1 T1 => ?_
 subst hu hst1
 refine aG (he A E true env κ G1 st1 s1 _ hA hE hκ O1 hw) fun v G2 st2 s2 ⟨u2, hq2, hv2⟩ O2 T2 => ?_
 refine aG (cw := true) (bJ (Q := fun r st' => Q .next ⟨upd st'.ρ x r, st'.σ⟩) O2 (zdV O2.rep.inh (hv.mono T2.ext) hv2 hq2)) fun r G3 st3 s3 ⟨u3, hq3, hv3⟩ O3 T3 => ?_
 refine aG (mS (cw := true) hE O3 (mT hκ hst') hv3) fun _ G4 st4 s4 e4 O4 T4 => ?_
 subst e4
 exact (aK (X := FX w.params Q) (a := Flow.next) O4 hq3).after (T1.trans (T2.trans (T3.trans T4)))
end
section
variable {prog : Program} {w : World} {B : Bs} {C : Ctx} {n : Nat}
theorem Tr.at1 {cw : Bool} {env : Env} {G G' : GM} {st st' : St} {s s' : Shared} (T : Tr cw env G st s G' st' s') {I : Addr} (hI : s.heap.get? I = none) {h' : Heap} {k : Nat} (hk : ∀ b o, b ≠ I -> s'.heap.get? b = some o -> h'.get? b = some o) : Tr cw env G st s G' st' { s' with heap := h', toks := k } where
 ext := T.ext
 new := T.new
 keep := fun a o e h1 h2 h3 => hk a o (fun q => by rw [q, hI] at e; cases e) (T.keep a o e h1 h2 h3)
 alive := fun a e => by
  obtain ⟨o, ho⟩ := Option.isSome_iff_exists.mp (T.alive a e)
  show (h'.get? a).isSome = true
  rw [hk a o (fun q => by rw [q, hI] at e; cases e) ho]; rfl
 dom := T.dom
 fresh := T.fresh
 os := T.os
 gens := T.gens
theorem uG {t : Expr} {b o : List Stmt} {p : Pos} (ht : lM prog w B C n t) (hb : gH prog w B C n b) (ho : gH prog w B C n o) : nZ prog w B C n (.While t b o p) := by
 intro A E env κ G st s Q hA hE hκ O hw
 obtain ⟨m, hw⟩ := hw
 refine wpAny_While (codeAny_whileLoop (fun k s' => ∃ Gj stj, Ok B w.params Gj env stj s' /\ eT (wE C t κ) (wSs C κ b) (wSs C κ o) Q k stj /\ Tr true env G st s Gj stj s') ?_ m ⟨G, st, O, hw, .refl⟩)
 rintro k s' ⟨Gj, stj, Oj, hwj, Tj⟩
 cases k with
 | zero => exact hwj.elim
 | succ k =>
  refine aG (ht A _ true env κ Gj stj s' _ hA hE hκ Oj hwj) fun c G1 st1 s1 hq O1 T1 => ?_
  cases c with
  | false =>
   refine aG (ho A _ env κ G1 st1 s1 Q hA hE hκ O1 hq) fun f G2 st2 s2 hq2 O2 T2 => ?_
   exact (aK (X := FX w.params Q) (a := f) O2 hq2).after (Tj.trans (T1.trans T2))
  | true =>
   refine aG (hb A _ env κ G1 st1 s1 _ hA hE hκ O1 hq) fun f G2 st2 s2 hq2 O2 T2 => ?_
   have T := Tj.trans (T1.trans T2)
   cases f with
   | next => exact ⟨k, Nat.lt_succ_self _, G2, st2, O2, hq2, T⟩
   | cont => exact ⟨k, Nat.lt_succ_self _, G2, st2, O2, hq2, T⟩
   | brk => exact (aK (X := FX w.params Q) (a := Flow.next) O2 hq2).after T
   | ret v => exact (aK (X := FX w.params Q) (a := Flow.ret v) O2 (by obtain ⟨p, h1, h2⟩ := hq2; exact ⟨p, h1, h2⟩)).after T
noncomputable def F3 (R : Result -> Shared -> Prop) (N : Shared -> Prop) (f : Flow) (s : Shared) : Prop := match f with
 | .next | .cont => N s
 | .brk => R (.ok .next) s
 | .ret v => R (.ok (.ret v)) s
noncomputable def F1 (prog : Program) (w : World) (A : Around) (R : Result -> Shared -> Prop) (env : Env) (tgt : Expr) (b : List Stmt) (N : Shared -> Prop) (v : Value) : Unit -> Shared -> Prop := fun _ s =>
 wpAny (model prog w) A (assign tgt env v) (fun _ s => wpAny (model prog w) A (execs b env) (F3 R N) (TE prog w A R env) s) (TE prog w A R env) s
noncomputable def F0 (prog : Program) (w : World) (A : Around) (R : Result -> Shared -> Prop) (env : Env) (it : Value) (tgt : Expr) (b o : List Stmt) (N : Shared -> Prop) (r : Option Value) (s : Shared) : Prop := match r with
 | none => wpAny (model prog w) A (execs o env) (fun f s => R (.ok f) s) (TE prog w A R env) s
 | some v => wpAny (model prog w) A (letOwnedTupleGo tgt it v) (F1 prog w A R env tgt b N v) (TE prog w A R env) s
theorem yQ {A : Around} {R : Result -> Shared -> Prop} {s : Shared} {tgt : Expr} {b o : List Stmt} {it : Value} {env : Env} (I : Nat -> Shared -> Prop)
  (turn : ∀ n s, I n s -> wpAny (model prog w) A (pyNext it) (F0 prog w A R env it tgt b o fun s => ∃ m, m < n /\ I m s) (TE prog w A R env) s) (n : Nat) (h : I n s) : codeAny (model prog w) A (.forLoop tgt it b o env) R s :=
 codeAny_forLoop_any I (fun n s h => wpAny_mono (turn n s h) (fun r _ x => by cases r <;> exact x) fun _ _ e => e) n h
theorem zag {tgt iter : Expr} {b o : List Stmt} {p : Pos} (hi : cC prog w B C n iter) (hb : gH prog w B C n b) (ho : gH prog w B C n o) (hs : qR iter = true) : nZ prog w B C n (.For tgt iter b o p) := by
 intro A E env κ G st s Q hA hE hκ O hw
 obtain ⟨hn, hw⟩ := hw
 have hn' : ∀ x ∈ cA tgt, zdo true env x := fun x hx => mT hκ (List.all_eq_true.mp hn x hx)
 refine wpAny_For (aG (hi A E true env κ G st s _ hA hE hκ O hw) fun xv G1 st1 s1 ⟨u, hq, hv⟩ O1 T1 => ?_) (fun x => kK hs env x)
 obtain ⟨items, hit, hz, hq⟩ := bS hq
 obtain ⟨ρ1, σ1⟩ := st1
 refine yC O1.rep.inh hv hit fun I h' Ws g hI hlt hT hws => ?_
 have hTA := hT A hA.handled
 have O2 := O1.grow g O1.rep.tk
 have i1 := O1.g0 hI
 have i2 := O1.s0 hI
 have i3 := O1.l0 hI
 have i4 := O1.c0 hI
 let J : Nat -> Shared -> Prop := (fun k s' => ∃ done rest Gj ρj σj, items = done ++ rest /\ k = rest.length + 1 /\ Ws done.length s'.heap /\ Ok B w.params Gj env ⟨ρj, σj⟩ s' /\ gX tgt (wSs C κ b) (wSs C κ o) Q rest ⟨ρj, σj⟩ /\
  Tr true env G1 ⟨ρ1, σ1⟩ s1 Gj ⟨ρj, σj⟩ s' /\ Gj I = none /\ σj I = none)
 refine yQ J ?_ (items.length + 1) ⟨[], items, G1, ρ1, σ1, rfl, rfl, hws, O2, hq, g.tr, i1, i2⟩
 refine fun k s' => x5 fun done rest Gj ρj σj => a8 fun hit' hk' hwsj Oj hqj Tj j1 j2 => ?_
 cases rest with
 | nil =>
  rw [List.append_nil] at hit'
  subst hit'
  refine wpAny_with_toks (n := 1) Oj.rep.tk (hTA.done s' _ _ hwsj fun h2 tk hk htk => ?_)
  refine aG (ho A _ env κ Gj _ _ Q hA hE hκ (Oj.at1 j1 j2 i3 i4 htk hk) hqj) fun f G2 st2 s2 hq2 O2 T2 => ?_
  exact (aK (X := FX w.params Q) (a := f) O2 hq2).after (T1.trans ((Tj.at1 hI hk).trans T2))
 | cons v rest =>
  obtain ⟨ρb, hbind, hqj⟩ := bS hqj
  refine wpAny_with_toks (n := 1) Oj.rep.tk (hTA.item done.length v s' _ _ (by rw [hit']; simp) hwsj fun val h2 tk hval hws2 hk hgo htk => ?_)
  have O3 := Oj.at1 j1 j2 i3 i4 htk hk
  have T3 := Tj.at1 (k := tk) hI hk
  obtain ⟨oI, aI⟩ := hTA.alive _ _ hws2
  refine hgo _ _ _ ?_
  refine aG (k7 (cw := true) hA.handled hE O3 hn' (hval.mono Tj.ext) hbind) fun _ G4 st4 s4 e4 O4 T4 => ?_
  subst e4
  refine aG (hb A _ env κ G4 _ s4 _ hA hE hκ O4 hqj) fun f G5 st5 s5 hq5 O5 T5 => ?_
  have T45 := T4.trans T5
  have T := T3.trans T45
  obtain ⟨ρ5, σ5⟩ := st5
  have inv : gX tgt (wSs C κ b) (wSs C κ o) Q rest ⟨ρ5, σ5⟩ -> ∃ m, m < k /\ J m s5 := fun hq6 => by
   refine ⟨rest.length + 1, hk' ▸ Nat.lt_succ_self _, done ++ [v], rest, G5, ρ5, σ5, by rw [hit']; simp, rfl, ?_, O5, hq6, T, gR T45 aI j1, d5 T45 aI j2⟩
   rw [List.length_append, List.length_singleton]
   exact hTA.frame _ _ _ hws2 (fun o e => T45.keep I o e i3 (fun _ x => i4 x) j2) fun a o e => O5.rep.inh a o (T.ext a o e)
  cases f with
  | next => exact inv hq5
  | cont => exact inv hq5
  | brk => exact (aK (X := FX w.params Q) (a := Flow.next) O5 hq5).after (T1.trans T)
  | ret v => exact (aK (X := FX w.params Q) (a := Flow.ret v) O5 (by obtain ⟨p, h1, h2⟩ := hq5; exact ⟨p, h1, h2⟩)).after (T1.trans T)
end
noncomputable def zdQ (ts : List Expr) (v : Expr) : Bool := (zdp v).isNone || ts.all fun t => (nmE t).isSome
theorem jG {ts : List Expr} {v : Expr} (h : zdQ ts v = true) (env : Env) : swappedStores ts v env = pure none := by
 match ts with
 | [] => rfl
 | a :: b :: r => cases a <;> first | rfl | (cases v <;> rfl)
 | [t] => cases t <;> first | rfl | (cases v <;> first | rfl | cases h)
theorem zcF {β : Type} {t : Expr} (h : nmE t = none) (a : β) (f : Str -> Pos -> β) (b : β) : (match (some t : Option Expr) with | none => a | some (.Name x p) => f x p | some _ => b) = b := by
 cases t <;> first | rfl | cases h
theorem zck {v t : Expr} {line : Nat} {env : Env} (h : jK v = true) : ∃ b, swapsWith v (some t) line env = pure b /\ (b = true -> ∃ x p, t = .Name x p /\ env.kindOf x = some .local) := by
 cases hn : nmE t with
 | some x =>
  obtain ⟨p, rfl⟩ := fA hn
  cases v <;> first | (cases h; done) | (refine ⟨_, rfl, fun h => ⟨x, p, rfl, ?_⟩⟩; simp only [Bool.and_eq_true, beq_iff_eq] at h; exact h.1.1.2)
 | none =>
  refine ⟨false, ?_, fun h => by cases h⟩
  cases v <;> first | (cases h; done) | exact zcF hn _ _ _
theorem lQ (ts : List Expr) (v : Expr) (line : Nat) (env : Env) : ∃ b, swapsWithSole ts v line env = pure b /\ (b = true -> ∃ x px, ts = [.Name x px] /\ env.kindOf x = some .local /\ jK v = true) := by
 match ts with
 | [] => exact ⟨false, rfl, fun h => by cases h⟩
 | _ :: _ :: _ => exact ⟨false, rfl, fun h => by cases h⟩
 | [t] =>
  by_cases hv : jK v = true
  ·obtain ⟨b, h1, h2⟩ := zck (t := t) (line := line) (env := env) hv
   exact ⟨b, h1, fun h => let ⟨x, p, e, k⟩ := h2 h; ⟨x, p, by rw [e], k, hv⟩⟩
  ·refine ⟨false, ?_, fun h => by cases h⟩
   cases v <;> first | rfl | exact absurd rfl hv
section
variable {prog : Program} {w : World} {B : Bs} {C : Ctx} {n : Nat}
theorem kT {t : Expr} (h : cM t = true) {ts : List Expr} {env : Env} : assignEach (t :: ts) env = (false, assign t env) :: assignEach ts env := by cases t <;> first | rfl | cases h
theorem f7 {A : Around} {E : Value -> Shared -> Prop} {env : Env} {P : Params} (hh : A.handled = none) (hE : EnvOk env) : ∀ (ts : List Expr) (G : GM) (st : St) (s : Shared) (v : Value) (p : PV) (ρ' : dG), Ok B P G env st s -> (∀ t ∈ ts, ∀ x ∈ cA t, zdo true env x) -> ts.all cM = true ->
  VRel P G v p -> nQ ts p st.ρ = some ρ' -> wpAny (model prog w) A (assignAll v ((assignEach ts env).map (·.2))) (Lands B P true env G st s (fun _ st' _ => st' = ⟨ρ', st.σ⟩)) E s
 | [], G, st, s, v, p, ρ', O, hx, hs, hv, h => by
  cases h
  exact wpAny_pure (aK O rfl)
 | [t], G, st, s, v, p, ρ', O, hx, hs, hv, h => by
  obtain ⟨ρ1, e, h⟩ := Option.bind_eq_some_iff.mp h
  cases h
  rw [kT (aW hs).1]
  exact k7 hh hE O (hx t List.mem_cons_self) hv e
 | t :: t' :: ts, G, st, s, v, p, ρ', O, hx, hs, hv, h => by
  obtain ⟨ρ1, e, h⟩ := Option.bind_eq_some_iff.mp h
  have hs' := (aW hs).2
  have e2 := kT (env := env) (aW hs').1 (ts := ts)
  rw [kT (aW hs).1, List.map_cons, e2, List.map_cons]
  show wpAny _ _ (do holding [v] (assign t env v); assignAll v (assign t' env :: (assignEach ts env).map (·.2))) _ _ _
  refine wpAny_bind (wpAny_holding (aG (k7 (cw := true) hh hE O (hx t List.mem_cons_self) hv e) fun _ G1 st1 s1 e3 O1 T1 => ?_))
  subst e3
  have := f7 (E := E) hh hE (t' :: ts) G1 _ s1 v p ρ' O1 (fun y hy => hx y (List.mem_cons_of_mem _ hy)) hs' (hv.mono T1.ext) h
  rw [e2] at this
  exact aL T1 this
theorem y7 {C : Ctx} {κ : Kn} {Q : PV -> St -> Prop} {st : St} {e : Expr} (h : jK e = true) (hw : wE C e κ Q st) : ∃ elt gens sc cp, e = .ListComp elt gens sc cp := by
 cases e <;> first | (cases h; done) | exact False.elim hw | exact ⟨_, _, _, _, rfl⟩
theorem zbn {C : Ctx} {κ : Kn} {Q : PV -> St -> Prop} {st : St} {elt : Expr} {gens : List Comprehension} {sc : Scope} {cp : Pos} (hw : wE C (.ListComp elt gens sc cp) κ Q st) : ∃ tgt iter ifs asy, gens = [⟨tgt, iter, ifs, asy⟩] := by
 match gens, hw with
 | [], hw => exact False.elim hw
 | ⟨_, _, _, _⟩ :: _ :: _, hw => exact False.elim hw
 | [⟨_, _, _, _⟩], _ => exact ⟨_, _, _, _, rfl⟩
theorem vT {ts : List Expr} {x name : Str} (h : pO ts = some (x, name)) : ∃ px p, ts = [.Attribute (.Name x px) name p] := by
 match ts, h with
 | [t], h =>
  cases ht : atN t with
  | none =>
   have : pO [t] = none := by
    revert ht
    exact dO (P := fun t => atN t = none -> pO [t] = none) (fun _ _ _ _ => rfl) (fun _ _ _ => rfl) (fun _ _ _ _ => rfl) (fun _ _ _ h => by cases h) (fun _ _ _ _ _ => rfl) (fun _ _ _ _ _ => rfl) (fun _ _ _ _ _ => rfl) (fun _ _ _ _ => rfl) (fun e he _ _ => he _ _ _ _ _ _ _ _) t
   rw [this] at h; cases h
  | some n =>
   obtain ⟨o, p, rfl⟩ := nT ht
   obtain ⟨y, hy, e⟩ := Option.map_eq_some_iff.mp h
   cases e
   obtain ⟨p, rfl⟩ := fA hy
   exact ⟨_, _, rfl⟩
theorem qJ {ts : List Expr} {e : Expr} {p : Pos} (hB : BsOk B) (hC : CtxOk prog w B C n) (he : cC prog w B C n e) (hsw : zdQ ts e = true) (hs : ts.all cM = true)
  (hx : ∀ x name, pO ts = some (x, name) -> (x == ("__debug__" : Str)) = false /\ (x == ("__classdict__" : Str)) = false) (hsub : zek prog w B C n e) : nZ prog w B C n (.Assign ts e p) := by
 intro A E env κ G st s Q hA hE hκ O hw
 have hw : wE C e κ (fun v st1 => eD C κ ts v st1 fun st2 => Q .next st2) st := hw
 obtain ⟨b, hb, hb'⟩ := lQ ts e p.line env
 cases b with
 | false =>
  refine wpAny_Assign_stores (aG (he A E true env κ G st s _ hA hE hκ O hw) fun v G1 st1 s1 ⟨u, hq, hv⟩ O1 T1 => ?_) hb (jG hsw env)
  cases ht : pO ts with
  | some xn =>
   obtain ⟨x, name⟩ := xn
   dsimp only [eD] at hq
   rw [ht] at hq
   obtain ⟨px, pa, rfl⟩ := vT ht
   obtain ⟨ok1, ok2⟩ := hx x name ht
   obtain ⟨y, ha, hq1⟩ := bS hq
   obtain ⟨a, rfl, c, fs, i, h1, h2, h3, h4⟩ := pQ hq1
   clear hq hq1
   show wpAny _ _ (assign (.Attribute (.Name x px) name pa) env v) _ _ _
   rw [show assign (.Attribute (.Name x px) name pa) env v = (do
    let ov <- holding [v] (PySem.eval (.Name x px) env)
    standAt pa.atName
    holding [v, ov] (setAttr ov name v)
    release [v, ov] []) from rfl]
   refine wpAny_bind (wpAny_holding (wpAny_Name (aG (rC (p := px) hB hC ok2 A E true env κ G1 st1 s1 (fun q st' => q = .ptr a /\ st' = st1) hE hκ O1 (by rw [fN, if_neg (fun q => by have h1 := hκ.glob q; rcases O1.rep.kind x _ ha with h | h | h <;> rw [h1] at h <;> cases h), ha]; exact ⟨rfl, rfl⟩)) fun ov G2 st2 s2 ⟨q, ⟨hq1, hq2⟩, hov⟩ O2 T2 => ?_) ok1))
   subst hq1 hq2
   simp only [VRel] at hov; subst hov
   refine wpAny_bind (wpAny_standAt (wpAny_bind (wpAny_holding ?_)))
   refine aG (zbp (cw := true) hB hC O2 h1 h2 h3 (hv.mono T2.ext)) fun _ G3 st3 s3 e3 O3 T3 => wpAny_release' ?_
   subst e3
   exact (aK (X := FX w.params Q) (a := Flow.next) O3 h4).after (T1.trans (T2.trans T3))
  | none =>
   dsimp only [eD] at hq
   rw [ht] at hq
   obtain ⟨hn, hq⟩ := hq
   obtain ⟨ρ', hbnd, hq⟩ := bS hq
   refine aG (f7 hA.handled hE ts G1 st1 s1 v u ρ' O1 (fun t ht x hx => mT hκ (List.all_eq_true.mp (List.all_eq_true.mp hn t ht) x hx)) hs hv hbnd) fun _ G2 st2 s2 e2 O2 T2 => ?_
   subst e2
   exact (aK (X := FX w.params Q) (a := Flow.next) O2 hq).after (T1.trans T2)
 | true =>
  obtain ⟨x, px, rfl, hl, hcm⟩ := hb' rfl
  obtain ⟨elt, gens, sc, cp, rfl⟩ := y7 hcm hw
  obtain ⟨tgt, iter, ifs, asy, rfl⟩ := zbn hw
  obtain ⟨s1, s2, s3, s4⟩ := hsub _ _ _ _ rfl
  clear hsub he hsw hb'
  obtain ⟨rfl, hsc, hn, hw⟩ := (show asy = 0 /\ dA κ sc = true /\ (cA tgt).all (fun x => sc.names.lookup x == some .local) = true /\ wE C iter κ _ st from hw)
  have hn' : ∀ x ∈ cA tgt, sc.names.lookup x = some .local := fun x hx => by simpa using List.all_eq_true.mp hn x hx
  have hclos := mE (scope := sc) (env := env) fun m hm hf => by
   obtain ⟨c, v, h1, h2⟩ := O.rep.cell0 m.1 (iV hκ hsc m hm hf)
   exact ⟨c, h1⟩
  rw [exec_Assign_arm]
  refine wpAny_bind (wpAny_standAt ?_)
  rw [hb]
  refine wpAny_bind (wpAny_pure ?_)
  rw [if_pos rfl]
  show wpAny _ A (do
   (do let _ <- comprehension (.ListComp elt [⟨tgt, iter, ifs, 0⟩] sc cp) sc env iter.pos (newList []) false (PySem.eval iter env) (some (assign (.Name x px) env)))
   pure Flow.next) _ _ s
  refine wpAny_bind (wpAny_bind (wpAny_mono (wpAny_comprehension_free (use := some (assign (.Name x px) env)) (Q := fun _ s' => Lands B w.params true env G st s (FX w.params Q) Flow.next s') rfl (fun x => kK s4 env x) hclos (mV hsc) (sJ hsc) ?_) (fun _ s' hq => wpAny_pure (wpAny_pure hq)) fun _ _ e => e))
  refine aG (s2 A E true env κ G st s _ hA hE hκ O hw) fun xv G1 st1 s1' ⟨u, hq, hv⟩ O1 T1 => ?_
  obtain ⟨ρ1, σ1⟩ := st1
  obtain ⟨items, hit, hq⟩ := bS hq
  ·refine mD s1 s3 hA hE hκ hsc hn' O1 hv hit hq.1 hq.2 fun D L G' σ' s' acc ys m hq' O' F' hp hr d1 d2 d3 hm hL l1 l2 hDL hz => ?_
   obtain ⟨p', G'', σ'', hQ, O2, F2, hv2, l3, l4⟩ := tQ O1 hq' O' F' hp hr d1 d2 d3 l1 l2 hDL hz
   show wpAny _ A (assign (.Name x px) env (.ref D)) _ _ _
   have hbnd : eD C κ [.Name x px] p' ⟨ρ1, σ''⟩ (fun st2 => Q .next st2) := hQ
   obtain ⟨_, hbnd⟩ := (show _ /\ opt _ fun ρ' => Q .next ⟨ρ', σ''⟩ from hbnd)
   have hstor : zdo true env x := .inl hl
   obtain ⟨oL, eL⟩ : ∃ o, s'.heap.get? L = some o := by obtain ⟨o, _, _, h1, _⟩ := hm; exact ⟨o, h1⟩
   refine aG (k7 (cw := true) (t := .Name x px) (ρ' := upd ρ1 x p') hA.handled hE O2 (fun y hy => by have e := List.mem_singleton.mp (show y ∈ [x] from hy); subst e; exact hstor) hv2 rfl) fun _ G3 st3 s3' e3 O3 T3 => ?_
   subst e3
   refine ⟨m, hm.at' fun o e => T3.keep L o e (O1.l0 hL) (fun _ y => O1.c0 hL y) l4, fun h' hs' => ?_⟩
   have O4 := zH O3.rep.tk O1 hL O3 (gR T3 eL l3) (d5 T3 eL l4) hs'
   refine ⟨G3, _, hbnd, O4, ?_⟩
   exact T1.trans ((F2.tr.trans T3).at1 hL fun b o hb e => (hs'.2 b hb).trans e)
end
section
variable {prog : Program} {w : World} {B : Bs} {C : Ctx} {n : Nat}
theorem rB (hB : BsOk B) {env : Env} (hE : EnvOk env) (id : Str) (p : Pos) : ∃ b, Looks (model prog w) B.h₀ (do return (<- importBound (.Name id p) env).getD true) b := by
 have ns : ∀ s : Shared, (∀ a o, B.h₀.get? a = some o -> s.heap.get? a = some o) -> s.heap.Ns env.globals B.mg := fun s k => by rw [hE.glob]; exact hB.g.keeps k
 have triv : ∀ v, (∀ x t, v ≠ some (.str x t)) -> B.mg "__name__" = v -> Looks (model prog w) B.h₀ (do return (<- importBound (.Name id p) env).getD true) true := by
  intro v hv e A Q E s k q
  unfold importBound
  refine wpAny_bind (wpAny_bind (wpAny_askSetting (wpAny_bind (wpAny_nsGet (ns s k) ?_))))
  rw [e]
  cases v with
  | none => exact wpAny_pure (wpAny_pure q)
  | some v => cases v <;> first | exact wpAny_pure (wpAny_pure q) | exact absurd rfl (hv _ _)
 cases e : B.mg "__name__" with
 | none => exact ⟨true, triv none (fun _ _ h => by cases h) e⟩
 | some v =>
  cases v with
  | str x t =>
   refine ⟨((if (x == ("__main__" : Str)) = true then some prog.main else (prog.modules.lookup x).map (·.2)).map fun top => importsBind id top.body).getD true, fun A Q E s k q => ?_⟩
   unfold importBound
   refine wpAny_bind (wpAny_bind (wpAny_askSetting (wpAny_bind (wpAny_nsGet (ns s k) ?_))))
   rw [e]
   exact wpAny_pure (wpAny_pure q)
  | _ => exact ⟨true, triv _ (fun _ _ h => by cases h) e⟩
theorem nF {e : Expr} {args : List Expr} : cJ e = some args -> ∃ np ap p, e = .Call (.Attribute (.Name "Node" np) "__init__" ap) args [] p := by
 refine dO (P := fun e => cJ e = some args -> ∃ np ap p, e = .Call (.Attribute (.Name "Node" np) "__init__" ap) args [] p) ?_ ?_ ?_ ?_ ?_ ?_ (fun f as kws p h => ?_) ?_ (fun e _ he h => by rw [cJ, he] at h; cases h) e
 case refine_7 =>
  cases hf : atN f with
  | none =>
   refine absurd h ?_
   have : exc none (fun _ => none) (fun _ => none) (fun _ => none) (fun o m _ => if nmE o = some "Node" /\ m = "__init__" /\ kws.isEmpty = true then some as else none) (fun _ _ => none) (fun _ _ => none) f = (none : Option (List Expr)) := by
    revert hf
    exact dO (P := fun f => atN f = none -> exc none (fun _ => none) (fun _ => none) (fun _ => none) (fun o m _ => if nmE o = some "Node" /\ m = "__init__" /\ kws.isEmpty = true then some as else none) (fun _ _ => none) (fun _ _ => none) f = (none : Option (List Expr))) (fun _ _ _ _ => rfl) (fun _ _ _ => rfl) (fun _ _ _ _ => rfl) (fun _ _ _ h => by cases h) (fun _ _ _ _ _ => rfl) (fun _ _ _ _ _ => rfl) (fun _ _ _ _ _ => rfl) (fun _ _ _ _ => rfl) (fun e he _ _ => he _ _ _ _ _ _ _ _) f
   show ¬ (exc none (fun _ => none) (fun _ => none) (fun _ => none) (fun o m _ => if nmE o = some "Node" /\ m = "__init__" /\ kws.isEmpty = true then some as else none) (fun _ _ => none) (fun _ _ => none) f = some args)
   rw [this]; intro q; cases q
  | some m =>
   obtain ⟨o, ap, rfl⟩ := nT hf
   have h : (if nmE o = some "Node" /\ m = "__init__" /\ kws.isEmpty = true then some as else none) = some args := h
   by_cases q : nmE o = some "Node" /\ m = "__init__" /\ kws.isEmpty = true
   ·rw [if_pos q] at h
    cases h
    obtain ⟨q1, rfl, q3⟩ := q
    obtain ⟨np, rfl⟩ := fA q1
    cases List.isEmpty_iff.mp q3
    exact ⟨_, _, _, rfl⟩
   ·rw [if_neg q] at h; cases h
 all_goals (intros; rename_i h; cases h)
theorem wM {args : List Expr} {np ap cp p : Pos} (hB : BsOk B) (hC : CtxOk prog w B C n) (h : ∀ e ∈ args, cC prog w B C n e) (hs : args.all cM = true) (hlen : args.length < 30) (hline : (ap.endLine == cp.line) = true) :
  nZ prog w B C n (.Expr (.Call (.Attribute (.Name "Node" np) "__init__" ap) args [] cp) p) := by
 intro A E env κ G st s Q hA hE hκ O hw
 obtain ⟨hi, hk, hw⟩ : C.ini = true /\ κ "Node" = some .globalImplicit /\ wEs C args κ (fun vs st1 => yG C vs st1 fun st2 => Q .next st2) st := by
  have e : (if nmE (.Name "Node" np) = some "Node" /\ ("__init__" : Str) = "__init__" /\ ([] : List Keyword).isEmpty = true then some args else none) = some args := if_pos ⟨rfl, rfl, rfl⟩
  rw [iT, show cJ (.Call (.Attribute (.Name "Node" np) "__init__" ap) args [] cp) = some args from e] at hw
  exact hw
 obtain ⟨nodeV, fV, i1, i2, i3, i4⟩ := hC.ini hi
 obtain ⟨b, hb⟩ := rB (prog := prog) (w := w) hB hE "Node" np
 refine wpAny_Expr_any ?_ (sR hE) rfl
 have hform : methodCallForm (args.length + ([] : List Keyword).length) (backTo cp (starEach args env)) (backToKw cp (keywordEach [] env)) = true := by
  unfold methodCallForm
  rw [gS args env hs]
  exact zei rfl (decide_eq_true hlen)
 have hpos : methodCallPos true (.Name "Node" np) env ap cp = pure cp := by unfold methodCallPos; simp [hline]
 rw [arm_eval_Call, rR rfl]
 refine wpAny_bind (wpAny_Name ?_ (by decide +kernel))
 rw [loadName_read hE.kind (hκ.glob hk)]
 refine dI hB hE O.rep.inh O.over i1 ?_
 refine wpAny_bind (wpAny_standAt ?_)
 unfold methodCall
 rw [hform]
 refine wpAny_bind (wpAny_holding (i3 A E s _ _ b (fun a o e => O.rep.inh _ _ (O.over _ _ e)) hb fun k hk' => ?_))
 refine wpAny_bind (wpAny_of_eq hpos ?_)
 have g := GS.toks O.rep.inh k
 have O0 := O.grow g (show 1 <= k from Nat.le_trans O.rep.tk hk')
 refine eN (jV args env hs) (wpAny_mono (mU args h hs A E true env κ G st _ _ hA hE hκ O0 hw) (fun a s1 ⟨vs, ha, G1, st1, ⟨ps, hq, hv⟩, O1, T1⟩ => ?_) fun _ _ e => e)
 subst ha
 refine ⟨O1.keepsAt i2, ?_⟩
 obtain ⟨p, pa, pb, rfl, hq1⟩ := mP hq
 obtain ⟨ad, rfl, hq2⟩ := pQ hq1
 clear hq hq1
 obtain ⟨v, _, rfl, h0, va, _, rfl, h1, vb, _, rfl, h2, rfl⟩ := hv
 simp only [VRel] at h0
 subst h0
 refine wpAny_mono (i4 A E true env G1 st1 s1 ad va vb pa pb _ hA O1 h1 h2 hq2) (fun v s2 ⟨G2, st2, hq2, O2, T2⟩ => ?_) fun _ _ e => e
 exact (aK (X := FX w.params Q) (a := Flow.next) O2 hq2).after (g.tr.trans (T1.trans T2))
noncomputable def zbO (ts : List Expr) : Bool := match pO ts with
 | some xn => okN xn.1
 | none => true
mutual
noncomputable def okS : Stmt -> Bool
 | .Expr e _ => okE e
 | .Return e _ => okO e
 | .Assign ts e _ => okE e && (zdQ ts e && (ts.all cM && zbO ts))
 | .AugAssign t _ e _ => okE e && okE t
 | .If t b o _ => okE t && (nY b && nY o)
 | .While t b o _ => okE t && (nY b && nY o)
 | .For _ iter b o _ => okE iter && (qR iter && (nY b && nY o))
 | .Try b _ o _ _ => nY b && nY o
 | _ => true
noncomputable def nY : List Stmt -> Bool
 | [] => true
 | s :: ss => okS s && nY ss
end
theorem lD {s : Stmt} (h : ∀ κ Q st, ¬ wS C κ s Q st) : nZ prog w B C n s := fun _ _ _ _ _ _ _ _ _ _ _ _ hw => (h _ _ _ hw).elim
theorem uH {e : Expr} {p : Pos} (hB : BsOk B) (hC : CtxOk prog w B C n) (h : okE e = true) : nZ prog w B C n (.Expr e p) := by
 cases hi : cJ e with
 | none => exact wN (snd hB hC h) hi
 | some args =>
  obtain ⟨np, ap, cp, rfl⟩ := nF hi
  have h := (aW (aW h).2)
  exact wM hB hC (fun e he => (gL hB hC args h.1 e he).1) (aW h.2).1 (of_decide_eq_true (aW (aW h.2).2).1) (aW (aW h.2).2).2
theorem wQ {t e : Expr} {op : Operator} {p : Pos} (hB : BsOk B) (hC : CtxOk prog w B C n) (h : okE e = true) (ht : okE t = true) : nZ prog w B C n (.AugAssign t op e p) := by
 cases hn : nmE t with
 | none => exact lD fun κ Q st hw => by have hw : opt (nmE t) _ := hw; rw [hn] at hw; exact hw
 | some x =>
  obtain ⟨px, rfl⟩ := fA hn
  exact zah hB hC (snd hB hC h) (eM (aW ht).2)
theorem wL {b o f : List Stmt} {hs : List ExceptHandler} {p : Pos} (hb : gH prog w B C n b) (ho : gH prog w B C n o) : nZ prog w B C n (.Try b hs o f p) := by
 cases hs with
 | nil => exact lD fun κ Q st hw => Bool.noConfusion hw.1
 | cons h hs => cases f with
  | nil => exact zae hb ho
  | cons f fs => exact lD fun κ Q st hw => Bool.noConfusion hw.2.1
theorem oB {ts : List Expr} {e : Expr} {p : Pos} (hB : BsOk B) (hC : CtxOk prog w B C n) (h : okE e = true) (h1 : zdQ ts e = true) (h2 : ts.all cM = true) (h3 : zbO ts = true) : nZ prog w B C n (.Assign ts e p) :=
 qJ hB hC (snd hB hC h) h1 h2 (fun x name hx => by
  have h3 : (match pO ts with
   | some xn => okN xn.1
   | none => true) = true := h3
  rw [hx] at h3; exact ⟨eM (aW h3).1, eM (aW h3).2⟩) (dU hB hC e h).2.2
mutual
theorem zez (hB : BsOk B) (hC : CtxOk prog w B C n) : ∀ s : Stmt, okS s = true -> nZ prog w B C n s
 | .Expr _ _, h => uH hB hC h
 | .Break _, _ => uI
 | .Continue _, _ => wO
 | .Return (some _) _, h => qI (snd hB hC h)
 | .Return none _, _ => lD fun _ _ _ h => h
 | .Assign _ _ _, h => oB hB hC (aW h).1 (aW (aW h).2).1 (aW (aW (aW h).2).2).1 (aW (aW (aW h).2).2).2
 | .AugAssign _ _ _ _, h => wQ hB hC (aW h).1 (aW h).2
 | .If _ b o _, h => zco (sndT hB hC (aW h).1) (gK hB hC b (aW (aW h).2).1) (gK hB hC o (aW (aW h).2).2)
 | .While _ b o _, h => uG (sndT hB hC (aW h).1) (gK hB hC b (aW (aW h).2).1) (gK hB hC o (aW (aW h).2).2)
 | .For _ _ b o _, h => zag (snd hB hC (aW h).1) (gK hB hC b (aW (aW (aW h).2).2).1) (gK hB hC o (aW (aW (aW h).2).2).2) (aW (aW h).2).1
 | .Try b _ o _ _, h => wL (gK hB hC b (aW h).1) (gK hB hC o (aW h).2)
 | .FunctionDef _ _ _ _ _ _ _ _ _ _, _ => lD fun _ _ _ h => h
 | .AsyncFunctionDef _ _ _ _ _ _ _ _ _ _, _ => lD fun _ _ _ h => h
 | .ClassDef _ _ _ _ _ _ _ _ _ _ _, _ => lD fun _ _ _ h => h
 | .Delete _ _, _ => lD fun _ _ _ h => h
 | .TypeAlias _ _ _ _ _ _ _, _ => lD fun _ _ _ h => h
 | .AnnAssign _ _ _ _ _, _ => lD fun _ _ _ h => h
 | .AsyncFor _ _ _ _ _, _ => lD fun _ _ _ h => h
 | .With _ _ _, _ => lD fun _ _ _ h => h
 | .AsyncWith _ _ _, _ => lD fun _ _ _ h => h
 | .Match _ _ _, _ => lD fun _ _ _ h => h
 | .Raise _ _ _, _ => lD fun _ _ _ h => h
 | .TryStar _ _ _ _ _, _ => lD fun _ _ _ h => h
 | .Assert _ _ _, _ => lD fun _ _ _ h => h
 | .Import _ _, _ => lD fun _ _ _ h => h
 | .ImportFrom _ _ _ _, _ => lD fun _ _ _ h => h
 | .Global _ _, _ => lD fun _ _ _ h => h
 | .Nonlocal _ _, _ => lD fun _ _ _ h => h
 | .Pass _, _ => lD fun _ _ _ h => h
theorem gK (hB : BsOk B) (hC : CtxOk prog w B C n) : ∀ ss : List Stmt, nY ss = true -> gH prog w B C n ss
 | [], _ => zaf
 | s :: ss, h => wP (zez hB hC s (aW h).1) (gK hB hC ss (aW h).2)
end
theorem zey (hB : BsOk B) (hC : CtxOk prog w B C n) {ss : List Stmt} (h : nY ss = true) : gH prog w B C n ss := gK hB hC ss h
end
theorem eQ {P : Params} {G : GM} {σ : Nat -> Option Cell} {h : Heap} (hc : ∀ a c, σ a = some c -> CellRel P G h a c /\ G a = none) : Sub G (frz G σ h) := tF fun a c e => (hc a c e).2
mutual
theorem xD {P : Params} {G : GM} {σ : Nat -> Option Cell} {h : Heap} (hc : ∀ a c, σ a = some c -> CellRel P G h a c /\ G a = none) : ∀ (t : PV) {p : PV} {v : Value}, VRel P G v p -> Res σ p t -> VRel P (frz G σ h) v t
 | .tup ts, p, v, hv, r => by
  simp only [Res] at r
  obtain ⟨xs, rfl, r⟩ := r
  simp only [VRel] at hv ⊢
  obtain ⟨a, o, vs, n, h1, h2, h3, h4, h5, h6⟩ := hv
  exact ⟨a, o, vs, n, h1, eQ hc _ _ h2, h3, h4, h5, hZ hc ts h6 r⟩
 | .list ts, p, v, hv, r => by
  simp only [Res] at r
  rcases r with ⟨xs, rfl, r⟩ | ⟨a, xs, rfl, e, r⟩
  ·simp only [VRel] at hv ⊢
   obtain ⟨a, o, vs, n, h1, h2, h3, h3', h4, h5, h6⟩ := hv
   exact ⟨a, o, vs, n, h1, eQ hc _ _ h2, h3, h3', h4, h5, hZ hc ts h6 r⟩
  ·simp only [VRel] at hv; subst hv
   obtain ⟨⟨vs, m, g1, g2, g3⟩, _⟩ := hc a _ e
   simp only [VRel]
   exact ⟨a, _, vs, m, rfl, (if_pos (by rw [e]; rfl)).trans g1, rfl, rfl, rfl, g2, hZ hc ts g3 r⟩
 | .inst c ts, p, v, hv, r => by
  simp only [Res] at r
  obtain ⟨xs, rfl, r⟩ := r
  simp only [VRel] at hv ⊢
  obtain ⟨vs, h1, h2⟩ := hv
  exact ⟨vs, h1.mono (eQ hc), hZ hc ts h2 r⟩
 | .none, p, v, hv, r => by simp only [Res] at r; subst r; exact hv.mono (eQ hc)
 | .bool _, p, v, hv, r => by simp only [Res] at r; subst r; exact hv.mono (eQ hc)
 | .int _, p, v, hv, r => by simp only [Res] at r; subst r; exact hv.mono (eQ hc)
 | .str _, p, v, hv, r => by simp only [Res] at r; subst r; exact hv.mono (eQ hc)
 | .rng _ _, p, v, hv, r => by simp only [Res] at r; subst r; exact hv.mono (eQ hc)
 | .ptr _, p, v, hv, r => by simp only [Res] at r
 | .dict _, p, v, hv, r => by simp only [Res] at r; subst r; exact hv.mono (eQ hc)
theorem hZ {P : Params} {G : GM} {σ : Nat -> Option Cell} {h : Heap} (hc : ∀ a c, σ a = some c -> CellRel P G h a c /\ G a = none) : ∀ (ts : List PV) {ps : List PV} {vs : List Value}, VRels P G vs ps -> lN σ ps ts -> VRels P (frz G σ h) vs ts
 | [], ps, vs, hv, r => by
  simp only [lN] at r; subst r
  simp only [VRels] at hv ⊢; exact hv
 | t :: ts, ps, vs, hv, r => by
  simp only [lN] at r
  obtain ⟨y, ys, rfl, r1, r2⟩ := r
  simp only [VRels] at hv ⊢
  obtain ⟨v, us, rfl, h1, h2⟩ := hv
  exact ⟨v, us, rfl, xD hc t h1 r1, hZ hc ts h2 r2⟩
end
noncomputable def bG : List (Str × PV) -> dG -> dG
 | [], ρ => ρ
 | (x, p) :: r, ρ => bG r (upd ρ x p)
theorem mG {kindOf : Str -> Option NameKind} : ∀ (l : List (Str × PV)) (ρ : dG), (∀ x p, ρ x = some p -> kindOf x = some .local \/ kindOf x = some .cell) -> (∀ y ∈ l, kindOf y.1 = some .local \/ kindOf y.1 = some .cell) ->
  ∀ x p, bG l ρ x = some p -> kindOf x = some .local \/ kindOf x = some .cell
 | [], ρ, h, _, x, p, e => h x p e
 | (n, q) :: r, ρ, h, hl, x, p, e => by
  refine mG r (upd ρ n q) (fun y p e => ?_) (fun y hy => hl y (List.mem_cons_of_mem _ hy)) x p e
  unfold upd at e
  split at e
  ·rename_i hh; subst hh; exact hl (_, q) (by simp)
  ·exact h y p e
theorem tV {P : Params} {G : GM} {kindOf : Str -> Option NameKind} : ∀ (l : List (Str × Value)) (pl : List (Str × PV)) (ρ : dG) (m cm : Str -> Option Value),
  (∀ x p, ρ x = some p -> kindOf x = some .local -> ∃ v, m x = some v /\ VRel P G v p) -> (∀ x p, ρ x = some p -> kindOf x ≠ some .local -> ∃ v, cm x = some v /\ VRel P G v p) ->
  l.map (·.1) = pl.map (·.1) -> VRels P G (l.map (·.2)) (pl.map (·.2)) ->
  (∀ x p, bG pl ρ x = some p -> kindOf x = some .local -> ∃ v, bindL kindOf l m x = some v /\ VRel P G v p) /\ (∀ x p, bG pl ρ x = some p -> kindOf x ≠ some .local -> ∃ v, bindC kindOf l cm x = some v /\ VRel P G v p)
 | [], [], ρ, m, cm, h1, h2, _, _ => ⟨h1, h2⟩
 | [], _ :: _, _, _, _, _, _, h, _ => by simp at h
 | _ :: _, [], _, _, _, _, _, h, _ => by simp at h
 | (n, v) :: l, (n', p) :: pl, ρ, m, cm, h1, h2, h3, h4 => by
  simp only [List.map_cons, List.cons.injEq] at h3
  obtain ⟨rfl, h3⟩ := h3
  simp only [List.map_cons, VRels] at h4
  obtain ⟨v', r, e, hv, h4⟩ := h4
  cases e
  refine tV l pl (upd ρ n p) _ _ (fun x q e hk => ?_) (fun x q e hk => ?_) h3 h4
  ·unfold upd at e
   split at e
   ·rename_i hx; subst hx; cases e
    exact ⟨v, by rw [if_pos hk]; simp, hv⟩
   ·rename_i hx
    obtain ⟨u, a, b⟩ := h1 x q e hk
    refine ⟨u, ?_, b⟩
    split
    ·show (if x = n then some v else m x) = _
     rw [if_neg hx]; exact a
    ·exact a
  ·unfold upd at e
   split at e
   ·rename_i hx; subst hx; cases e
    exact ⟨v, by rw [if_neg hk]; simp, hv⟩
   ·rename_i hx
    obtain ⟨u, a, b⟩ := h2 x q e hk
    refine ⟨u, ?_, b⟩
    split
    ·exact a
    ·show (if x = n then some v else cm x) = _
     rw [if_neg hx]; exact a
theorem i8 : ∀ (names : List (Str × NameKind)) (n : Nat) (acc : List (Str × Addr)) (x : Str), (List.lookup x acc).isSome = true -> (List.lookup x (cellsFrom n names acc)).isSome = true
 | [], _, _, _, h => h
 | (m, k) :: r, n, acc, x, h => by
  unfold cellsFrom
  split
  ·refine i8 r _ _ x ?_
   rw [List.lookup_cons]
   split
   ·rfl
   ·exact h
  ·exact i8 r _ _ x h
theorem eY : ∀ (names : List (Str × NameKind)) (n : Nat) (acc : List (Str × Addr)) (x : Str), (x, NameKind.cell) ∈ names -> (List.lookup x (cellsFrom n names acc)).isSome = true
 | [], _, _, _, h => by simp at h
 | (m, k) :: r, n, acc, x, h => by
  unfold cellsFrom
  rcases List.mem_cons.mp h with e | e
  ·cases e
   rw [if_pos (by decide)]
   exact i8 r _ _ _ (by simp [List.lookup_cons])
  ·split
   ·exact eY r _ _ x e
   ·exact eY r _ _ x e
noncomputable def lW (K : PV -> Prop) : Fl -> St -> Prop
 | .ret v, st => ∃ t, Res st.σ v t /\ K t
 | .next, _ => K .none
 | .brk, _ => False
 | .cont, _ => False
structure FunAt (K : Frag) (a : Addr) (fd : FuncData) (body : List Stmt) : Prop where
 at_ : ∃ c d sl, K.lookup a = some ⟨c, d, .func fd, sl⟩
 body : fd.body = .stmts body
 clo : fd.closure = []
 glob : fd.globals = mainGlobals
 bi : fd.builtins = builtinsNs
 code : codeIn K fd.code fd.qualname = true
 co : fd.scope.isCoroutine = false
 gen : fd.scope.isGenerator = false
 kind : fd.scope.kind = .function
 free : fd.scope.names.all (fun n => !(n.2 == .free)) = true
section
variable {prog : Program} {w : World} {B : Bs} {C : Ctx} {n : Nat}
theorem iJ {a : Addr} {fd : FuncData} {body : List Stmt} (hB : BsOk B) (hF : FunAt B.K a fd body) : KeepsAt prog w B.h₀ (.ref a) := by
 obtain ⟨c, d, sl, h⟩ := hF.at_
 refine ⟨.frame, fun A Q E s k q => ?_⟩
 unfold keeperOf
 exact wpAny_bind (wpAny_load (k _ _ (hB.kin _ _ h)) (wpAny_pure q))
end
section
variable {prog : Program} {w : World} {B : Bs} {C : Ctx} {n : Nat}
theorem pJ {P : Params} {G : GM} {s s₁ : Shared} {fd : FuncData} {a : Addr} {params : List Str} {vals : List Value} {ps : List PV} (hi : InH G s.heap) (tk : 1 <= s₁.toks) (ho : Over B G)
  (hpar : ∀ x ∈ params, fd.scope.names.lookup x = some .local \/ fd.scope.names.lookup x = some .cell) (hlen : params.length = ps.length) (hv : VRels P G vals ps) {σ : Nat -> Option Cell} (hσ : ∀ a c, σ a = some c -> CellRel P G s.heap a c /\ G a = none)
  (x : InCallC s (callEnvC fd s.heap.objs.size a).locals (bindL (callEnvC fd s.heap.objs.size a).kindOf (params.zip vals) fun _ => none) (callEnvC fd s.heap.objs.size a).cells (bindC (callEnvC fd s.heap.objs.size a).kindOf (params.zip vals) fun _ => none) s₁) :
  Ok B P G (callEnvC fd s.heap.objs.size a) ⟨bG (params.zip ps) fun _ => none, σ⟩ s₁ := by
 have hlv := hv.length
 have e1 : (params.zip vals).map (·.1) = (params.zip ps).map (·.1) := by
  rw [List.map_fst_zip (by omega), List.map_fst_zip (by omega)]
 have e2 : VRels P G ((params.zip vals).map (·.2)) ((params.zip ps).map (·.2)) := by
  rw [List.map_snd_zip (by omega), List.map_snd_zip (by omega)]; exact hv
 have kp := x.toInCall.keep
 obtain ⟨hL, hC⟩ := tV (P := P) (G := G) (kindOf := (callEnvC fd s.heap.objs.size a).kindOf) (params.zip vals) (params.zip ps) (fun _ => none) (fun _ => none) (fun _ => none) (fun _ _ e => by cases e) (fun _ _ e => by cases e) e1 e2
 have hk : ∀ y p, bG (params.zip ps) (fun _ => none) y = some p -> (callEnvC fd s.heap.objs.size a).kindOf y = some .local \/ (callEnvC fd s.heap.objs.size a).kindOf y = some .cell :=
  mG _ _ (fun _ _ e => by cases e) fun y hy => hpar y.1 (List.of_mem_zip hy).1
 have fresh : ∀ c, s.heap.objs.size <= c -> s.heap.get? c = none := fun c h => nA h
 have cellsAt : ∀ y c, (callEnvC fd s.heap.objs.size a).cells.lookup y = some c -> s.heap.get? c = none /\ c ≠ s.heap.objs.size := fun y c e => by
  have := x.above y c (PySem.mem_of_lookup e)
  exact ⟨fresh c (Nat.le_of_lt this), Nat.ne_of_gt this⟩
 have hG : ∀ c, s.heap.get? c = none -> G c = none := fun c h => by
  cases q : G c with
  | none => rfl
  | some o => have := hi c o q; rw [h] at this; cases this
 have have_cell : ∀ y, (callEnvC fd s.heap.objs.size a).kindOf y = some .cell -> ∃ c, (callEnvC fd s.heap.objs.size a).cells.lookup y = some c := fun y e =>
  Option.isSome_iff_exists.mp (eY fd.scope.names _ [] y (mem_of_lookup e))
 refine ⟨ho, ⟨fun b o e => kp b o (hi b o e), tk, ⟨_, x.toInCall.ns, hL⟩, fun y p e => (hk y p e).elim .inl fun q => .inr (.inl q), ?_, ?_, hG _ (fresh _ (Nat.le_refl _)), fun y c e => ⟨hG c (cellsAt y c e).1, (cellsAt y c e).2⟩, ?_, fun b c e => ?_⟩, ?_⟩
 ·intro y p e q
  rcases hk y p e with q1 | q1
  ·exact absurd q1 q
  ·obtain ⟨c, hc⟩ := have_cell y q1
   obtain ⟨v, h1, h2⟩ := hC y p e q
   exact ⟨c, v, hc, by have := x.cell y c hc; rwa [h1] at this, h2⟩
 ·intro y e
  obtain ⟨c, hc⟩ := have_cell y e
  exact ⟨c, _, hc, x.cell y c hc⟩
 ·intro y z c e1 e2
  exact name_of_addr x.apart (PySem.mem_of_lookup e1) (PySem.mem_of_lookup e2)
 ·obtain ⟨h1, h2⟩ := hσ b c e
  obtain ⟨o, hob⟩ := h1.alive
  refine ⟨h1.mono (.refl _) fun o e => kp b o e, h2, fun q => ?_, fun y q => ?_⟩
  ·rw [show b = s.heap.objs.size from q, dM] at hob; cases hob
  ·rw [(cellsAt y b q).1] at hob; cases hob
 ·intro y c e
  obtain ⟨o, ho, _⟩ := x.cell y c e
  exact ⟨o, ho⟩
noncomputable def Ok0 (B : Bs) (P : Params) (G : GM) (env : Env) (st : St) (s : Shared) : Prop := ∀ k, 1 <= k -> Ok B P G env st { s with toks := k }
theorem tD {tk0 : Prop} {a : Addr} {fd : FuncData} {body : List Stmt} {params : List Str} {k : Nat} {dv : List Value} {dp : List PV} (hB : BsOk B) (hF : FunAt B.K a fd body)
  (hb : ∀ (A : Around) (E : Value -> Shared -> Prop) (env : Env) (G : GM) (st : St) (sh : Shared) (Q : Fl -> St -> Prop), Room n A -> EnvOk env -> KOk (cS fd.scope.names) env -> Ok0 B w.params G env st sh -> (tk0 -> 1 <= sh.toks) ->
   wSs C (cS fd.scope.names) body Q st -> wpAny (model prog w) A (execs body env) (Lands B w.params true env G st sh (FX w.params Q)) E sh)
  (hpar : ∀ x ∈ params, fd.scope.names.lookup x = some .local \/ fd.scope.names.lookup x = some .cell) (hlen : params.length = k + dp.length)
  (hd : ∀ G, VRels w.params G dv dp)
  (hbind : ∀ (s : Shared) (vals : List Value), B.K.In s.heap -> vals.length = k -> BindsTo s fd ⟨vals, []⟩ (params.zip (vals ++ dv))) :
  ∀ (A : Around) (E : Value -> Shared -> Prop) (G : GM) (s : Shared) (args : List Value) (ps : List PV) (K : PV -> Prop), Room (n + 1) A -> InH G s.heap -> (tk0 -> 1 <= s.toks) -> Over B G -> VRels w.params G args ps ->
   ps.length = k /\ wSs C (cS fd.scope.names) body (lW K) ⟨bG (params.zip (ps ++ dp)) fun _ => none, fun _ => none⟩ -> GW (model prog w) A w.params E G s (call (.ref a) args) K := by
 intro A E G s args ps K hA hi tk ho hv ⟨hl, hw⟩
 obtain ⟨c, d, sl, hat⟩ := hF.at_
 have hin : B.K.In s.heap := hB.kin.keeps fun b o e => hi _ _ (ho _ _ e)
 have hv' := hv.append (hd G)
 have hlv := hv'.length
 unfold GW
 refine wpAny_call (codeAny_call_function (body := body) (by have := hA.depth; show A.depth < 1000; omega) (hin _ _ hat) rfl hF.co hF.gen hF.body (codeRec_of hin hF.code) (hbind s args hin (by rw [hv.length, hl]) _ _ _ _ ?_))
 rw [hF.clo]
 refine wpAny_with_toks (n := s.toks) (Nat.le_refl _) (wpAny_newFunctionEnv_cells hF.kind (fun y hy => ?_) fun env he s₁ x htk => ?_)
 ·rcases hpar y.1 (List.of_mem_zip hy).1 with q | q
  ·exact .inl q
  ·exact .inr ⟨q, eY _ _ [] _ (mem_of_lookup q)⟩
 rw [<- show callEnvC fd s.heap.objs.size a = newEnv fd.scope s.heap.objs.size fd.globals (cellsFrom (s.heap.objs.size + 1) fd.scope.names []) (fd.qualname ++ ".<locals>.") (some a) fd.code none fd.builtins from rfl] at he
 subst he
 have kp := x.toInCall.keep
 refine ⟨(hB.lim.keeps fun b o e => hi _ _ (ho _ _ e)).keeps kp, codeAny_func ?_⟩
 have O : Ok0 B w.params G _ _ s₁ := fun t ht => pJ (B := B) (s₁ := { s₁ with toks := t }) hi ht ho hpar (by rw [hlen, List.length_append, hl]) hv' (σ := fun _ => none) (fun _ _ e => by cases e) (x.tok t)
 have hκ : KOk (cS fd.scope.names) (callEnvC fd s.heap.objs.size a) := fun y => by
  rw [if_neg]
  ·rfl
  ·intro e
   have := List.all_eq_true.mp hF.free _ (mem_of_lookup (show List.lookup y fd.scope.names = some .free from e))
   simp at this
 have hE : EnvOk (callEnvC fd s.heap.objs.size a) := ⟨hF.kind, hF.glob, hF.bi⟩
 refine aG (hb (A.deeper (callEnvC fd s.heap.objs.size a)) _ _ G _ s₁ (lW K) hA.deeper hE hκ O (fun h => Nat.le_trans (tk h) htk) hw) fun f G2 st2 s2 hq O2 T2 => ?_
 have hc : ∀ a c, st2.σ a = some c -> CellRel w.params G2 s2.heap a c /\ G2 a = none := fun a c e => let h := O2.rep.cells a c e; ⟨h.1, h.2.1⟩
 have F : GS G s (frz G2 st2.σ s2.heap) s2 := by
  have keep : ∀ b o, s.heap.get? b = some o -> s2.heap.get? b = some o := fun b o e => by
   refine T2.keep b o (kp b o e) (fun q => ?_) (fun _ y q => ?_) rfl
   ·have := Heap.lt_size e; rw [q] at this; exact Nat.lt_irrefl _ this
   ·have h1 := x.above y b (PySem.mem_of_lookup q)
    have h2 := Heap.lt_size e
    exact Nat.lt_irrefl _ (Nat.lt_trans h1 h2)
  have back : ∀ b, s₁.heap.get? b = none -> s.heap.get? b = none := fun b e => eW (s := s) (s' := s₁) (fun q => by
   obtain ⟨o, ho⟩ := Option.isSome_iff_exists.mp q
   rw [kp b o ho]; rfl) e
  refine ⟨T2.ext.trans (eQ hc), zbQ O2.rep, fun b o e => ?_, keep, ?_, ?_⟩
  ·unfold frz at e
   by_cases q : (dS (st2.σ b)).isSome = true
   ·obtain ⟨xs, q⟩ := iO q
    rcases T2.fresh b (by rw [q]; rfl) with r | r
    ·cases r
    ·exact .inr (back b r)
   ·rw [if_neg q] at e
    rcases T2.new b o e with r | r
    ·exact .inl r
    ·exact .inr (back b r)
  ·obtain ⟨h', t', rfl⟩ := x.toInCall.same
   exact T2.os
  ·obtain ⟨h', t', rfl⟩ := x.toInCall.same
   exact T2.gens
 cases f with
 | next => exact ⟨.none, _, hq, F, by simp only [VRel]⟩
 | brk => exact hq.elim
 | cont => exact hq.elim
 | ret v =>
  obtain ⟨p, ⟨t, h1, h2⟩, h3⟩ := hq
  exact ⟨t, _, h2, F, xD hc t h3 h1⟩
theorem yO {a : Addr} {fd : FuncData} {body : List Stmt} {params : List Str} {k : Nat} {dv : List Value} {dp : List PV} (hB : BsOk B) (hC : CtxOk prog w B C n) (hF : FunAt B.K a fd body) (hok : nY body = true)
  (hpar : ∀ x ∈ params, fd.scope.names.lookup x = some .local \/ fd.scope.names.lookup x = some .cell) (hlen : params.length = k + dp.length)
  (hd : ∀ G, VRels w.params G dv dp)
  (hbind : ∀ (s : Shared) (vals : List Value), B.K.In s.heap -> vals.length = k -> BindsTo s fd ⟨vals, []⟩ (params.zip (vals ++ dv))) :
  Meets prog w B (n + 1) (.ref a) (fun ps K => ps.length = k /\ wSs C (cS fd.scope.names) body (lW K) ⟨bG (params.zip (ps ++ dp)) fun _ => none, fun _ => none⟩) :=
 ⟨iJ hB hF, fun A E G s args ps K hA hi tk ho hv h => tD (tk0 := True) hB hF (fun A E env G st sh Q hA hE hκ O t hw => zey hB hC hok A E env _ G st sh Q hA hE hκ (O sh.toks (t trivial)) hw) hpar hlen hd hbind A E G s args ps K hA hi (fun _ => tk) ho hv h⟩
end
noncomputable def v3 (K : PV -> (Nat -> Option Cell) -> Prop) : Fl -> St -> Prop
 | .ret v, st => K v st.σ
 | .next, st => K .none st.σ
 | _, _ => False
section
variable {prog : Program} {w : World} {B : Bs} {C : Ctx} {n : Nat}
theorem oM {A : Around} {R : Result -> Shared -> Prop} {G : GM} {σ : Nat -> Option Cell} {s : Shared} {a : Addr} {fd : FuncData} {body : List Stmt} {params : List Str} {vals : List Value} {ps : List PV} {K : PV -> (Nat -> Option Cell) -> Prop}
  (hB : BsOk B) (hC : CtxOk prog w B C n) (hF : FunAt B.K a fd body) (hok : nY body = true) (hA : Room (n + 1) A)
  (hpar : ∀ x ∈ params, fd.scope.names.lookup x = some .local \/ fd.scope.names.lookup x = some .cell) (hlen : params.length = ps.length)
  (hbind : ∀ (s : Shared), B.K.In s.heap -> BindsTo s fd ⟨vals, []⟩ (params.zip vals))
  (hi : InH G s.heap) (tk : 1 <= s.toks) (ho : Over B G) (hσ : ∀ a c, σ a = some c -> CellRel w.params G s.heap a c /\ G a = none) (hv : VRels w.params G vals ps)
  (hw : wSs C (cS fd.scope.names) body (v3 K) ⟨bG (params.zip ps) fun _ => none, σ⟩)
  (hR : ∀ p G' σ' s' v, K p σ' -> Fr G σ s G' σ' s' -> InH G' s'.heap -> 1 <= s'.toks -> Over B G' -> (∀ a c, σ' a = some c -> CellRel w.params G' s'.heap a c /\ G' a = none) -> VRel w.params G' v p -> R (.ok (.ret v)) s') :
  codeAny (model prog w) A (.call (.ref a) ⟨vals, []⟩) R s := by
 obtain ⟨c, d, sl, hat⟩ := hF.at_
 have hin : B.K.In s.heap := hB.kin.keeps fun b o e => hi _ _ (ho _ _ e)
 have hlv := hv.length
 refine codeAny_call_function (body := body) (by have := hA.depth; show A.depth < 1000; omega) (hin _ _ hat) rfl hF.co hF.gen hF.body (codeRec_of hin hF.code) (hbind s hin _ _ _ _ ?_)
 rw [hF.clo]
 refine wpAny_with_toks (n := 1) tk (wpAny_newFunctionEnv_cells hF.kind (fun y hy => ?_) fun env he s₁ x htk => ?_)
 ·rcases hpar y.1 (List.of_mem_zip hy).1 with q | q
  ·exact .inl q
  ·exact .inr ⟨q, eY _ _ [] _ (mem_of_lookup q)⟩
 rw [<- show callEnvC fd s.heap.objs.size a = newEnv fd.scope s.heap.objs.size fd.globals (cellsFrom (s.heap.objs.size + 1) fd.scope.names []) (fd.qualname ++ ".<locals>.") (some a) fd.code none fd.builtins from rfl] at he
 subst he
 have kp := x.toInCall.keep
 refine ⟨(hB.lim.keeps fun b o e => hi _ _ (ho _ _ e)).keeps kp, codeAny_func ?_⟩
 have O := pJ (B := B) hi htk ho hpar hlen hv hσ x
 have hκ : KOk (cS fd.scope.names) (callEnvC fd s.heap.objs.size a) := fun y => by
  rw [if_neg]
  ·rfl
  ·intro e
   have := List.all_eq_true.mp hF.free _ (mem_of_lookup (show List.lookup y fd.scope.names = some .free from e))
   simp at this
 have hE : EnvOk (callEnvC fd s.heap.objs.size a) := ⟨hF.kind, hF.glob, hF.bi⟩
 refine aG (zey hB hC hok (A.deeper (callEnvC fd s.heap.objs.size a)) _ _ _ G _ s₁ (v3 K) hA.deeper hE hκ O hw) fun f G2 st2 s2 hq O2 T2 => ?_
 have hc : ∀ a c, st2.σ a = some c -> CellRel w.params G2 s2.heap a c /\ G2 a = none := fun a c e => let h := O2.rep.cells a c e; ⟨h.1, h.2.1⟩
 have alive₁ : ∀ b, (s.heap.get? b).isSome = true -> (s₁.heap.get? b).isSome = true := fun b q => by
  obtain ⟨o, ho⟩ := Option.isSome_iff_exists.mp q
  rw [kp b o ho]; rfl
 have back : ∀ b, s₁.heap.get? b = none -> s.heap.get? b = none := fun b e => eW (s := s) (s' := s₁) (alive₁ b) e
 have F : Fr G σ s G2 st2.σ s2 := by
  refine ⟨T2.ext, fun b o e => ?_, fun b o e h => ?_, fun b e => T2.alive b (alive₁ b e), T2.dom, fun b e => ?_, ?_, ?_⟩
  ·rcases T2.new b o e with r | r
   ·exact .inl r
   ·exact .inr (back b r)
  ·refine T2.keep b o (kp b o e) (fun q => ?_) (fun _ y q => ?_) h
   ·have := Heap.lt_size e; rw [q] at this; exact Nat.lt_irrefl _ this
   ·have h1 := x.above y b (PySem.mem_of_lookup q)
    have h2 := Heap.lt_size e
    exact Nat.lt_irrefl _ (Nat.lt_trans h1 h2)
  ·rcases T2.fresh b e with r | r
   ·exact .inl r
   ·exact .inr (back b r)
  ·obtain ⟨h', t', rfl⟩ := x.toInCall.same
   exact T2.os
  ·obtain ⟨h', t', rfl⟩ := x.toInCall.same
   exact T2.gens
 cases f with
 | next => exact hR .none G2 st2.σ s2 .none hq F O2.rep.inh O2.rep.tk O2.over hc (by simp [VRel])
 | brk => exact hq.elim
 | cont => exact hq.elim
 | ret v =>
  obtain ⟨p, h1, h3⟩ := hq
  exact hR p G2 st2.σ s2 v h1 F O2.rep.inh O2.rep.tk O2.over hc h3
theorem Room.creation {A : Around} {C : Addr} {rest : List Value} {kw : List (Str × Value)} (h : Room (n + 2) A) : Room (n + 1) (A.under (.builtin "type.__call__" ⟨.ref C :: rest, kw⟩)) := by
 have e1 : (Code.builtin "type.__call__" ⟨.ref C :: rest, kw⟩).weight = 1 := by kernel_rfl
 have e2 : (Code.builtin "type.__call__" ⟨.ref C :: rest, kw⟩).cUnits = 1 := by kernel_rfl
 refine ⟨h.handled, ?_, ?_⟩
 ·show A.depth + _ + (n + 1) <= 900
  rw [e1]; have := h.depth; omega
 ·show A.units + _ + 20 * (n + 1) <= 5000
  rw [e2]; have := h.units; omega
theorem zB {Ca fI : Addr} {fd : FuncData} {body : List Stmt} {params : List Str} {k m : Nat} (hB : BsOk B) (hC : CtxOk prog w B C n) (hm : makesIn B.K Ca = true)
  (hin : findIn B.K (.ref Ca) "__init__" = some (some (.ref fI))) (hty : typeIn B.K (.ref fI) = some (.type "function")) (hkp : KeepsAt prog w B.h₀ (.ref Ca)) (hF : FunAt B.K fI fd body) (hok : nY body = true)
  (hpar : ∀ x ∈ params, fd.scope.names.lookup x = some .local \/ fd.scope.names.lookup x = some .cell) (hlen : params.length = k + 1)
  (hbind : ∀ (s : Shared) (vals : List Value), B.K.In s.heap -> vals.length = k + 1 -> BindsTo s fd ⟨vals, []⟩ (params.zip vals)) :
  Meets prog w B (n + 2) (.ref Ca) (fun ps K => ps.length = k /\ ∀ x : Nat, wSs C (cS fd.scope.names) body (v3 fun p σ' => p = .none /\ ∃ fs : List PV, σ' x = some (.ins Ca (fs.map some)) /\ K (.inst Ca fs))
   ⟨bG (params.zip (.ptr x :: ps)) fun _ => none, aR (fun _ => none) x (.ins Ca (List.replicate m none))⟩) := by
 refine ⟨hkp, fun A E G s args ps K hA hi tk ho hv ⟨hl, hw⟩ => ?_⟩
 have hink : B.K.In s.heap := hB.kin.keeps fun b o e => hi _ _ (ho _ _ e)
 obtain ⟨hh, g, d, t, os⟩ := s
 unfold GW
 refine wpAny_call (make_core (makes_of hink hm) (looks_findIn hink hin) (fun self => bind_fn hink self hty) (.inl rfl) ?_)
 dsimp only at hi tk hink
 have d0 : hh.get? hh.objs.size = none := dM
 have d1 : hh.get? (hh.objs.size + 1) = none := nA (Nat.le_succ _)
 have gn : ∀ a, hh.get? a = none -> G a = none := fun a h => by
  cases q : G a with
  | none => rfl
  | some o => have := hi a o q; rw [h] at this; cases this
 have gs1 := GS.push (s := ⟨hh, g, d, t, os⟩) hi emptyDict rfl t
 have hgx : hH G hh.objs.size emptyDict (hh.objs.size + 1) = none := by
  unfold hH; rw [if_neg (Nat.succ_ne_self _)]; exact gn _ d1
 have k2 : ∀ b o, hh.get? b = some o -> ((hh.push emptyDict).push (instObj Ca hh.objs.size)).get? b = some o := fun b o e => Heap.get?_push_of_some _ (Heap.get?_push_of_some _ e)
 have hi2 : InH (hH G hh.objs.size emptyDict) ((hh.push emptyDict).push (instObj Ca hh.objs.size)) := fun a o e => Heap.get?_push_of_some _ (gs1.inh a o e)
 have hx : ((hh.push emptyDict).push (instObj Ca hh.objs.size)).get? (hh.objs.size + 1) = some (instObj Ca hh.objs.size) := by
  have := Heap.get?_push_size (hh.push emptyDict) (o := instObj Ca hh.objs.size) rfl
  rwa [Heap.size_push] at this
 refine oM (σ := aR (fun _ => none) (hh.objs.size + 1) (.ins Ca (List.replicate m none))) hB hC hF hok hA.creation hpar (ps := .ptr (hh.objs.size + 1) :: ps) (by simp [hlen, hl]) (fun s' h' => hbind s' _ h' (by simp [hv.length, hl])) hi2 tk (ho.ext gs1.ext) (fun a c e => ?_)
  (.cons (by simp [VRel]) (hv.mono gs1.ext)) (hw (hh.objs.size + 1)) fun p G' σ' s' v ⟨hp, fs, hfs, hK⟩ F hi' tk' ho' hσ' hvp => ?_
 ·unfold aR at e
  split at e
  ·rename_i q; subst q; cases e
   refine ⟨⟨hh.objs.size, #[], hx, cH, by simp, fun i p e => ?_⟩, hgx⟩
   rw [List.getElem?_replicate] at e
   split at e <;> cases e
  ·cases e
 ·subst hp
  simp only [VRel] at hvp; subst hvp
  refine ⟨rfl, ?_⟩
  obtain ⟨⟨dx, sl, h1, h2, h3, h4⟩, h5⟩ := hσ' _ _ hfs
  have hsl : ∃ vs : List Value, sl = (vs.map some).toArray /\ VRels w.params G' vs fs := by
   have go : ∀ (fs : List PV) (sl : List (Option Value)), sl.length <= fs.length -> (∀ (i : Nat) (p : PV), fs[i]? = some p -> ∃ v, sl[i]? = some (some v) /\ VRel w.params G' v p) -> ∃ vs : List Value, sl = vs.map some /\ VRels w.params G' vs fs := by
    intro fs
    induction fs with
    | nil => intro sl h _; exact ⟨[], by simpa using h, .nil⟩
    | cons f fs ih =>
     intro sl h hh
     obtain ⟨v, e1, e2⟩ := hh 0 f (by simp)
     cases sl with
     | nil => simp at e1
     | cons y ys =>
      simp only [List.getElem?_cons_zero, Option.some.injEq] at e1
      subst e1
      obtain ⟨vs, e3, e4⟩ := ih ys (by simpa using h) fun i p e => by simpa using hh (i + 1) p (by simpa using e)
      exact ⟨v :: vs, by rw [e3]; rfl, .cons e2 e4⟩
   obtain ⟨vs, e1, e2⟩ := go fs sl.toList (by simpa using h3) fun i p e => by
    obtain ⟨v, e1, e2⟩ := h4 i p (by rw [List.getElem?_map, e]; rfl)
    exact ⟨v, by simpa using e1, e2⟩
   exact ⟨vs, by rw [<- e1], e2⟩
  obtain ⟨vs, rfl, hvs⟩ := hsl
  have hsub : Sub G' (hH G' (hh.objs.size + 1) { cls := .ref Ca, dict := some dx, data := .plain, slots := (vs.map some).toArray }) := fun a o e => by
   unfold hH; split
   ·rename_i q; rw [q, h5] at e; cases e
   ·exact e
  refine ⟨.inst Ca fs, hH G' (hh.objs.size + 1) { cls := .ref Ca, dict := some dx, data := .plain, slots := (vs.map some).toArray }, hK, ⟨(gs1.ext.trans F.ext).trans hsub, fun a o e => ?_, fun a o e => ?_, fun a o e => ?_, F.os, F.gens⟩, ?_⟩
  ·unfold hH at e; split at e
   ·rename_i q; subst q; cases e; exact h1
   ·exact hi' a o e
  ·unfold hH at e; split at e
   ·rename_i q; subst q; exact .inr d1
   ·rcases F.new a o e with q | q
    ·unfold hH at q; split at q
     ·rename_i q1; subst q1; exact .inr d0
     ·exact .inl q
    ·refine .inr ?_
     show hh.get? a = none
     cases e2 : hh.get? a with
     | none => rfl
     | some o2 => have := k2 a o2 e2; dsimp only at q; rw [this] at q; cases q
  ·refine F.keep a o (k2 a o e) ?_
   have ha : a ≠ hh.objs.size + 1 := fun q => by dsimp only at e; rw [q, d1] at e; cases e
   unfold aR; rw [if_neg ha]
  ·simp only [VRel]
   exact ⟨vs, ⟨hh.objs.size + 1, dx, rfl, cH, hsub _ _ h2⟩, hvs.mono hsub⟩
end
section
variable {prog : Program} {w : World} {B : Bs} {n : Nat}
theorem Meets.weaken {v : Value} {F F' : Fn} (h : Meets prog w B n v F) (k : ∀ ps K, F' ps K -> F ps K) : Meets prog w B n v F' :=
 ⟨h.1, fun A E G s args ps K hA hi tk ho hv hF => h.2 A E G s args ps K hA hi tk ho hv (k ps K hF)⟩
theorem zcQ {C C0 : Ctx} {Cn f : Addr} {mc : Value} {fd : FuncData} {body : List Stmt} {params : List Str} (hB : BsOk B) (hC0 : CtxOk prog w B C0 n) (hg : B.mg "Node" = some (.ref Cn))
  (hsg : specialIn B.K (.ref Cn) "__getattribute__" = some (some (.builtin "type.__getattribute__"))) (hr : readsIn B.K Cn mc = true) (hf : findCls B.K (.ref Cn) mc "__init__" = some (.val (.ref f)))
  (hF : FunAt B.K f fd body) (hok : nY body = true) (hpar : ∀ x ∈ params, fd.scope.names.lookup x = some .local \/ fd.scope.names.lookup x = some .cell) (hlen : params.length = 3)
  (hbind : ∀ (s : Shared) (vals : List Value), B.K.In s.heap -> vals.length = 3 -> BindsTo s fd ⟨vals, []⟩ (params.zip vals))
  (hbody : ∀ (ad : Nat) (pa pb : PV) (st : St) (K : St -> Prop), (setCell C ad "source_line" pa st fun st1 => setCell C ad "source_column" pb st1 K) ->
   wSs C0 (cS fd.scope.names) body (v3 fun p σ' => p = .none /\ K ⟨st.ρ, σ'⟩) ⟨bG (params.zip [.ptr ad, pa, pb]) fun _ => none, st.σ⟩) : tZ prog w B C (n + 1) := by
 refine ⟨.ref Cn, .ref f, hg, iJ hB hF, fun A E s Q pl b hk hl hq => ?_, fun A E cw env G st s ad va vb pa pb K hA O ha hb hK => ?_⟩
 ·have X : B.K.In s.heap := hB.kin.keeps hk
  exact method_cls X hsg (cls_value X hr hf rfl (hq (s.toks + 1) (Nat.le_succ _)))
 ·obtain ⟨ρ, σ⟩ := st
  refine wpAny_call (oM (σ := σ) (ps := [.ptr ad, pa, pb]) hB hC0 hF hok hA hpar (by simpa using hlen) (fun s' h' => hbind s' _ h' rfl) O.rep.inh O.rep.tk O.over (fun a c e => let h := O.rep.cells a c e; ⟨h.1, h.2.1⟩)
   (.cons (by simp [VRel]) (.cons ha (.one hb))) (hbody ad pa pb ⟨ρ, σ⟩ K hK) fun p G' σ' s' v ⟨hp, hk'⟩ F hi' tk' ho' hσ' hv => ?_)
  refine ⟨G', ⟨ρ, σ'⟩, hk', ?_, F.tr⟩
  have R := O.rep
  obtain ⟨m, hn, hx⟩ := R.ns
  have hl : ∃ o, s.heap.get? env.locals = some o := by obtain ⟨o, _, _, h1, _⟩ := hn; exact ⟨o, h1⟩
  have σl : σ env.locals = none := by
   cases e : σ env.locals with
   | none => rfl
   | some c => exact absurd rfl (R.cells _ c e).2.2.1
  have σc : ∀ x c, env.cells.lookup x = some c -> σ c = none := by
   intro x c e
   cases q : σ c with
   | none => rfl
   | some d => exact absurd e ((R.cells _ d q).2.2.2 x)
  refine ⟨ho', ⟨hi', tk', ⟨m, hn.at' fun o e => F.keep _ o e σl, fun x p e hk => let ⟨v, h1, h2⟩ := hx x p e hk; ⟨v, h1, h2.mono F.ext⟩⟩, R.kind, ?_, ?_, ?_, ?_, R.cinj, ?_⟩, ?_⟩
  ·intro x p e hk
   obtain ⟨c, v, h1, h2, h3⟩ := R.cel x p e hk
   exact ⟨c, v, h1, bO h2 fun o e => F.keep c o e (σc x c h1), h3.mono F.ext⟩
  ·intro x e
   obtain ⟨c, v, h1, h2⟩ := R.cell0 x e
   exact ⟨c, v, h1, bO h2 fun o e => F.keep c o e (σc x c h1)⟩
  ·cases e : G' env.locals with
   | none => rfl
   | some o =>
    obtain ⟨o', ho⟩ := hl
    rcases F.new _ o e with q | q
    ·rw [R.gl] at q; cases q
    ·rw [ho] at q; cases q
  ·intro x c e
   refine ⟨?_, (R.gc x c e).2⟩
   cases q : G' c with
   | none => rfl
   | some o =>
    obtain ⟨o', ho⟩ := O.ct x c e
    rcases F.new _ o q with q1 | q1
    ·rw [(R.gc x c e).1] at q1; cases q1
    ·rw [ho] at q1; cases q1
  ·intro a c e
   obtain ⟨h1, h2⟩ := hσ' a c e
   refine ⟨h1, h2, ?_⟩
   rcases F.fresh a (by dsimp only at e; rw [e]; rfl) with q | q
   ·obtain ⟨d, hd⟩ := Option.isSome_iff_exists.mp q
    exact (R.cells a d hd).2.2
   ·refine ⟨fun q1 => ?_, fun x q1 => ?_⟩
    ·obtain ⟨o', ho⟩ := hl; rw [q1, ho] at q; cases q
    ·obtain ⟨o', ho⟩ := O.ct x a q1; rw [ho] at q; cases q
  ·intro x c e
   obtain ⟨o, ho⟩ := O.ct x c e
   exact ⟨o, F.keep c o ho (σc x c e)⟩
end
noncomputable def zbi (K : Frag) (a : Addr) : Option FuncData := match K.lookup a with
 | some ⟨_, _, .func fd, _⟩ => some fd
 | _ => none
noncomputable def aQ (K : Frag) (a : Addr) : List Stmt := match zbi K a with
 | some fd => (match fd.body with
  | .stmts b => b
  | _ => [])
 | none => []
noncomputable def aN (K : Frag) (a : Addr) : List (Str × NameKind) := match zbi K a with
 | some fd => fd.scope.names
 | none => []
theorem sEq (a b : String) : (Str.ofString a = Str.ofString b) = (a = b) := by
 apply propext
 constructor
 ·intro e
  rw [Str.ofString_eq_toList, Str.ofString_eq_toList] at e
  have e' : a.toList.map Char.toNat = b.toList.map Char.toNat := by simpa using congrArg (fun s : Str => s.cps.toList) e
  have inj : Function.Injective Char.toNat := fun c d h => Char.toNat_inj.mp h
  exact String.toList_inj.mp ((List.map_inj_right inj).mp e')
 ·intro e; rw [e]
section
variable {C : Ctx} {κ : Kn}
theorem v4 {t : Expr} {b o : List Stmt} {p : Pos} {Q : Fl -> St -> Prop} (M : CtxMono C) (I : Nat -> St -> Prop)
  (turn : ∀ n st, I n st -> wE C t κ (tst fun c st1 => if c = true then wSs C κ b (oU (fun st2 => ∃ m, m < n /\ I m st2) Q) st1 else wSs C κ o Q st1) st) (n : Nat) (st : St) (h : I n st) : wS C κ (.While t b o p) Q st := by
 have go : ∀ k n st, I n st -> n < k -> eT (wE C t κ) (wSs C κ b) (wSs C κ o) Q k st := by
  intro k
  induction k with
  | zero => intro n st _ h; exact absurd h (Nat.not_lt_zero _)
  | succ k ih =>
   intro n st hI hm
   exact aV M t (f9 fun c s => aU (cU M b (gD (fun s ⟨m, h1, h2⟩ => ih m s h2 (Nat.lt_of_lt_of_le h1 (Nat.le_of_lt_succ hm))) fun _ _ x => x)) fun x => x) (turn n st hI)
 exact ⟨n + 1, go _ n st h (Nat.lt_succ_self _)⟩
noncomputable def ev (C : Ctx) (κ : Kn) (e : Expr) (st : St) (v : PV) : Prop := wE C e κ (fun r st1 => r = v /\ st1 = st) st
noncomputable def tv (C : Ctx) (κ : Kn) (e : Expr) (st : St) (b : Bool) : Prop := wE C e κ (tst fun c st1 => c = b /\ st1 = st) st
theorem zew {e : Expr} {st : St} {v : PV} {b : Bool} (M : CtxMono C) (h : ev C κ e st v) (hb : sE (der st.σ v) = some b) : tv C κ e st b :=
 aV M e (fun r st1 ⟨h1, h2⟩ => by subst h1 h2; rw [e5 hb]; exact ⟨rfl, rfl⟩) h
theorem sB {e : Expr} {st : St} {b : Bool} {K : Bool -> St -> Prop} (M : CtxMono C) (h : tv C κ e st b) (k : K b st) : wE C e κ (tst K) st :=
 aV M e (f9 fun c s ⟨h1, h2⟩ => by subst h1 h2; exact k) h
theorem aO {e : Expr} {st : St} {v : PV} {Q : PV -> St -> Prop} (M : CtxMono C) (h : ev C κ e st v) (k : Q v st) : wE C e κ Q st :=
 aV M e (fun r st1 ⟨h1, h2⟩ => by subst h1 h2; exact k) h
theorem bR {t : Expr} {b o : List Stmt} {p : Pos} {Q : Fl -> St -> Prop} {st : St} (M : CtxMono C) (c : Bool) (h : tv C κ t st c) (hb : c = true -> wSs C κ b Q st) (ho : c = false -> wSs C κ o Q st) : wS C κ (.If t b o p) Q st := by
 refine sB M h ?_
 cases c
 ·exact ho rfl
 ·exact hb rfl
theorem aJ {x : Str} {e : Expr} {px p : Pos} {Q : Fl -> St -> Prop} {st : St} (M : CtxMono C) (v : PV) (h : ev C κ e st v) (hs : d6 κ x = true) (k : Q .next ⟨upd st.ρ x v, st.σ⟩) : wS C κ (.Assign [.Name x px] e p) Q st := by
 refine aO M h ?_
 exact ⟨Bool.and_eq_true_iff.mpr ⟨Bool.and_eq_true_iff.mpr ⟨hs, rfl⟩, rfl⟩, k⟩
theorem aT {e : Expr} {p : Pos} {Q : Fl -> St -> Prop} {st : St} (M : CtxMono C) (v : PV) (h : ev C κ e st v) (k : Q (.ret v) st) : wS C κ (.Return (some e) p) Q st := by
 exact aO M h k
theorem eF {x : Str} {op : Operator} {e : Expr} {px p : Pos} {Q : Fl -> St -> Prop} {st : St} (M : CtxMono C) (old v : PV) (h0 : st.ρ x = some old) (h : ev C κ e st v) (hs : d6 κ x = true) (k : inP op old v fun r => Q .next ⟨upd st.ρ x r, st.σ⟩) : wS C κ (.AugAssign (.Name x px) op e p) Q st := by
 refine ⟨hs, ?_⟩
 show opt (st.ρ x) _
 rw [h0]
 exact aO M h k
theorem iW {t : Expr} {b o : List Stmt} {p : Pos} {Q : Fl -> St -> Prop} (M : CtxMono C) (I : Nat -> St -> Prop)
  (turn : ∀ n st, I n st -> ∃ c, tv C κ t st c /\ (c = true -> wSs C κ b (oU (fun st2 => ∃ m, m < n /\ I m st2) Q) st) /\ (c = false -> wSs C κ o Q st)) (n : Nat) (st : St) (h : I n st) : wS C κ (.While t b o p) Q st :=
 v4 M I (fun n st hI => by
  obtain ⟨c, h1, h2, h3⟩ := turn n st hI
  refine sB M h1 ?_
  cases c
  ·exact h3 rfl
  ·exact h2 rfl) n st h
theorem dJ {e e' : Expr} {es : List Expr} {p : Pos} {st : St} {c d : Bool} (M : CtxMono C) (h : tv C κ e st c) (h' : c = true -> tv C κ (.BoolOp .And (e' :: es) p) st d) : tv C κ (.BoolOp .And (e :: e' :: es) p) st (c && d) := by
 refine aV M e (fun r st1 x => ?_) h
 obtain ⟨b, hb, rfl, rfl⟩ := bS x
 show opt (sE (der st1.σ r)) _
 rw [hb]
 cases b with
 | false => rw [eK, if_pos (by decide), e5 hb]; exact ⟨rfl, rfl⟩
 | true => exact h' rfl
theorem mN {e e' : Expr} {es : List Expr} {p : Pos} {st : St} {c d : Bool} (M : CtxMono C) (h : tv C κ e st c) (h' : c = false -> tv C κ (.BoolOp .Or (e' :: es) p) st d) : tv C κ (.BoolOp .Or (e :: e' :: es) p) st (c || d) := by
 refine aV M e (fun r st1 x => ?_) h
 obtain ⟨b, hb, rfl, rfl⟩ := bS x
 show opt (sE (der st1.σ r)) _
 rw [hb]
 cases b with
 | true => rw [eK, if_pos (by decide), e5 hb]; exact ⟨rfl, rfl⟩
 | false => exact h' rfl
theorem c6 {op : BoolOp} {e : Expr} {p : Pos} {st : St} {c : Bool} (h : tv C κ e st c) : tv C κ (.BoolOp op [e] p) st c := h
theorem n7 {e : Expr} {p : Pos} {st : St} {c : Bool} (M : CtxMono C) (h : tv C κ e st c) : tv C κ (.UnaryOp .Not e p) st (!c) := by
 refine aV M e (fun r st1 x => ?_) h
 obtain ⟨b, hb, rfl, rfl⟩ := bS x
 show opt (sE (der st1.σ r)) _
 rw [hb]
 exact ⟨rfl, rfl⟩
noncomputable def at1 (x : List Nat) (i : Nat) : List Nat := (x.drop i).take 1
theorem w5 (x : List Nat) (i j : Nat) (h : i <= j) : slc x (some (i : Int)) (some (j : Int)) = (x.drop i).take (j - i) := by
 unfold slc fK
 simp only [Option.map_some, Option.getD_some]
 rw [if_neg (by omega), if_neg (by omega)]
 simp only [Int.toNat_natCast]
 by_cases h1 : i <= x.length
 ·rw [Nat.min_eq_left h1]
  by_cases h2 : j <= x.length
  ·rw [Nat.min_eq_left h2]
  ·rw [Nat.min_eq_right (by omega)]
   rw [List.take_of_length_le (by simp), List.take_of_length_le (by simp; omega)]
 ·rw [show min i x.length = x.length from Nat.min_eq_right (by omega), List.drop_of_length_le (Nat.le_refl _), List.drop_of_length_le (by omega)]; simp
theorem za9 (x : List Nat) (i : Nat) : pY x (i : Int) = x[i]? := by
 unfold pY; rw [if_neg (by omega)]; simp
theorem nG (c : Nat) : ∀ x : List Nat, yH [c] x = decide (c ∈ x)
 | [] => by simp [yH]
 | d :: x => by
  rw [yH, nG c x]
  by_cases h : c = d
  ·subst h; simp [List.isPrefixOf]
  ·have : (c == d) = false := by simpa using h
   simp [List.isPrefixOf, this, h]
theorem eI {Q : Fl -> St -> Prop} {st : St} (h : Q .next st) : wSs C κ [] Q st := h
theorem aB {s : Stmt} {ss : List Stmt} {Q : Fl -> St -> Prop} {st : St} (h : wS C κ s (eP (fun st1 => wSs C κ ss Q st1) Q) st) : wSs C κ (s :: ss) Q st := h
theorem eJ {s : Stmt} {ss : List Stmt} {Q : Fl -> St -> Prop} {st : St} (M : CtxMono C) (R : St -> Prop) (h : wS C κ s (eP R Q) st) (k : ∀ st1, R st1 -> wSs C κ ss Q st1) : wSs C κ (s :: ss) Q st :=
 aB (v5 M s (j5 k fun _ _ x => x) h)
end
/-! what a reduction by the kernel needs: the form is found by simp (its proof is thrown away), the kernel checks it -/
theorem gV {α : Sort _} {a b : α} : (if some NameKind.local = some NameKind.globalImplicit then a else b) = b := rfl
theorem zdU {α : Sort _} {a b : α} : (if some NameKind.globalImplicit = some NameKind.globalImplicit then a else b) = a := rfl
theorem yE {α : Sort _} {a b : α} : (if false = true then a else b) = b := rfl
noncomputable def PostV (v : PV) (st : St) (r : PV) (st1 : St) : Prop := r = v /\ st1 = st
noncomputable def PostB (v : Bool) (st : St) (r : Bool) (st1 : St) : Prop := r = v /\ st1 = st
section
variable {C : Ctx} {κ : Kn} {e : Expr} {st : St}
end
theorem aE {C : Ctx} {κ : Kn} {c : Const} {k : Nat} {p : Pos} {st : St} {v : PV} (h : jM c = some v) : ev C κ (.Constant c k p) st v := by show opt (jM c) _; rw [h]; exact ⟨rfl, rfl⟩
theorem of_eq {A B : Prop} (h : A = B) (b : B) : A := h ▸ b
noncomputable def dC (L : List (Str × PV)) (ρ : dG) : Prop := L.map (fun e => ρ e.1) = L.map (fun e => some e.2)
theorem aF {x : Str} {v : PV} {r : List (Str × PV)} {ρ : dG} (h : ρ x = some v) (t : dC r ρ) : dC ((x, v) :: r) ρ := by
 show ρ x :: _ = some v :: _
 rw [h]; exact congrArg _ t
theorem bI : ∀ (L : List (Str × PV)) {ρ : dG}, dC L ρ -> ρ = bG L ρ
 | [], _, _ => rfl
 | (x, v) :: r, ρ, h => by
  obtain ⟨h1, h2⟩ := List.cons.inj h
  have e : upd ρ x v = ρ := by
   funext y; unfold upd; split
   ·rename_i e; rw [e]; exact h1.symm
   ·rfl
  show ρ = bG r (upd ρ x v)
  rw [e]; exact bI r h2
theorem cF {C : Ctx} {κ : Kn} {ss : List Stmt} {Q : Fl -> St -> Prop} {L : List (Str × PV)} {ρ : dG} {σ : Nat -> Option Cell} (h : dC L ρ) (k : wSs C κ ss Q ⟨bG L ρ, σ⟩) : wSs C κ ss Q ⟨ρ, σ⟩ := by
 rw [<- bI L h] at k; exact k
theorem oX {C : Ctx} {κ : Kn} {s : Stmt} {Q : Fl -> St -> Prop} {L : List (Str × PV)} {ρ : dG} {σ : Nat -> Option Cell} (h : dC L ρ) (k : wS C κ s Q ⟨bG L ρ, σ⟩) : wS C κ s Q ⟨ρ, σ⟩ := by
 rw [<- bI L h] at k; exact k
@[elab_as_elim] theorem keepP {P : St -> Prop} {L : List (Str × PV)} (st : St) (h : dC L st.ρ) (k : P ⟨bG L st.ρ, st.σ⟩) : P st := by
 rw [<- bI L h] at k; exact k
section
variable {C : Ctx} {κ : Kn}
theorem bP {a b : Bool} (h : a = true) (k : b = true) : (a && b) = true := by rw [h, k]; rfl
theorem b7 {x : Str} {e : Expr} {p1 p2 p3 p4 : Pos} {a : Nat} {xs : List PV} {Q : Fl -> St -> Prop} {st : St} (M : CtxMono C) (v : PV) (hk : κ x = some .local) (hx : st.ρ x = some (.ptr a)) (hc : st.σ a = some (.lst xs)) (he : ev C κ e st v)
  (hr : bT [e] = none) (hl : xs.length < aP) (k : Q .next ⟨st.ρ, aR st.σ a (.lst (xs ++ [v]))⟩) :
  wS C κ (.Expr (.Call (.Attribute (.Name x p1) (Str.ofString "append") p2) [e] [] p3) p4) Q st := by
 have hn : Str.ofString "append" ≠ Str.ofString "__init__" := by rw [Ne, sEq]; decide
 have h0 : cJ (.Call (.Attribute (.Name x p1) (Str.ofString "append") p2) [e] [] p3) = none := if_neg fun h => hn h.2.1
 rw [iT, h0]
 refine ⟨rfl, ?_⟩
 rw [eO, hr]
 refine ⟨rfl, ?_⟩
 rw [cX, fN, hk, gV, hx, eK]
 refine ⟨?_, aO M he ?_⟩
 ·show (Str.ofString "append" == Str.ofString "append" && (dS (st.σ a)).isSome) = true
  rw [hc, beq_self_eq_true]; rfl
 ·rw [fM]
  show (if Str.ofString "append" = Str.ofString "append" then _ else _)
  rw [if_pos rfl]
  exact ⟨xs, hc, hl, k⟩
theorem oF {x : Str} {px p : Pos} {pos : Pos} {Q : Fl -> St -> Prop} {st : St} (hm : C.mutL pos.line = true) (hs : d6 κ x = true) (h : ∀ a, st.σ a = none -> Q .next ⟨upd st.ρ x (.ptr a), aR st.σ a (.lst [])⟩) :
  wS C κ (.Assign [.Name x px] (.List [] pos) p) Q st := by
 show bF C pos [] (fun v st1 => eD C κ [.Name x px] v st1 fun st2 => Q .next st2) st
 unfold bF
 rw [if_pos hm]
 exact fun a ha => ⟨bP (bP hs rfl) rfl, h a ha⟩
theorem zcv {x y : Str} {px py p : Pos} {pos : Pos} {Q : Fl -> St -> Prop} {st : St} (hm : C.mutL pos.line = true) (hs : d6 κ x = true) (hs' : d6 κ y = true) (h : ∀ a, st.σ a = none -> Q .next ⟨upd (upd st.ρ x (.ptr a)) y (.ptr a), aR st.σ a (.lst [])⟩) :
  wS C κ (.Assign [.Name x px, .Name y py] (.List [] pos) p) Q st := by
 show bF C pos [] (fun v st1 => eD C κ [.Name x px, .Name y py] v st1 fun st2 => Q .next st2) st
 unfold bF
 rw [if_pos hm]
 exact fun a ha => ⟨bP (bP hs rfl) (bP (bP hs' rfl) rfl), h a ha⟩
theorem mX {x y : Str} {e : Expr} {px py p : Pos} {Q : Fl -> St -> Prop} {st : St} (M : CtxMono C) (v : PV) (h : ev C κ e st v) (hs : d6 κ x = true) (hs' : d6 κ y = true) (k : Q .next ⟨upd (upd st.ρ x v) y v, st.σ⟩) : wS C κ (.Assign [.Name x px, .Name y py] e p) Q st := by
 exact aO M h ⟨bP (bP hs rfl) (bP (bP hs' rfl) rfl), k⟩
theorem dK {x y : Str} {e : Expr} {kk : Nat} {px py pt p : Pos} {Q : Fl -> St -> Prop} {st : St} (M : CtxMono C) (v w : PV) (h : ev C κ e st (.tup [v, w])) (hs : d6 κ x = true) (hs' : d6 κ y = true) (k : Q .next ⟨upd (upd st.ρ x v) y w, st.σ⟩) : wS C κ (.Assign [.Tuple [.Name x px, .Name y py] kk pt] e p) Q st := by
 exact aO M h ⟨bP (bP hs (bP hs' rfl)) rfl, k⟩
theorem zcx {p : Pos} {Q : Fl -> St -> Prop} {st : St} (h : Q .brk st) : wS C κ (.Break p) Q st := h
theorem lV {p : Pos} {Q : Fl -> St -> Prop} {st : St} (h : Q .cont st) : wS C κ (.Continue p) Q st := h
theorem xA {b o : List Stmt} {hd : ExceptHandler} {hs : List ExceptHandler} {p : Pos} {Q : Fl -> St -> Prop} {st : St} (h : wSs C κ b (eP (fun st1 => wSs C κ o Q st1) Q) st) : wS C κ (.Try b (hd :: hs) o [] p) Q st := ⟨rfl, rfl, h⟩
theorem aS (σ : Nat -> Option Cell) (a : Nat) (c : Cell) : aR σ a c a = some c := by unfold aR; rw [if_pos rfl]
theorem bK (σ : Nat -> Option Cell) {a b : Nat} (h : b ≠ a) (c : Cell) : aR σ a c b = σ b := by unfold aR; rw [if_neg h]
theorem v8 (σ : Nat -> Option Cell) (a : Nat) (c d : Cell) : aR (aR σ a c) a d = aR σ a d := by funext b; unfold aR; split <;> rfl
theorem gA : ∀ zs : List (List Nat), gJ (zs.map .str) = some zs
 | [] => rfl
 | z :: r => by show (gJ (r.map .str)).map (z :: ·) = _; rw [gA r]; rfl
theorem yV {x : Str} {k : Nat} {p1 p2 p3 p4 : Pos} {a : Nat} {st : St} {v : List Nat} (zs : List (List Nat)) (hk : κ x = some .local) (hx : st.ρ x = some (.ptr a)) (hc : st.σ a = some (.lst (zs.map .str))) (hv : zs.flatten = v) (hl : v.length <= aP) :
  ev C κ (.Call (.Attribute (.Constant (.str (Str.ofString "")) k p1) (Str.ofString "join") p2) [.Name x p3] [] p4) st (.str v) := by
 subst hv
 unfold ev
 rw [eO]
 refine ⟨rfl, ?_⟩
 rw [show bT [Expr.Name x p3] = none from rfl, cX, r7, show jM (.str (Str.ofString "")) = some (.str []) from rfl, eK]
 refine ⟨rfl, ?_⟩
 rw [r6, fN, hk, gV, hx, eK, fM]
 have hn : ∀ y, y ≠ "join" -> ¬ (Str.ofString "join" = Str.ofString y) := fun y h q => h ((sEq _ _).mp q).symm
 show eG st.σ (Str.ofString "join") (.str []) [.ptr a] _
 unfold eG
 rw [if_neg (hn _ (by decide)), if_neg (hn _ (by decide)), if_neg (hn _ (by decide)), if_neg (hn _ (by decide)), if_neg (hn _ (by decide)), if_pos rfl]
 refine ⟨rfl, ?_⟩
 show asL (Option.casesOn (motive := fun _ => PV) (dS (st.σ a)) (.ptr a) .list) _
 rw [hc]
 exact ⟨zs, gA zs, hl, rfl, rfl⟩
end
section
variable {C : Ctx}
theorem jQ {elt tgt : Expr} {ks : Kn} {ρ0 : dG} {Q : List PV -> (Nat -> Option Cell) -> Prop} (M : CtxMono C) (f : PV -> PV) (σ : Nat -> Option Cell) : ∀ (items acc : List PV), (∀ v ∈ items, ∃ ρ1, iP tgt v ρ0 = some ρ1 /\ ev C ks elt ⟨ρ1, σ⟩ (f v)) -> Q (acc ++ items.map f) σ ->
  cG (fun K s' => wIf C [] ks K s') (fun K s' => wE C elt ks K s') tgt ρ0 Q items acc σ
 | [], acc, h, q => by rw [List.map_nil, List.append_nil] at q; exact q
 | v :: vs, acc, h, q => by
  obtain ⟨ρ1, h1, h2⟩ := h v List.mem_cons_self
  show opt (iP tgt v ρ0) _
  rw [h1]
  exact aO M h2 (jQ M f σ vs (acc ++ [f v]) (fun v hv => h v (List.mem_cons_of_mem _ hv)) (by rw [List.append_assoc]; exact q))
theorem kX {elt tgt t : Expr} {ks : Kn} {ρ0 : dG} {Q : List PV -> (Nat -> Option Cell) -> Prop} (M : CtxMono C) (f : PV -> PV) (g : PV -> Bool) (σ : Nat -> Option Cell) : ∀ (items acc : List PV), (∀ v ∈ items, ∃ ρ1, iP tgt v ρ0 = some ρ1 /\ tv C ks t ⟨ρ1, σ⟩ (g v) /\ (g v = true -> ev C ks elt ⟨ρ1, σ⟩ (f v))) -> Q (acc ++ (items.filter g).map f) σ ->
  cG (fun K s' => wIf C [t] ks K s') (fun K s' => wE C elt ks K s') tgt ρ0 Q items acc σ
 | [], acc, h, q => by rw [List.filter_nil, List.map_nil, List.append_nil] at q; exact q
 | v :: vs, acc, h, q => by
  obtain ⟨ρ1, h1, h2, h3⟩ := h v List.mem_cons_self
  have hr := fun v hv => h v (List.mem_cons_of_mem _ hv)
  show opt (iP tgt v ρ0) _
  rw [h1]
  refine sB (K := fun b st1 => if b = true then wIf C [] ks _ st1 else (fun ok st1 => if ok = true then wE C elt ks (fun r st2 => cG (fun K s' => wIf C [t] ks K s') (fun K s' => wE C elt ks K s') tgt ρ0 Q vs (acc ++ [r]) st2.σ) st1
    else cG (fun K s' => wIf C [t] ks K s') (fun K s' => wE C elt ks K s') tgt ρ0 Q vs acc st1.σ) false st1) M h2 ?_
  cases hb : g v with
  | true =>
   rw [List.filter_cons, hb] at q
   exact aO M (h3 hb) (kX M f g σ vs (acc ++ [f v]) hr (by rw [List.append_assoc]; exact q))
  | false =>
   rw [List.filter_cons, hb] at q
   exact kX M f g σ vs acc hr q
end
section
variable {C : Ctx} {κ : Kn}
theorem e8 {x name : Str} {e : Expr} {p1 p2 p3 : Pos} {a c i : Nat} {fs : List (Option PV)} {Q : Fl -> St -> Prop} {st : St} (M : CtxMono C) (v : PV) (h : ev C κ e st v) (hx : st.ρ x = some (.ptr a)) (hc : st.σ a = some (.ins c fs)) (hs : C.slot c name = some i) (hi : i < fs.length)
  (k : Q .next ⟨st.ρ, aR st.σ a (.ins c (fs.set i (some v)))⟩) : wS C κ (.Assign [.Attribute (.Name x p1) name p2] e p3) Q st := by
 refine aO M h ?_
 show opt (st.ρ x) fun p => asP p fun a => setCell C a name v st fun st2 => Q .next st2
 rw [hx]
 exact ⟨c, fs, i, hc, hs, hi, k⟩
theorem j8 {e0 e1 e2 : Expr} {p1 p2 p3 p4 : Pos} {a c i j : Nat} {fs : List (Option PV)} {Q : Fl -> St -> Prop} {st : St} (M : CtxMono C) (l k : PV) (hini : C.ini = true) (hκ : κ "Node" = some .globalImplicit) (h0 : ev C κ e0 st (.ptr a)) (h1 : ev C κ e1 st l) (h2 : ev C κ e2 st k)
  (hc : st.σ a = some (.ins c fs)) (hs : C.slot c "source_line" = some i) (hi : i < fs.length) (hs' : C.slot c "source_column" = some j) (hj : j < fs.length)
  (hQ : Q .next ⟨st.ρ, aR (aR st.σ a (.ins c (fs.set i (some l)))) a (.ins c ((fs.set i (some l)).set j (some k)))⟩) :
  wS C κ (.Expr (.Call (.Attribute (.Name (Str.ofString "Node") p1) (Str.ofString "__init__") p2) [e0, e1, e2] [] p3) p4) Q st := by
 have e : (if nmE (.Name "Node" p1) = some "Node" /\ ("__init__" : Str) = "__init__" /\ ([] : List Keyword).isEmpty = true then some [e0, e1, e2] else none) = some [e0, e1, e2] := if_pos ⟨rfl, rfl, rfl⟩
 rw [iT, show cJ (.Call (.Attribute (.Name (Str.ofString "Node") p1) (Str.ofString "__init__") p2) [e0, e1, e2] [] p3) = some [e0, e1, e2] from e]
 refine ⟨hini, hκ, aO M h0 (aO M h1 (aO M h2 ?_))⟩
 exact ⟨c, fs, i, hc, hs, hi, c, fs.set i (some l), j, aS _ _ _, hs', by rw [List.length_set]; exact hj, hQ⟩
end
section
variable {C : Ctx} {κ : Kn}
theorem zbR {tgt : Expr} {b o : List Stmt} {Q : Fl -> St -> Prop} (M : CtxMono C) (items : List PV) (I : Nat -> St -> Prop)
  (turn : ∀ i (h : i < items.length) st, I i st -> ∃ ρ1, iP tgt items[i] st.ρ = some ρ1 /\ wSs C κ b (oU (I (i + 1)) Q) ⟨ρ1, st.σ⟩)
  (fin : ∀ st, I items.length st -> wSs C κ o Q st) : ∀ (n i : Nat) (st : St), i + n = items.length -> I i st -> gX tgt (wSs C κ b) (wSs C κ o) Q (items.drop i) st
 | 0, i, st, h, hI => by
  have : i = items.length := by omega
  subst this
  rw [List.drop_length]
  exact fin st hI
 | n + 1, i, st, h, hI => by
  have hl : i < items.length := by omega
  obtain ⟨ρ1, h1, h2⟩ := turn i hl st hI
  rw [List.drop_eq_getElem_cons hl]
  show opt (iP tgt items[i] st.ρ) _
  rw [h1]
  exact cU M b (gD (fun s x => zbR M items I turn fin n (i + 1) s (by omega) x) fun _ _ x => x) h2
theorem zcw {tgt iter : Expr} {b o : List Stmt} {p : Pos} {Q : Fl -> St -> Prop} {st : St} (M : CtxMono C) (v : PV) (items : List PV) (hv : fU v = some items) (hn : items.length <= aP) (hs : (cA tgt).all (d6 κ) = true) (h : ev C κ iter st v) (I : Nat -> St -> Prop)
  (turn : ∀ i (h : i < items.length) st, I i st -> ∃ ρ1, iP tgt items[i] st.ρ = some ρ1 /\ wSs C κ b (oU (I (i + 1)) Q) ⟨ρ1, st.σ⟩)
  (fin : ∀ st, I items.length st -> wSs C κ o Q st) (h0 : I 0 st) : wS C κ (.For tgt iter b o p) Q st := by
 refine ⟨hs, aO M h ?_⟩
 show opt (fU v) _
 rw [hv]
 exact ⟨hn, zbR M items I turn fin items.length 0 st (by omega) h0⟩
end
section
variable {prog : Program} {w : World} {B : Bs} {C : Ctx} {n : Nat}
noncomputable def zbA (prog : Program) (w : World) (B : Bs) (C : Ctx) (n : Nat) (loc : Str) (e : Expr) : Prop :=
 ∀ (A : Around) (E : Value -> Shared -> Prop) (cw : Bool) (env : Env) (κ : Kn) (G : GM) (st : St) (s : Shared) (Q : PV -> St -> Prop), κ loc = some .local -> Room n A -> EnvOk env -> KOk κ env -> Ok0 B w.params G env st s ->
  wE C e κ Q st -> wpAny (model prog w) A (eval e env) (Lands B w.params cw env G st s (VX w.params Q)) E s
noncomputable def zbz (prog : Program) (w : World) (B : Bs) (C : Ctx) (n : Nat) (loc : Str) (s : Stmt) : Prop :=
 ∀ (A : Around) (E : Value -> Shared -> Prop) (env : Env) (κ : Kn) (G : GM) (st : St) (sh : Shared) (Q : Fl -> St -> Prop), κ loc = some .local -> Room n A -> EnvOk env -> KOk κ env -> Ok0 B w.params G env st sh ->
  wS C κ s Q st -> wpAny (model prog w) A (exec s env) (Lands B w.params true env G st sh (FX w.params Q)) E sh
noncomputable def zel (prog : Program) (w : World) (B : Bs) (C : Ctx) (n : Nat) (loc : Str) (ss : List Stmt) : Prop :=
 ∀ (A : Around) (E : Value -> Shared -> Prop) (env : Env) (κ : Kn) (G : GM) (st : St) (sh : Shared) (Q : Fl -> St -> Prop), κ loc = some .local -> Room n A -> EnvOk env -> KOk κ env -> Ok0 B w.params G env st sh ->
  wSs C κ ss Q st -> wpAny (model prog w) A (execs ss env) (Lands B w.params true env G st sh (FX w.params Q)) E sh
theorem uJ {loc : Str} {s : Stmt} {ss : List Stmt} (h : zbz prog w B C n loc s) (hs : gH prog w B C n ss) : zel prog w B C n loc (s :: ss) := by
 intro A E env κ G st sh Q hx hA hE hκ O hw
 refine wpAny_execs_cons (aG (h A E env κ G st sh _ hx hA hE hκ O hw) fun f G1 st1 s1 hq O1 T1 => ?_)
 cases f with
 | next => exact aL T1 (hs A E env κ G1 st1 s1 Q hA hE hκ O1 hq)
 | brk => exact (aK (X := FX w.params Q) (a := Flow.brk) O1 hq).after T1
 | cont => exact (aK (X := FX w.params Q) (a := Flow.cont) O1 hq).after T1
 | ret v => exact (aK (X := FX w.params Q) (a := Flow.ret v) O1 (by obtain ⟨p, h1, h2⟩ := hq; exact ⟨p, h1, h2⟩)).after T1
theorem oC {loc x : Str} {px p : Pos} {e : Expr} (he : zbA prog w B C n loc e) (hc : jK e = false) (ht : zdQ [.Name x px] e = true) : zbz prog w B C n loc (.Assign [.Name x px] e p) := by
 intro A E env κ G st s Q hx hA hE hκ O hw
 obtain ⟨b, hb, hb'⟩ := lQ [.Name x px] e p.line env
 cases b with
 | true =>
  obtain ⟨x, px, _, hl, hcm⟩ := hb' rfl
  rw [hc] at hcm; cases hcm
 | false =>
  refine wpAny_Assign_stores (aG (he A E true env κ G st s _ hx hA hE hκ O hw) fun v G1 st1 s1 ⟨u, hq, hv⟩ O1 T1 => ?_) hb (jG ht env)
  obtain ⟨hn, hq⟩ := (show (([Expr.Name x px].all fun t => (cA t).all (d6 κ)) = true /\ opt (nQ [.Name x px] u st1.ρ) fun ρ' => Q .next ⟨ρ', st1.σ⟩) from hq)
  obtain ⟨ρ', hbnd, hq⟩ := bS hq
  refine aG (f7 hA.handled hE [.Name x px] G1 st1 s1 v u ρ' O1 (fun t ht x hx => mT hκ (List.all_eq_true.mp (List.all_eq_true.mp hn t ht) x hx)) rfl hv hbnd) fun _ G2 st2 s2 e2 O2 T2 => ?_
  subst e2
  exact (aK (X := FX w.params Q) (a := Flow.next) O2 hq).after (T1.trans T2)
theorem zat {loc : Str} {l r : Expr} {op : Operator} {p : Pos} (hl : zbA prog w B C n loc l) (hr : cC prog w B C n r) : zbA prog w B C n loc (.BinOp l op r p) := by
 intro A E cw env κ G st s Q hx hA hE hκ O hw
 exact wpAny_BinOp (aG (hl A E cw env κ G st s _ hx hA hE hκ O hw) fun a G1 st1 s1 ⟨u, hq, hv⟩ O1 T1 =>
  aG (hr A E cw env κ G1 st1 s1 _ hA hE hκ O1 hq) fun b G2 st2 s2 ⟨u2, hq2, hv2⟩ O2 T2 =>
   aL (T1.trans T2) (bJ O2 (zeg O2.rep.inh (O2.rep.view (hv.mono T2.ext)) (O2.rep.view hv2) hq2)))
theorem zeH {x : Str} {p : Pos} {A : Around} {E : Value -> Shared -> Prop} {env : Env} {κ : Kn} {G : GM} {st : St} {s : Shared} {Q : PV -> St -> Prop} {R : Value -> Shared -> Prop} (hE : EnvOk env) (hκ : KOk κ env) (O : Ok0 B w.params G env st s) (ok : (x == ("__debug__" : Str)) = false)
  (hx : κ x = some .local) (hw : wE C (.Name x p) κ Q st) (k : ∀ u v, Q u st -> VRel w.params G v u -> R v s) : wpAny (model prog w) A (eval (.Name x p) env) R E s := by
 rw [fN, if_neg (by rw [hx]; decide)] at hw
 obtain ⟨v, e, hw⟩ := bS hw
 have O1 := (O 1 (Nat.le_refl 1)).rep
 have hl : env.kindOf x = some .local := hκ.loc hx
 obtain ⟨m, hm, hx⟩ := O1.ns
 obtain ⟨u, h1, h2⟩ := hx x v e hl
 exact wpAny_Name (wpAny_loadName_local hE.kind hl hm h1 (k _ _ hw h2)) ok
theorem w2 {x : Str} {px : Pos} {i : Int} {k : Nat} {pi sp p : Pos} (ok : (x == ("__debug__" : Str)) = false) :
  zbA prog w B C n x (.Subscript (.Name x px) (.Slice none (some (.Constant (.int i) k pi)) none sp) p) := by
 intro A E cw env κ G st s Q hx hA hE hκ O hw
 have hw : wE C (.Name x px) κ (fun ov st1 => (none : Option Expr).isNone = true /\ -4611686018427387904 < i /\ i < 4611686018427387904 /\ zct (der st1.σ ov) none (some i) fun r => Q r st1) st := hw
 have hi : InH G s.heap := (O 1 (Nat.le_refl 1)).rep.inh
 refine Subscript_ (zeH hE hκ O ok hx hw fun x ov hq hv => ?_)
 refine PySem.wpAny_Slice ?_
 rw [evalPart_none]
 refine wpAny_pure ?_
 rw [evalPart_some]
 obtain ⟨_, b1, b2, hq3⟩ := hq
 rw [arm_eval_Constant]
 refine wpAny_mkInt (wpAny_pure ?_)
 have O3 := O (s.toks + 1) (Nat.le_add_left 1 _)
 have g0 : GS G s G { s with toks := s.toks + 1 } := GS.toks hi _
 have g : GS G { s with toks := s.toks + 1 } G { s with toks := s.toks + 1, heap := s.heap.push { cls := .type "slice", data := .fields #[.none, .int i s.toks, .none] } } := GS.heap O3.rep.inh (s.toks + 1) fun a o e => Heap.get?_push_of_some _ e
 have O4 := O3.grow g O3.rep.tk
 have hv4 := O4.rep.view hv
 have hat : (s.heap.push { cls := .type "slice", data := .fields #[.none, .int i s.toks, .none] }).get? s.heap.objs.size = some { cls := .type "slice", data := .fields #[.none, .int i s.toks, .none] } := Heap.get?_push_size _ rfl
 have hlv : ∃ t : Tok, Value.none = partValue ((none : Option Int).map (·, t)) := ⟨0, rfl⟩
 have huv : ∃ t : Tok, Value.int i s.toks = partValue ((some i : Option Int).map (·, t)) := ⟨s.toks, rfl⟩
 obtain ⟨T, ci, t1, t2, t3⟩ := w4 (prog := prog) (A := A) (E := E) O4.rep.inh hv4 hat hlv huv hq3
 exact tail_any (ops := [.ref s.heap.objs.size, ov]) t1 t2 (aL (g0.tr.trans g.tr) (bJ O4 t3)) rfl
noncomputable def zca (prog : Program) (w : World) (B : Bs) (n : Nat) (v : Value) (F : Fn) : Prop :=
 KeepsAt prog w B.h₀ v /\ ∀ (A : Around) (E : Value -> Shared -> Prop) (G : GM) (s : Shared) (args : List Value) (ps : List PV) (K : PV -> Prop),
  Room n A -> InH G s.heap -> Over B G -> VRels w.params G args ps -> F ps K -> GW (model prog w) A w.params E G s (call v args) K
theorem vJ {loc : Str} {s1 : Stmt} {ss : List Stmt} {a : Addr} {fd : FuncData} {body : List Stmt} {params : List Str} {k : Nat} {dv : List Value} {dp : List PV} (hB : BsOk B) (hC : CtxOk prog w B C n) (hF : FunAt B.K a fd body) (hbody : body = s1 :: ss) (h1 : zbz prog w B C n loc s1) (hloc : fd.scope.names.lookup loc = some .local) (hok : nY ss = true)
  (hpar : ∀ x ∈ params, fd.scope.names.lookup x = some .local \/ fd.scope.names.lookup x = some .cell) (hlen : params.length = k + dp.length)
  (hd : ∀ G, VRels w.params G dv dp)
  (hbind : ∀ (s : Shared) (vals : List Value), B.K.In s.heap -> vals.length = k -> BindsTo s fd ⟨vals, []⟩ (params.zip (vals ++ dv))) :
  zca prog w B (n + 1) (.ref a) (fun ps K => ps.length = k /\ wSs C (cS fd.scope.names) body (lW K) ⟨bG (params.zip (ps ++ dp)) fun _ => none, fun _ => none⟩) := by
 subst hbody
 exact ⟨iJ hB hF, fun A E G s args ps K hA hi ho hv h => tD (tk0 := False) hB hF (fun A E env G st sh Q hA hE hκ O _ hw => uJ h1 (zey hB hC hok) A E env _ G st sh Q hloc hA hE hκ O hw) hpar hlen hd hbind A E G s args ps K hA hi False.elim ho hv h⟩
end
section
variable {C : Ctx} {κ : Kn}
theorem zc2 {elt tgt iter : Expr} {sc : Scope} {pos : Pos} {st : St} {v : PV} {items : List PV} (M : CtxMono C) (f : PV -> PV) (hsc : dA κ sc = true) (hn : (cA tgt).all (fun x => sc.names.lookup x == some .local) = true) (hit : ev C κ iter st v) (hi : fU v = some items) (hl : items.length <= aP) (hm : C.mutL pos.line = false)
  (h : ∀ w ∈ items, ∃ ρ1, iP tgt w (fX sc.names st.ρ) = some ρ1 /\ ev C (cS sc.names) elt ⟨ρ1, st.σ⟩ (f w)) : ev C κ (.ListComp elt [⟨tgt, iter, [], 0⟩] sc pos) st (.list (items.map f)) := by
 refine ⟨rfl, hsc, hn, aO M hit ?_⟩
 show opt (fU v) _
 rw [hi]
 refine ⟨hl, jQ M f _ _ _ h ?_⟩
 unfold bF
 rw [if_neg (by rw [hm]; decide)]
 exact ⟨rfl, rfl⟩
end
end Mine
end
section
open PySem PySem.W PySem.Calls PyProof.Rows
set_option Elab.async false
set_option maxRecDepth 1000000
set_option maxHeartbeats 8000000
namespace MH
noncomputable abbrev pw : Program := PySem.Challenge.pw_te0060_01
noncomputable abbrev rwL : OpenLaw := PySem.Challenge.rw_te0060_01
noncomputable def pB : List Stmt := pw.main.body
noncomputable def nS (i : Nat) (l : List Stmt) : Stmt := match l.drop i with
 | s :: _ => s
 | [] => .Pass default
noncomputable def cB : Stmt -> List Stmt
 | .ClassDef _ _ _ b _ _ _ _ _ _ _ => b
 | _ => []
noncomputable abbrev Z (s : String) : Str := Str.ofString s
noncomputable abbrev S (s : String) (t : Nat) : Value := .str (Z s) t
noncomputable abbrev I (i : Int) (t : Nat) : Value := .int i t
noncomputable abbrev D (P : Params) (k : String) (t : Nat) (v : Value) : DictEntry := ⟨PyData.keyHash P (Z k), S k t, v⟩
noncomputable def fO (s : Stmt) (n q : String) (g : Nat) (dv kv doc pm cd ct : Value) (bi : Nat) : Obj := match s with
 | .FunctionDef _ a b _ _ _ sc _ _ _ => ⟨.type "function", none, .func ⟨Z n, Z q, a, .stmts b, sc, g, [], dv, kv, doc, pm, none, cd, ct, bi⟩, #[]⟩
 | _ => default
noncomputable def kO (s : Stmt) (n q : String) (g : Nat) (dv kv doc pm cd ct : Value) (bi : Nat) : Obj := match s with
 | .FunctionDef _ a b _ _ _ sc _ _ _ => ⟨.none, none, .func ⟨Z n, Z q, a, .stmts b, sc, g, [], dv, kv, doc, pm, none, cd, ct, bi⟩, #[]⟩
 | _ => default
noncomputable def HK (P : Params) : Frag := [
 (2, ⟨.none, none, .dict #[] 0, #[]⟩),
 (3, ⟨(.type "dict"), none, .dict #[D P "__name__" 165 (S "law_te0060_01" 1242), D P "__doc__" 166 .none, D P "__package__" 167 .none, D P "__loader__" 168 (.builtin "__main__.__loader__#opaque"), D P "__spec__" 169 .none, D P "__annotations__" 170 (.ref 6), D P "__builtins__" 171 (.ref 4), D P "__file__" 173 (S "/claim/cut.py" 172), D P "__cached__" 174 .none, D P "_wall" 193 (.ref 21), D P "ascii_lower" 201 (.ref 26), D P "_replacement_string_value" 219 (.ref 27), D P "serialize_string_value" 226 (.ref 34), D P "serialize_url" 233 (.ref 41), D P "Node" 284 (.ref 74), D P "ParseError" 330 (.ref 104), D P "Comment" 371 (.ref 134), D P "WhitespaceToken" 412 (.ref 163), D P "LiteralToken" 470 (.ref 206), D P "IdentToken" 515 (.ref 235), D P "AtKeywordToken" 560 (.ref 265), D P "HashToken" 606 (.ref 295), D P "StringToken" 652 (.ref 325), D P "URLToken" 698 (.ref 355), D P "UnicodeRangeToken" 744 (.ref 385), D P "NumberToken" 799 (.ref 415), D P "PercentageToken" 854 (.ref 447), D P "DimensionToken" 918 (.ref 479), D P "ParenthesesBlock" 959 (.ref 513), D P "SquareBracketsBlock" 1000 (.ref 542), D P "CurlyBracketsBlock" 1041 (.ref 571), D P "FunctionBlock" 1091 (.ref 600), D P "_DIGITS" 1104 (.ref 606), D P "_number_end" 1116 (.ref 613), D P "_hex_end" 1125 (.ref 620), D P "parse_component_value_list" 1160 (.ref 628), D P "_is_name_start" 1169 (.ref 635), D P "_is_ident_start" 1177 (.ref 642), D P "_consume_ident" 1189 (.ref 649), D P "_consume_quoted_string" 1203 (.ref 656), D P "_consume_escape" 1213 (.ref 663), D P "_consume_url" 1227 (.ref 670), D P "_consume_unicode_range" 1241 (.ref 677), D P "_law_SIGNS" 1249 (.ref 684), D P "_law_LOWER" 1255 (.ref 691), D P "_law_NUMBERS" 1261 (.ref 698), D P "_law_GAPS" 1266 (.ref 699), D P "_law_BLANKS" 1272 (.ref 706), D P "_law_letter" 1279 (.ref 713), D P "_law_spelled" 1290 (.ref 720), D P "_law_identifier" 1297 (.ref 727), D P "_law_moved" 1308 (.ref 734), D P "_law_mark" 1315 (.ref 741), D P "_law_told" 1326 (.ref 748), D P "law" 1332 (.ref 753)] 55, #[]⟩),
 (20, ⟨(.type "code"), none, .fields #[(S "_wall" 187), (S "_wall" 188), (S "/claim/cut.py" 189), (I 1 0), (I 1 0), (I 0 0), (I 0 0), (I 3 0), (.ref 15), (.bool true), (I 181 0), (.ref 16), .none, (.ref 17), (.ref 18), (.ref 19), (I 191 0), (I 1 0), (S "/claim/cut.py" 192)], #[]⟩),
 (21, fO (nS 0 pB) "_wall" "_wall" 3 .none .none .none (S "__main__" 164) (.ref 20) .none 0),
 (25, ⟨(.type "code"), none, .fields #[(S "ascii_lower" 196), (S "ascii_lower" 197), (S "/claim/cut.py" 198), (I 5 0), (I 1 0), (I 0 0), (I 0 0), (I 3 0), (.ref 22), (.bool true), (I 181 0), (.ref 23), .none, .none, .none, (.ref 24), (I 199 0), (I 5 0), (S "/claim/cut.py" 200)], #[]⟩),
 (26, fO (nS 2 pB) "ascii_lower" "ascii_lower" 3 .none .none .none (S "tinycss2.ast" 194) (.ref 25) .none 0),
 (27, ⟨(.type "dict"), none, .dict #[D P "\"" 204 (S "\\\"" 205), D P "\\" 206 (S "\\\\" 207), D P "\n" 208 (S "\\A " 209), D P "\x0d" 210 (S "\\D " 211), D P "\x0c" 212 (S "\\C " 213)] 5, #[]⟩),
 (33, ⟨(.type "code"), none, .fields #[(S "serialize_string_value" 220), (S "serialize_string_value" 221), (S "/claim/cut.py" 222), (I 9 0), (I 1 0), (I 0 0), (I 0 0), (I 3 0), (.ref 28), (.bool true), (I 181 0), (.ref 29), .none, (.ref 30), (.ref 31), (.ref 32), (I 224 0), (I 9 0), (S "/claim/cut.py" 225)], #[]⟩),
 (34, fO (nS 5 pB) "serialize_string_value" "serialize_string_value" 3 .none .none .none (S "tinycss2.serializer" 202) (.ref 33) .none 0),
 (40, ⟨(.type "code"), none, .fields #[(S "serialize_url" 227), (S "serialize_url" 228), (S "/claim/cut.py" 229), (I 11 0), (I 1 0), (I 0 0), (I 0 0), (I 3 0), (.ref 35), (.bool true), (I 181 0), (.ref 36), .none, (.ref 37), (.ref 38), (.ref 39), (I 231 0), (I 11 0), (S "/claim/cut.py" 232)], #[]⟩),
 (41, fO (nS 6 pB) "serialize_url" "serialize_url" 3 .none .none .none (S "tinycss2.serializer" 202) (.ref 40) .none 0),
 (55, ⟨(.type "code"), none, .fields #[(S "__init__" 251), (S "Node.__init__" 252), (S "/claim/cut.py" 253), (I 17 0), (I 3 0), (I 0 0), (I 0 0), (I 3 0), (.ref 50), (.bool true), (I 181 0), (.ref 51), .none, (.ref 52), (.ref 53), (.ref 54), (I 257 0), (I 17 0), (S "/claim/cut.py" 258)], #[]⟩),
 (56, fO (nS 1 (cB (nS 8 pB))) "__init__" "Node.__init__" 3 .none .none .none (S "tinycss2.ast" 234) (.ref 55) .none 0),
 (62, ⟨(.type "code"), none, .fields #[(S "serialize" 260), (S "Node.serialize" 261), (S "/claim/cut.py" 262), (I 21 0), (I 1 0), (I 0 0), (I 0 0), (I 3 0), (.ref 57), (.bool true), (I 181 0), (.ref 58), .none, (.ref 59), (.ref 60), (.ref 61), (I 264 0), (I 21 0), (S "/claim/cut.py" 265)], #[]⟩),
 (63, fO (nS 2 (cB (nS 8 pB))) "serialize" "Node.serialize" 3 .none .none .none (S "tinycss2.ast" 234) (.ref 62) .none 0),
 (69, ⟨(.type "code"), none, .fields #[(S "_serialize_to" 267), (S "Node._serialize_to" 268), (S "/claim/cut.py" 269), (I 24 0), (I 2 0), (I 0 0), (I 0 0), (I 3 0), (.ref 64), (.bool true), (I 181 0), (.ref 65), .none, (.ref 66), (.ref 67), (.ref 68), (I 272 0), (I 24 0), (S "/claim/cut.py" 273)], #[]⟩),
 (70, fO (nS 3 (cB (nS 8 pB))) "_serialize_to" "Node._serialize_to" 3 .none .none .none (S "tinycss2.ast" 234) (.ref 69) .none 0),
 (73, ⟨(.type "dict"), none, .dict #[D P "__module__" 243 (S "tinycss2.ast" 234), D P "__firstlineno__" 247 (I 14 246), D P "__slots__" 250 (.ref 49), D P "__init__" 259 (.ref 56), D P "serialize" 266 (.ref 63), D P "_serialize_to" 274 (.ref 70), D P "__static_attributes__" 277 (.ref 71), D P "source_column" 279 (.ref 75), D P "source_line" 281 (.ref 76), D P "__doc__" 282 .none] 4, #[]⟩),
 (74, ⟨(.type "type"), none, .cls ⟨Z "Node", [(.type "object")], [(.ref 74), (.type "object")], 73, Z "Node", false, [Z "source_column", Z "source_line"], [(.ref 104), (.ref 134), (.ref 163), (.ref 206), (.ref 235), (.ref 265), (.ref 295), (.ref 325), (.ref 355), (.ref 385), (.ref 415), (.ref 447), (.ref 479), (.ref 513), (.ref 542), (.ref 571), (.ref 600)], false, none, false⟩, #[none, none, some (S "Node" 236), some (S "Node" 244), some (.builtin "object.__new__"), some (.bool false)]⟩),
 (75, ⟨(.type "member_descriptor"), none, .fields #[(S "source_column" 278), (.ref 74), (.builtin "proto.slot"), (.builtin "proto.slot#set"), (I 1 0)], #[]⟩),
 (76, ⟨(.type "member_descriptor"), none, .fields #[(S "source_line" 280), (.ref 74), (.builtin "proto.slot"), (.builtin "proto.slot#set"), (I 0 0)], #[]⟩),
 (92, ⟨(.type "code"), none, .fields #[(S "__init__" 302), (S "ParseError.__init__" 303), (S "/claim/cut.py" 304), (I 30 0), (I 5 0), (I 0 0), (I 0 0), (I 3 0), (.ref 87), (.bool true), (I 181 0), (.ref 88), .none, (.ref 89), (.ref 90), (.ref 91), (I 310 0), (I 30 0), (S "/claim/cut.py" 311)], #[]⟩),
 (93, fO (nS 2 (cB (nS 9 pB))) "__init__" "ParseError.__init__" 3 .none .none .none (S "tinycss2.ast" 234) (.ref 92) .none 0),
 (99, ⟨(.type "code"), none, .fields #[(S "_serialize_to" 313), (S "ParseError._serialize_to" 314), (S "/claim/cut.py" 315), (I 35 0), (I 2 0), (I 0 0), (I 0 0), (I 3 0), (.ref 94), (.bool true), (I 181 0), (.ref 95), .none, (.ref 96), (.ref 97), (.ref 98), (I 318 0), (I 35 0), (S "/claim/cut.py" 319)], #[]⟩),
 (100, fO (nS 3 (cB (nS 9 pB))) "_serialize_to" "ParseError._serialize_to" 3 .none .none .none (S "tinycss2.ast" 234) (.ref 99) .none 0),
 (103, ⟨(.type "dict"), none, .dict #[D P "__module__" 292 (S "tinycss2.ast" 234), D P "__firstlineno__" 296 (I 26 295), D P "__slots__" 299 (.ref 86), D P "type" 301 (S "error" 300), D P "__init__" 312 (.ref 93), D P "_serialize_to" 320 (.ref 100), D P "__static_attributes__" 323 (.ref 101), D P "kind" 325 (.ref 105), D P "message" 327 (.ref 106), D P "__doc__" 328 .none] 4, #[]⟩),
 (104, ⟨(.type "type"), none, .cls ⟨Z "ParseError", [(.ref 74)], [(.ref 104), (.ref 74), (.type "object")], 103, Z "ParseError", false, [Z "source_column", Z "source_line", Z "kind", Z "message"], [], false, none, false⟩, #[some (.ref 79), none, some (S "ParseError" 285), some (S "ParseError" 293), some (.builtin "object.__new__"), some (.bool false)]⟩),
 (105, ⟨(.type "member_descriptor"), none, .fields #[(S "kind" 324), (.ref 104), (.builtin "proto.slot"), (.builtin "proto.slot#set"), (I 3 0)], #[]⟩),
 (106, ⟨(.type "member_descriptor"), none, .fields #[(S "message" 326), (.ref 104), (.builtin "proto.slot"), (.builtin "proto.slot#set"), (I 2 0)], #[]⟩),
 (122, ⟨(.type "code"), none, .fields #[(S "__init__" 347), (S "Comment.__init__" 348), (S "/claim/cut.py" 349), (I 41 0), (I 4 0), (I 0 0), (I 0 0), (I 3 0), (.ref 117), (.bool true), (I 181 0), (.ref 118), .none, (.ref 119), (.ref 120), (.ref 121), (I 354 0), (I 41 0), (S "/claim/cut.py" 355)], #[]⟩),
 (123, fO (nS 2 (cB (nS 10 pB))) "__init__" "Comment.__init__" 3 .none .none .none (S "tinycss2.ast" 234) (.ref 122) .none 0),
 (129, ⟨(.type "code"), none, .fields #[(S "_serialize_to" 357), (S "Comment._serialize_to" 358), (S "/claim/cut.py" 359), (I 45 0), (I 2 0), (I 0 0), (I 0 0), (I 3 0), (.ref 124), (.bool true), (I 181 0), (.ref 125), .none, (.ref 126), (.ref 127), (.ref 128), (I 362 0), (I 45 0), (S "/claim/cut.py" 363)], #[]⟩),
 (130, fO (nS 3 (cB (nS 10 pB))) "_serialize_to" "Comment._serialize_to" 3 .none .none .none (S "tinycss2.ast" 234) (.ref 129) .none 0),
 (133, ⟨(.type "dict"), none, .dict #[D P "__module__" 338 (S "tinycss2.ast" 234), D P "__firstlineno__" 342 (I 37 341), D P "__slots__" 344 (.ref 116), D P "type" 346 (S "comment" 345), D P "__init__" 356 (.ref 123), D P "_serialize_to" 364 (.ref 130), D P "__static_attributes__" 366 (.ref 131), D P "value" 368 (.ref 135), D P "__doc__" 369 .none] 3, #[]⟩),
 (134, ⟨(.type "type"), none, .cls ⟨Z "Comment", [(.ref 74)], [(.ref 134), (.ref 74), (.type "object")], 133, Z "Comment", false, [Z "source_column", Z "source_line", Z "value"], [], false, none, false⟩, #[some (.ref 109), none, some (S "Comment" 331), some (S "Comment" 339), some (.builtin "object.__new__"), some (.bool false)]⟩),
 (135, ⟨(.type "member_descriptor"), none, .fields #[(S "value" 367), (.ref 134), (.builtin "proto.slot"), (.builtin "proto.slot#set"), (I 2 0)], #[]⟩),
 (151, ⟨(.type "code"), none, .fields #[(S "__init__" 388), (S "WhitespaceToken.__init__" 389), (S "/claim/cut.py" 390), (I 51 0), (I 4 0), (I 0 0), (I 0 0), (I 3 0), (.ref 146), (.bool true), (I 181 0), (.ref 147), .none, (.ref 148), (.ref 149), (.ref 150), (I 395 0), (I 51 0), (S "/claim/cut.py" 396)], #[]⟩),
 (152, fO (nS 2 (cB (nS 11 pB))) "__init__" "WhitespaceToken.__init__" 3 .none .none .none (S "tinycss2.ast" 234) (.ref 151) .none 0),
 (158, ⟨(.type "code"), none, .fields #[(S "_serialize_to" 398), (S "WhitespaceToken._serialize_to" 399), (S "/claim/cut.py" 400), (I 55 0), (I 2 0), (I 0 0), (I 0 0), (I 3 0), (.ref 153), (.bool true), (I 181 0), (.ref 154), .none, (.ref 155), (.ref 156), (.ref 157), (I 403 0), (I 55 0), (S "/claim/cut.py" 404)], #[]⟩),
 (159, fO (nS 3 (cB (nS 11 pB))) "_serialize_to" "WhitespaceToken._serialize_to" 3 .none .none .none (S "tinycss2.ast" 234) (.ref 158) .none 0),
 (162, ⟨(.type "dict"), none, .dict #[D P "__module__" 379 (S "tinycss2.ast" 234), D P "__firstlineno__" 383 (I 47 382), D P "__slots__" 385 (.ref 145), D P "type" 387 (S "whitespace" 386), D P "__init__" 397 (.ref 152), D P "_serialize_to" 405 (.ref 159), D P "__static_attributes__" 407 (.ref 160), D P "value" 409 (.ref 164), D P "__doc__" 410 .none] 3, #[]⟩),
 (163, ⟨(.type "type"), none, .cls ⟨Z "WhitespaceToken", [(.ref 74)], [(.ref 163), (.ref 74), (.type "object")], 162, Z "WhitespaceToken", false, [Z "source_column", Z "source_line", Z "value"], [], false, none, false⟩, #[some (.ref 138), none, some (S "WhitespaceToken" 372), some (S "WhitespaceToken" 380), some (.builtin "object.__new__"), some (.bool false)]⟩),
 (164, ⟨(.type "member_descriptor"), none, .fields #[(S "value" 408), (.ref 163), (.builtin "proto.slot"), (.builtin "proto.slot#set"), (I 2 0)], #[]⟩),
 (180, ⟨(.type "code"), none, .fields #[(S "__init__" 429), (S "LiteralToken.__init__" 430), (S "/claim/cut.py" 431), (I 61 0), (I 4 0), (I 0 0), (I 0 0), (I 3 0), (.ref 175), (.bool true), (I 181 0), (.ref 176), .none, (.ref 177), (.ref 178), (.ref 179), (I 436 0), (I 61 0), (S "/claim/cut.py" 437)], #[]⟩),
 (181, fO (nS 2 (cB (nS 12 pB))) "__init__" "LiteralToken.__init__" 3 .none .none .none (S "tinycss2.ast" 234) (.ref 180) .none 0),
 (187, ⟨(.type "code"), none, .fields #[(S "__eq__" 439), (S "LiteralToken.__eq__" 440), (S "/claim/cut.py" 441), (I 65 0), (I 2 0), (I 0 0), (I 0 0), (I 3 0), (.ref 182), (.bool true), (I 181 0), (.ref 183), .none, (.ref 184), (.ref 185), (.ref 186), (I 444 0), (I 65 0), (S "/claim/cut.py" 445)], #[]⟩),
 (188, fO (nS 3 (cB (nS 12 pB))) "__eq__" "LiteralToken.__eq__" 3 .none .none .none (S "tinycss2.ast" 234) (.ref 187) .none 0),
 (194, ⟨(.type "code"), none, .fields #[(S "__ne__" 447), (S "LiteralToken.__ne__" 448), (S "/claim/cut.py" 449), (I 68 0), (I 2 0), (I 0 0), (I 0 0), (I 3 0), (.ref 189), (.bool true), (I 181 0), (.ref 190), .none, (.ref 191), (.ref 192), (.ref 193), (I 452 0), (I 68 0), (S "/claim/cut.py" 453)], #[]⟩),
 (195, fO (nS 4 (cB (nS 12 pB))) "__ne__" "LiteralToken.__ne__" 3 .none .none .none (S "tinycss2.ast" 234) (.ref 194) .none 0),
 (201, ⟨(.type "code"), none, .fields #[(S "_serialize_to" 455), (S "LiteralToken._serialize_to" 456), (S "/claim/cut.py" 457), (I 71 0), (I 2 0), (I 0 0), (I 0 0), (I 3 0), (.ref 196), (.bool true), (I 181 0), (.ref 197), .none, (.ref 198), (.ref 199), (.ref 200), (I 460 0), (I 71 0), (S "/claim/cut.py" 461)], #[]⟩),
 (202, fO (nS 5 (cB (nS 12 pB))) "_serialize_to" "LiteralToken._serialize_to" 3 .none .none .none (S "tinycss2.ast" 234) (.ref 201) .none 0),
 (205, ⟨(.type "dict"), none, .dict #[D P "__module__" 420 (S "tinycss2.ast" 234), D P "__firstlineno__" 424 (I 57 423), D P "__slots__" 426 (.ref 174), D P "type" 428 (S "literal" 427), D P "__init__" 438 (.ref 181), D P "__eq__" 446 (.ref 188), D P "__ne__" 454 (.ref 195), D P "_serialize_to" 462 (.ref 202), D P "__static_attributes__" 464 (.ref 203), D P "value" 466 (.ref 207), D P "__doc__" 467 .none, D P "__hash__" 468 .none] 4, #[]⟩),
 (206, ⟨(.type "type"), none, .cls ⟨Z "LiteralToken", [(.ref 74)], [(.ref 206), (.ref 74), (.type "object")], 205, Z "LiteralToken", false, [Z "source_column", Z "source_line", Z "value"], [], false, none, false⟩, #[some (.ref 167), none, some (S "LiteralToken" 413), some (S "LiteralToken" 421), some (.builtin "object.__new__"), some (.bool false)]⟩),
 (207, ⟨(.type "member_descriptor"), none, .fields #[(S "value" 465), (.ref 206), (.builtin "proto.slot"), (.builtin "proto.slot#set"), (I 2 0)], #[]⟩),
 (223, ⟨(.type "code"), none, .fields #[(S "__init__" 488), (S "IdentToken.__init__" 489), (S "/claim/cut.py" 490), (I 77 0), (I 4 0), (I 0 0), (I 0 0), (I 3 0), (.ref 218), (.bool true), (I 181 0), (.ref 219), .none, (.ref 220), (.ref 221), (.ref 222), (I 495 0), (I 77 0), (S "/claim/cut.py" 496)], #[]⟩),
 (224, fO (nS 2 (cB (nS 13 pB))) "__init__" "IdentToken.__init__" 3 .none .none .none (S "tinycss2.ast" 234) (.ref 223) .none 0),
 (230, ⟨(.type "code"), none, .fields #[(S "_serialize_to" 498), (S "IdentToken._serialize_to" 499), (S "/claim/cut.py" 500), (I 85 0), (I 2 0), (I 0 0), (I 0 0), (I 3 0), (.ref 225), (.bool true), (I 181 0), (.ref 226), .none, (.ref 227), (.ref 228), (.ref 229), (I 503 0), (I 85 0), (S "/claim/cut.py" 504)], #[]⟩),
 (231, fO (nS 3 (cB (nS 13 pB))) "_serialize_to" "IdentToken._serialize_to" 3 .none .none .none (S "tinycss2.ast" 234) (.ref 230) .none 0),
 (234, ⟨(.type "dict"), none, .dict #[D P "__module__" 478 (S "tinycss2.ast" 234), D P "__firstlineno__" 482 (I 73 481), D P "__slots__" 485 (.ref 217), D P "type" 487 (S "ident" 486), D P "__init__" 497 (.ref 224), D P "_serialize_to" 505 (.ref 231), D P "__static_attributes__" 508 (.ref 232), D P "lower_value" 510 (.ref 236), D P "value" 512 (.ref 237), D P "__doc__" 513 .none] 4, #[]⟩),
 (235, ⟨(.type "type"), none, .cls ⟨Z "IdentToken", [(.ref 74)], [(.ref 235), (.ref 74), (.type "object")], 234, Z "IdentToken", false, [Z "source_column", Z "source_line", Z "lower_value", Z "value"], [], false, none, false⟩, #[some (.ref 210), none, some (S "IdentToken" 471), some (S "IdentToken" 479), some (.builtin "object.__new__"), some (.bool false)]⟩),
 (236, ⟨(.type "member_descriptor"), none, .fields #[(S "lower_value" 509), (.ref 235), (.builtin "proto.slot"), (.builtin "proto.slot#set"), (I 3 0)], #[]⟩),
 (237, ⟨(.type "member_descriptor"), none, .fields #[(S "value" 511), (.ref 235), (.builtin "proto.slot"), (.builtin "proto.slot#set"), (I 2 0)], #[]⟩),
 (253, ⟨(.type "code"), none, .fields #[(S "__init__" 533), (S "AtKeywordToken.__init__" 534), (S "/claim/cut.py" 535), (I 91 0), (I 4 0), (I 0 0), (I 0 0), (I 3 0), (.ref 248), (.bool true), (I 181 0), (.ref 249), .none, (.ref 250), (.ref 251), (.ref 252), (I 540 0), (I 91 0), (S "/claim/cut.py" 541)], #[]⟩),
 (254, fO (nS 2 (cB (nS 14 pB))) "__init__" "AtKeywordToken.__init__" 3 .none .none .none (S "tinycss2.ast" 234) (.ref 253) .none 0),
 (260, ⟨(.type "code"), none, .fields #[(S "_serialize_to" 543), (S "AtKeywordToken._serialize_to" 544), (S "/claim/cut.py" 545), (I 99 0), (I 2 0), (I 0 0), (I 0 0), (I 3 0), (.ref 255), (.bool true), (I 181 0), (.ref 256), .none, (.ref 257), (.ref 258), (.ref 259), (I 548 0), (I 99 0), (S "/claim/cut.py" 549)], #[]⟩),
 (261, fO (nS 3 (cB (nS 14 pB))) "_serialize_to" "AtKeywordToken._serialize_to" 3 .none .none .none (S "tinycss2.ast" 234) (.ref 260) .none 0),
 (264, ⟨(.type "dict"), none, .dict #[D P "__module__" 523 (S "tinycss2.ast" 234), D P "__firstlineno__" 527 (I 87 526), D P "__slots__" 530 (.ref 247), D P "type" 532 (S "at-keyword" 531), D P "__init__" 542 (.ref 254), D P "_serialize_to" 550 (.ref 261), D P "__static_attributes__" 553 (.ref 262), D P "lower_value" 555 (.ref 266), D P "value" 557 (.ref 267), D P "__doc__" 558 .none] 4, #[]⟩),
 (265, ⟨(.type "type"), none, .cls ⟨Z "AtKeywordToken", [(.ref 74)], [(.ref 265), (.ref 74), (.type "object")], 264, Z "AtKeywordToken", false, [Z "source_column", Z "source_line", Z "lower_value", Z "value"], [], false, none, false⟩, #[some (.ref 240), none, some (S "AtKeywordToken" 516), some (S "AtKeywordToken" 524), some (.builtin "object.__new__"), some (.bool false)]⟩),
 (266, ⟨(.type "member_descriptor"), none, .fields #[(S "lower_value" 554), (.ref 265), (.builtin "proto.slot"), (.builtin "proto.slot#set"), (I 3 0)], #[]⟩),
 (267, ⟨(.type "member_descriptor"), none, .fields #[(S "value" 556), (.ref 265), (.builtin "proto.slot"), (.builtin "proto.slot#set"), (I 2 0)], #[]⟩),
 (283, ⟨(.type "code"), none, .fields #[(S "__init__" 578), (S "HashToken.__init__" 579), (S "/claim/cut.py" 580), (I 105 0), (I 5 0), (I 0 0), (I 0 0), (I 3 0), (.ref 278), (.bool true), (I 181 0), (.ref 279), .none, (.ref 280), (.ref 281), (.ref 282), (I 586 0), (I 105 0), (S "/claim/cut.py" 587)], #[]⟩),
 (284, fO (nS 2 (cB (nS 15 pB))) "__init__" "HashToken.__init__" 3 .none .none .none (S "tinycss2.ast" 234) (.ref 283) .none 0),
 (290, ⟨(.type "code"), none, .fields #[(S "_serialize_to" 589), (S "HashToken._serialize_to" 590), (S "/claim/cut.py" 591), (I 110 0), (I 2 0), (I 0 0), (I 0 0), (I 3 0), (.ref 285), (.bool true), (I 181 0), (.ref 286), .none, (.ref 287), (.ref 288), (.ref 289), (I 594 0), (I 110 0), (S "/claim/cut.py" 595)], #[]⟩),
 (291, fO (nS 3 (cB (nS 15 pB))) "_serialize_to" "HashToken._serialize_to" 3 .none .none .none (S "tinycss2.ast" 234) (.ref 290) .none 0),
 (294, ⟨(.type "dict"), none, .dict #[D P "__module__" 568 (S "tinycss2.ast" 234), D P "__firstlineno__" 572 (I 101 571), D P "__slots__" 575 (.ref 277), D P "type" 577 (S "hash" 576), D P "__init__" 588 (.ref 284), D P "_serialize_to" 596 (.ref 291), D P "__static_attributes__" 599 (.ref 292), D P "is_identifier" 601 (.ref 296), D P "value" 603 (.ref 297), D P "__doc__" 604 .none] 4, #[]⟩),
 (295, ⟨(.type "type"), none, .cls ⟨Z "HashToken", [(.ref 74)], [(.ref 295), (.ref 74), (.type "object")], 294, Z "HashToken", false, [Z "source_column", Z "source_line", Z "is_identifier", Z "value"], [], false, none, false⟩, #[some (.ref 270), none, some (S "HashToken" 561), some (S "HashToken" 569), some (.builtin "object.__new__"), some (.bool false)]⟩),
 (296, ⟨(.type "member_descriptor"), none, .fields #[(S "is_identifier" 600), (.ref 295), (.builtin "proto.slot"), (.builtin "proto.slot#set"), (I 3 0)], #[]⟩),
 (297, ⟨(.type "member_descriptor"), none, .fields #[(S "value" 602), (.ref 295), (.builtin "proto.slot"), (.builtin "proto.slot#set"), (I 2 0)], #[]⟩),
 (313, ⟨(.type "code"), none, .fields #[(S "__init__" 624), (S "StringToken.__init__" 625), (S "/claim/cut.py" 626), (I 116 0), (I 5 0), (I 0 0), (I 0 0), (I 3 0), (.ref 308), (.bool true), (I 181 0), (.ref 309), .none, (.ref 310), (.ref 311), (.ref 312), (I 632 0), (I 116 0), (S "/claim/cut.py" 633)], #[]⟩),
 (314, fO (nS 2 (cB (nS 16 pB))) "__init__" "StringToken.__init__" 3 .none .none .none (S "tinycss2.ast" 234) (.ref 313) .none 0),
 (320, ⟨(.type "code"), none, .fields #[(S "_serialize_to" 635), (S "StringToken._serialize_to" 636), (S "/claim/cut.py" 637), (I 121 0), (I 2 0), (I 0 0), (I 0 0), (I 3 0), (.ref 315), (.bool true), (I 181 0), (.ref 316), .none, (.ref 317), (.ref 318), (.ref 319), (I 640 0), (I 121 0), (S "/claim/cut.py" 641)], #[]⟩),
 (321, fO (nS 3 (cB (nS 16 pB))) "_serialize_to" "StringToken._serialize_to" 3 .none .none .none (S "tinycss2.ast" 234) (.ref 320) .none 0),
 (324, ⟨(.type "dict"), none, .dict #[D P "__module__" 614 (S "tinycss2.ast" 234), D P "__firstlineno__" 618 (I 112 617), D P "__slots__" 621 (.ref 307), D P "type" 623 (S "string" 622), D P "__init__" 634 (.ref 314), D P "_serialize_to" 642 (.ref 321), D P "__static_attributes__" 645 (.ref 322), D P "representation" 647 (.ref 326), D P "value" 649 (.ref 327), D P "__doc__" 650 .none] 4, #[]⟩),
 (325, ⟨(.type "type"), none, .cls ⟨Z "StringToken", [(.ref 74)], [(.ref 325), (.ref 74), (.type "object")], 324, Z "StringToken", false, [Z "source_column", Z "source_line", Z "representation", Z "value"], [], false, none, false⟩, #[some (.ref 300), none, some (S "StringToken" 607), some (S "StringToken" 615), some (.builtin "object.__new__"), some (.bool false)]⟩),
 (326, ⟨(.type "member_descriptor"), none, .fields #[(S "representation" 646), (.ref 325), (.builtin "proto.slot"), (.builtin "proto.slot#set"), (I 3 0)], #[]⟩),
 (327, ⟨(.type "member_descriptor"), none, .fields #[(S "value" 648), (.ref 325), (.builtin "proto.slot"), (.builtin "proto.slot#set"), (I 2 0)], #[]⟩),
 (343, ⟨(.type "code"), none, .fields #[(S "__init__" 670), (S "URLToken.__init__" 671), (S "/claim/cut.py" 672), (I 127 0), (I 5 0), (I 0 0), (I 0 0), (I 3 0), (.ref 338), (.bool true), (I 181 0), (.ref 339), .none, (.ref 340), (.ref 341), (.ref 342), (I 678 0), (I 127 0), (S "/claim/cut.py" 679)], #[]⟩),
 (344, fO (nS 2 (cB (nS 17 pB))) "__init__" "URLToken.__init__" 3 .none .none .none (S "tinycss2.ast" 234) (.ref 343) .none 0),
 (350, ⟨(.type "code"), none, .fields #[(S "_serialize_to" 681), (S "URLToken._serialize_to" 682), (S "/claim/cut.py" 683), (I 132 0), (I 2 0), (I 0 0), (I 0 0), (I 3 0), (.ref 345), (.bool true), (I 181 0), (.ref 346), .none, (.ref 347), (.ref 348), (.ref 349), (I 686 0), (I 132 0), (S "/claim/cut.py" 687)], #[]⟩),
 (351, fO (nS 3 (cB (nS 17 pB))) "_serialize_to" "URLToken._serialize_to" 3 .none .none .none (S "tinycss2.ast" 234) (.ref 350) .none 0),
 (354, ⟨(.type "dict"), none, .dict #[D P "__module__" 660 (S "tinycss2.ast" 234), D P "__firstlineno__" 664 (I 123 663), D P "__slots__" 667 (.ref 337), D P "type" 669 (S "url" 668), D P "__init__" 680 (.ref 344), D P "_serialize_to" 688 (.ref 351), D P "__static_attributes__" 691 (.ref 352), D P "representation" 693 (.ref 356), D P "value" 695 (.ref 357), D P "__doc__" 696 .none] 4, #[]⟩),
 (355, ⟨(.type "type"), none, .cls ⟨Z "URLToken", [(.ref 74)], [(.ref 355), (.ref 74), (.type "object")], 354, Z "URLToken", false, [Z "source_column", Z "source_line", Z "representation", Z "value"], [], false, none, false⟩, #[some (.ref 330), none, some (S "URLToken" 653), some (S "URLToken" 661), some (.builtin "object.__new__"), some (.bool false)]⟩),
 (356, ⟨(.type "member_descriptor"), none, .fields #[(S "representation" 692), (.ref 355), (.builtin "proto.slot"), (.builtin "proto.slot#set"), (I 3 0)], #[]⟩),
 (357, ⟨(.type "member_descriptor"), none, .fields #[(S "value" 694), (.ref 355), (.builtin "proto.slot"), (.builtin "proto.slot#set"), (I 2 0)], #[]⟩),
 (373, ⟨(.type "code"), none, .fields #[(S "__init__" 716), (S "UnicodeRangeToken.__init__" 717), (S "/claim/cut.py" 718), (I 138 0), (I 5 0), (I 0 0), (I 0 0), (I 3 0), (.ref 368), (.bool true), (I 181 0), (.ref 369), .none, (.ref 370), (.ref 371), (.ref 372), (I 724 0), (I 138 0), (S "/claim/cut.py" 725)], #[]⟩),
 (374, fO (nS 2 (cB (nS 18 pB))) "__init__" "UnicodeRangeToken.__init__" 3 .none .none .none (S "tinycss2.ast" 234) (.ref 373) .none 0),
 (380, ⟨(.type "code"), none, .fields #[(S "_serialize_to" 727), (S "UnicodeRangeToken._serialize_to" 728), (S "/claim/cut.py" 729), (I 143 0), (I 2 0), (I 0 0), (I 0 0), (I 3 0), (.ref 375), (.bool true), (I 181 0), (.ref 376), .none, (.ref 377), (.ref 378), (.ref 379), (I 732 0), (I 143 0), (S "/claim/cut.py" 733)], #[]⟩),
 (381, fO (nS 3 (cB (nS 18 pB))) "_serialize_to" "UnicodeRangeToken._serialize_to" 3 .none .none .none (S "tinycss2.ast" 234) (.ref 380) .none 0),
 (384, ⟨(.type "dict"), none, .dict #[D P "__module__" 706 (S "tinycss2.ast" 234), D P "__firstlineno__" 710 (I 134 709), D P "__slots__" 713 (.ref 367), D P "type" 715 (S "unicode-range" 714), D P "__init__" 726 (.ref 374), D P "_serialize_to" 734 (.ref 381), D P "__static_attributes__" 737 (.ref 382), D P "end" 739 (.ref 386), D P "start" 741 (.ref 387), D P "__doc__" 742 .none] 4, #[]⟩),
 (385, ⟨(.type "type"), none, .cls ⟨Z "UnicodeRangeToken", [(.ref 74)], [(.ref 385), (.ref 74), (.type "object")], 384, Z "UnicodeRangeToken", false, [Z "source_column", Z "source_line", Z "end", Z "start"], [], false, none, false⟩, #[some (.ref 360), none, some (S "UnicodeRangeToken" 699), some (S "UnicodeRangeToken" 707), some (.builtin "object.__new__"), some (.bool false)]⟩),
 (386, ⟨(.type "member_descriptor"), none, .fields #[(S "end" 738), (.ref 385), (.builtin "proto.slot"), (.builtin "proto.slot#set"), (I 3 0)], #[]⟩),
 (387, ⟨(.type "member_descriptor"), none, .fields #[(S "start" 740), (.ref 385), (.builtin "proto.slot"), (.builtin "proto.slot#set"), (I 2 0)], #[]⟩),
 (403, ⟨(.type "code"), none, .fields #[(S "__init__" 764), (S "NumberToken.__init__" 765), (S "/claim/cut.py" 766), (I 149 0), (I 6 0), (I 0 0), (I 0 0), (I 3 0), (.ref 398), (.bool true), (I 181 0), (.ref 399), .none, (.ref 400), (.ref 401), (.ref 402), (I 773 0), (I 149 0), (S "/claim/cut.py" 774)], #[]⟩),
 (404, fO (nS 2 (cB (nS 19 pB))) "__init__" "NumberToken.__init__" 3 .none .none .none (S "tinycss2.ast" 234) (.ref 403) .none 0),
 (410, ⟨(.type "code"), none, .fields #[(S "_serialize_to" 776), (S "NumberToken._serialize_to" 777), (S "/claim/cut.py" 778), (I 156 0), (I 2 0), (I 0 0), (I 0 0), (I 3 0), (.ref 405), (.bool true), (I 181 0), (.ref 406), .none, (.ref 407), (.ref 408), (.ref 409), (I 781 0), (I 156 0), (S "/claim/cut.py" 782)], #[]⟩),
 (411, fO (nS 3 (cB (nS 19 pB))) "_serialize_to" "NumberToken._serialize_to" 3 .none .none .none (S "tinycss2.ast" 234) (.ref 410) .none 0),
 (414, ⟨(.type "dict"), none, .dict #[D P "__module__" 752 (S "tinycss2.ast" 234), D P "__firstlineno__" 756 (I 145 755), D P "__slots__" 761 (.ref 397), D P "type" 763 (S "number" 762), D P "__init__" 775 (.ref 404), D P "_serialize_to" 783 (.ref 411), D P "__static_attributes__" 788 (.ref 412), D P "int_value" 790 (.ref 416), D P "is_integer" 792 (.ref 417), D P "representation" 794 (.ref 418), D P "value" 796 (.ref 419), D P "__doc__" 797 .none] 6, #[]⟩),
 (415, ⟨(.type "type"), none, .cls ⟨Z "NumberToken", [(.ref 74)], [(.ref 415), (.ref 74), (.type "object")], 414, Z "NumberToken", false, [Z "source_column", Z "source_line", Z "int_value", Z "is_integer", Z "representation", Z "value"], [], false, none, false⟩, #[some (.ref 390), none, some (S "NumberToken" 745), some (S "NumberToken" 753), some (.builtin "object.__new__"), some (.bool false)]⟩),
 (416, ⟨(.type "member_descriptor"), none, .fields #[(S "int_value" 789), (.ref 415), (.builtin "proto.slot"), (.builtin "proto.slot#set"), (I 5 0)], #[]⟩),
 (417, ⟨(.type "member_descriptor"), none, .fields #[(S "is_integer" 791), (.ref 415), (.builtin "proto.slot"), (.builtin "proto.slot#set"), (I 4 0)], #[]⟩),
 (418, ⟨(.type "member_descriptor"), none, .fields #[(S "representation" 793), (.ref 415), (.builtin "proto.slot"), (.builtin "proto.slot#set"), (I 3 0)], #[]⟩),
 (419, ⟨(.type "member_descriptor"), none, .fields #[(S "value" 795), (.ref 415), (.builtin "proto.slot"), (.builtin "proto.slot#set"), (I 2 0)], #[]⟩),
 (435, ⟨(.type "code"), none, .fields #[(S "__init__" 819), (S "PercentageToken.__init__" 820), (S "/claim/cut.py" 821), (I 162 0), (I 6 0), (I 0 0), (I 0 0), (I 3 0), (.ref 430), (.bool true), (I 181 0), (.ref 431), .none, (.ref 432), (.ref 433), (.ref 434), (I 828 0), (I 162 0), (S "/claim/cut.py" 829)], #[]⟩),
 (436, fO (nS 2 (cB (nS 20 pB))) "__init__" "PercentageToken.__init__" 3 .none .none .none (S "tinycss2.ast" 234) (.ref 435) .none 0),
 (442, ⟨(.type "code"), none, .fields #[(S "_serialize_to" 831), (S "PercentageToken._serialize_to" 832), (S "/claim/cut.py" 833), (I 169 0), (I 2 0), (I 0 0), (I 0 0), (I 3 0), (.ref 437), (.bool true), (I 181 0), (.ref 438), .none, (.ref 439), (.ref 440), (.ref 441), (I 836 0), (I 169 0), (S "/claim/cut.py" 837)], #[]⟩),
 (443, fO (nS 3 (cB (nS 20 pB))) "_serialize_to" "PercentageToken._serialize_to" 3 .none .none .none (S "tinycss2.ast" 234) (.ref 442) .none 0),
 (446, ⟨(.type "dict"), none, .dict #[D P "__module__" 807 (S "tinycss2.ast" 234), D P "__firstlineno__" 811 (I 158 810), D P "__slots__" 816 (.ref 429), D P "type" 818 (S "percentage" 817), D P "__init__" 830 (.ref 436), D P "_serialize_to" 838 (.ref 443), D P "__static_attributes__" 843 (.ref 444), D P "int_value" 845 (.ref 448), D P "is_integer" 847 (.ref 449), D P "representation" 849 (.ref 450), D P "value" 851 (.ref 451), D P "__doc__" 852 .none] 6, #[]⟩),
 (447, ⟨(.type "type"), none, .cls ⟨Z "PercentageToken", [(.ref 74)], [(.ref 447), (.ref 74), (.type "object")], 446, Z "PercentageToken", false, [Z "source_column", Z "source_line", Z "int_value", Z "is_integer", Z "representation", Z "value"], [], false, none, false⟩, #[some (.ref 422), none, some (S "PercentageToken" 800), some (S "PercentageToken" 808), some (.builtin "object.__new__"), some (.bool false)]⟩),
 (448, ⟨(.type "member_descriptor"), none, .fields #[(S "int_value" 844), (.ref 447), (.builtin "proto.slot"), (.builtin "proto.slot#set"), (I 5 0)], #[]⟩),
 (449, ⟨(.type "member_descriptor"), none, .fields #[(S "is_integer" 846), (.ref 447), (.builtin "proto.slot"), (.builtin "proto.slot#set"), (I 4 0)], #[]⟩),
 (450, ⟨(.type "member_descriptor"), none, .fields #[(S "representation" 848), (.ref 447), (.builtin "proto.slot"), (.builtin "proto.slot#set"), (I 3 0)], #[]⟩),
 (451, ⟨(.type "member_descriptor"), none, .fields #[(S "value" 850), (.ref 447), (.builtin "proto.slot"), (.builtin "proto.slot#set"), (I 2 0)], #[]⟩),
 (467, ⟨(.type "code"), none, .fields #[(S "__init__" 876), (S "DimensionToken.__init__" 877), (S "/claim/cut.py" 878), (I 175 0), (I 7 0), (I 0 0), (I 0 0), (I 3 0), (.ref 462), (.bool true), (I 181 0), (.ref 463), .none, (.ref 464), (.ref 465), (.ref 466), (I 886 0), (I 175 0), (S "/claim/cut.py" 887)], #[]⟩),
 (468, fO (nS 2 (cB (nS 21 pB))) "__init__" "DimensionToken.__init__" 3 .none .none .none (S "tinycss2.ast" 234) (.ref 467) .none 0),
 (474, ⟨(.type "code"), none, .fields #[(S "_serialize_to" 889), (S "DimensionToken._serialize_to" 890), (S "/claim/cut.py" 891), (I 187 0), (I 2 0), (I 0 0), (I 0 0), (I 3 0), (.ref 469), (.bool true), (I 181 0), (.ref 470), .none, (.ref 471), (.ref 472), (.ref 473), (I 894 0), (I 187 0), (S "/claim/cut.py" 895)], #[]⟩),
 (475, fO (nS 3 (cB (nS 21 pB))) "_serialize_to" "DimensionToken._serialize_to" 3 .none .none .none (S "tinycss2.ast" 234) (.ref 474) .none 0),
 (478, ⟨(.type "dict"), none, .dict #[D P "__module__" 862 (S "tinycss2.ast" 234), D P "__firstlineno__" 866 (I 171 865), D P "__slots__" 873 (.ref 461), D P "type" 875 (S "dimension" 874), D P "__init__" 888 (.ref 468), D P "_serialize_to" 896 (.ref 475), D P "__static_attributes__" 903 (.ref 476), D P "int_value" 905 (.ref 480), D P "is_integer" 907 (.ref 481), D P "lower_unit" 909 (.ref 482), D P "representation" 911 (.ref 483), D P "unit" 913 (.ref 484), D P "value" 915 (.ref 485), D P "__doc__" 916 .none] 8, #[]⟩),
 (479, ⟨(.type "type"), none, .cls ⟨Z "DimensionToken", [(.ref 74)], [(.ref 479), (.ref 74), (.type "object")], 478, Z "DimensionToken", false, [Z "source_column", Z "source_line", Z "int_value", Z "is_integer", Z "lower_unit", Z "representation", Z "unit", Z "value"], [], false, none, false⟩, #[some (.ref 454), none, some (S "DimensionToken" 855), some (S "DimensionToken" 863), some (.builtin "object.__new__"), some (.bool false)]⟩),
 (480, ⟨(.type "member_descriptor"), none, .fields #[(S "int_value" 904), (.ref 479), (.builtin "proto.slot"), (.builtin "proto.slot#set"), (I 7 0)], #[]⟩),
 (481, ⟨(.type "member_descriptor"), none, .fields #[(S "is_integer" 906), (.ref 479), (.builtin "proto.slot"), (.builtin "proto.slot#set"), (I 6 0)], #[]⟩),
 (482, ⟨(.type "member_descriptor"), none, .fields #[(S "lower_unit" 908), (.ref 479), (.builtin "proto.slot"), (.builtin "proto.slot#set"), (I 5 0)], #[]⟩),
 (483, ⟨(.type "member_descriptor"), none, .fields #[(S "representation" 910), (.ref 479), (.builtin "proto.slot"), (.builtin "proto.slot#set"), (I 4 0)], #[]⟩),
 (484, ⟨(.type "member_descriptor"), none, .fields #[(S "unit" 912), (.ref 479), (.builtin "proto.slot"), (.builtin "proto.slot#set"), (I 3 0)], #[]⟩),
 (485, ⟨(.type "member_descriptor"), none, .fields #[(S "value" 914), (.ref 479), (.builtin "proto.slot"), (.builtin "proto.slot#set"), (I 2 0)], #[]⟩),
 (501, ⟨(.type "code"), none, .fields #[(S "__init__" 935), (S "ParenthesesBlock.__init__" 936), (S "/claim/cut.py" 937), (I 193 0), (I 4 0), (I 0 0), (I 0 0), (I 3 0), (.ref 496), (.bool true), (I 181 0), (.ref 497), .none, (.ref 498), (.ref 499), (.ref 500), (I 942 0), (I 193 0), (S "/claim/cut.py" 943)], #[]⟩),
 (502, fO (nS 2 (cB (nS 22 pB))) "__init__" "ParenthesesBlock.__init__" 3 .none .none .none (S "tinycss2.ast" 234) (.ref 501) .none 0),
 (508, ⟨(.type "code"), none, .fields #[(S "_serialize_to" 945), (S "ParenthesesBlock._serialize_to" 946), (S "/claim/cut.py" 947), (I 197 0), (I 2 0), (I 0 0), (I 0 0), (I 3 0), (.ref 503), (.bool true), (I 181 0), (.ref 504), .none, (.ref 505), (.ref 506), (.ref 507), (I 950 0), (I 197 0), (S "/claim/cut.py" 951)], #[]⟩),
 (509, fO (nS 3 (cB (nS 22 pB))) "_serialize_to" "ParenthesesBlock._serialize_to" 3 .none .none .none (S "tinycss2.ast" 234) (.ref 508) .none 0),
 (512, ⟨(.type "dict"), none, .dict #[D P "__module__" 926 (S "tinycss2.ast" 234), D P "__firstlineno__" 930 (I 189 929), D P "__slots__" 932 (.ref 495), D P "type" 934 (S "() block" 933), D P "__init__" 944 (.ref 502), D P "_serialize_to" 952 (.ref 509), D P "__static_attributes__" 954 (.ref 510), D P "content" 956 (.ref 514), D P "__doc__" 957 .none] 3, #[]⟩),
 (513, ⟨(.type "type"), none, .cls ⟨Z "ParenthesesBlock", [(.ref 74)], [(.ref 513), (.ref 74), (.type "object")], 512, Z "ParenthesesBlock", false, [Z "source_column", Z "source_line", Z "content"], [], false, none, false⟩, #[some (.ref 488), none, some (S "ParenthesesBlock" 919), some (S "ParenthesesBlock" 927), some (.builtin "object.__new__"), some (.bool false)]⟩),
 (514, ⟨(.type "member_descriptor"), none, .fields #[(S "content" 955), (.ref 513), (.builtin "proto.slot"), (.builtin "proto.slot#set"), (I 2 0)], #[]⟩),
 (530, ⟨(.type "code"), none, .fields #[(S "__init__" 976), (S "SquareBracketsBlock.__init__" 977), (S "/claim/cut.py" 978), (I 203 0), (I 4 0), (I 0 0), (I 0 0), (I 3 0), (.ref 525), (.bool true), (I 181 0), (.ref 526), .none, (.ref 527), (.ref 528), (.ref 529), (I 983 0), (I 203 0), (S "/claim/cut.py" 984)], #[]⟩),
 (531, fO (nS 2 (cB (nS 23 pB))) "__init__" "SquareBracketsBlock.__init__" 3 .none .none .none (S "tinycss2.ast" 234) (.ref 530) .none 0),
 (537, ⟨(.type "code"), none, .fields #[(S "_serialize_to" 986), (S "SquareBracketsBlock._serialize_to" 987), (S "/claim/cut.py" 988), (I 207 0), (I 2 0), (I 0 0), (I 0 0), (I 3 0), (.ref 532), (.bool true), (I 181 0), (.ref 533), .none, (.ref 534), (.ref 535), (.ref 536), (I 991 0), (I 207 0), (S "/claim/cut.py" 992)], #[]⟩),
 (538, fO (nS 3 (cB (nS 23 pB))) "_serialize_to" "SquareBracketsBlock._serialize_to" 3 .none .none .none (S "tinycss2.ast" 234) (.ref 537) .none 0),
 (541, ⟨(.type "dict"), none, .dict #[D P "__module__" 967 (S "tinycss2.ast" 234), D P "__firstlineno__" 971 (I 199 970), D P "__slots__" 973 (.ref 524), D P "type" 975 (S "[] block" 974), D P "__init__" 985 (.ref 531), D P "_serialize_to" 993 (.ref 538), D P "__static_attributes__" 995 (.ref 539), D P "content" 997 (.ref 543), D P "__doc__" 998 .none] 3, #[]⟩),
 (542, ⟨(.type "type"), none, .cls ⟨Z "SquareBracketsBlock", [(.ref 74)], [(.ref 542), (.ref 74), (.type "object")], 541, Z "SquareBracketsBlock", false, [Z "source_column", Z "source_line", Z "content"], [], false, none, false⟩, #[some (.ref 517), none, some (S "SquareBracketsBlock" 960), some (S "SquareBracketsBlock" 968), some (.builtin "object.__new__"), some (.bool false)]⟩),
 (543, ⟨(.type "member_descriptor"), none, .fields #[(S "content" 996), (.ref 542), (.builtin "proto.slot"), (.builtin "proto.slot#set"), (I 2 0)], #[]⟩),
 (559, ⟨(.type "code"), none, .fields #[(S "__init__" 1017), (S "CurlyBracketsBlock.__init__" 1018), (S "/claim/cut.py" 1019), (I 213 0), (I 4 0), (I 0 0), (I 0 0), (I 3 0), (.ref 554), (.bool true), (I 181 0), (.ref 555), .none, (.ref 556), (.ref 557), (.ref 558), (I 1024 0), (I 213 0), (S "/claim/cut.py" 1025)], #[]⟩),
 (560, fO (nS 2 (cB (nS 24 pB))) "__init__" "CurlyBracketsBlock.__init__" 3 .none .none .none (S "tinycss2.ast" 234) (.ref 559) .none 0),
 (566, ⟨(.type "code"), none, .fields #[(S "_serialize_to" 1027), (S "CurlyBracketsBlock._serialize_to" 1028), (S "/claim/cut.py" 1029), (I 217 0), (I 2 0), (I 0 0), (I 0 0), (I 3 0), (.ref 561), (.bool true), (I 181 0), (.ref 562), .none, (.ref 563), (.ref 564), (.ref 565), (I 1032 0), (I 217 0), (S "/claim/cut.py" 1033)], #[]⟩),
 (567, fO (nS 3 (cB (nS 24 pB))) "_serialize_to" "CurlyBracketsBlock._serialize_to" 3 .none .none .none (S "tinycss2.ast" 234) (.ref 566) .none 0),
 (570, ⟨(.type "dict"), none, .dict #[D P "__module__" 1008 (S "tinycss2.ast" 234), D P "__firstlineno__" 1012 (I 209 1011), D P "__slots__" 1014 (.ref 553), D P "type" 1016 (S "{} block" 1015), D P "__init__" 1026 (.ref 560), D P "_serialize_to" 1034 (.ref 567), D P "__static_attributes__" 1036 (.ref 568), D P "content" 1038 (.ref 572), D P "__doc__" 1039 .none] 3, #[]⟩),
 (571, ⟨(.type "type"), none, .cls ⟨Z "CurlyBracketsBlock", [(.ref 74)], [(.ref 571), (.ref 74), (.type "object")], 570, Z "CurlyBracketsBlock", false, [Z "source_column", Z "source_line", Z "content"], [], false, none, false⟩, #[some (.ref 546), none, some (S "CurlyBracketsBlock" 1001), some (S "CurlyBracketsBlock" 1009), some (.builtin "object.__new__"), some (.bool false)]⟩),
 (572, ⟨(.type "member_descriptor"), none, .fields #[(S "content" 1037), (.ref 571), (.builtin "proto.slot"), (.builtin "proto.slot#set"), (I 2 0)], #[]⟩),
 (588, ⟨(.type "code"), none, .fields #[(S "__init__" 1060), (S "FunctionBlock.__init__" 1061), (S "/claim/cut.py" 1062), (I 223 0), (I 5 0), (I 0 0), (I 0 0), (I 3 0), (.ref 583), (.bool true), (I 181 0), (.ref 584), .none, (.ref 585), (.ref 586), (.ref 587), (I 1068 0), (I 223 0), (S "/claim/cut.py" 1069)], #[]⟩),
 (589, fO (nS 2 (cB (nS 25 pB))) "__init__" "FunctionBlock.__init__" 3 .none .none .none (S "tinycss2.ast" 234) (.ref 588) .none 0),
 (595, ⟨(.type "code"), none, .fields #[(S "_serialize_to" 1071), (S "FunctionBlock._serialize_to" 1072), (S "/claim/cut.py" 1073), (I 232 0), (I 2 0), (I 0 0), (I 0 0), (I 3 0), (.ref 590), (.bool true), (I 181 0), (.ref 591), .none, (.ref 592), (.ref 593), (.ref 594), (I 1076 0), (I 232 0), (S "/claim/cut.py" 1077)], #[]⟩),
 (596, fO (nS 3 (cB (nS 25 pB))) "_serialize_to" "FunctionBlock._serialize_to" 3 .none .none .none (S "tinycss2.ast" 234) (.ref 595) .none 0),
 (599, ⟨(.type "dict"), none, .dict #[D P "__module__" 1049 (S "tinycss2.ast" 234), D P "__firstlineno__" 1053 (I 219 1052), D P "__slots__" 1057 (.ref 582), D P "type" 1059 (S "function" 1058), D P "__init__" 1070 (.ref 589), D P "_serialize_to" 1078 (.ref 596), D P "__static_attributes__" 1082 (.ref 597), D P "arguments" 1084 (.ref 601), D P "lower_name" 1086 (.ref 602), D P "name" 1088 (.ref 603), D P "__doc__" 1089 .none] 5, #[]⟩),
 (600, ⟨(.type "type"), none, .cls ⟨Z "FunctionBlock", [(.ref 74)], [(.ref 600), (.ref 74), (.type "object")], 599, Z "FunctionBlock", false, [Z "source_column", Z "source_line", Z "arguments", Z "lower_name", Z "name"], [], false, none, false⟩, #[some (.ref 575), none, some (S "FunctionBlock" 1042), some (S "FunctionBlock" 1050), some (.builtin "object.__new__"), some (.bool false)]⟩),
 (601, ⟨(.type "member_descriptor"), none, .fields #[(S "arguments" 1083), (.ref 600), (.builtin "proto.slot"), (.builtin "proto.slot#set"), (I 4 0)], #[]⟩),
 (602, ⟨(.type "member_descriptor"), none, .fields #[(S "lower_name" 1085), (.ref 600), (.builtin "proto.slot"), (.builtin "proto.slot#set"), (I 3 0)], #[]⟩),
 (603, ⟨(.type "member_descriptor"), none, .fields #[(S "name" 1087), (.ref 600), (.builtin "proto.slot"), (.builtin "proto.slot#set"), (I 2 0)], #[]⟩),
 (606, ⟨(.type "tuple"), none, .seq #[(S "0" 1094), (S "1" 1095), (S "2" 1096), (S "3" 1097), (S "4" 1098), (S "5" 1099), (S "6" 1100), (S "7" 1101), (S "8" 1102), (S "9" 1103)] 0, #[]⟩),
 (612, ⟨(.type "code"), none, .fields #[(S "_number_end" 1105), (S "_number_end" 1106), (S "/claim/cut.py" 1107), (I 236 0), (I 2 0), (I 0 0), (I 0 0), (I 3 0), (.ref 607), (.bool true), (I 181 0), (.ref 608), .none, (.ref 609), (.ref 610), (.ref 611), (I 1114 0), (I 236 0), (S "/claim/cut.py" 1115)], #[]⟩),
 (613, fO (nS 28 pB) "_number_end" "_number_end" 3 .none .none .none (S "tinycss2.tokenizer" 1092) (.ref 612) .none 0),
 (619, ⟨(.type "code"), none, .fields #[(S "_hex_end" 1117), (S "_hex_end" 1118), (S "/claim/cut.py" 1119), (I 261 0), (I 2 0), (I 0 0), (I 0 0), (I 3 0), (.ref 614), (.bool true), (I 181 0), (.ref 615), .none, (.ref 616), (.ref 617), (.ref 618), (I 1123 0), (I 261 0), (S "/claim/cut.py" 1124)], #[]⟩),
 (620, fO (nS 29 pB) "_hex_end" "_hex_end" 3 .none .none .none (S "tinycss2.tokenizer" 1092) (.ref 619) .none 0),
 (621, ⟨(.type "tuple"), none, .seq #[(.bool false)] 0, #[]⟩),
 (627, ⟨(.type "code"), none, .fields #[(S "parse_component_value_list" 1126), (S "parse_component_value_list" 1127), (S "/claim/cut.py" 1128), (I 266 0), (I 2 0), (I 0 0), (I 0 0), (I 3 0), (.ref 622), (.bool true), (I 181 0), (.ref 623), .none, (.ref 624), (.ref 625), (.ref 626), (I 1158 0), (I 266 0), (S "/claim/cut.py" 1159)], #[]⟩),
 (628, fO (nS 30 pB) "parse_component_value_list" "parse_component_value_list" 3 (.ref 621) .none .none (S "tinycss2.tokenizer" 1092) (.ref 627) .none 0),
 (634, ⟨(.type "code"), none, .fields #[(S "_is_name_start" 1161), (S "_is_name_start" 1162), (S "/claim/cut.py" 1163), (I 424 0), (I 2 0), (I 0 0), (I 0 0), (I 3 0), (.ref 629), (.bool true), (I 181 0), (.ref 630), .none, (.ref 631), (.ref 632), (.ref 633), (I 1167 0), (I 424 0), (S "/claim/cut.py" 1168)], #[]⟩),
 (635, fO (nS 31 pB) "_is_name_start" "_is_name_start" 3 .none .none .none (S "tinycss2.tokenizer" 1092) (.ref 634) .none 0),
 (641, ⟨(.type "code"), none, .fields #[(S "_is_ident_start" 1170), (S "_is_ident_start" 1171), (S "/claim/cut.py" 1172), (I 427 0), (I 2 0), (I 0 0), (I 0 0), (I 3 0), (.ref 636), (.bool true), (I 181 0), (.ref 637), .none, (.ref 638), (.ref 639), (.ref 640), (I 1175 0), (I 427 0), (S "/claim/cut.py" 1176)], #[]⟩),
 (642, fO (nS 32 pB) "_is_ident_start" "_is_ident_start" 3 .none .none .none (S "tinycss2.tokenizer" 1092) (.ref 641) .none 0),
 (648, ⟨(.type "code"), none, .fields #[(S "_consume_ident" 1178), (S "_consume_ident" 1179), (S "/claim/cut.py" 1180), (I 436 0), (I 2 0), (I 0 0), (I 0 0), (I 3 0), (.ref 643), (.bool true), (I 181 0), (.ref 644), .none, (.ref 645), (.ref 646), (.ref 647), (I 1187 0), (I 436 0), (S "/claim/cut.py" 1188)], #[]⟩),
 (649, fO (nS 33 pB) "_consume_ident" "_consume_ident" 3 .none .none .none (S "tinycss2.tokenizer" 1092) (.ref 648) .none 0),
 (655, ⟨(.type "code"), none, .fields #[(S "_consume_quoted_string" 1190), (S "_consume_quoted_string" 1191), (S "/claim/cut.py" 1192), (I 453 0), (I 2 0), (I 0 0), (I 0 0), (I 3 0), (.ref 650), (.bool true), (I 181 0), (.ref 651), .none, (.ref 652), (.ref 653), (.ref 654), (I 1201 0), (I 453 0), (S "/claim/cut.py" 1202)], #[]⟩),
 (656, fO (nS 34 pB) "_consume_quoted_string" "_consume_quoted_string" 3 .none .none .none (S "tinycss2.tokenizer" 1092) (.ref 655) .none 0),
 (662, ⟨(.type "code"), none, .fields #[(S "_consume_escape" 1204), (S "_consume_escape" 1205), (S "/claim/cut.py" 1206), (I 485 0), (I 2 0), (I 0 0), (I 0 0), (I 3 0), (.ref 657), (.bool true), (I 181 0), (.ref 658), .none, (.ref 659), (.ref 660), (.ref 661), (I 1211 0), (I 485 0), (S "/claim/cut.py" 1212)], #[]⟩),
 (663, fO (nS 35 pB) "_consume_escape" "_consume_escape" 3 .none .none .none (S "tinycss2.tokenizer" 1092) (.ref 662) .none 0),
 (669, ⟨(.type "code"), none, .fields #[(S "_consume_url" 1214), (S "_consume_url" 1215), (S "/claim/cut.py" 1216), (I 494 0), (I 2 0), (I 0 0), (I 0 0), (I 3 0), (.ref 664), (.bool true), (I 181 0), (.ref 665), .none, (.ref 666), (.ref 667), (.ref 668), (I 1225 0), (I 494 0), (S "/claim/cut.py" 1226)], #[]⟩),
 (670, fO (nS 36 pB) "_consume_url" "_consume_url" 3 .none .none .none (S "tinycss2.tokenizer" 1092) (.ref 669) .none 0),
 (676, ⟨(.type "code"), none, .fields #[(S "_consume_unicode_range" 1228), (S "_consume_unicode_range" 1229), (S "/claim/cut.py" 1230), (I 553 0), (I 2 0), (I 0 0), (I 0 0), (I 3 0), (.ref 671), (.bool true), (I 181 0), (.ref 672), .none, (.ref 673), (.ref 674), (.ref 675), (I 1239 0), (I 553 0), (S "/claim/cut.py" 1240)], #[]⟩),
 (677, fO (nS 37 pB) "_consume_unicode_range" "_consume_unicode_range" 3 .none .none .none (S "tinycss2.tokenizer" 1092) (.ref 676) .none 0),
 (683, ⟨(.type "code"), none, .fields #[(S "_law_SIGNS" 1244), (S "_law_SIGNS" 1245), (S "/claim/cut.py" 1246), (I 578 0), (I 0 0), (I 0 0), (I 0 0), (I 3 0), (.ref 678), (.bool true), (I 181 0), (.ref 679), .none, (.ref 680), (.ref 681), (.ref 682), (I 1247 0), (I 578 0), (S "/claim/cut.py" 1248)], #[]⟩),
 (684, fO (nS 39 pB) "_law_SIGNS" "_law_SIGNS" 3 .none .none .none (S "law_te0060_01" 1242) (.ref 683) .none 0),
 (690, ⟨(.type "code"), none, .fields #[(S "_law_LOWER" 1250), (S "_law_LOWER" 1251), (S "/claim/cut.py" 1252), (I 580 0), (I 0 0), (I 0 0), (I 0 0), (I 3 0), (.ref 685), (.bool true), (I 181 0), (.ref 686), .none, (.ref 687), (.ref 688), (.ref 689), (I 1253 0), (I 580 0), (S "/claim/cut.py" 1254)], #[]⟩),
 (691, fO (nS 40 pB) "_law_LOWER" "_law_LOWER" 3 .none .none .none (S "law_te0060_01" 1242) (.ref 690) .none 0),
 (697, ⟨(.type "code"), none, .fields #[(S "_law_NUMBERS" 1256), (S "_law_NUMBERS" 1257), (S "/claim/cut.py" 1258), (I 582 0), (I 0 0), (I 0 0), (I 0 0), (I 3 0), (.ref 692), (.bool true), (I 181 0), (.ref 693), .none, (.ref 694), (.ref 695), (.ref 696), (I 1259 0), (I 582 0), (S "/claim/cut.py" 1260)], #[]⟩),
 (698, fO (nS 41 pB) "_law_NUMBERS" "_law_NUMBERS" 3 .none .none .none (S "law_te0060_01" 1242) (.ref 697) .none 0),
 (699, ⟨(.type "list"), none, .seq #[(S "" 1262), (S "," 1263), (S "/**/" 1264), (S "/*\n*/" 1265)] 0, #[]⟩),
 (705, ⟨(.type "code"), none, .fields #[(S "_law_BLANKS" 1267), (S "_law_BLANKS" 1268), (S "/claim/cut.py" 1269), (I 585 0), (I 0 0), (I 0 0), (I 0 0), (I 3 0), (.ref 700), (.bool true), (I 181 0), (.ref 701), .none, (.ref 702), (.ref 703), (.ref 704), (I 1270 0), (I 585 0), (S "/claim/cut.py" 1271)], #[]⟩),
 (706, fO (nS 43 pB) "_law_BLANKS" "_law_BLANKS" 3 .none .none .none (S "law_te0060_01" 1242) (.ref 705) .none 0),
 (712, ⟨(.type "code"), none, .fields #[(S "_law_letter" 1273), (S "_law_letter" 1274), (S "/claim/cut.py" 1275), (I 587 0), (I 1 0), (I 0 0), (I 0 0), (I 3 0), (.ref 707), (.bool true), (I 181 0), (.ref 708), .none, (.ref 709), (.ref 710), (.ref 711), (I 1277 0), (I 587 0), (S "/claim/cut.py" 1278)], #[]⟩),
 (713, fO (nS 44 pB) "_law_letter" "_law_letter" 3 .none .none .none (S "law_te0060_01" 1242) (.ref 712) .none 0),
 (719, ⟨(.type "code"), none, .fields #[(S "_law_spelled" 1280), (S "_law_spelled" 1281), (S "/claim/cut.py" 1282), (I 589 0), (I 3 0), (I 0 0), (I 0 0), (I 3 0), (.ref 714), (.bool true), (I 181 0), (.ref 715), .none, (.ref 716), (.ref 717), (.ref 718), (I 1288 0), (I 589 0), (S "/claim/cut.py" 1289)], #[]⟩),
 (720, fO (nS 45 pB) "_law_spelled" "_law_spelled" 3 .none .none .none (S "law_te0060_01" 1242) (.ref 719) .none 0),
 (726, ⟨(.type "code"), none, .fields #[(S "_law_identifier" 1291), (S "_law_identifier" 1292), (S "/claim/cut.py" 1293), (I 604 0), (I 1 0), (I 0 0), (I 0 0), (I 3 0), (.ref 721), (.bool true), (I 181 0), (.ref 722), .none, (.ref 723), (.ref 724), (.ref 725), (I 1295 0), (I 604 0), (S "/claim/cut.py" 1296)], #[]⟩),
 (727, fO (nS 46 pB) "_law_identifier" "_law_identifier" 3 .none .none .none (S "law_te0060_01" 1242) (.ref 726) .none 0),
 (733, ⟨(.type "code"), none, .fields #[(S "_law_moved" 1298), (S "_law_moved" 1299), (S "/claim/cut.py" 1300), (I 608 0), (I 2 0), (I 0 0), (I 0 0), (I 3 0), (.ref 728), (.bool true), (I 181 0), (.ref 729), .none, (.ref 730), (.ref 731), (.ref 732), (I 1306 0), (I 608 0), (S "/claim/cut.py" 1307)], #[]⟩),
 (734, fO (nS 47 pB) "_law_moved" "_law_moved" 3 .none .none .none (S "law_te0060_01" 1242) (.ref 733) .none 0),
 (740, ⟨(.type "code"), none, .fields #[(S "_law_mark" 1309), (S "_law_mark" 1310), (S "/claim/cut.py" 1311), (I 617 0), (I 1 0), (I 0 0), (I 0 0), (I 3 0), (.ref 735), (.bool true), (I 181 0), (.ref 736), .none, (.ref 737), (.ref 738), (.ref 739), (I 1313 0), (I 617 0), (S "/claim/cut.py" 1314)], #[]⟩),
 (741, fO (nS 48 pB) "_law_mark" "_law_mark" 3 .none .none .none (S "law_te0060_01" 1242) (.ref 740) .none 0),
 (747, ⟨(.type "code"), none, .fields #[(S "_law_told" 1316), (S "_law_told" 1317), (S "/claim/cut.py" 1318), (I 619 0), (I 1 0), (I 0 0), (I 0 0), (I 3 0), (.ref 742), (.bool true), (I 181 0), (.ref 743), .none, (.ref 744), (.ref 745), (.ref 746), (I 1324 0), (I 619 0), (S "/claim/cut.py" 1325)], #[]⟩),
 (748, fO (nS 49 pB) "_law_told" "_law_told" 3 .none .none .none (S "law_te0060_01" 1242) (.ref 747) .none 0),
 (752, ⟨(.type "code"), none, .fields #[(S "law" 1327), (S "law" 1328), (S "/claim/cut.py" 1329), (I 637 0), (I 1 0), (I 0 0), (I 0 0), (I 3 0), (.ref 749), (.bool true), (I 181 0), (.ref 750), .none, .none, .none, (.ref 751), (I 1330 0), (I 637 0), (S "/claim/cut.py" 1331)], #[]⟩),
 (753, fO (nS 50 pB) "law" "law" 3 .none .none .none (S "law_te0060_01" 1242) (.ref 752) .none 0)]
noncomputable def hkA : List Addr := [2, 3, 20, 21, 25, 26, 27, 33, 34, 40, 41, 55, 56, 62, 63, 69, 70, 73, 74, 75, 76, 92, 93, 99, 100, 103, 104, 105, 106, 122, 123, 129, 130, 133, 134, 135, 151, 152, 158, 159, 162, 163, 164, 180, 181, 187, 188, 194, 195, 201, 202, 205, 206, 207, 223, 224, 230, 231, 234, 235, 236, 237, 253, 254, 260, 261, 264, 265, 266, 267, 283, 284, 290, 291, 294, 295, 296, 297, 313, 314, 320, 321, 324, 325, 326, 327, 343, 344, 350, 351, 354, 355, 356, 357, 373, 374, 380, 381, 384, 385, 386, 387, 403, 404, 410, 411, 414, 415, 416, 417, 418, 419, 435, 436, 442, 443, 446, 447, 448, 449, 450, 451, 467, 468, 474, 475, 478, 479, 480, 481, 482, 483, 484, 485, 501, 502, 508, 509, 512, 513, 514, 530, 531, 537, 538, 541, 542, 543, 559, 560, 566, 567, 570, 571, 572, 588, 589, 595, 596, 599, 600, 601, 602, 603, 606, 612, 613, 619, 620, 621, 627, 628, 634, 635, 641, 642, 648, 649, 655, 656, 662, 663, 669, 670, 676, 677, 683, 684, 690, 691, 697, 698, 699, 705, 706, 712, 713, 719, 720, 726, 727, 733, 734, 740, 741, 747, 748, 752, 753]
theorem zdW (P : Params) : hkA = (HK P).map (·.1) := by kernel_rfl
noncomputable def mkT (l : List Obj) : BT := (l.foldl (fun (p : BT × Nat) o => (p.1.ins p.2 o, p.2 + 1)) (.nil, 0)).1
noncomputable def trA (P : Params) : BT := mkT [boot_o_0 P, boot_o_1 P, boot_o_2 P, boot_o_3 P, boot_o_4 P, boot_o_5 P, boot_o_6 P, boot_o_7 P, boot_o_8 P, boot_o_9 P, boot_o_10 P, ⟨(.type "tuple"), none, .seq #[] 0, #[]⟩, ⟨.none, none, .fields #[], #[]⟩, ⟨(.type "code"), none, .fields #[(S "<module>" 182), (S "<module>" 183), (S "/claim/cut.py" 184), (I 1 0), (I 0 0), (I 0 0), (I 0 0), (I 0 0), (.ref 11), (.bool false), (I 181 0), (.ref 12), .none, .none, .none, .none, (I 185 0), (I 1 0), (S "/claim/cut.py" 186)], #[]⟩, ⟨(.type "frame"), none, .plain, #[some (.ref 13), some (.ref 3), some (.ref 3), none, some (S "__main__" 164), none, some (.ref 0)]⟩]
noncomputable def trM (P : Params) : BT := mkT [boot_o_0 P, boot_o_1 P, boot_o_2 P, ⟨(.type "dict"), none, .dict #[D P "__name__" 165 (S "tinycss2.serializer" 202), D P "__doc__" 166 .none, D P "__package__" 167 .none, D P "__loader__" 168 (.builtin "__main__.__loader__#opaque"), D P "__spec__" 169 .none, D P "__annotations__" 170 (.ref 6), D P "__builtins__" 171 (.ref 4), D P "__file__" 173 (S "/claim/cut.py" 172), D P "__cached__" 174 .none, D P "_wall" 193 (.ref 21), D P "ascii_lower" 201 (.ref 26), D P "_replacement_string_value" 219 (.ref 27)] 12, #[]⟩, boot_o_4 P, boot_o_5 P, boot_o_6 P, boot_o_7 P, boot_o_8 P, boot_o_9 P, boot_o_10 P, ⟨(.type "tuple"), none, .seq #[] 0, #[]⟩, ⟨.none, none, .fields #[(I 1 0), (I 0 0), (.ref 20), (I 5 0), (I 0 0), (.ref 25)], #[]⟩, ⟨(.type "code"), none, .fields #[(S "<module>" 182), (S "<module>" 183), (S "/claim/cut.py" 184), (I 1 0), (I 0 0), (I 0 0), (I 0 0), (I 0 0), (.ref 11), (.bool false), (I 181 0), (.ref 12), .none, .none, .none, .none, (I 185 0), (I 1 0), (S "/claim/cut.py" 186)], #[]⟩, ⟨(.type "frame"), none, .plain, #[some (.ref 13), some (.ref 3), some (.ref 3), none, some (S "__main__" 164), none, some (.ref 0)]⟩, ⟨(.type "tuple"), none, .seq #[] 0, #[]⟩, ⟨.none, none, .fields #[], #[]⟩, ⟨(.type "tuple"), none, .seq #[(S "k" 190)] 0, #[]⟩, ⟨(.type "tuple"), none, .seq #[] 0, #[]⟩, kO (nS 0 pB) "_wall" "_wall" 0 .none .none .none .none .none .none 0, ⟨(.type "code"), none, .fields #[(S "_wall" 187), (S "_wall" 188), (S "/claim/cut.py" 189), (I 1 0), (I 1 0), (I 0 0), (I 0 0), (I 3 0), (.ref 15), (.bool true), (I 181 0), (.ref 16), .none, (.ref 17), (.ref 18), (.ref 19), (I 191 0), (I 1 0), (S "/claim/cut.py" 192)], #[]⟩, fO (nS 0 pB) "_wall" "_wall" 3 .none .none .none (S "__main__" 164) (.ref 20) .none 0, ⟨(.type "tuple"), none, .seq #[] 0, #[]⟩, ⟨.none, none, .fields #[], #[]⟩, kO (nS 2 pB) "ascii_lower" "ascii_lower" 0 .none .none .none .none .none .none 0, ⟨(.type "code"), none, .fields #[(S "ascii_lower" 196), (S "ascii_lower" 197), (S "/claim/cut.py" 198), (I 5 0), (I 1 0), (I 0 0), (I 0 0), (I 3 0), (.ref 22), (.bool true), (I 181 0), (.ref 23), .none, .none, .none, (.ref 24), (I 199 0), (I 5 0), (S "/claim/cut.py" 200)], #[]⟩, fO (nS 2 pB) "ascii_lower" "ascii_lower" 3 .none .none .none (S "tinycss2.ast" 194) (.ref 25) .none 0, ⟨(.type "dict"), none, .dict #[D P "\"" 204 (S "\\\"" 205), D P "\\" 206 (S "\\\\" 207), D P "\n" 208 (S "\\A " 209), D P "\x0d" 210 (S "\\D " 211), D P "\x0c" 212 (S "\\C " 213)] 5, #[]⟩]
noncomputable def zer : Env := { scope := pw.main.scope, locals := mainNs, globals := mainNs, cells := [], code := (.ref 13), frame := some 14 }
noncomputable def cE : Code := .body (behindTheImports pw) zer
noncomputable def p0 : Pos := default
noncomputable def sA (w : World) (os : OsState) : SharedT := ⟨trA w.params, 15, {}, #[], {}, 187, os⟩
noncomputable def sM (w : World) (os : OsState) : SharedT := ⟨trM w.params, 28, {}, #[], {}, 220, os⟩
noncomputable def pM : Pos := ⟨8, 0, 8, 25⟩
noncomputable abbrev st1 : List Stmt := (behindTheImports pw).take 5
noncomputable abbrev st2 : List Stmt := (behindTheImports pw).drop 5
noncomputable abbrev tb := treeTable
theorem zcX {p : Program} {w : World} {n₀ : Nat} {ann : Option Value} {c : Code} {ps : Pos} {env : Env} {s : Shared} : topRun treeTable p w n₀ ann 2 s (restOf [] env c ps [topFrame p0]) = some s := by
 rfl
theorem zcK {p q : Program} {loose : List Str} {Xt : Shared -> Bool} {α : Type} {Yf : Shared -> α} {Ya : World -> α} {N : Nat} {g0 : Bool} {H₀ : Params -> Heap} {gs₀ : Array GenState} {d₀ : Drawn} {k₀ : Nat} {m₀ : Nat} {ann : Option Value} {M : Nat}
  (open_ : ∀ w : World, (fencedOpening treeTable p w N).map (fun s => (s.heap, s.gens, s.drawn, s.toks)) = some (H₀ w.params, gs₀, d₀, k₀))
  (size : ∀ w : World, ((H₀ w.params).isNs mainGlobals && gs₀.size == 0, (H₀ w.params).objs.size, (H₀ w.params).nsMap mainGlobals "__annotations__") = (true, m₀, ann))
  (run : ∀ (w : World) (os : OsState), ∃ s, topRun treeTable p w m₀ ann M ⟨H₀ w.params, gs₀, d₀, k₀, os⟩ (topStub p) = some s /\
   ((staticsOk (importedModules p.main.body) (H₀ w.params) s.heap && namesBound p s.heap && gensDone s && laidKept (H₀ w.params) s.heap), openSeen q loose (importedModules p.main.body) Xt g0 s, Yf s) = (true, openGood q loose, Ya w)) (le : Nat.ble M N = true) : LeftO p q loose Xt Yf Ya N g0 := fun w => by
 obtain ⟨⟨h, gs, d, k, os⟩, e, e'⟩ := Option.map_eq_some_iff.mp (open_ w)
 obtain ⟨rfl, rfl, rfl, rfl⟩ : h = H₀ w.params /\ gs = gs₀ /\ d = d₀ /\ k = k₀ := by simpa using e'
 obtain ⟨z1, z2, z3⟩ : _ /\ _ /\ _ := by simpa only [Prod.mk.injEq] using size w
 obtain ⟨s, r, l⟩ := run w os
 obtain ⟨l1, l2, l3⟩ : _ /\ _ /\ _ := by simpa only [Prod.mk.injEq] using l
 have r := topRun_mono (N - M) _ _ _ _ r
 rw [show M + (N - M) = N by have := Nat.le_of_ble_eq_true le; omega] at r
 have t : topFrom treeTable p w N ⟨H₀ w.params, gs, d, k, os⟩ = some s := by
  unfold topFrom
  dsimp only
  rw [z1, z2, z3, r]
  show (match staticsOk (importedModules p.main.body) (H₀ w.params) s.heap && namesBound p s.heap && gensDone s && laidKept (H₀ w.params) s.heap with | true => _ | false => _) = _
  rw [l1]
 unfold openEnds
 rw [e]
 show (topFrom treeTable p w N _).map _ = _
 rw [t]
 exact congrArg some (Prod.ext l2 l3)
noncomputable def zdv : Option Value := some (.ref 6)
noncomputable abbrev qL : Program := view pw [50]
noncomputable def Yf0 (s : Shared) : List (Option Obj) := hkA.map s.heap.get?
noncomputable def Ya0 (w : World) : List (Option Obj) := (HK w.params).map fun p => some p.2
noncomputable def oT : List Str := ["_wall", "ascii_lower", "_replacement_string_value", "serialize_string_value", "serialize_url", "Node", "ParseError", "Comment", "WhitespaceToken", "LiteralToken", "IdentToken", "AtKeywordToken", "HashToken", "StringToken", "URLToken", "UnicodeRangeToken", "NumberToken", "PercentageToken", "DimensionToken", "ParenthesesBlock", "SquareBracketsBlock", "CurlyBracketsBlock", "FunctionBlock", "_DIGITS", "_number_end", "_hex_end", "parse_component_value_list", "_is_name_start", "_is_ident_start", "_consume_ident", "_consume_quoted_string", "_consume_escape", "_consume_url", "_consume_unicode_range", "_law_SIGNS", "_law_LOWER", "_law_NUMBERS", "_law_GAPS", "_law_BLANKS", "_law_letter", "_law_spelled", "_law_identifier", "_law_moved", "_law_mark", "_law_told"].map Str.ofString
noncomputable def Xt0 (s : Shared) : Bool := recOk (RowW.records (OpenRow.toRowW rwL.row)) s
theorem zeD (N : Nat) (h : Nat.ble 600 N = true) : ∀ w : World, (fencedOpening treeTable pw w N).map (fun s => (s.heap, s.gens, s.drawn, s.toks)) = some (boot_heap w.params, #[], boot_drawn, boot_toks) :=
 boot_open (by kernel_rfl) h (fun s => by rfl)
theorem zeA (w : World) : ((boot_heap w.params).isNs mainGlobals && (#[] : Array GenState).size == 0, (boot_heap w.params).objs.size, (boot_heap w.params).nsMap mainGlobals "__annotations__") = (true, 11, zdv) := by kernel_rfl
theorem pre0 (w : World) (os : OsState) : topGo treeTable pw w 11 zdv 12 ⟨boot_heap w.params, #[], boot_drawn, boot_toks, os⟩ (topStub pw) = some ((sA w os).abs, ⟨denote treeTable cE, cE, p0, [topFrame p0]⟩) := by
 rw [PySem.W.Fast.te15667345088766844465, PySem.W.Fast.te14364793385576792824, PySem.W.Fast.te11892475500146522536]
 kernel_rfl
theorem zef (w : World) (os : OsState) : segRun treeTable pw w 11 zdv 1 1 (sA w os).abs (blockOf (behindTheImports pw) zer cE p0 [topFrame p0]) = some (.next, (sA w os).abs, cE, p0) := by
 rw [PySem.W.Fast.te14374325043358763698, PySem.W.Fast.te14364793385576792824]
 kernel_rfl
theorem zd0 (w : World) (os : OsState) : segRunT treeTable pw w 11 zdv 1 159 (sA w os) (piecesOf st1 zer cE p0 [topFrame p0]) = some (.next, sM w os, cE, pM) := by
 rw [PySem.W.Fast.te10110043849684766642, PySem.W.Fast.te14364793385576792824]
 revert w
 refine byRow2 "special-get-raises" (fun w => ?_) (fun w => ?_) <;> kernel_rfl
noncomputable def zeE (w : World) (s : Shared) := ((staticsOk (importedModules pw.main.body) (boot_heap w.params) s.heap && namesBound pw s.heap && gensDone s && laidKept (boot_heap w.params) s.heap), openSeen qL oT (importedModules pw.main.body) Xt0 true s, Yf0 s)
theorem zeJ (w : World) (os : OsState) : (segRunT treeTable pw w 11 zdv 1 6963 (sM w os) (piecesOf st2 zer cE pM [topFrame p0])).map (fun r => (r.1, r.2.2.1, zeE w r.2.1.abs)) = some (.next, cE, true, openGood qL oT, Ya0 w) := by
 unfold zeE
 rw [PySem.W.Fast.te10110043849684766642, PySem.W.Fast.te14364793385576792824, PySem.W.Fast.te4187177175401517315]
 kernel_rfl
theorem zdH : behindTheImports pw = st1 ++ (st2 ++ []) := by rw [List.append_nil]; exact (List.take_append_drop _ _).symm
theorem run0 (w : World) (os : OsState) : ∃ s, topRun treeTable pw w 11 zdv (12 + (1 + (159 + (6963 + 2)))) ⟨boot_heap w.params, #[], boot_drawn, boot_toks, os⟩ (topStub pw) = some s /\ zeE w s = (true, openGood qL oT, Ya0 w) := by
 obtain ⟨⟨f, s', c, p⟩, e, e'⟩ := Option.map_eq_some_iff.mp (zeJ w os)
 obtain ⟨rfl, e'⟩ := Prod.mk.inj e'
 obtain ⟨h1, h2⟩ := Prod.mk.inj e'
 dsimp only at h1 h2
 subst h1
 refine ⟨s'.abs, go_top (pre0 w os) (piece_block (zef w os) ?_), h2⟩
 rw [zdH]
 exact piece_app (segRun_of (zd0 w os)) (piece_app (segRun_of e) zcX)
theorem zeI : LeftO (OpenRow.toRowW rwL.row).prog qL oT Xt0 Yf0 Ya0 8000 :=
 zcK (p := pw) (zeD 8000 (by decide +kernel)) zeA run0 (by decide +kernel)
noncomputable def zdS : Stmt -> DefRec
 | .FunctionDef n a b _ _ _ s _ _ p => ⟨n, a, b, s, p⟩
 | _ => ⟨Z "", ⟨[], [], none, [], [], none, []⟩, [], ⟨.function, [], false, false, []⟩, default⟩
noncomputable def dL : DefRec := zdS (nS 50 pB)
theorem hd (call : WalkO qL oT (fun _ _ => True) (fun w h => (HK w.params).In h) (OpenRow.toRowW rwL.row) dL [] fun f vs => PySem.call f vs) : rwL.Holds :=
 holds_law (by rw [PySem.W.Fast.te9446332074065402090]; kernel_rfl) fun said => holds_open (hRf := fun s e => recFacts_of e) zeI (fun w s e => Frag.in_of (zdW _) e) (fun w h h' x k => x.keeps k) (fun _ _ => trivial) (fun _ _ _ _ _ => trivial)
  (by kernel_rfl) (by kernel_rfl) (by kernel_rfl) (by rfl) said (by kernel_rfl) ⟨rfl, rfl, rfl, rfl, rfl, by decide +kernel⟩ ⟨[.list [.int 3, .int 1]], by kernel_rfl, by kernel_rfl⟩ call
end MH
end
section
open PySem PySem.W PyProof.Rows
set_option Elab.async false
set_option maxRecDepth 100000
set_option maxHeartbeats 4000000
set_option linter.unusedSimpArgs false
set_option linter.unusedVariables false
namespace Mine
noncomputable def HMb (mb : Str -> Option Value) : Prop := ∀ x : Str, x ≠ Str.ofString "__name__" -> mb x = bootBuiltins x
variable {prog : Program} {w : World} {h : Heap} {mb : Str -> Option Value}
noncomputable def HK (p : Params) : Frag := MH.HK p
noncomputable def alphaL : List Nat := [48, 49, 50, 51, 52, 53, 54, 55, 56, 57, 65, 66, 67, 68, 69, 70, 97, 98, 99, 100, 101, 102, 90, 95, 233, 20013, 128512, 43, 45, 46, 32, 10, 9, 40, 41, 44, 47, 42, 64, 35, 92, 34, 1, 58]
noncomputable def fL (c : Nat) : Bool := alphaL.contains c
noncomputable abbrev Al (x : List Nat) : Prop := ∀ c ∈ x, fL c = true
theorem zK {P : Nat -> Bool} (h : alphaL.all P = true) {c : Nat} (hc : fL c = true) : P c = true := List.all_eq_true.mp h c (by simpa [fL] using hc)
theorem dY {f g : Nat -> Bool} (h : (alphaL.all fun c => f c == g c) = true) {c : Nat} (hc : fL c = true) : f c = g c := beq_iff_eq.mp (zK (P := fun c => f c == g c) h hc)
theorem Al.get {x : List Nat} (h : Al x) {i : Nat} (hi : i < x.length) : fL x[i] = true := h _ (List.getElem_mem hi)
theorem Al.drop {x : List Nat} (h : Al x) (n : Nat) : Al (x.drop n) := fun c hc => h c (List.mem_of_mem_drop hc)
theorem Al.at {x : List Nat} (h : Al x) {i c : Nat} (hi : x[i]? = some c) : fL c = true := h c (List.mem_of_getElem? hi)
noncomputable def tab {α : Type} : List (String × α) -> Str -> Option α
 | [], _ => none
 | (a, x) :: r, s => if s = Str.ofString a then some x else tab r s
theorem zab {α : Type} (a : String) (x : α) (r : List (String × α)) (b : String) : tab ((a, x) :: r) (Str.ofString b) = if b = a then some x else tab r (Str.ofString b) := by
 show (if Str.ofString b = Str.ofString a then some x else tab r (Str.ofString b)) = _
 simp only [sEq]
theorem fP {α : Type} : ∀ {l : List (String × α)} {s : Str} {x : α}, tab l s = some x -> ∃ a, s = Str.ofString a /\ (a, x) ∈ l
 | [], s, x, h => by cases h
 | (a, y) :: r, s, x, h => by
  unfold tab at h
  split at h
  ·rename_i e; cases h; exact ⟨a, e, by simp⟩
  ·obtain ⟨b, h1, h2⟩ := fP h; exact ⟨b, h1, List.mem_cons_of_mem _ h2⟩
noncomputable def slotsOf : List (Nat × List String) := [
 (74, ["source_column", "source_line"]), (104, ["kind", "message", "source_column", "source_line"]), (134, ["value", "source_column", "source_line"]),
 (163, ["value", "source_column", "source_line"]), (206, ["value", "source_column", "source_line"]), (235, ["lower_value", "value", "source_column", "source_line"]),
 (265, ["lower_value", "value", "source_column", "source_line"]), (295, ["is_identifier", "value", "source_column", "source_line"]),
 (325, ["representation", "value", "source_column", "source_line"]), (355, ["representation", "value", "source_column", "source_line"]), (385, ["end", "start", "source_column", "source_line"]),
 (415, ["int_value", "is_integer", "representation", "value", "source_column", "source_line"]), (447, ["int_value", "is_integer", "representation", "value", "source_column", "source_line"]),
 (479, ["int_value", "is_integer", "lower_unit", "representation", "unit", "value", "source_column", "source_line"]), (513, ["content", "source_column", "source_line"]),
 (542, ["content", "source_column", "source_line"]), (571, ["content", "source_column", "source_line"]), (600, ["arguments", "lower_name", "name", "source_column", "source_line"])]
noncomputable def typesOf : List (Nat × String) := [(104, "error"), (134, "comment"), (163, "whitespace"), (206, "literal"), (235, "ident"), (265, "at-keyword"), (295, "hash"), (325, "string"), (355, "url"), (385, "unicode-range"),
 (415, "number"), (447, "percentage"), (479, "dimension"), (513, "() block"), (542, "[] block"), (571, "{} block"), (600, "function")]
noncomputable def zc9 (l : List String) : List (String × Nat) := l.zipIdx
noncomputable def sgP (s : String) : PV := .str (Str.ofString s).cps.toList
noncomputable def i6 : PV := .tup (["0", "1", "2", "3", "4", "5", "6", "7", "8", "9"].map sgP)
noncomputable def k8 : List (String × Unit) := ["len", "ord", "chr", "int", "sum", "range"].map fun s => (s, ())
noncomputable def mkC (fns clss : List (String × Fn)) (ini : Bool) (vals : List (String × PV)) (ls : List Nat) : Ctx where
 val := tab vals
 fn := tab fns
 bi := fun s => (tab k8 s).isSome
 slot := fun c s => (slotsOf.lookup c).bind fun l => tab (zc9 l) s
 cval := fun c s => if s = Str.ofString "type" then (typesOf.lookup c).map sgP else none
 mutL := fun n => ls.contains n
 cls := tab clss
 ini := ini
theorem bV {fns clss : List (String × Fn)} {ini : Bool} {vals : List (String × PV)} {ls : List Nat} (h1 : ∀ e ∈ fns, aX e.2) (h2 : ∀ e ∈ clss, aX e.2) : CtxMono (mkC fns clss ini vals ls) :=
 ⟨fun x F h => by obtain ⟨a, _, h⟩ := fP h; exact h1 _ h, fun x F h => by obtain ⟨a, _, h⟩ := fP h; exact h2 _ h⟩
structure World0 (prog : Program) (w : World) (B : Bs) : Prop where
 ok : BsOk B
 k : B.K = HK w.params
 mg : ∀ x, B.mg x = (match (HK w.params).lookup 3 with
  | some ⟨_, _, .dict es _, _⟩ => nsFind es x
  | _ => none)
 mb : ∀ x : Str, x ≠ Str.ofString "__name__" -> B.mb x = bootBuiltins x
noncomputable def qK (K : Frag) (c : Nat) (name : Str) (i : Nat) : Bool :=
 findIn K (.ref c) "__getattribute__" == some (some (.builtin "object.__getattribute__")) && findIn K (.ref c) "__getattr__" == some none && findIn K (.ref c) "__setattr__" == some (some (.builtin "object.__setattr__")) && plainOver K c && decide (i < 1000) &&
 match findObj K c (some gP) name with
  | some (.bind (.builtin g) (.ref p)) => g == "member_descriptor.__get__" && slotIn K p c == some i && takerIn K c name == some (some (.ref p)) && typeIn K (.ref p) == some (.type "member_descriptor")
  | _ => false
theorem zav {K : Frag} {c : Nat} {name : Str} {i : Nat} (h : qK K c name i = true) : zb9 K c name i := by
 unfold qK at h
 simp only [Bool.and_eq_true, beq_iff_eq, decide_eq_true_eq] at h
 obtain ⟨⟨⟨⟨⟨h1, h2⟩, h3⟩, h4⟩, h5⟩, h6⟩ := h
 split at h6
 ·rename_i g p e
  simp only [Bool.and_eq_true, beq_iff_eq] at h6
  obtain ⟨⟨⟨rfl, h7⟩, h8⟩, h9⟩ := h6
  exact ⟨h1, h2, p, e, h7, h3, h4, h8, h9, h5⟩
 ·cases h6
noncomputable def y5 (K : Frag) (c : Nat) (x : String) : Bool :=
 findIn K (.ref c) "__getattribute__" == some (some (.builtin "object.__getattribute__")) && match findObj K c (some gP) (Str.ofString "type") with
  | some (.value (.str s _)) => s == Str.ofString x
  | _ => false
set_option maxRecDepth 1000000 in
theorem w3 (p : Params) : (slotsOf.all fun e => (zc9 e.2).all fun f => qK (HK p) e.1 (Str.ofString f.1) f.2) = true := by kernel_rfl
theorem y4 (p : Params) : (typesOf.all fun e => y5 (HK p) e.1 e.2) = true := by kernel_rfl
noncomputable def mgK (p : Params) : Str -> Option Value := fun x => match (HK p).lookup 3 with
 | some ⟨_, _, .dict es _, _⟩ => nsFind es x
 | _ => none
noncomputable def sH (K : Frag) (a : Addr) : Bool := match K.lookup a with
 | some ⟨_, _, .dict es _, _⟩ => es.toList.all fun e => match e.key with
  | .str _ _ => true
  | _ => false
 | _ => false
theorem zeF {K : Frag} {h : Heap} {a : Addr} (X : K.In h) (e : sH K a = true) : h.Ns a (fun x => match K.lookup a with
  | some ⟨_, _, .dict es _, _⟩ => nsFind es x
  | _ => none) := by
 unfold sH at e
 split at e
 ·rename_i c d es n sl ho
  refine ⟨_, es, n, X _ _ ho, rfl, fun en hen => ?_, fun name => rfl⟩
  have := List.all_eq_true.mp e en (Array.mem_toList_iff.mpr hen)
  split at this
  ·rename_i x t q; exact ⟨x, t, q⟩
  ·cases this
 ·cases e
noncomputable def bs (p : Params) (h : Heap) (mb : Str -> Option Value) : Bs := ⟨HK p, h, mgK p, mb⟩
theorem zeW {p : Params} {h : Heap} {mb : Str -> Option Value} (X : (HK p).In h) (hb : h.Ns builtinsNs mb) (hl : h.NoLimit) : BsOk (bs p h mb) :=
 ⟨X, zeF X (by kernel_rfl), hb, hl⟩
noncomputable def tE (K : Frag) (a : Addr) : Bool := match zbi K a with
 | some fd => (match fd.body with
  | .stmts _ => true
  | _ => false) && fd.closure.isEmpty && (fd.globals == mainGlobals) && (fd.builtins == builtinsNs) && codeIn K fd.code fd.qualname && !fd.scope.isCoroutine && !fd.scope.isGenerator && (fd.scope.kind == .function) && fd.scope.names.all (fun n => !(n.2 == .free))
 | none => false
theorem pA {K : Frag} {a : Addr} (h : tE K a = true) : ∃ fd, FunAt K a fd (aQ K a) /\ zbi K a = some fd /\ fd.scope.names = aN K a := by
 unfold tE at h
 split at h
 ·rename_i fd e
  simp only [Bool.and_eq_true, beq_iff_eq, Bool.not_eq_true'] at h
  obtain ⟨⟨⟨⟨⟨⟨⟨⟨h1, h2⟩, h3⟩, h4⟩, h5⟩, h6⟩, h7⟩, h8⟩, h9⟩ := h
  refine ⟨fd, ⟨?_, ?_, by simpa using h2, h3, h4, h5, h6, h7, h8, h9⟩, e, by unfold aN; rw [e]⟩
  ·unfold zbi at e
   split at e
   ·rename_i c d fd' sl q; cases e; exact ⟨c, d, sl, q⟩
   ·cases e
  ·unfold aQ
   rw [e]
   dsimp only
   split at h1
   ·rename_i b q; rw [q]
   ·cases h1
 ·cases h
theorem zdk : ∀ e ∈ k8, bootBuiltins (Str.ofString e.1) = some (i9 (Str.ofString e.1)) /\ Str.ofString e.1 ≠ Str.ofString "__name__" := by
 intro e he
 simp only [k8, List.map_cons, List.map_nil, List.mem_cons, List.not_mem_nil, or_false] at he
 rcases he with rfl | rfl | rfl | rfl | rfl | rfl <;> exact ⟨by kernel_rfl, by rw [Ne, sEq]; decide⟩
theorem eC {n : Nat} {fns clss : List (String × Fn)} {ini : Bool} {vals : List (String × PV)} {ls : List Nat} (hmb : HMb mb)
  (m1 : ∀ e ∈ fns, aX e.2) (m2 : ∀ e ∈ clss, aX e.2)
  (hv : ∀ e ∈ vals, ∃ u, mgK w.params (Str.ofString e.1) = some u /\ VRel w.params (fun a => h.get? a) u e.2)
  (h1 : ∀ e ∈ fns, ∃ u, mgK w.params (Str.ofString e.1) = some u /\ Meets prog w (bs w.params h mb) n u e.2)
  (h2 : ∀ e ∈ clss, ∃ u, mgK w.params (Str.ofString e.1) = some u /\ Meets prog w (bs w.params h mb) n u e.2)
  (hi : ini = true -> tZ prog w (bs w.params h mb) (mkC fns clss ini vals ls) n) : CtxOk prog w (bs w.params h mb) (mkC fns clss ini vals ls) n where
 mono := bV m1 m2
 val := fun x v e => by obtain ⟨a, rfl, q⟩ := fP e; exact hv _ q
 fn := fun x v e => by obtain ⟨a, rfl, q⟩ := fP e; exact h1 _ q
 cls := fun x v e => by obtain ⟨a, rfl, q⟩ := fP e; exact h2 _ q
 bi := fun x e => by
  obtain ⟨u, hu⟩ := Option.isSome_iff_exists.mp (show (tab k8 x).isSome = true from e)
  obtain ⟨a, rfl, q⟩ := fP hu
  obtain ⟨b1, b2⟩ := zdk _ q
  refine ⟨?_, (hmb _ b2).trans b1⟩
  show mgK w.params _ = none
  simp only [k8, List.map_cons, List.map_nil, List.mem_cons, List.not_mem_nil, or_false, Prod.mk.injEq, and_true] at q
  rcases q with rfl | rfl | rfl | rfl | rfl | rfl <;> kernel_rfl
 slot := fun c x i e => by
  have e : (slotsOf.lookup c).bind (fun l => tab (zc9 l) x) = some i := e
  obtain ⟨l, e1, e2⟩ := Option.bind_eq_some_iff.mp e
  obtain ⟨a, rfl, q⟩ := fP e2
  have hm : (c, l) ∈ slotsOf := by
   clear e e2 q
   revert e1
   generalize slotsOf = L
   intro e1
   induction L with
   | nil => cases e1
   | cons y r ih =>
    rw [List.lookup_cons] at e1
    split at e1
    ·rename_i hh; cases e1; have := beq_iff_eq.mp hh; subst this; simp
    ·exact List.mem_cons_of_mem _ (ih e1)
  exact zav (List.all_eq_true.mp (List.all_eq_true.mp (w3 w.params) _ hm) _ q)
 cval := fun c x v e => by
  have e : (if x = Str.ofString "type" then (typesOf.lookup c).map sgP else none) = some v := e
  split at e
  ·rename_i hx; subst hx
   obtain ⟨l, e1, rfl⟩ := Option.map_eq_some_iff.mp e
   have hm : (c, l) ∈ typesOf := by
    clear e
    revert e1
    generalize typesOf = L
    intro e1
    induction L with
    | nil => cases e1
    | cons y r ih =>
     rw [List.lookup_cons] at e1
     split at e1
     ·rename_i hh; cases e1; have := beq_iff_eq.mp hh; subst this; simp
     ·exact List.mem_cons_of_mem _ (ih e1)
   have hc := List.all_eq_true.mp (y4 w.params) _ hm
   unfold y5 at hc
   simp only [Bool.and_eq_true, beq_iff_eq] at hc
   obtain ⟨c1, c2⟩ := hc
   split at c2
   ·rename_i s t q
    have := beq_iff_eq.mp c2; subst this
    refine ⟨c1, _, q, rfl, ?_⟩
    simp only [sgP, VRel]
    refine ⟨t, by simp, ?_⟩
    have : (typesOf.all fun e => (Str.ofString e.2).cps.toList.all (· < 1114112) && decide ((Str.ofString e.2).cps.toList.length <= 1000)) = true := by decide +kernel
    have := List.all_eq_true.mp this _ hm
    simp only [Bool.and_eq_true, List.all_eq_true, decide_eq_true_eq] at this
    exact ⟨this.1, by unfold aP; omega⟩
   ·cases c2
  ·cases e
 ini := hi
theorem bB {n k : Nat} {C : Ctx} {a : Addr} {params : List String} {dv : List Value} {dp : List PV} {F : Fn} (hB : BsOk (bs w.params h mb)) (hC : CtxOk prog w (bs w.params h mb) C n)
  (hf : tE (HK w.params) a = true) (hok : nY (aQ (HK w.params) a) = true)
  (hpar : (params.all fun x => (aN (HK w.params) a).lookup (Str.ofString x) == some .local || (aN (HK w.params) a).lookup (Str.ofString x) == some .cell) = true)
  (hlen : params.length = k + dp.length) (hd : ∀ G, VRels w.params G dv dp)
  (hbind : ∀ S vals, vals.length = k -> (zbi (HK w.params) a).map (fun fd => peek (HK w.params) S (bindArgs fd ⟨vals, []⟩)) = some (some ((params.map Str.ofString).zip (vals ++ dv))))
  (hF : ∀ ps K, F ps K -> ps.length = k /\ wSs C (cS (aN (HK w.params) a)) (aQ (HK w.params) a) (lW K) ⟨bG ((params.map Str.ofString).zip (ps ++ dp)) fun _ => none, fun _ => none⟩) :
  Meets prog w (bs w.params h mb) (n + 1) (.ref a) F := by
 obtain ⟨fd, h1, h2, h3⟩ := pA hf
 refine (yO (C := C) (params := params.map Str.ofString) (k := k) (dv := dv) (dp := dp) hB hC h1 hok (fun x hx => ?_) (by simpa using hlen) hd (fun s vals X hl => ?_)).weaken fun ps K hp => ?_
 ·obtain ⟨y, hy, rfl⟩ := List.mem_map.mp hx
  have := List.all_eq_true.mp hpar y hy
  rw [h3]
  simpa using this
 ·refine kp_binds X fun S => ?_
  have := hbind S vals hl
  rw [h2] at this
  show peek (HK w.params) S _ = _
  simpa using this
 ·rw [h3]; exact hF ps K hp
theorem i7 {α : Type} {n : Nat} : ∀ {l : List α}, l.length = n + 1 -> ∃ a r, l = a :: r /\ r.length = n
 | a :: r, h => ⟨a, r, rfl, Nat.succ.inj h⟩
theorem xF {α : Type} {l : List α} (h : l.length = 1) : ∃ a, l = [a] := List.length_eq_one_iff.mp h
theorem jF {α : Type} {l : List α} (h : l.length = 2) : ∃ a b, l = [a, b] := by obtain ⟨a, r, e, h⟩ := i7 h; obtain ⟨b, q⟩ := xF h; exact ⟨a, b, by rw [e, q]⟩
theorem mO {α : Type} {l : List α} (h : l.length = 3) : ∃ a b c, l = [a, b, c] := by obtain ⟨a, r, e, h⟩ := i7 h; obtain ⟨b, c, q⟩ := jF h; exact ⟨a, b, c, by rw [e, q]⟩
theorem zdZ {α : Type} {l : List α} (h : l.length = 4) : ∃ a b c d, l = [a, b, c, d] := by obtain ⟨a, r, e, h⟩ := i7 h; obtain ⟨b, c, d, q⟩ := mO h; exact ⟨a, b, c, d, by rw [e, q]⟩
theorem zeQ {α : Type} {l : List α} (h : l.length = 5) : ∃ a b c d e, l = [a, b, c, d, e] := by obtain ⟨a, r, e, h⟩ := i7 h; obtain ⟨b, c, d, f, q⟩ := zdZ h; exact ⟨a, b, c, d, f, by rw [e, q]⟩
theorem six {α : Type} {l : List α} (h : l.length = 6) : ∃ a b c d e f, l = [a, b, c, d, e, f] := by obtain ⟨a, r, e, h⟩ := i7 h; obtain ⟨b, c, d, f, g, q⟩ := zeQ h; exact ⟨a, b, c, d, f, g, by rw [e, q]⟩
theorem zeB {α : Type} {l : List α} (h : l.length = 7) : ∃ a b c d e f g, l = [a, b, c, d, e, f, g] := by obtain ⟨a, r, e, h⟩ := i7 h; obtain ⟨b, c, d, f, g, i, q⟩ := six h; exact ⟨a, b, c, d, f, g, i, by rw [e, q]⟩
section
variable {C : Ctx} {κ : Kn}
theorem pE {e e' : Expr} {es : List Expr} {p : Pos} {st : St} {c d : Bool} (M : CtxMono C) (h : ev C κ e st (.bool c)) (h' : c = false -> ev C κ (.BoolOp .Or (e' :: es) p) st (.bool d)) : ev C κ (.BoolOp .Or (e :: e' :: es) p) st (.bool (c || d)) := by
 refine aO (e := e) M h ?_
 cases c with
 | true => exact ⟨rfl, rfl⟩
 | false => exact h' rfl
theorem kR {e e' : Expr} {es : List Expr} {p : Pos} {st : St} {c d : Bool} (M : CtxMono C) (h : ev C κ e st (.bool c)) (h' : c = true -> ev C κ (.BoolOp .And (e' :: es) p) st (.bool d)) : ev C κ (.BoolOp .And (e :: e' :: es) p) st (.bool (c && d)) := by
 refine aO (e := e) M h ?_
 cases c with
 | false => exact ⟨rfl, rfl⟩
 | true => exact h' rfl
noncomputable def evs (C : Ctx) (κ : Kn) (es : List Expr) (st : St) (vs : List PV) : Prop := wEs C es κ (fun rs st1 => rs = vs /\ st1 = st) st
theorem aH {st : St} : evs C κ [] st [] := ⟨rfl, rfl⟩
theorem aC {e : Expr} {es : List Expr} {st : St} {v : PV} {vs : List PV} (M : CtxMono C) (h : ev C κ e st v) (hs : evs C κ es st vs) : evs C κ (e :: es) st (v :: vs) :=
 aO (e := e) M h (bZ M es (fun rs st1 ⟨h1, h2⟩ => ⟨congrArg _ h1, h2⟩) hs)
theorem a0 {es : List Expr} {k : Nat} {p : Pos} {st : St} {vs : List PV} (M : CtxMono C) (h : evs C κ es st vs) : ev C κ (.Tuple es k p) st (.tup vs) :=
 bZ M es (fun rs st1 ⟨h1, h2⟩ => ⟨congrArg _ h1, h2⟩) h
theorem cK {t b o : Expr} {p : Pos} {st : St} {c : Bool} {v : PV} (M : CtxMono C) (h : tv C κ t st c) (hb : c = true -> ev C κ b st v) (ho : c = false -> ev C κ o st v) : ev C κ (.IfExp t b o p) st v := by
 refine sB (e := t) (K := fun c st1 => if c = true then wE C b κ (fun r st1 => r = v /\ st1 = st) st1 else wE C o κ (fun r st1 => r = v /\ st1 = st) st1) M h ?_
 cases c
 ·exact ho rfl
 ·exact hb rfl
theorem fH {op : BoolOp} {e : Expr} {p : Pos} {st : St} {v : PV} (h : ev C κ e st v) : ev C κ (.BoolOp op [e] p) st v := h
theorem bQ {e : Expr} {st : St} {c : Bool} (M : CtxMono C) (h : ev C κ e st (.bool c)) : tv C κ e st c := zew M h rfl
theorem zbW {e : Expr} {p : Pos} {st : St} {c : Bool} (M : CtxMono C) (h : ev C κ e st (.bool c)) : ev C κ (.UnaryOp .Not e p) st (.bool !c) := aO (e := e) M h ⟨rfl, rfl⟩
theorem l8 {e : Expr} {p : Pos} {st : St} {i : Int} (M : CtxMono C) (h : ev C κ e st (.int i)) : ev C κ (.UnaryOp .USub e p) st (.int (-i)) := aO (e := e) M h ⟨rfl, rfl⟩
theorem aA {x : Str} {p : Pos} {st : St} {v : PV} (k : κ x = some .local) (h : st.ρ x = some v) : ev C κ (.Name x p) st v := by
 show (if κ x = some .globalImplicit then opt (C.val x) _ else opt (st.ρ x) _)
 rw [k, gV, h]; exact ⟨rfl, rfl⟩
theorem rJ {x : Str} {p : Pos} {st : St} {v : PV} (k : κ x = some .globalImplicit) (h : C.val x = some v) : ev C κ (.Name x p) st v := by
 show (if κ x = some .globalImplicit then opt (C.val x) _ else opt (st.ρ x) _)
 rw [k, zdU, h]; exact ⟨rfl, rfl⟩
theorem cZ {l r : Expr} {p : Pos} {st : St} {i j : Int} (M : CtxMono C) (h : ev C κ l st (.int i)) (h' : ev C κ r st (.int j)) : ev C κ (.BinOp l .Add r p) st (.int (i + j)) :=
 aO (e := l) M h (aO (e := r) M h' ⟨rfl, rfl⟩)
theorem kM {o l u : Expr} {p q : Pos} {st : St} {x : List Nat} {i j : Int} (M : CtxMono C) (h : ev C κ o st (.str x)) (hl : ev C κ l st (.int i)) (hu : ev C κ u st (.int j)) (b : -4611686018427387904 < i /\ i < 4611686018427387904 /\ -4611686018427387904 < j /\ j < 4611686018427387904) :
  ev C κ (.Subscript o (.Slice (some l) (some u) none q) p) st (.str (slc x (some i) (some j))) :=
 aO (e := o) M h ⟨rfl, aO (e := l) M hl ⟨b.1, b.2.1, aO (e := u) M hu ⟨b.2.2.1, b.2.2.2, rfl, rfl⟩⟩⟩
theorem n8 {l r : Expr} {op : CmpOp} {p : Pos} {st : St} {a b : PV} {d : Bool} (M : CtxMono C) (h : ev C κ l st a) (h' : ev C κ r st b) (k : zb3 st.σ op a b fun c => true = true /\ c = d /\ st = st) : tv C κ (.Compare l [op] [r] p) st d :=
 aO (e := l) M h (aO (e := r) M h' k)
theorem bC {x : Str} {es : List Expr} {vs : List PV} {v : PV} {F : Fn} {p q : Pos} {st : St} (M : CtxMono C) (k : κ x = some .globalImplicit) (hf : C.fn x = some F) (hs : evs C κ es st vs) (h : F (vs.map (der st.σ)) fun r => (vs.any rD = false \/ j6 r = true) /\ r = v) : ev C κ (.Call (.Name x q) es [] p) st v := by
 refine ⟨rfl, k, by unfold vA; rw [hf]; rfl, bZ M es (fun rs st1 ⟨h1, h2⟩ => ?_) hs⟩
 subst h1 h2
 unfold jO
 rw [hf]
 exact M.1 x F hf _ _ _ (fun r ⟨a, b⟩ => ⟨a, b, rfl⟩) h
theorem mA {o i : Expr} {p : Pos} {st : St} {a b v : PV} (M : CtxMono C) (hs : zaY i = false) (h : ev C κ o st a) (h' : ev C κ i st b) (k : zbP (der st.σ a) b fun r => r = v) : ev C κ (.Subscript o i p) st v := by
 refine aO (e := o) M h ?_
 show (if zaY i = true then _ else wE C i κ _ st)
 rw [hs, yE]
 exact aO (e := i) M h' (o0 (fun r e => ⟨e, rfl⟩) k)
theorem zbV {l r : Expr} {p : Pos} {st : St} {i j : Int} (M : CtxMono C) (h : ev C κ l st (.int i)) (h' : ev C κ r st (.int j)) : ev C κ (.BinOp l .Sub r p) st (.int (i - j)) :=
 aO (e := l) M h (aO (e := r) M h' ⟨rfl, rfl⟩)
theorem i5 {x : Str} {es : List Expr} {vs : List PV} {v : PV} {p q : Pos} {st : St} (M : CtxMono C) (k : κ x = some .globalImplicit) (hf : C.fn x = none) (hc : C.cls x = none) (hb : C.bi x = true) (hs : evs C κ es st vs) (h : biP x (vs.map (der st.σ)) fun r => r = v) : ev C κ (.Call (.Name x q) es [] p) st v := by
 refine ⟨rfl, k, by unfold vA; rw [hf, hc, hb]; rfl, bZ M es (fun rs st1 ⟨h1, h2⟩ => ?_) hs⟩
 subst h1 h2
 unfold jO
 rw [hf, hc]
 exact ⟨hb, tW (fun r e => ⟨e, rfl⟩) h⟩
theorem i0 {es : List Expr} {vs : List PV} {p : Pos} {st : St} (M : CtxMono C) (hm : C.mutL p.line = false) (hs : evs C κ es st vs) : ev C κ (.List es p) st (.list vs) :=
 bZ M es (fun rs st1 ⟨h1, h2⟩ => by
  subst h1 h2
  unfold bF
  rw [hm, yE]
  exact ⟨rfl, rfl⟩) hs
theorem zc7 {l r : Expr} {p : Pos} {st : St} {x y : List PV} (M : CtxMono C) (h : ev C κ l st (.list x)) (h' : ev C κ r st (.list y)) (hl : x.length + y.length <= aP) : ev C κ (.BinOp l .Add r p) st (.list (x ++ y)) :=
 aO (e := l) M h (aO (e := r) M h' ⟨hl, rfl, rfl⟩)
theorem tI {l r : Expr} {p : Pos} {st : St} {i j : Int} (M : CtxMono C) (h : ev C κ l st (.int i)) (h' : ev C κ r st (.int j)) (hj : 0 < j) : ev C κ (.BinOp l .Mod r p) st (.int (i % j)) :=
 aO (e := l) M h (aO (e := r) M h' ⟨hj, rfl, rfl⟩)
theorem zcY {o u : Expr} {p q : Pos} {st : St} {x : List PV} {j : Int} (M : CtxMono C) (h : ev C κ o st (.list x)) (hu : ev C κ u st (.int j)) (h0 : -4611686018427387904 < j) (h1 : j < 4611686018427387904) : ev C κ (.Subscript o (.Slice none (some u) none q) p) st (.list (slc x none (some j))) :=
 aO (e := o) M h ⟨rfl, aO (e := u) M hu ⟨h0, h1, rfl, rfl⟩⟩
theorem bL {l r : Expr} {op : CmpOp} {p : Pos} {st : St} {a b : PV} {d : Bool} (M : CtxMono C) (h1 : ev C κ l st a) (h2 : ev C κ r st b) (h3 : zb3 st.σ op a b fun c => c = d) : ev C κ (.Compare l [op] [r] p) st (.bool d) :=
 aO (e := l) M h1 (aO (e := r) M h2 (kY (fun c h => ⟨rfl, congrArg PV.bool h, rfl⟩) h3))
theorem kP {l r : Expr} {p : Pos} {st : St} {a b : Nat} (M : CtxMono C) (h : ev C κ l st (.int a)) (h' : ev C κ r st (.int b)) : ev C κ (.Compare l [.Lt] [r] p) st (.bool (decide (a < b))) := bL M h h' (decide_eq_decide.mpr Int.ofNat_lt)
theorem pF {l : Expr} {q : String} {k : Nat} {p p' : Pos} {st : St} {x : List Nat} (M : CtxMono C) (h : ev C κ l st (.str x)) : ev C κ (.Compare l [.Eq] [.Constant (.str (Str.ofString q)) k p] p') st (.bool (decide (x = (Str.ofString q).cps.toList))) := bL M h (aE rfl) rfl
theorem zd4 {l : Expr} {q : String} {k : Nat} {p p' : Pos} {st : St} {x : List Nat} (M : CtxMono C) (h : ev C κ l st (.str x)) : ev C κ (.Compare l [.NotEq] [.Constant (.str (Str.ofString q)) k p] p') st (.bool (!decide (x = (Str.ofString q).cps.toList))) := bL M h (aE rfl) rfl
theorem gO {l : Expr} {q : Str} {k : Nat} {p p' : Pos} {st : St} {c d : Nat} (M : CtxMono C) (h : ev C κ l st (.str [c])) (hq : q.cps.toList = [d]) : ev C κ (.Compare l [.Eq] [.Constant (.str q) k p] p') st (.bool (decide (c = d))) :=
 bL (b := .str [d]) M h (aE (by rw [jM, hq])) (decide_eq_decide.mpr ⟨fun h => (List.cons.inj h).1, fun h => congrArg (fun n => [n]) h⟩)
theorem fY {l : Expr} {q : Str} {k : Nat} {p p' : Pos} {st : St} {c : Nat} (M : CtxMono C) (h : ev C κ l st (.str [c])) : ev C κ (.Compare l [.In] [.Constant (.str q) k p] p') st (.bool (decide (c ∈ q.cps.toList))) := bL M h (aE rfl) (nG _ _)
theorem tJ {e : Expr} {k : Nat} {p p' p2 p3 : Pos} {st : St} {c n : Nat} (M : CtxMono C) (k1 : κ "ord" = some .globalImplicit) (hf : C.fn "ord" = none) (hc : C.cls "ord" = none) (hb : C.bi "ord" = true) (h : ev C κ e st (.str [c])) : ev C κ (.Compare (.Call (.Name (Str.ofString "ord") p) [e] [] p2) [.Gt] [.Constant (.int n) k p3] p') st (.bool (decide (n < c))) :=
 bL (a := .int c) (b := .int n) M (i5 M k1 hf hc hb (aC M h aH) (of_eq (B := PV.int c = .int c) (by kernel_rfl) rfl)) (aE rfl) (decide_eq_decide.mpr Int.ofNat_lt)
theorem fJ {o i : Expr} {p : Pos} {st : St} {x : List Nat} {n c : Nat} (M : CtxMono C) (hs : zaY i = false) (h : ev C κ o st (.str x)) (h' : ev C κ i st (.int n)) (hc : x[n]? = some c) : ev C κ (.Subscript o i p) st (.str [c]) :=
 mA M hs h h' (by show opt (pY x (n : Int)) _; rw [za9, hc]; rfl)
theorem zdq (n : Nat) : (-4611686018427387904 : Int) < n := Int.lt_of_lt_of_le (by decide) (Int.natCast_nonneg n)
theorem v0 {n : Nat} (h : n < 2000000) : (n : Int) < 4611686018427387904 := Int.lt_trans (Int.ofNat_lt.mpr h) (by decide)
theorem yT {o l u : Expr} {p q : Pos} {st : St} {x : List Nat} {i j : Nat} (M : CtxMono C) (h : ev C κ o st (.str x)) (hl : ev C κ l st (.int i)) (hu : ev C κ u st (.int j)) (hij : i <= j) (hj : j < 2000000) : ev C κ (.Subscript o (.Slice (some l) (some u) none q) p) st (.str ((x.drop i).take (j - i))) :=
 w5 x i j hij ▸ kM M h hl hu ⟨zdq i, v0 (Nat.lt_of_le_of_lt hij hj), zdq j, v0 hj⟩
theorem xQ {σ : Nat -> Option Cell} {x y : List Nat} {i : Int} {K : PV -> (Nat -> Option Cell) -> Prop} : eG σ "startswith" (.str x) [.str y, .int i] K = okI i (K (.bool (decide (i <= x.length) && y.isPrefixOf (x.drop i.toNat))) σ) := by kernel_rfl
theorem uW {σ : Nat -> Option Cell} {x y : List Nat} {i : Int} {K : PV -> (Nat -> Option Cell) -> Prop} : eG σ "find" (.str x) [.str y, .int i] K = okI i (K (.int (yS x y i.toNat)) σ) := by kernel_rfl
theorem kQ {x : Str} {es : List Expr} {vs : List PV} {v : PV} {F : Fn} {p q : Pos} {st : St} (M : CtxMono C) (k : κ x = some .globalImplicit) (hf : C.fn x = none) (hc : C.cls x = some F) (hs : evs C κ es st vs) (h : F vs fun r => r = v) : ev C κ (.Call (.Name x q) es [] p) st v := by
 refine ⟨rfl, k, by unfold vA; rw [hf, hc]; rfl, bZ M es (fun rs st1 ⟨h1, h2⟩ => ?_) hs⟩
 subst h1 h2
 unfold jO
 rw [hf, hc]
 exact M.2 x F hc _ _ _ (fun r e => ⟨e, rfl⟩) h
theorem l9 {x : Str} {p q p2 : Pos} {st : St} {y : List Nat} (M : CtxMono C) (k : κ "len" = some .globalImplicit) (hf : C.fn "len" = none) (hc : C.cls "len" = none) (hb : C.bi "len" = true) (h : ev C κ (.Name x p) st (.str y)) : ev C κ (.Call (.Name (Str.ofString "len") q) [.Name x p] [] p2) st (.int y.length) :=
 i5 M k hf hc hb (aC M h aH) (of_eq (B := PV.int y.length = .int y.length) (by kernel_rfl) rfl)
theorem nM {o : Expr} {es : List Expr} {vs : List PV} {n : Str} {p p2 : Pos} {st : St} {x : List Nat} {v : PV} (M : CtxMono C) (h : ev C κ o st (.str x)) (hs : evs C κ es st vs) (hr : bT es = none) (hm : mOk st.σ n (.str x) = true) (hv : eG st.σ n (.str x) vs fun r σ' => r = v /\ σ' = st.σ) :
  ev C κ (.Call (.Attribute o n p) es [] p2) st v := by
 rw [ev, eO, hr, cX]
 exact ⟨rfl, aO (e := o) M h ⟨hm, bZ M es (fun rs st1 ⟨h1, h2⟩ => by subst h1 h2; exact lZ (fun r σ' ⟨e1, e2⟩ => ⟨e1, congrArg (St.mk _) e2⟩) hv) hs⟩⟩
theorem kL {o i : Expr} {q : Str} {k : Nat} {p p1 p2 : Pos} {st : St} {x : List Nat} {e : Nat} (M : CtxMono C) (h : ev C κ o st (.str x)) (hi : ev C κ i st (.int e)) (he : e <= x.length) (hx : x.length < 2000000) (hc : csE i = none) :
  ev C κ (.Call (.Attribute o (Str.ofString "startswith") p) [.Constant (.str q) k p1, i] [] p2) st (.bool (q.cps.toList.isPrefixOf (x.drop e))) := by
 refine nM M h (aC M (aE rfl) (aC M hi aH)) ?_ (by kernel_rfl) ?_
 ·show ((some q).bind fun p => (csE i).map fun q => (p, q)) = none
  rw [hc]; rfl
 ·rw [xQ]
  refine ⟨Int.natCast_nonneg e, v0 (Nat.lt_of_le_of_lt he hx), ?_, rfl⟩
  rw [decide_eq_true (Int.ofNat_le.mpr he), Bool.true_and]; rfl
end
mutual
noncomputable def zeP : PV -> Bool
 | .none => true
 | .bool _ => true
 | .int _ => true
 | .str _ => true
 | .tup xs => rF xs
 | .list xs => rF xs
 | .inst _ xs => rF xs
 | .rng _ _ => true
 | .ptr _ => false
 | .dict _ => true
noncomputable def rF : List PV -> Bool
 | [] => true
 | x :: xs => zeP x && rF xs
end
mutual
theorem bA (σ : Nat -> Option Cell) : ∀ v : PV, zeP v = true -> Res σ v v
 | .none, _ => rfl
 | .bool _, _ => rfl
 | .int _, _ => rfl
 | .str _, _ => rfl
 | .tup xs, h => ⟨xs, rfl, d7 σ xs h⟩
 | .list xs, h => .inl ⟨xs, rfl, d7 σ xs h⟩
 | .inst _ xs, h => ⟨xs, rfl, d7 σ xs h⟩
 | .rng _ _, _ => rfl
 | .ptr _, h => Bool.noConfusion h
 | .dict _, _ => rfl
theorem d7 (σ : Nat -> Option Cell) : ∀ vs : List PV, rF vs = true -> lN σ vs vs
 | [], _ => rfl
 | v :: vs, h => ⟨v, vs, rfl, bA σ v (Bool.and_eq_true_iff.mp h).1, d7 σ vs (Bool.and_eq_true_iff.mp h).2⟩
end
theorem cW (σ : Nat -> Option Cell) (b : Bool) : Res σ (.bool b) (.bool b) := rfl
noncomputable def bD (c : Nat) : Bool := (97 <= c && c <= 122) || (65 <= c && c <= 90) || c == 95 || 127 < c
theorem qV {c : Nat} (h : fL c = true) : (decide (c ∈ (Str.ofString "abcdefghijklmnopqrstuvwxyzABCDEFGHIJKLMNOPQRSTUVWXYZ_").cps.toList) || decide (127 < c)) = bD c :=
 dY (f := fun c => decide (c ∈ (Str.ofString "abcdefghijklmnopqrstuvwxyzABCDEFGHIJKLMNOPQRSTUVWXYZ_").cps.toList) || decide (127 < c)) (by decide +kernel) h
noncomputable def zet : Fn := fun ps K => ∃ (css : List Nat) (pos c : Nat), ps = [.str css, .int pos] /\ css[pos]? = some c /\ fL c = true /\ K (.bool (bD c))
theorem pW : aX zet := fun _ _ _ h => e3 fun _ _ _ => c3 (h _)
theorem zcE (p : Params) (css : List Nat) (pos c : Nat) (K : PV -> Prop) (hc : css[pos]? = some c) (ha : fL c = true) (hK : K (.bool (bD c))) :
  wSs (mkC [] [] false [] []) (cS (aN (HK p) 635)) (aQ (HK p) 635) (lW K) ⟨bG [("css", .str css), ("pos", .int pos)] (fun _ => none), fun _ => none⟩ := by
 have M : CtxMono (mkC [] [] false [] []) := bV (by simp) (by simp)
 conv in (aQ _ _) => whnf
 refine aB (aJ M (.str [c]) (fJ M rfl (by exact aA (by kernel_rfl!) (by kernel_rfl!)) (by exact aA (by kernel_rfl!) (by kernel_rfl!)) hc) (by kernel_rfl) ?_)
 rw [<- qV ha] at hK
 exact aB (aT M (.bool _) (pE M (fY M (by exact aA (by kernel_rfl!) (by kernel_rfl!))) fun _ => fH (tJ M (by kernel_rfl!) rfl rfl (by kernel_rfl) (by exact aA (by kernel_rfl!) (by kernel_rfl!)))) ⟨_, cW _ _, hK⟩)
theorem zaO (hB : BsOk (bs w.params h mb)) (hmb : HMb mb) : Meets prog w (bs w.params h mb) 1 (.ref 635) zet := by
 have hC : CtxOk prog w (bs w.params h mb) (mkC [] [] false [] []) 0 := eC hmb (by simp) (by simp) (by simp) (by simp) (by simp) (by simp)
 refine bB (k := 2) (params := ["css", "pos"]) (dv := []) (dp := []) hB hC (by kernel_rfl) (by kernel_rfl) (by kernel_rfl) rfl (fun _ => .nil) (fun S vals hl => ?_) fun ps K ⟨css, pos, c, h1, h2, h3, h4⟩ => ?_
 ·obtain ⟨a, b, rfl⟩ := jF hl
  kernel_rfl
 ·subst h1
  exact ⟨rfl, zcE _ css pos c K h2 h3 h4⟩
theorem zcd (ρ : dG) (x : Str) (a b : PV) : upd (upd ρ x a) x b = upd ρ x b := by
 funext y; unfold upd; by_cases h : y = x <;> simp [h]
theorem zT {ρ : dG} {x : Str} {a : PV} (h : ρ x = some a) : upd ρ x a = ρ := by
 funext y; unfold upd
 by_cases e : y = x
 ·subst e; rw [if_pos rfl, h]
 ·rw [if_neg e]
theorem zbH (ρ : dG) (x : Str) (a : PV) : upd ρ x a x = some a := by unfold upd; rw [if_pos rfl]
theorem zdB (ρ : dG) {x y : Str} (h : y ≠ x) (a : PV) : upd ρ x a y = ρ y := by unfold upd; rw [if_neg h]
noncomputable def lH (c : Nat) : Bool := 48 <= c && c <= 57
noncomputable def gG (x : List Nat) : Nat := (x.takeWhile lH).length
theorem zbv {x : List Nat} {i : Nat} (h : i < x.length) : (x.drop i).take 1 = [x[i]] := by rw [List.drop_eq_getElem_cons h]; rfl
theorem zdm {x : List Nat} {i : Nat} (h : x.length <= i) : (x.drop i).take 1 = [] := by rw [List.drop_of_length_le h]; rfl
theorem kU : gJ (["0", "1", "2", "3", "4", "5", "6", "7", "8", "9"].map sgP) = some [[48], [49], [50], [51], [52], [53], [54], [55], [56], [57]] := by decide +kernel
noncomputable def eH (x : List Nat) (i : Nat) : Bool := (x[i]?).any lH
theorem tX (x : List Nat) (i : Nat) : at1 x i = (x[i]?).toList := by
 by_cases h : i < x.length
 ·rw [at1, zbv h, List.getElem?_eq_getElem h]; rfl
 ·rw [at1, zdm (Nat.le_of_not_lt h), List.getElem?_eq_none (Nat.le_of_not_lt h)]; rfl
theorem zb0 {x : List Nat} (ha : Al x) (i : Nat) : decide (at1 x i ∈ ([[48], [49], [50], [51], [52], [53], [54], [55], [56], [57]] : List (List Nat))) = eH x i := by
 rw [tX, eH]
 cases h : x[i]? with
 | none => rfl
 | some c => exact dY (g := lH) (f := fun c => decide ([c] ∈ ([[48], [49], [50], [51], [52], [53], [54], [55], [56], [57]] : List (List Nat)))) (by decide +kernel) (ha.at h)
theorem pG {x : List Nat} {i : Nat} (h : eH x i = true) : i < x.length /\ gG (x.drop i) = gG (x.drop (i + 1)) + 1 := by
 by_cases hl : i < x.length
 ·rw [eH, List.getElem?_eq_getElem hl] at h
  refine ⟨hl, ?_⟩
  rw [List.drop_eq_getElem_cons hl, gG, List.takeWhile_cons_of_pos (p := lH) h]; rfl
 ·rw [eH, List.getElem?_eq_none (Nat.le_of_not_lt hl)] at h; cases h
theorem y0 {x : List Nat} {i : Nat} (h : eH x i = false) : gG (x.drop i) = 0 := by
 by_cases hl : i < x.length
 ·rw [eH, List.getElem?_eq_getElem hl] at h
  rw [List.drop_eq_getElem_cons hl, gG, List.takeWhile_cons_of_neg (fun q => by rw [Option.any_some, q] at h; cases h)]; rfl
 ·rw [List.drop_of_length_le (Nat.le_of_not_lt hl)]; rfl
section
variable {C : Ctx} {κ : Kn}
theorem sl1 (x : List Nat) (i : Nat) : slc x (some (i : Int)) (some ((i : Int) + 1)) = at1 x i := by
 rw [show (i : Int) + 1 = ((i + 1 : Nat) : Int) from rfl, w5 _ _ _ (Nat.le_succ i), Nat.succ_sub (Nat.le_refl i), Nat.sub_self]; rfl
theorem oD {i : Nat} (h : i < 1000000) : -4611686018427387904 < (i : Int) /\ (i : Int) < 4611686018427387904 /\ -4611686018427387904 < (i : Int) + 1 /\ (i : Int) + 1 < 4611686018427387904 :=
 ⟨zdq i, v0 (Nat.lt_trans h (by decide)), zdq (i + 1), v0 (n := i + 1) (Nat.lt_of_le_of_lt h (by decide))⟩
theorem sD {a i d : Str} {p1 p2 p3 p4 p5 p6 p7 p8 p9 : Pos} {k : Nat} {st : St} {x : List Nat} {e : Nat} (M : CtxMono C) (hD : C.val d = some i6) (k1 : κ d = some .globalImplicit) (k2 : κ a = some .local) (k3 : κ i = some .local)
  (h1 : st.ρ a = some (.str x)) (h2 : st.ρ i = some (.int e)) (hx : x.length < 1000000) (ha : Al x) (he : e <= x.length) :
  tv C κ (.Compare (.Subscript (.Name a p1) (.Slice (some (.Name i p2)) (some (.BinOp (.Name i p3) .Add (.Constant (.int 1) k p4) p5)) none p6) p7) [.In] [.Name d p8] p9) st (eH x e) := by
 refine n8 M (kM M (aA k2 h1) (aA k3 h2) (cZ M (aA k3 h2) (aE rfl)) (oD (Nat.lt_of_le_of_lt he hx))) (rJ k1 hD) ⟨_, kU, rfl, ?_, rfl⟩
 rw [sl1]
 exact zb0 ha e
theorem mW {a i d : Str} {p1 p2 p3 p4 p5 p6 p7 p8 p9 q1 q2 q3 q4 : Pos} {k k' : Nat} {st : St} {x : List Nat} {e : Nat} {Q : Fl -> St -> Prop} (M : CtxMono C) (hD : C.val d = some i6) (k1 : κ d = some .globalImplicit) (k2 : κ a = some .local) (k3 : κ i = some .local) (hai : a ≠ i)
  (h1 : st.ρ a = some (.str x)) (h2 : st.ρ i = some (.int e)) (hx : x.length < 1000000) (ha : Al x) (he : e <= x.length)
  (hQ : Q .next ⟨upd st.ρ i (.int ((e + gG (x.drop e) : Nat))), st.σ⟩) :
  wS C κ (.While (.Compare (.Subscript (.Name a p1) (.Slice (some (.Name i p2)) (some (.BinOp (.Name i p3) .Add (.Constant (.int 1) k p4) p5)) none p6) p7) [.In] [.Name d p8] p9)
   [.AugAssign (.Name i q1) .Add (.Constant (.int 1) k' q2) q3] [] q4) Q st := by
 refine iW M (fun n s => ∃ f : Nat, s = ⟨upd st.ρ i (.int f), st.σ⟩ /\ f <= x.length /\ n = x.length - f /\ f + gG (x.drop f) = e + gG (x.drop e)) ?_ (x.length - e) st ⟨e, by rw [zT h2], he, rfl, rfl⟩
 rintro n s ⟨f, rfl, hf, rfl, hs⟩
 have g1 : (upd st.ρ i (.int f)) a = some (.str x) := by rw [zdB _ hai]; exact h1
 refine ⟨eH x f, sD M hD k1 k2 k3 g1 (zbH _ _ _) hx ha hf, fun hc => ?_, fun hc => ?_⟩
 ·obtain ⟨hl, hd⟩ := pG hc
  refine aB (eF M (.int f) (.int 1) (zbH _ _ _) (aE rfl) (by unfold d6; rw [k3]; decide) (of_eq dN ?_))
  exact ⟨x.length - (f + 1), Nat.sub_lt_sub_left hl (Nat.lt_succ_self f), f + 1, congrArg (St.mk · st.σ) (zcd _ _ _ _), hl, rfl, by rw [<- hs, hd, Nat.add_right_comm]; rfl⟩
 ·rw [y0 hc] at hs
  rw [<- hs] at hQ
  exact hQ
end
mutual
noncomputable def qN (K : Frag) (v : Value) : PV -> Bool
 | .none => v == .none
 | .bool b => v == .bool b
 | .int i => match v with
  | .int j _ => j == i
  | _ => false
 | .str x => match v with
  | .str s _ => s.cps.toList == x && x.all (· < 1114112) && decide (x.length <= 10000)
  | _ => false
 | .tup xs => match v with
  | .ref a => (match K.lookup a with
   | some ⟨c, _, .seq vs _, _⟩ => c == .type "tuple" && decide (vs.size <= 10000) && uP K vs.toList xs
   | _ => false)
  | _ => false
 | .list xs => match v with
  | .ref a => (match K.lookup a with
   | some ⟨c, none, .seq vs _, _⟩ => c == .type "list" && decide (vs.size <= 10000) && uP K vs.toList xs
   | _ => false)
  | _ => false
 | _ => false
noncomputable def uP (K : Frag) (vs : List Value) : List PV -> Bool
 | [] => vs.isEmpty
 | p :: ps => match vs with
  | v :: r => qN K v p && uP K r ps
  | [] => false
end
mutual
theorem m6 {K : Frag} {P : Params} {h : Heap} (X : K.In h) : ∀ (p : PV) {v : Value}, qN K v p = true -> VRel P (fun a => h.get? a) v p
 | .none, v, e => by simp only [qN, beq_iff_eq] at e; simp [VRel, e]
 | .bool b, v, e => by simp only [qN, beq_iff_eq] at e; simp [VRel, e]
 | .int i, v, e => by
  unfold qN at e
  split at e
  ·simp only [beq_iff_eq] at e; subst e; simp [VRel]
  ·cases e
 | .str x, v, e => by
  unfold qN at e
  split at e
  ·rename_i s t
   simp only [Bool.and_eq_true, beq_iff_eq, List.all_eq_true, decide_eq_true_eq] at e
   obtain ⟨⟨rfl, e2⟩, e3⟩ := e
   simp only [VRel]
   exact ⟨t, by simp, e2, by unfold aP; omega⟩
  ·cases e
 | .tup xs, v, e => by
  unfold qN at e
  split at e
  ·rename_i a
   split at e
   ·rename_i c d vs n sl ho
    simp only [Bool.and_eq_true, beq_iff_eq, decide_eq_true_eq] at e
    obtain ⟨⟨rfl, e2⟩, e3⟩ := e
    simp only [VRel]
    exact ⟨a, _, vs, n, rfl, X _ _ ho, rfl, rfl, by unfold aP; omega, kA X xs e3⟩
   ·cases e
  ·cases e
 | .list xs, v, e => by
  unfold qN at e
  split at e
  ·rename_i a
   split at e
   ·rename_i c vs n sl ho
    simp only [Bool.and_eq_true, beq_iff_eq, decide_eq_true_eq] at e
    obtain ⟨⟨rfl, e2⟩, e3⟩ := e
    simp only [VRel]
    exact ⟨a, _, vs, n, rfl, X _ _ ho, rfl, rfl, rfl, by unfold aP; omega, kA X xs e3⟩
   ·cases e
  ·cases e
 | .inst _ _, v, e => by simp [qN] at e
 | .rng _ _, v, e => by simp [qN] at e
 | .ptr _, v, e => by simp [qN] at e
 | .dict _, v, e => by simp [qN] at e
theorem kA {K : Frag} {P : Params} {h : Heap} (X : K.In h) : ∀ (ps : List PV) {vs : List Value}, uP K vs ps = true -> VRels P (fun a => h.get? a) vs ps
 | [], vs, e => by simp only [uP, List.isEmpty_iff] at e; subst e; exact .nil
 | p :: ps, vs, e => by
  unfold uP at e
  split at e
  ·simp only [Bool.and_eq_true] at e
   exact .cons (m6 X p e.1) (kA X ps e.2)
  ·cases e
end
noncomputable def eE (x : List Nat) : Nat := if x[0]? = some 45 \/ x[0]? = some 43 then 1 else 0
noncomputable def vK (x : List Nat) : Option Nat := if x[0]? = some 46 /\ eH x 1 = true then some (gG (x.drop 2) + 2) else none
noncomputable def zbT (x : List Nat) : Option Nat := if x[0]? = some 101 \/ x[0]? = some 69 then (if eH x (eE (x.drop 1) + 1) = true then some (gG (x.drop (eE (x.drop 1) + 1)) + (eE (x.drop 1) + 1)) else none) else none
noncomputable def zN (x : List Nat) (z k : Nat) : Option (Nat × Bool) :=
 (vK (x.drop k)).elim (if z = 0 then none else some ((zbT (x.drop k)).elim (k, true) fun g => (g + k, false))) fun f => some ((zbT (x.drop (f + k))).getD 0 + (f + k), false)
noncomputable def xH (x : List Nat) : Option (Nat × Bool) := zN x (gG (x.drop (eE x))) (gG (x.drop (eE x)) + eE x)
theorem d8 (x : List Nat) (i : Nat) : (x.drop i)[0]? = x[i]? := List.getElem?_drop
theorem w8 {x : List Nat} {i : Nat} (h : i <= x.length) : i + eE (x.drop i) <= x.length := by
 unfold eE
 split
 ·rename_i q
  rw [d8] at q
  exact q.elim (fun q => (List.getElem?_eq_some_iff.mp q).1) fun q => (List.getElem?_eq_some_iff.mp q).1
 ·exact h
theorem zbZ {x : List Nat} {i : Nat} (h : i <= x.length) : i + gG (x.drop i) <= x.length := by
 have : gG (x.drop i) <= (x.drop i).length := (List.takeWhile_sublist _).length_le
 rw [List.length_drop] at this
 exact Nat.add_sub_cancel' h ▸ Nat.add_le_add_left this i
theorem zI (x : List Nat) (i c : Nat) : (at1 x i = [c]) = (x[i]? = some c) := by
 rw [tX]
 exact propext (match x[i]? with
 | none => ⟨fun h => (by cases h), fun h => (by cases h)⟩
 | some d => ⟨fun h => congrArg some (List.cons.inj h).1, fun h => congrArg (Option.toList) h⟩)
theorem rS (x : List Nat) (i c d : Nat) : decide (at1 x i ∈ ([[c], [d]] : List (List Nat))) = decide (x[i]? = some c \/ x[i]? = some d) :=
 decide_eq_decide.mpr (by rw [List.mem_cons, List.mem_singleton, zI, zI])
theorem tC {x : List Nat} {i c : Nat} (h : x[i]? = some c) : i < x.length := (List.getElem?_eq_some_iff.mp h).1
theorem zbY {x : List Nat} {i : Nat} (h : eH x i = true) : i < x.length := (pG h).1
theorem gB (x : List Nat) (i : Nat) : eE (x.drop i) = if x[i]? = some 45 \/ x[i]? = some 43 then 1 else 0 := by
 rw [eE, d8]
theorem gT {x : List Nat} {n m : Nat} (h : n <= x.length) (h' : m <= (x.drop n).length) : n + m <= x.length := by
 rw [List.length_drop] at h'
 exact Nat.add_sub_cancel' h ▸ Nat.add_le_add_left h' n
noncomputable def zds (x : List Nat) (i : Nat) (b : Bool) : Nat × Bool := if x[i]? = some 101 \/ x[i]? = some 69 then (if eH x (i + 1 + eE (x.drop (i + 1))) = true then (i + 1 + eE (x.drop (i + 1)) + gG (x.drop (i + 1 + eE (x.drop (i + 1)))), false) else (i, b)) else (i, b)
noncomputable def xI (x : List Nat) (i j : Nat) : Option (Nat × Bool) := if x[j]? = some 46 /\ eH x (j + 1) = true then some (zds x (j + 2 + gG (x.drop (j + 2))) false) else if j = i then none else some (zds x j true)
noncomputable def zdO (x : List Nat) (i : Nat) : Option (Nat × Bool) := xI x (i + eE (x.drop i)) (i + eE (x.drop i) + gG (x.drop (i + eE (x.drop i))))
theorem mC (x : List Nat) (i j : Nat) : eH (x.drop i) j = eH x (i + j) := by rw [eH, List.getElem?_drop, eH]
theorem zbS (x : List Nat) (i : Nat) (b : Bool) : zds x i b = (zbT (x.drop i)).elim (i, b) fun g => (g + i, false) := by
 rw [zds, zbT, mC, d8, List.drop_drop, List.drop_drop, Nat.add_comm (eE _) 1, <- Nat.add_assoc]
 split
 ·split
  ·exact congrArg (·, false) (by omega)
  ·rfl
 ·rfl
theorem yP (x : List Nat) (j : Nat) : vK (x.drop j) = if x[j]? = some 46 /\ eH x (j + 1) = true then some (gG (x.drop (j + 2)) + 2) else none := by rw [vK, mC, d8, List.drop_drop]
theorem zdN (x : List Nat) (i : Nat) : zdO x i = (xH (x.drop i)).map fun e => (i + e.1, e.2) := by
 rw [zdO, xI, xH, zN]
 generalize eE (x.drop i) = s
 rw [show (x.drop i).drop s = x.drop (i + s) from List.drop_drop]
 generalize gG (x.drop (i + s)) = d
 have hj : i + (d + s) = i + s + d := by rw [Nat.add_comm d s, Nat.add_assoc]
 have hf : ∀ f, i + (f + (d + s)) = f + (i + s + d) := fun f => by rw [<- hj, Nat.add_left_comm]
 simp only [List.drop_drop, hj, hf, yP]
 split
 ·rw [Option.elim_some, Option.map_some, zbS, Nat.add_assoc, Nat.add_comm _ (2 + _), Nat.add_comm 2]
  cases zbT (x.drop (gG (x.drop (i + s + d + 2)) + 2 + (i + s + d))) with
  | none => rw [Option.elim_none, Option.getD_none, Nat.zero_add, hf]
  | some g => exact congrArg (fun n => some (n, false)) (by rw [<- hf, Option.getD_some, Nat.add_left_comm])
 ·simp only [Option.elim_none, Nat.add_eq_left]
  split
  ·rfl
  ·rw [Option.map_some, zbS]
   cases zbT (x.drop (i + s + d)) with
   | none => rw [Option.elim_none, Option.elim_none, hj]
   | some g => exact congrArg (fun n => some (n, false)) (show _ = i + (g + (d + s)) by rw [<- hj, Nat.add_left_comm])
noncomputable def zO (o : Option (Nat × Bool)) : PV := o.elim (.tup [.none, .bool false]) fun e => .tup [.int e.1, .bool e.2]
theorem xE (σ : Nat -> Option Cell) (o : Option (Nat × Bool)) : Res σ (zO o) (zO o) := by cases o <;> exact bA _ _ rfl
noncomputable def cN : Ctx := mkC [] [] false [("_DIGITS", i6)] []
theorem zdh : CtxMono cN := bV (by simp) (by simp)
theorem pL : cN.val (Str.ofString "_DIGITS") = some i6 := by simp [cN, mkC, zab]
theorem sC {C : Ctx} {κ : Kn} {a i : Str} {p1 p2 p3 p4 p5 p6 p7 p9 : Pos} {k : Nat} {st : St} {x : List Nat} {e : Nat} {r : Expr} {op : CmpOp} {b : PV} {d : Bool} (M : CtxMono C) (k2 : κ a = some .local) (k3 : κ i = some .local)
  (h1 : st.ρ a = some (.str x)) (h2 : st.ρ i = some (.int e)) (he : e < 1000000) (h' : ev C κ r st b) (h : zb3 st.σ op (.str (at1 x e)) b fun c => true = true /\ c = d /\ st = st) :
  tv C κ (.Compare (.Subscript (.Name a p1) (.Slice (some (.Name i p2)) (some (.BinOp (.Name i p3) .Add (.Constant (.int 1) k p4) p5)) none p6) p7) [op] [r] p9) st d :=
 n8 M (kM M (aA k2 h1) (aA k3 h2) (cZ M (aA k3 h2) (aE rfl)) (oD he)) h' ((sl1 x e).symm ▸ h)
theorem zaI (p : Params) (css : List Nat) (pos : Nat) (K : PV -> Prop) (hx : css.length < 1000000) (ha : Al css) (hp : pos <= css.length) (hK : K (zO (zdO css pos))) :
  wSs cN (cS (aN (HK p) 613)) (aQ (HK p) 613) (lW K) ⟨bG [("css", .str css), ("pos", .int pos)] (fun _ => none), fun _ => none⟩ := by
 have M := zdh
 have lt : ∀ {i}, i <= css.length -> i < 1000000 := fun h => Nat.lt_of_le_of_lt h hx
 conv in (aQ _ _) => whnf
 conv in (aN _ _) => whnf
 refine aB (aJ M (.int pos) (aA (by kernel_rfl!) (by kernel_rfl!)) (by decide +kernel) ?_)
 rw [zdO] at hK
 let R1 : St -> Prop := fun s => ∃ e0 : Nat, dC [("css", .str css), ("end", .int e0)] s.ρ /\ e0 <= css.length /\ K (zO (xI css e0 (e0 + gG (css.drop e0))))
 refine eJ M R1
  (bR M (decide (css[pos]? = some 45 \/ css[pos]? = some 43)) (sC M (by kernel_rfl!) (by kernel_rfl!) (by kernel_rfl!) (by kernel_rfl!) (lt hp) (a0 M (aC M (aE rfl) (aC M (aE rfl) aH))) ⟨[[45], [43]], by decide +kernel, rfl, rS css pos 45 43, rfl⟩) (fun hc => ?_) (fun hc => ?_)) ?_
 ·have hs : eE (css.drop pos) = 1 := by rw [gB, if_pos (of_decide_eq_true hc)]
  have hl := w8 hp
  rw [hs] at hK hl
  exact aB (eF M (.int pos) (.int 1) (by kernel_rfl!) (aE rfl) (by decide +kernel) (of_eq dN ⟨pos + 1, by (show _ = _; first | kernel_rfl! | (rw [<- Nat.add_assoc]; kernel_rfl!) | (rw [<- Nat.add_assoc, <- Nat.add_assoc]; kernel_rfl!)), hl, hK⟩))
 ·have hs : eE (css.drop pos) = 0 := by rw [gB, if_neg (of_decide_eq_false hc)]
  rw [hs] at hK
  exact ⟨pos, by (show _ = _; first | kernel_rfl! | (rw [<- Nat.add_assoc]; kernel_rfl!) | (rw [<- Nat.add_assoc, <- Nat.add_assoc]; kernel_rfl!)), hp, hK⟩
 refine fun st => x1 fun e0 => a3 fun h1 b0 hK => cF h1 ?_
 refine aB (aJ M (.int e0) (aA (by kernel_rfl!) (by kernel_rfl!)) (by decide +kernel) ?_)
 refine aB (mW (x := css) (e := e0) M pL (by kernel_rfl!) (by kernel_rfl!) (by kernel_rfl!) (by rw [Ne, sEq]; decide) (by kernel_rfl!) (by kernel_rfl!) hx ha b0 ?_)
 have b1 := zbZ b0
 generalize e0 + gG (css.drop e0) = e1 at hK b1
 refine aB (aJ M (.bool true) (aE rfl) (by decide +kernel) ?_)
 let R2 : St -> Prop := fun s => ∃ (e2 : Nat) (pl : Bool), dC [("css", .str css), ("end", .int e2), ("plain", .bool pl)] s.ρ /\ e2 <= css.length /\ K (zO (some (zds css e2 pl)))
 refine eJ M R2 (bR M (decide (css[e1]? = some 46) && eH css (e1 + 1)) ?_ (fun hc => ?_) (fun hc => ?_)) ?_
 ·refine dJ M (sC M (by kernel_rfl!) (by kernel_rfl!) (by kernel_rfl!) (by kernel_rfl!) (lt b1) (aE rfl) ⟨rfl, decide_eq_decide.mpr (iff_of_eq (zI css e1 46)), rfl⟩) fun h => c6 ?_
  have b2 : e1 + 1 <= css.length := tC (of_decide_eq_true h)
  refine n8 (a := .str (slc css (some ((e1 : Int) + 1)) (some ((e1 : Int) + 2)))) M (kM (x := css) M (aA (by kernel_rfl!) (by kernel_rfl!)) (cZ (i := e1) (j := 1) M (aA (by kernel_rfl!) (by kernel_rfl!)) (aE rfl)) (cZ (i := e1) (j := 2) M (aA (by kernel_rfl!) (by kernel_rfl!)) (aE rfl)) (oD (lt b2))) (rJ (by kernel_rfl!) pL) ⟨_, kU, rfl, ?_, rfl⟩
  exact (congrArg (fun y => decide (y ∈ _)) (sl1 css (e1 + 1))).trans (zb0 ha (e1 + 1))
 ·obtain ⟨c1, c2⟩ := Bool.and_eq_true_iff.mp hc
  rw [xI, if_pos ⟨of_decide_eq_true c1, c2⟩] at hK
  refine aB (aJ M (.bool false) (aE rfl) (by decide +kernel) ?_)
  refine aB (eF M (.int e1) (.int 2) (by kernel_rfl!) (aE rfl) (by decide +kernel) (of_eq dN ?_))
  exact aB (mW (x := css) (e := e1 + 2) M pL (by kernel_rfl!) (by kernel_rfl!) (by kernel_rfl!) (by rw [Ne, sEq]; decide) (by kernel_rfl!) (by kernel_rfl!) hx ha (zbY c2) ⟨_, false, by (show _ = _; first | kernel_rfl! | (rw [<- Nat.add_assoc]; kernel_rfl!) | (rw [<- Nat.add_assoc, <- Nat.add_assoc]; kernel_rfl!)), zbZ (zbY c2), hK⟩)
 ·rw [xI, if_neg (fun q => by rw [q.2, decide_eq_true q.1] at hc; cases hc)] at hK
  refine aB (bR M (decide (e1 = e0)) ?_ (fun hz => ?_) (fun hz => ?_))
  ·exact n8 (a := .int e1) (b := .int e0) M (aA (by kernel_rfl!) (by kernel_rfl!)) (aA (by kernel_rfl!) (by kernel_rfl!)) ⟨rfl, decide_eq_decide.mpr Int.ofNat_inj, rfl⟩
  ·rw [if_pos (of_decide_eq_true hz)] at hK
   exact aB (aT M (zO none) (a0 M (aC M (aE rfl) (aC M (aE rfl) aH))) ⟨_, xE _ _, hK⟩)
  ·rw [if_neg (of_decide_eq_false hz)] at hK
   exact ⟨e1, true, by (show _ = _; first | kernel_rfl! | (rw [<- Nat.add_assoc]; kernel_rfl!) | (rw [<- Nat.add_assoc, <- Nat.add_assoc]; kernel_rfl!)), b1, hK⟩
 refine fun st => x2 fun e2 pl => a3 fun h1 b2 hK => cF h1 ?_
 rw [zds] at hK
 let R3 : St -> Prop := fun s => ∃ (e3 : Nat) (pl3 : Bool), dC [("end", .int e3), ("plain", .bool pl3)] s.ρ /\ K (zO (some (e3, pl3)))
 refine eJ M R3
  (bR M (decide (css[e2]? = some 101 \/ css[e2]? = some 69)) (sC M (by kernel_rfl!) (by kernel_rfl!) (by kernel_rfl!) (by kernel_rfl!) (lt b2) (a0 M (aC M (aE rfl) (aC M (aE rfl) aH))) ⟨[[101], [69]], by decide +kernel, rfl, rS css e2 101 69, rfl⟩) (fun hc => ?_) (fun hc => ?_)) ?_
 ·have hc := of_decide_eq_true hc
  rw [if_pos hc] at hK
  have b4 : e2 + 1 <= css.length := hc.elim tC tC
  refine aB (aJ M (.int (e2 + 1 : Nat)) (cZ (i := e2) (j := 1) M (aA (by kernel_rfl!) (by kernel_rfl!)) (aE rfl)) (by decide +kernel) ?_)
  let R4 : St -> Prop := fun s => ∃ pw : Nat, dC [("css", .str css), ("end", .int e2), ("plain", .bool pl), ("power", .int pw)] s.ρ /\ pw <= css.length /\ K (zO (some (if eH css pw = true then (pw + gG (css.drop pw), false) else (e2, pl))))
  refine eJ M R4
   (bR M (decide (css[e2 + 1]? = some 45 \/ css[e2 + 1]? = some 43)) (sC M (by kernel_rfl!) (by kernel_rfl!) (by kernel_rfl!) (by kernel_rfl!) (lt b4) (a0 M (aC M (aE rfl) (aC M (aE rfl) aH))) ⟨[[45], [43]], by decide +kernel, rfl, rS css (e2 + 1) 45 43, rfl⟩) (fun hs => ?_) (fun hs => ?_)) ?_
  ·have hs : eE (css.drop (e2 + 1)) = 1 := by rw [gB, if_pos (of_decide_eq_true hs)]
   have hl := w8 b4
   rw [hs] at hK hl
   exact aB (eF M (.int (e2 + 1 : Nat)) (.int 1) (by kernel_rfl!) (aE rfl) (by decide +kernel) (of_eq dN ⟨e2 + 1 + 1, by (show _ = _; first | kernel_rfl! | (rw [<- Nat.add_assoc]; kernel_rfl!) | (rw [<- Nat.add_assoc, <- Nat.add_assoc]; kernel_rfl!)), hl, hK⟩))
  ·have hs : eE (css.drop (e2 + 1)) = 0 := by rw [gB, if_neg (of_decide_eq_false hs)]
   rw [hs] at hK
   exact ⟨e2 + 1, by (show _ = _; first | kernel_rfl! | (rw [<- Nat.add_assoc]; kernel_rfl!) | (rw [<- Nat.add_assoc, <- Nat.add_assoc]; kernel_rfl!)), b4, hK⟩
  refine fun st => x1 fun pw => a3 fun h1 b5 hK => cF h1 ?_
  refine aB (bR M (eH css pw) (sD M pL (by kernel_rfl!) (by kernel_rfl!) (by kernel_rfl!) (by kernel_rfl!) (by kernel_rfl!) hx ha b5) (fun hd => ?_) (fun hd => ?_))
  ·rw [if_pos hd] at hK
   refine aB (aJ M (.bool false) (aE rfl) (by decide +kernel) ?_)
   refine aB (aJ M (.int pw) (aA (by kernel_rfl!) (by kernel_rfl!)) (by decide +kernel) ?_)
   exact aB (mW (x := css) (e := pw) M pL (by kernel_rfl!) (by kernel_rfl!) (by kernel_rfl!) (by rw [Ne, sEq]; decide) (by kernel_rfl!) (by kernel_rfl!) hx ha b5 ⟨_, false, by (show _ = _; first | kernel_rfl! | (rw [<- Nat.add_assoc]; kernel_rfl!) | (rw [<- Nat.add_assoc, <- Nat.add_assoc]; kernel_rfl!)), hK⟩)
  ·rw [if_neg (by rw [hd]; decide)] at hK
   exact ⟨e2, pl, by (show _ = _; first | kernel_rfl! | (rw [<- Nat.add_assoc]; kernel_rfl!) | (rw [<- Nat.add_assoc, <- Nat.add_assoc]; kernel_rfl!)), hK⟩
 ·rw [if_neg (of_decide_eq_false hc)] at hK
  exact ⟨e2, pl, by (show _ = _; first | kernel_rfl! | (rw [<- Nat.add_assoc]; kernel_rfl!) | (rw [<- Nat.add_assoc, <- Nat.add_assoc]; kernel_rfl!)), hK⟩
 refine fun st => x2 fun e3 pl3 => a2 fun h1 hK => cF h1 ?_
 exact aB (aT M (zO (some (e3, pl3))) (a0 M (aC M (aA (by kernel_rfl!) (by kernel_rfl!)) (aC M (aA (by kernel_rfl!) (by kernel_rfl!)) aH))) ⟨_, xE _ _, hK⟩)
noncomputable def zbE : Fn := fun ps K => ∃ (css : List Nat) (pos : Nat), ps = [.str css, .int pos] /\ css.length < 1000000 /\ Al css /\ pos <= css.length /\
 K (zO (zdO css pos))
theorem vZ : aX zbE := fun _ _ _ h => e2 fun _ _ => c4 (h _)
theorem zdb (p : Params) : ∃ u, mgK p (Str.ofString "_DIGITS") = some u /\ qN (HK p) u i6 = true := by
 have h : (match mgK p (Str.ofString "_DIGITS") with
  | some u => qN (HK p) u i6
  | none => false) = true := by kernel_rfl
 split at h
 ·rename_i u e; exact ⟨u, e, h⟩
 ·cases h
theorem xV (hB : BsOk (bs w.params h mb)) (hmb : HMb mb) : Meets prog w (bs w.params h mb) 1 (.ref 613) zbE := by
 have hC : CtxOk prog w (bs w.params h mb) cN 0 := eC hmb (by simp) (by simp) (fun e he => by
  simp only [List.mem_singleton] at he; subst he
  obtain ⟨u, h1, h2⟩ := zdb w.params
  exact ⟨u, h1, m6 hB.kin _ h2⟩) (by simp) (by simp) (by simp)
 refine bB (k := 2) (params := ["css", "pos"]) (dv := []) (dp := []) hB hC (by kernel_rfl) (by kernel_rfl) (by kernel_rfl) rfl (fun _ => .nil) (fun S vals hl => ?_) fun ps K ⟨css, pos, h1, h2, h3, h5, h4⟩ => ?_
 ·obtain ⟨a, b, rfl⟩ := jF hl
  kernel_rfl
 ·subst h1
  exact ⟨rfl, zaI _ css pos K h2 h3 h5 h4⟩
noncomputable def zeR (x : List Nat) : Bool := [92].isPrefixOf x && !([92, 10].isPrefixOf x)
noncomputable def iH : List Nat -> Bool
 | d :: r => (bD d || d == 45) || zeR (d :: r)
 | [] => false
noncomputable def aM : List Nat -> Bool
 | [] => false
 | c :: r => bD c || ((c == 45 && iH r) || (c == 92 && !([92, 10].isPrefixOf (c :: r))))
theorem zdP {x : List Nat} (ha : Al x) {k : Nat} (hk : fL k = false) (q : List Nat) (i : Nat) : (k :: q).isPrefixOf (x.drop i) = false := by
 cases h : x.drop i with
 | nil => rfl
 | cons c r =>
  have hc := (ha.drop i) c (by rw [h]; exact List.mem_cons_self)
  show ((k == c) && _) = false
  rw [beq_eq_false_iff_ne.mpr (fun e => by rw [<- e, hk] at hc; cases hc)]; rfl
theorem zbU {C : Ctx} {κ : Kn} {o i : Expr} {q : Str} {n : Nat} {p p1 p2 : Pos} {st : St} {x : List Nat} {e k : Nat} (M : CtxMono C) (h : ev C κ o st (.str x)) (hi : ev C κ i st (.int e)) (he : e <= x.length) (hx : x.length < 2000000) (hc : csE i = none) (ha : Al x) (hq : q.cps.toList.head? = some k) (hk : fL k = false) :
  ev C κ (.Call (.Attribute o (Str.ofString "startswith") p) [.Constant (.str q) n p1, i] [] p2) st (.bool false) := by
 have := kL (q := q) (k := n) (p := p) (p1 := p1) (p2 := p2) M h hi he hx hc
 cases e : q.cps.toList with
 | nil => rw [e] at hq; cases hq
 | cons a r => rw [e] at hq this; cases hq; rwa [zdP ha hk] at this
noncomputable def cI : Ctx := mkC [("_is_name_start", zet)] [] false [] []
theorem nO : CtxMono cI := bV (by simp [pW]) (by simp)
theorem zd3 {κ : Kn} {st : St} {css : List Nat} {i c : Nat} {p1 p2 p3 p4 : Pos} (k1 : κ "_is_name_start" = some .globalImplicit) (k2 : κ "css" = some .local) (k3 : κ "pos" = some .local) (h1 : st.ρ "css" = some (.str css)) (h2 : st.ρ "pos" = some (.int i)) (hc : css[i]? = some c) (ha : Al css) :
  ev cI κ (.Call (.Name (Str.ofString "_is_name_start") p1) [.Name (Str.ofString "css") p2, .Name (Str.ofString "pos") p3] [] p4) st (.bool (bD c)) :=
 bC (F := zet) nO k1 rfl (aC nO (aA k2 h1) (aC nO (aA k3 h2) aH)) ⟨css, i, c, rfl, hc, ha.at hc, .inl rfl, rfl⟩
theorem rQ (a b : Nat) : (a == b) = decide (a = b) := rfl
theorem zcP (p : Params) (css : List Nat) (pos c : Nat) (K : PV -> Prop) (hx : css.length < 1000000) (ha : Al css) (hc : css[pos]? = some c) (hK : K (.bool (aM (css.drop pos)))) :
  wSs cI (cS (aN (HK p) 642)) (aQ (HK p) 642) (lW K) ⟨bG [("css", .str css), ("pos", .int pos)] (fun _ => none), fun _ => none⟩ := by
 have M := nO
 have hx2 := Nat.lt_trans hx (show 1000000 < 2000000 by decide)
 obtain ⟨hl, hcc⟩ := List.getElem?_eq_some_iff.mp hc
 have hd : css.drop pos = c :: css.drop (pos + 1) := by rw [List.drop_eq_getElem_cons hl, hcc]
 rw [hd, aM] at hK
 clear hcc
 conv in (aQ _ _) => whnf
 refine aB (bR M (bD c) (bQ M (zd3 (by kernel_rfl!) (by kernel_rfl!) (by kernel_rfl!) (by kernel_rfl!) (by kernel_rfl!) hc ha)) (fun hn => ?_) (fun hn => ?_))
 ·rw [hn] at hK
  exact aB (aT M (.bool true) (aE rfl) ⟨_, cW _ _, hK⟩)
 rw [hn, Bool.false_or] at hK
 refine aB (bR M (decide (c = 45)) (bQ M (gO M (fJ M rfl (by exact aA (by kernel_rfl!) (by kernel_rfl!)) (by exact aA (by kernel_rfl!) (by kernel_rfl!)) hc) (by kernel_rfl))) (fun h1 => ?_) (fun h1 => ?_))
 ·rw [of_decide_eq_true h1, show ((45 : Nat) == 45) = true from rfl, Bool.true_and, show ((45 : Nat) == 92) = false from rfl, Bool.false_and, Bool.or_false] at hK
  refine aB (eF M (.int pos) (.int 1) (by kernel_rfl!) (aE rfl) (by kernel_rfl) (of_eq dN ?_))
  by_cases hq : pos + 1 < css.length
  ·have hg : css[pos + 1]? = some css[pos + 1] := List.getElem?_eq_getElem hq
   have hd2 : css.drop (pos + 1) = css[pos + 1] :: css.drop (pos + 2) := List.drop_eq_getElem_cons hq
   refine aB (aT M (.bool ((decide (pos + 1 < css.length) && (bD css[pos + 1] || decide (css[pos + 1] = 45))) || ([92].isPrefixOf (css.drop (pos + 1)) && !([92, 10].isPrefixOf (css.drop (pos + 1)))))) (pE M (kR M (kP M (by exact aA (by kernel_rfl!) (by kernel_rfl!)) (l9 M (by kernel_rfl!) rfl rfl (by kernel_rfl) (by exact aA (by kernel_rfl!) (by kernel_rfl!)))) fun _ => fH (pE M (zd3 (by kernel_rfl!) (by kernel_rfl!) (by kernel_rfl!) (by kernel_rfl!) (by kernel_rfl!) hg ha) fun _ => fH (gO M (fJ M rfl (by exact aA (by kernel_rfl!) (by kernel_rfl!)) (by exact aA (by kernel_rfl!) (by kernel_rfl!)) hg) (by kernel_rfl)))) fun _ => fH (kR M (kL (q := Str.ofString "\\") M (by exact aA (by kernel_rfl!) (by kernel_rfl!)) (by exact aA (by kernel_rfl!) (by kernel_rfl!)) hl hx2 rfl) fun _ => fH (zbW M (kL (q := Str.ofString "\\\n") M (by exact aA (by kernel_rfl!) (by kernel_rfl!)) (by exact aA (by kernel_rfl!) (by kernel_rfl!)) hl hx2 rfl)))) ⟨_, cW _ _, ?_⟩)
   rw [decide_eq_true hq, Bool.true_and, <- rQ]
   rw [hd2, iH, <- hd2] at hK
   exact hK
  ·rw [List.drop_of_length_le (Nat.le_of_not_lt hq)] at hK
   have hn : ∀ q : Str, q.cps.toList ≠ [] -> (q.cps.toList.isPrefixOf (css.drop (pos + 1))) = false := fun q h => by
    rw [List.drop_of_length_le (Nat.le_of_not_lt hq)]
    cases e : q.cps.toList with
    | nil => exact absurd e h
    | cons => rfl
   refine aB (aT M (.bool ((decide (pos + 1 < css.length) && false) || (false && false))) (pE M (kR M (kP M (by exact aA (by kernel_rfl!) (by kernel_rfl!)) (l9 M (by kernel_rfl!) rfl rfl (by kernel_rfl) (by exact aA (by kernel_rfl!) (by kernel_rfl!)))) fun h => absurd (of_decide_eq_true h) hq) fun _ => fH (kR M (hn (Str.ofString "\\") (by decide +kernel) ▸ kL (q := Str.ofString "\\") M (by exact aA (by kernel_rfl!) (by kernel_rfl!)) (by exact aA (by kernel_rfl!) (by kernel_rfl!)) hl hx2 rfl) fun h => by cases h)) ⟨_, cW _ _, ?_⟩)
   rw [Bool.and_false]; exact hK
 ·have h1 := of_decide_eq_false h1
  rw [show (c == 45) = false from beq_eq_false_iff_ne.mpr h1, Bool.false_and, Bool.false_or, <- hd] at hK
  refine aB (bR M (decide (c = 92)) (bQ M (gO M (fJ M rfl (by exact aA (by kernel_rfl!) (by kernel_rfl!)) (by exact aA (by kernel_rfl!) (by kernel_rfl!)) hc) (by kernel_rfl))) (fun h2 => ?_) (fun h2 => ?_))
  ·rw [rQ, h2, Bool.true_and] at hK
   exact aB (aT M (.bool (!([92, 10].isPrefixOf (css.drop pos)))) (zbW M (kL (q := Str.ofString "\\\n") M (by exact aA (by kernel_rfl!) (by kernel_rfl!)) (by exact aA (by kernel_rfl!) (by kernel_rfl!)) (Nat.le_of_lt hl) hx2 rfl)) ⟨_, cW _ _, hK⟩)
  ·rw [rQ, h2, Bool.false_and] at hK
   exact aB (aT M (.bool false) (aE rfl) ⟨_, cW _ _, hK⟩)
noncomputable def zeu : Fn := fun ps K => ∃ (css : List Nat) (pos c : Nat), ps = [.str css, .int pos] /\ css.length < 1000000 /\ Al css /\ css[pos]? = some c /\ K (.bool (aM (css.drop pos)))
theorem zL : aX zeu := fun _ _ _ h => e3 fun _ _ _ => c4 (h _)
theorem zaP (hB : BsOk (bs w.params h mb)) (hmb : HMb mb) : Meets prog w (bs w.params h mb) 2 (.ref 642) zeu := by
 have hC : CtxOk prog w (bs w.params h mb) cI 1 := eC hmb (by simp [pW]) (by simp) (by simp) (fun e he => by
  simp only [List.mem_singleton] at he; subst he
  exact ⟨.ref 635, by kernel_rfl, zaO hB hmb⟩) (by simp) (by simp)
 refine bB (k := 2) (params := ["css", "pos"]) (dv := []) (dp := []) hB hC (by kernel_rfl) (by kernel_rfl) (by kernel_rfl) rfl (fun _ => .nil) (fun S vals hl => ?_) fun ps K ⟨css, pos, c, h1, h2, h3, h5, h4⟩ => ?_
 ·obtain ⟨a, b, rfl⟩ := jF hl
  kernel_rfl
 ·subst h1
  exact ⟨rfl, zcP _ css pos c K h2 h3 h5 h4⟩
noncomputable def dX (c : Nat) : Bool := (48 <= c && c <= 57) || (65 <= c && c <= 70) || (97 <= c && c <= 102)
noncomputable def iY : Nat -> List Nat -> Nat
 | 0, _ => 0
 | k + 1, x => x.casesOn 0 fun c r => if dX c = true then iY k r + 1 else 0
theorem zcH {c : Nat} (h : fL c = true) : decide (c ∈ (Str.ofString "0123456789abcdefABCDEF").cps.toList) = dX c :=
 dY (f := fun c => decide (c ∈ (Str.ofString "0123456789abcdefABCDEF").cps.toList)) (by decide +kernel) h
theorem o5 {x : List Nat} {i k : Nat} (hl : i < x.length) : iY (k + 1) (x.drop i) = if dX x[i] = true then iY k (x.drop (i + 1)) + 1 else 0 := by
 rw [List.drop_eq_getElem_cons hl]; rfl
theorem za4 {x : List Nat} {i k : Nat} (hl : x.length <= i) : iY k (x.drop i) = 0 := by
 rw [List.drop_of_length_le hl]; cases k <;> rfl
theorem rE : ∀ (k : Nat) (x : List Nat), iY k x <= x.length
 | 0, x => Nat.zero_le _
 | k + 1, [] => Nat.le_refl _
 | k + 1, c :: r => by
  show (if dX c = true then iY k r + 1 else 0) <= _
  split
  ·exact Nat.succ_le_succ (rE k r)
  ·exact Nat.zero_le _
theorem tB : ∀ (k : Nat) (x : List Nat), iY k x <= k
 | 0, x => Nat.le_refl _
 | k + 1, [] => Nat.zero_le _
 | k + 1, c :: r => by
  show (if dX c = true then iY k r + 1 else 0) <= _
  split
  ·exact Nat.succ_le_succ (tB k r)
  ·exact Nat.zero_le _
theorem za2 (p : Params) (css : List Nat) (pos : Nat) (K : PV -> Prop) (hx : css.length < 1000000) (ha : Al css) (hp : pos <= css.length) (hK : K (.int ((pos + iY 6 (css.drop pos) : Nat)))) :
  wSs (mkC [] [] false [] []) (cS (aN (HK p) 620)) (aQ (HK p) 620) (lW K) ⟨bG [("css", .str css), ("pos", .int pos)] (fun _ => none), fun _ => none⟩ := by
 have M : CtxMono (mkC [] [] false [] []) := bV (by simp) (by simp)
 conv in (aQ _ _) => whnf
 refine aB (aJ M (.int pos) (by exact aA (by kernel_rfl!) (by kernel_rfl!)) (by kernel_rfl) ?_)
 generalize hT : pos + iY 6 (css.drop pos) = T at hK
 let R : St -> Prop := fun st => dC [("end", .int T)] st.ρ
 let I : Nat -> St -> Prop := fun k st => ∃ e : Nat, dC [("css", .str css), ("pos", .int pos), ("end", .int e)] st.ρ /\ e <= css.length /\ e + k = pos + 6 /\ e + iY k (css.drop e) = T
 refine eJ M R (iW M I ?_ 6 _ ⟨pos, by (show _ = _; first | kernel_rfl! | (rw [<- Nat.add_assoc]; kernel_rfl!) | (rw [<- Nat.add_assoc, <- Nat.add_assoc]; kernel_rfl!)), hp, rfl, hT⟩) ?_
 ·refine fun k st => x1 fun e => a4 fun h1 h6 h7 h8 => keepP st h1 ?_
  have he : e < 1000000 := Nat.lt_of_le_of_lt h6 hx
  have hn : (!decide (slc css (some (e : Int)) (some ((e : Int) + 1)) = [])) = decide (e < css.length) := by
   rw [sl1, tX, <- decide_not]
   refine decide_eq_decide.mpr ?_
   by_cases hl : e < css.length
   ·rw [List.getElem?_eq_getElem hl]; exact ⟨fun _ => hl, fun _ q => by cases q⟩
   ·rw [List.getElem?_eq_none (Nat.le_of_not_lt hl)]; exact ⟨fun q => absurd rfl q, fun q => absurd q hl⟩
  refine ⟨decide (e < pos + 6) && (decide (e < css.length) && (css[e]?).any dX), dJ M (bQ M (kP (b := pos + 6) M (by exact aA (by kernel_rfl!) (by kernel_rfl!)) (cZ (i := pos) (j := 6) M (by exact aA (by kernel_rfl!) (by kernel_rfl!)) (aE rfl)))) fun _ => ?_, fun hc => ?_, fun hc => ?_⟩
  ·refine hn ▸ dJ M (bQ M (zd4 (q := "") M (kM M (by exact aA (by kernel_rfl!) (by kernel_rfl!)) (by exact aA (by kernel_rfl!) (by kernel_rfl!)) (cZ (i := e) (j := 1) M (by exact aA (by kernel_rfl!) (by kernel_rfl!)) (aE rfl)) (oD he)))) fun h => c6 ?_
   have hl : e < css.length := of_decide_eq_true (hn ▸ h)
   have hg := List.getElem?_eq_getElem hl
   rw [hg, Option.any_some, <- zcH (ha.get hl)]
   exact bQ M (fY M (fJ M rfl (by exact aA (by kernel_rfl!) (by kernel_rfl!)) (by exact aA (by kernel_rfl!) (by kernel_rfl!)) hg))
  ·obtain ⟨c1, c2⟩ := Bool.and_eq_true_iff.mp hc
   obtain ⟨c2, c3⟩ := Bool.and_eq_true_iff.mp c2
   have c2 := of_decide_eq_true c2
   rw [List.getElem?_eq_getElem c2, Option.any_some] at c3
   obtain ⟨k', rfl⟩ : ∃ k', k = k' + 1 := ⟨k - 1, by have := of_decide_eq_true c1; omega⟩
   rw [o5 c2, if_pos c3] at h8
   exact aB (eF M (.int e) (.int 1) (by kernel_rfl!) (aE rfl) (by kernel_rfl) (of_eq dN ⟨k', Nat.lt_succ_self k', e + 1, by (show _ = _; first | kernel_rfl! | (rw [<- Nat.add_assoc]; kernel_rfl!) | (rw [<- Nat.add_assoc, <- Nat.add_assoc]; kernel_rfl!)), c2, by rw [<- h7, Nat.add_assoc, Nat.add_comm 1], by rw [<- h8, Nat.add_assoc, Nat.add_comm 1]⟩))
  ·have h0 : iY k (css.drop e) = 0 := by
    cases k with
    | zero => rfl
    | succ k =>
     by_cases hl : e < css.length
     ·rw [o5 hl, if_neg]
      intro q
      rw [List.getElem?_eq_getElem hl, Option.any_some, q, decide_eq_true hl, decide_eq_true (show e < pos + 6 by omega)] at hc
      cases hc
     ·exact za4 (Nat.le_of_not_lt hl)
   rw [h0] at h8
   subst h8
   exact by (show _ = _; first | kernel_rfl! | (rw [<- Nat.add_assoc]; kernel_rfl!) | (rw [<- Nat.add_assoc, <- Nat.add_assoc]; kernel_rfl!))
 ·exact fun st h1 => cF h1 (aB (aT M (.int T) (by exact aA (by kernel_rfl!) (by kernel_rfl!)) ⟨_, bA _ _ rfl, hK⟩))
noncomputable def zbF : Fn := fun ps K => ∃ (css : List Nat) (pos : Nat), ps = [.str css, .int pos] /\ css.length < 1000000 /\ Al css /\ pos <= css.length /\ K (.int ((pos + iY 6 (css.drop pos) : Nat)))
theorem mI : aX zbF := fun _ _ _ h => e2 fun _ _ => c4 (h _)
theorem xW (hB : BsOk (bs w.params h mb)) (hmb : HMb mb) : Meets prog w (bs w.params h mb) 1 (.ref 620) zbF := by
 have hC : CtxOk prog w (bs w.params h mb) (mkC [] [] false [] []) 0 := eC hmb (by simp) (by simp) (by simp) (by simp) (by simp) (by simp)
 refine bB (k := 2) (params := ["css", "pos"]) (dv := []) (dp := []) hB hC (by kernel_rfl) (by kernel_rfl) (by kernel_rfl) rfl (fun _ => .nil) (fun S vals hl => ?_) fun ps K ⟨css, pos, h1, h2, h3, h5, h4⟩ => ?_
 ·obtain ⟨a, b, rfl⟩ := jF hl
  kernel_rfl
 ·subst h1
  exact ⟨rfl, za2 _ css pos K h2 h3 h5 h4⟩
noncomputable def bY (c : Nat) : Bool := c == 32 || c == 10 || c == 9
noncomputable def e9 (x : List Nat) : Nat := x.casesOn 0 fun c _ => if bY c = true then 1 else 0
inductive EscAt (x : List Nat) (s : Nat) : Nat -> Prop
 | hex : 0 < iY 6 x -> fS 16 0 (x.take (iY 6 x)) = some s -> 0 < s -> s <= 1114111 -> EscAt x s (iY 6 x + e9 (x.drop (iY 6 x)))
 | sign : iY 6 x = 0 -> x[0]? = some s -> EscAt x s 1
theorem EscAt.le {x : List Nat} {s n : Nat} (h : EscAt x s n) : 1 <= n /\ n <= x.length := by
 cases h with
 | hex h1 =>
  have h2 := rE 6 x
  refine ⟨Nat.le_trans h1 (Nat.le_add_right _ _), ?_⟩
  generalize iY 6 x = n at *
  cases hd : x.drop n with
  | nil => exact h2
  | cons c r =>
   have h3 := congrArg List.length hd
   rw [List.length_drop] at h3
   have h3 : x.length - n = r.length + 1 := h3
   show n + (if bY c = true then 1 else 0) <= _
   split <;> omega
 | sign _ h => exact ⟨Nat.le_refl _, (List.getElem?_eq_some_iff.mp h).1⟩
theorem zbt {x : List Nat} (ha : Al x) (i : Nat) : decide (at1 x i ∈ ([[32], [10], [9]] : List (List Nat))) = decide (e9 (x.drop i) = 1) := by
 rw [tX]
 by_cases h : i < x.length
 ·rw [List.drop_eq_getElem_cons h, List.getElem?_eq_getElem h]
  exact dY (f := fun c => decide ([c] ∈ ([[32], [10], [9]] : List (List Nat)))) (g := fun c => decide ((if bY c = true then 1 else 0) = 1)) (by decide +kernel) (ha.get h)
 ·rw [List.drop_of_length_le (Nat.le_of_not_lt h), List.getElem?_eq_none (Nat.le_of_not_lt h)]; rfl
theorem qQ (x : List Nat) (h : e9 x ≠ 1) : e9 x = 0 := by
 cases x with
 | nil => rfl
 | cons c r =>
  show (if bY c = true then 1 else 0) = 0
  split
  ·rename_i q; exact absurd (if_pos q) h
  ·rfl
theorem zcf {C : Ctx} {κ : Kn} {l m r : Expr} {p : Pos} {st : St} {i j k : Nat} (M : CtxMono C) (h1 : ev C κ l st (.int i)) (h2 : ev C κ m st (.int j)) (h3 : ev C κ r st (.int k)) (g1 : i < j) (g2 : j <= k) : tv C κ (.Compare l [.Lt, .LtE] [m, r] p) st true := by
 refine aO (e := l) M h1 (aO (e := m) M h2 ?_)
 show if decide ((i : Int) < j) = true then wCh C [r] [.LtE] κ (.int j) _ st else _
 rw [if_pos (decide_eq_true (Int.ofNat_lt.mpr g1))]
 exact aO (e := r) M h3 ⟨rfl, decide_eq_true (Int.ofNat_le.mpr g2), rfl⟩
noncomputable def cE : Ctx := mkC [("_hex_end", zbF)] [] false [] []
theorem zdi : CtxMono cE := bV (by simp [mI]) (by simp)
theorem zbl (p : Params) (css : List Nat) (pos s n : Nat) (K : PV -> Prop) (hx : css.length < 1000000) (ha : Al css) (hp : pos <= css.length) (he : EscAt (css.drop pos) s n) (hK : K (.tup [.str [s], .int ((pos + n : Nat))])) :
  wSs cE (cS (aN (HK p) 663)) (aQ (HK p) 663) (lW K) ⟨bG [("css", .str css), ("pos", .int pos)] (fun _ => none), fun _ => none⟩ := by
 have M := zdi
 conv in (aQ _ _) => whnf
 have hle : pos + iY 6 (css.drop pos) <= css.length := gT hp (rE _ _)
 have h6 := tB 6 (css.drop pos)
 refine aB (aJ M (.int ((pos + iY 6 (css.drop pos) : Nat))) (bC (F := zbF) M (by kernel_rfl!) rfl (aC M (v := .str css) (by exact aA (by kernel_rfl!) (by kernel_rfl!)) (aC M (v := .int pos) (by exact aA (by kernel_rfl!) (by kernel_rfl!)) aH)) ⟨css, pos, rfl, hx, ha, hp, .inl rfl, rfl⟩) (by kernel_rfl) ?_)
 cases he with
 | hex g1 g2 g3 g4 =>
  rw [List.drop_drop] at hK
  generalize hh : iY 6 (css.drop pos) = h at *
  have ht : (css.drop pos).take (pos + h - pos) = (css.drop pos).take h := by rw [Nat.add_sub_cancel_left]
  have hlt : ((css.drop pos).take h).length = h := List.length_take_of_le (by rw [List.length_drop]; omega)
  have lt2 : pos + h < 1000000 := Nat.lt_of_le_of_lt hle hx
  refine aB (bR M true (bQ M (bL (a := .int (pos + h : Nat)) (b := .int pos) M (by exact aA (by kernel_rfl!) (by kernel_rfl!)) (by exact aA (by kernel_rfl!) (by kernel_rfl!)) (decide_eq_true (Int.ofNat_lt.mpr (Nat.lt_add_of_pos_right g1))))) (fun _ => ?_) (fun h => by cases h))
  refine aB (aJ M (.int s) (i5 M (by kernel_rfl!) rfl rfl (by kernel_rfl) (aC M (v := .str ((css.drop pos).take h)) (ht ▸ yT M (by exact aA (by kernel_rfl!) (by kernel_rfl!)) (by exact aA (by kernel_rfl!) (by kernel_rfl!)) (by exact aA (by kernel_rfl!) (by kernel_rfl!)) (Nat.le_add_right _ _) (Nat.lt_trans lt2 (by decide))) (aC M (v := .int 16) (aE rfl) aH)) (of_eq (B := (16 : Int) = 16 /\ (css.drop pos).take h ≠ [] /\ ((css.drop pos).take h).length <= 640 /\ ∃ n, fS 16 0 ((css.drop pos).take h) = some n /\ PV.int n = .int s) (by kernel_rfl) ⟨rfl, fun q => by rw [q] at hlt; rw [<- hlt] at g1; exact absurd g1 (Nat.lt_irrefl 0), by rw [hlt]; exact Nat.le_trans h6 (by decide), s, g2, rfl⟩)) (by kernel_rfl) ?_)
  refine aB (aT M (.tup [.str [s], .int ((pos + (h + e9 (css.drop (pos + h))) : Nat))]) ?_ ⟨_, bA _ _ rfl, hK⟩)
  refine a0 M (aC M (cK (c := true) M ?_ (fun _ => ?_) (fun q => by cases q)) (aC M (cK (c := decide (e9 (css.drop (pos + h)) = 1)) M ?_ (fun hc => ?_) (fun hc => ?_)) aH))
  ·exact zcf M (i := 0) (k := 1114111) (aE rfl) (by exact aA (by kernel_rfl!) (by kernel_rfl!)) (aE rfl) g3 g4
  ·exact i5 M (by kernel_rfl!) rfl rfl (by kernel_rfl) (aC M (v := .int s) (by exact aA (by kernel_rfl!) (by kernel_rfl!)) aH) (of_eq (B := 0 <= (s : Int) /\ (s : Int) < 0x110000 /\ PV.str [s] = .str [s]) (by kernel_rfl) ⟨Int.natCast_nonneg s, Int.ofNat_lt.mpr (Nat.lt_succ_of_le g4), rfl⟩)
  ·rw [<- zbt ha]
   exact n8 M (kM (x := css) M (by exact aA (by kernel_rfl!) (by kernel_rfl!)) (by exact aA (by kernel_rfl!) (by kernel_rfl!)) (cZ (i := (pos + h : Nat)) (j := 1) M (by exact aA (by kernel_rfl!) (by kernel_rfl!)) (aE rfl)) (oD lt2)) (a0 M (aC M (aE rfl) (aC M (aE rfl) (aC M (aE rfl) aH)))) ⟨[[32], [10], [9]], by decide +kernel, rfl, by rw [sl1], rfl⟩
  ·rw [of_decide_eq_true hc]
   show ev _ _ _ _ (.int (((pos + h : Nat) : Int) + 1))
   exact cZ (i := (pos + h : Nat)) (j := 1) M (by exact aA (by kernel_rfl!) (by kernel_rfl!)) (aE rfl)
  ·rw [qQ _ (of_decide_eq_false hc)]
   exact (by exact aA (by kernel_rfl!) (by kernel_rfl!))
 | sign g1 g2 =>
  rw [g1] at hle ⊢
  rw [d8] at g2
  have hl := (List.getElem?_eq_some_iff.mp g2).1
  refine aB (bR M false (bQ M (bL (a := .int (pos + 0 : Nat)) (b := .int pos) M (by exact aA (by kernel_rfl!) (by kernel_rfl!)) (by exact aA (by kernel_rfl!) (by kernel_rfl!)) (decide_eq_false (fun q => Int.lt_irrefl _ q)))) (fun h => by cases h) (fun _ => ?_))
  refine aB (bR M true (decide_eq_true hl ▸ bQ M (kP M (by exact aA (by kernel_rfl!) (by kernel_rfl!)) (l9 M (by kernel_rfl!) rfl rfl (by kernel_rfl) (by exact aA (by kernel_rfl!) (by kernel_rfl!))))) (fun _ => ?_) (fun h => by cases h))
  exact aB (aT M (.tup [.str [s], .int ((pos + 1 : Nat))]) (a0 M (aC M (fJ M rfl (by exact aA (by kernel_rfl!) (by kernel_rfl!)) (by exact aA (by kernel_rfl!) (by kernel_rfl!)) g2) (aC M (cZ (i := pos) (j := 1) M (by exact aA (by kernel_rfl!) (by kernel_rfl!)) (aE rfl)) aH))) ⟨_, bA _ _ rfl, hK⟩)
noncomputable def zbG : Fn := fun ps K => ∃ (css : List Nat) (pos s n : Nat), ps = [.str css, .int pos] /\ css.length < 1000000 /\ Al css /\ pos <= css.length /\ EscAt (css.drop pos) s n /\ K (.tup [.str [s], .int ((pos + n : Nat))])
theorem mJ : aX zbG := fun _ _ _ h => e4 fun _ _ _ _ => c5 (h _)
theorem xX (hB : BsOk (bs w.params h mb)) (hmb : HMb mb) : Meets prog w (bs w.params h mb) 2 (.ref 663) zbG := by
 have hC : CtxOk prog w (bs w.params h mb) cE 1 := eC hmb (by simp [mI]) (by simp) (by simp) (fun e he => by
  simp only [List.mem_singleton] at he; subst he
  exact ⟨.ref 620, by kernel_rfl, xW hB hmb⟩) (by simp) (by simp)
 refine bB (k := 2) (params := ["css", "pos"]) (dv := []) (dp := []) hB hC (by kernel_rfl) (by kernel_rfl) (by kernel_rfl) rfl (fun _ => .nil) (fun S vals hl => ?_) fun ps K ⟨css, pos, s, n, h1, h2, h3, h5, h6, h4⟩ => ?_
 ·obtain ⟨a, b, rfl⟩ := jF hl
  kernel_rfl
 ·subst h1
  exact ⟨rfl, zbl _ css pos s n K h2 h3 h5 h6 h4⟩
noncomputable def bU (c : Nat) : Bool := bD c || c == 45 || lH c
theorem zaN {c : Nat} (h : fL c = true) : (decide (c ∈ (Str.ofString "abcdefghijklmnopqrstuvwxyz-_0123456789ABCDEFGHIJKLMNOPQRSTUVWXYZ").cps.toList) || decide (127 < c)) = bU c :=
 dY (f := fun c => decide (c ∈ (Str.ofString "abcdefghijklmnopqrstuvwxyz-_0123456789ABCDEFGHIJKLMNOPQRSTUVWXYZ").cps.toList) || decide (127 < c)) (by decide +kernel) h
inductive NameAt : List Nat -> List Nat -> Nat -> Prop
 | stop (x : List Nat) : (∀ c r, x = c :: r -> bU c = false /\ c ≠ 92) -> NameAt x [] 0
 | sign (c : Nat) (r v : List Nat) (n : Nat) : bU c = true -> NameAt r v n -> NameAt (c :: r) (c :: v) (n + 1)
 | esc (r v : List Nat) (s k n : Nat) : [92, 10].isPrefixOf (92 :: r) = false -> EscAt r s k -> NameAt (r.drop k) v n -> NameAt (92 :: r) (s :: v) (n + (k + 1))
theorem NameAt.le {x v : List Nat} {n : Nat} (h : NameAt x v n) : n <= x.length /\ v.length <= n := by
 induction h with
 | stop => exact ⟨Nat.zero_le _, Nat.le_refl _⟩
 | sign c r v n _ _ ih => exact ⟨Nat.succ_le_succ ih.1, Nat.succ_le_succ ih.2⟩
 | esc r v s k n _ he _ ih =>
  have h2 := he.le
  rw [List.length_drop] at ih
  simp only [List.length_cons]
  omega
theorem NameAt.iv_name {c : Nat} {r v : List Nat} {n : Nat} (h : NameAt (c :: r) v n) (hb : bU c = true) : ∃ w k, v = c :: w /\ n = k + 1 /\ NameAt r w k := by
 cases h with
 | stop _ h => rw [(h c _ rfl).1] at hb; cases hb
 | esc => cases hb
 | sign _ _ w k _ h => exact ⟨w, k, rfl, rfl, h⟩
theorem NameAt.iv_esc {r v : List Nat} {n : Nat} (h : NameAt (92 :: r) v n) : ∃ s w k m, v = s :: w /\ n = m + (k + 1) /\ EscAt r s k /\ NameAt (r.drop k) w m := by
 cases h with
 | stop _ h => exact absurd rfl (h 92 _ rfl).2
 | sign _ _ _ _ hb => cases hb
 | esc _ w s k m _ he h => exact ⟨s, w, k, m, rfl, rfl, he, h⟩
theorem NameAt.iv_stop {c : Nat} {r v : List Nat} {n : Nat} (h : NameAt (c :: r) v n) (hb : bU c = false) (hq : (decide (c = 92) && !([92, 10].isPrefixOf (c :: r))) = false) : v = [] /\ n = 0 := by
 cases h with
 | stop => exact ⟨rfl, rfl⟩
 | sign _ _ _ _ h => rw [h] at hb; cases hb
 | esc _ _ _ _ _ h => rw [h] at hq; cases hq
theorem NameAt.iv_nil {v : List Nat} {n : Nat} (h : NameAt [] v n) : v = [] /\ n = 0 := by cases h; exact ⟨rfl, rfl⟩
theorem zby {x : List Nat} {i k : Nat} (hi : i <= x.length) (h : k <= (x.drop i).length) : i + k <= x.length := by
 rw [List.length_drop] at h; omega
theorem zb6 {ch : List (List Nat)} {s n : Nat} (h : ch.length <= 2 * s) (hs : s <= n) (hn : n < 1000000) : (ch.map PV.str).length < aP := by
 rw [List.length_map]; unfold aP; omega
theorem zdd {ch : List (List Nat)} {s n : Nat} {x : PV} (h : ch.length <= 2 * s) (hs : s <= n) (hn : n < 1000000) : (ch.map PV.str ++ [x]).length < aP := by
 rw [List.length_append, List.length_map]; show ch.length + 1 < _; unfold aP; omega
theorem zdc {ch : List (List Nat)} {x y : List Nat} {s e k : Nat} (h : ch.length <= 2 * s) (hs : s <= e) : (ch ++ [x] ++ [y]).length <= 2 * (e + 1 + k) := by
 simp only [List.length_append, List.length_cons, List.length_nil]; omega
theorem zcl (e k n : Nat) : e + 1 + k + n = e + (n + (k + 1)) := by omega
theorem zc8 {css v : List Nat} {p n : Nat} (h : NameAt (css.drop p) v n) : v.length <= css.length := Nat.le_trans h.le.2 (Nat.le_trans h.le.1 (by rw [List.length_drop]; exact Nat.sub_le _ _))
noncomputable def cD : Ctx := mkC [("_consume_escape", zbG)] [] false [] [272, 274, 327, 363, 370, 377, 437, 458, 507]
theorem zdj : CtxMono cD := bV (by simp [mJ]) (by simp)
theorem wJ {x : List Nat} {s p : Nat} (h1 : s <= p) (h2 : p < x.length) : (x.drop s).take (p + 1 - s) = (x.drop s).take (p - s) ++ [x[p]] := by
 rw [Nat.succ_sub h1, List.take_succ_eq_append_getElem (by rw [List.length_drop]; omega)]
 congr 2
 rw [List.getElem_drop]; congr 1; omega
theorem nJ (zs : List (List Nat)) (a : List Nat) : (zs ++ [a]).flatten = zs.flatten ++ a := by rw [List.flatten_append]; exact congrArg _ (List.append_nil a)
theorem vD (p : Params) (css : List Nat) (pos : Nat) (v : List Nat) (m : Nat) (K : PV -> Prop) (hx : css.length < 1000000) (ha : Al css) (hp : pos <= css.length) (hv : NameAt (css.drop pos) v m) (hK : K (.tup [.str v, .int ((pos + m : Nat))])) :
  wSs cD (cS (aN (HK p) 649)) (aQ (HK p) 649) (lW K) ⟨bG [("css", .str css), ("pos", .int pos)] (fun _ => none), fun _ => none⟩ := by
 have M := zdj
 have hx2 := Nat.lt_trans hx (show 1000000 < 2000000 by decide)
 conv in (aQ _ _) => whnf
 refine aB (oF (by kernel_rfl) (by kernel_rfl) fun a _ => ?_)
 refine aB (aJ M (.int css.length) (l9 M (by kernel_rfl!) rfl rfl (by kernel_rfl) (by exact aA (by kernel_rfl!) (by kernel_rfl!))) (by kernel_rfl) ?_)
 refine aB (aJ M (.int pos) (by exact aA (by kernel_rfl!) (by kernel_rfl!)) (by kernel_rfl) ?_)
 generalize e0 : pos + m = T at hK
 have hvl := zc8 hv
 let R : St -> Prop := fun st => ∃ (s : Nat) (ch : List (List Nat)), dC [("css", .str css), ("start_pos", .int s), ("pos", .int T), ("chunks", .ptr a)] st.ρ /\ st.σ a = some (.lst (ch.map .str)) /\ s <= T /\ T <= css.length /\ ch.length <= 2 * s /\ ch.flatten ++ (css.drop s).take (T - s) = v
 let I : Nat -> St -> Prop := fun n st => ∃ (s e : Nat) (ch : List (List Nat)) (w : List Nat) (k : Nat), n = css.length - e /\ dC [("css", .str css), ("length", .int css.length), ("start_pos", .int s), ("pos", .int e), ("chunks", .ptr a)] st.ρ /\ st.σ a = some (.lst (ch.map .str)) /\ s <= e /\ e <= css.length /\ ch.length <= 2 * s /\
   NameAt (css.drop e) w k /\ e + k = T /\ ch.flatten ++ (css.drop s).take (e - s) ++ w = v
 refine eJ M R (iW M I ?_ (css.length - pos) _ ⟨pos, pos, [], v, m, rfl, by (show _ = _; first | kernel_rfl! | (rw [<- Nat.add_assoc]; kernel_rfl!) | (rw [<- Nat.add_assoc, <- Nat.add_assoc]; kernel_rfl!)), aS _ _ _, Nat.le_refl _, hp, Nat.zero_le _, hv, e0, by rw [Nat.sub_self]; rfl⟩) ?_
 ·refine fun n st => x5 fun s e ch w k => a9 fun hnn h1 h6 h7 h8 h9 hn hT hw => keepP st h1 ?_
  refine ⟨decide (e < css.length), bQ M (kP M (by exact aA (by kernel_rfl!) (by kernel_rfl!)) (by exact aA (by kernel_rfl!) (by kernel_rfl!))), fun hc => ?_, fun hc => ?_⟩
  ·have hc := of_decide_eq_true hc
   have hd : css.drop e = css[e] :: css.drop (e + 1) := List.drop_eq_getElem_cons hc
   rw [hd] at hn
   refine aB (aJ M (.str [css[e]]) (fJ M rfl (by exact aA (by kernel_rfl!) (by kernel_rfl!)) (by exact aA (by kernel_rfl!) (by kernel_rfl!)) (List.getElem?_eq_getElem hc)) (by kernel_rfl) ?_)
   refine aB (bR M (bU css[e]) (zaN (ha.get hc) ▸ bQ M (pE M (fY M (by exact aA (by kernel_rfl!) (by kernel_rfl!))) fun _ => fH (tJ M (by kernel_rfl!) rfl rfl (by kernel_rfl) (by exact aA (by kernel_rfl!) (by kernel_rfl!))))) (fun hb => ?_) (fun hb => ?_))
   ·refine x2 (fun w' k' => a3 fun hv' hk' hn' => ?_) (hn.iv_name hb)
    refine aB (eF M (.int e) (.int 1) (by kernel_rfl!) (aE rfl) (by kernel_rfl) (of_eq dN ⟨css.length - (e + 1), hnn ▸ Nat.sub_lt_sub_left hc (Nat.lt_succ_self e), s, e + 1, ch, w', k', rfl, by (show _ = _; first | kernel_rfl! | (rw [<- Nat.add_assoc]; kernel_rfl!) | (rw [<- Nat.add_assoc, <- Nat.add_assoc]; kernel_rfl!)), h6, Nat.le_succ_of_le h7, hc, h9, hn', by rw [<- hT, hk', Nat.add_assoc, Nat.add_comm 1], ?_⟩))
    rw [wJ h7 hc, <- hw, hv']
    simp only [List.append_assoc]; rfl
   ·refine aB (bR M (decide (css[e] = 92) && !([92, 10].isPrefixOf (css.drop e))) (dJ M (bQ M (gO M (by exact aA (by kernel_rfl!) (by kernel_rfl!)) (by kernel_rfl))) fun _ => c6 (n7 M (bQ M (kL (q := Str.ofString "\\\n") M (by exact aA (by kernel_rfl!) (by kernel_rfl!)) (by exact aA (by kernel_rfl!) (by kernel_rfl!)) h8 hx2 rfl)))) (fun hq => ?_) (fun hq => ?_))
    ·rw [hd] at hq
     rw [of_decide_eq_true (Bool.and_eq_true_iff.mp hq).1] at hn
     refine x4 (fun z w' k' n' => a4 fun hv' hk' he hn' => ?_) hn.iv_esc
     rw [List.drop_drop] at hn'
     have le : e + 1 + k' <= css.length := zby hc he.le.2
     refine aB (b7 M (.str ((css.drop s).take (e - s))) (by kernel_rfl) (by kernel_rfl!) h6 (yT M (by exact aA (by kernel_rfl!) (by kernel_rfl!)) (by exact aA (by kernel_rfl!) (by kernel_rfl!)) (by exact aA (by kernel_rfl!) (by kernel_rfl!)) h7 (Nat.lt_of_le_of_lt h8 hx2)) rfl (zb6 h9 (Nat.le_trans h7 h8) hx) ?_)
     refine aB (dK M (.str [z]) (.int ((e + 1 + k' : Nat))) (bC (F := zbG) M (by kernel_rfl!) rfl (aC M (v := .str css) (by exact aA (by kernel_rfl!) (by kernel_rfl!)) (aC M (v := .int (e + 1 : Nat)) (cZ (i := e) (j := 1) M (by exact aA (by kernel_rfl!) (by kernel_rfl!)) (aE rfl)) aH)) ⟨css, e + 1, z, k', rfl, hx, ha, hc, he, .inl rfl, rfl⟩) (by kernel_rfl) (by kernel_rfl) ?_)
     refine aB (b7 M (.str [z]) (by kernel_rfl) (by kernel_rfl!) (aS _ _ _) (by exact aA (by kernel_rfl!) (by kernel_rfl!)) rfl (zdd h9 (Nat.le_trans h7 h8) hx) ?_)
     refine aB (aJ M (.int ((e + 1 + k' : Nat))) (by exact aA (by kernel_rfl!) (by kernel_rfl!)) (by kernel_rfl) ?_)
     refine ⟨css.length - (e + 1 + k'), hnn ▸ Nat.sub_lt_sub_left hc (Nat.lt_of_lt_of_le (Nat.lt_succ_self e) (Nat.le_add_right _ _)), e + 1 + k', e + 1 + k', ch ++ [(css.drop s).take (e - s)] ++ [[z]], w', n', rfl, by (show _ = _; first | kernel_rfl! | (rw [<- Nat.add_assoc]; kernel_rfl!) | (rw [<- Nat.add_assoc, <- Nat.add_assoc]; kernel_rfl!)), ?_, Nat.le_refl _, le, zdc h9 h7, hn', by rw [<- hT, hk']; exact zcl _ _ _, ?_⟩
     ·dsimp only
      rw [v8, aS, List.map_append, List.map_append]; rfl
     ·rw [nJ, nJ, Nat.sub_self, List.take_zero, List.append_nil, <- hw, hv']
      simp only [List.append_assoc]; rfl
    ·have hz := hn.iv_stop hb (hd ▸ hq)
     rw [hz.1, List.append_nil] at hw
     rw [hz.2] at hT
     exact aB (zcx ⟨s, ch, by rw [<- hT]; (show _ = _; first | kernel_rfl! | (rw [<- Nat.add_assoc]; kernel_rfl!) | (rw [<- Nat.add_assoc, <- Nat.add_assoc]; kernel_rfl!)), h6, hT ▸ h7, hT ▸ h8, h9, hT ▸ hw⟩)
  ·rw [List.drop_of_length_le (Nat.le_of_not_lt (of_decide_eq_false hc))] at hn
   have hz := hn.iv_nil
   rw [hz.1, List.append_nil] at hw
   rw [hz.2] at hT
   exact ⟨s, ch, by rw [<- hT]; (show _ = _; first | kernel_rfl! | (rw [<- Nat.add_assoc]; kernel_rfl!) | (rw [<- Nat.add_assoc, <- Nat.add_assoc]; kernel_rfl!)), h6, hT ▸ h7, hT ▸ h8, h9, hT ▸ hw⟩
 ·refine fun st => x2 fun s ch => a6 fun h1 h5 h6 h7 h9 hw => keepP st h1 ?_
  refine aB (b7 M (.str ((css.drop s).take (T - s))) (by kernel_rfl) (by kernel_rfl!) h5 (yT M (by exact aA (by kernel_rfl!) (by kernel_rfl!)) (by exact aA (by kernel_rfl!) (by kernel_rfl!)) (by exact aA (by kernel_rfl!) (by kernel_rfl!)) h6 (Nat.lt_of_le_of_lt h7 hx2)) rfl (zb6 h9 (Nat.le_trans h6 h7) hx) ?_)
  refine aB (aT M (.tup [.str v, .int T]) (a0 M (aC M (yV (a := a) (ch ++ [(css.drop s).take (T - s)]) (by kernel_rfl) (by kernel_rfl!) (by dsimp only; rw [aS, List.map_append]; rfl) (by rw [nJ]; exact hw) (Nat.le_trans hvl (Nat.le_trans (Nat.le_of_lt hx) (by decide)))) (aC M (by exact aA (by kernel_rfl!) (by kernel_rfl!)) aH))) ⟨_, bA _ _ rfl, hK⟩)
noncomputable def zev : Fn := fun ps K => ∃ (css : List Nat) (pos : Nat) (v : List Nat) (m : Nat), ps = [.str css, .int pos] /\ css.length < 1000000 /\ Al css /\ pos <= css.length /\ NameAt (css.drop pos) v m /\ K (.tup [.str v, .int ((pos + m : Nat))])
theorem zM : aX zev := fun _ _ _ h => e4 fun _ _ _ _ => c5 (h _)
theorem zaQ (hB : BsOk (bs w.params h mb)) (hmb : HMb mb) : Meets prog w (bs w.params h mb) 3 (.ref 649) zev := by
 have hC : CtxOk prog w (bs w.params h mb) cD 2 := eC hmb (by simp [mJ]) (by simp) (by simp) (fun e he => by
  simp only [List.mem_singleton] at he; subst he
  exact ⟨.ref 663, by kernel_rfl, xX hB hmb⟩) (by simp) (by simp)
 refine bB (k := 2) (params := ["css", "pos"]) (dv := []) (dp := []) hB hC (by kernel_rfl) (by kernel_rfl) (by kernel_rfl) rfl (fun _ => .nil) (fun S vals hl => ?_) fun ps K ⟨css, pos, v, m, h1, h2, h3, h5, h6, h4⟩ => ?_
 ·obtain ⟨a, b, rfl⟩ := jF hl
  kernel_rfl
 ·subst h1
  exact ⟨rfl, vD _ css pos v m K h2 h3 h5 h6 h4⟩
noncomputable def cR : Ctx := mkC [] [] false [] []
theorem zD : CtxMono cR := bV (by simp) (by simp)
noncomputable def bW (c : Nat) : Nat := if 65 <= c /\ c <= 90 then c + 32 else c
theorem nI (f : Nat -> Nat) (x : List Nat) : (x.map fun c => [f c]).flatten = x.map f := by
 induction x with
 | nil => rfl
 | cons c r ih => simp [ih]
theorem uV {σ : Nat -> Option Cell} {xs : List PV} {K : PV -> (Nat -> Option Cell) -> Prop} : eG σ "join" (.str (Str.ofString "").cps.toList) [.list xs] K = (([] : List Nat) = [] /\ ∃ zs, gJ xs = some zs /\ zs.flatten.length <= aP /\ K (.str zs.flatten) σ) := by kernel_rfl
theorem leS1 (a c : Nat) : leS [a] [c] = decide (a <= c) := by
 show (if a = c then true else decide (a < c)) = _
 split
 ·rename_i h; rw [h, decide_eq_true (Nat.le_refl c)]
 ·rename_i h; exact decide_eq_decide.mpr ⟨Nat.le_of_lt, fun q => Nat.lt_of_le_of_ne q h⟩
theorem zcg {C : Ctx} {κ : Kn} {l m r : Expr} {p : Pos} {st : St} {a b e : List Nat} (M : CtxMono C) (h1 : ev C κ l st (.str a)) (h2 : ev C κ m st (.str b)) (h3 : ev C κ r st (.str e)) : tv C κ (.Compare l [.LtE, .LtE] [m, r] p) st (leS a b && leS b e) := by
 refine aO (e := l) M h1 (aO (e := m) M h2 ?_)
 show if leS a b = true then wCh C [r] [.LtE] κ (.str b) _ st else _
 cases leS a b
 ·exact ⟨rfl, rfl⟩
 ·exact aO (e := r) M h3 ⟨rfl, rfl, rfl⟩
theorem zaS (p : Params) (x : List Nat) (K : PV -> Prop) (hx : x.length < 1000000) (hK : K (.str (x.map bW))) :
  wSs cR (cS (aN (HK p) 26)) (aQ (HK p) 26) (lW K) ⟨bG [("text", .str x)] (fun _ => none), fun _ => none⟩ := by
 have M := zD
 conv in (aQ _ _) => whnf
 conv in (aN _ _) => whnf
 refine aB (aT M (.str (x.map bW)) ?_ ⟨_, bA _ _ rfl, hK⟩)
 refine ⟨rfl, ?_⟩
 refine aO M (v := .str (Str.ofString "").cps.toList) (aE rfl) ?_
 refine ⟨by kernel_rfl, ?_⟩
 rw [r6]
 rw [v6]
 refine ⟨rfl, by decide +kernel, by decide +kernel, aO (v := .str x) M (aA (by kernel_rfl!) (by kernel_rfl!)) ?_⟩
 refine ⟨by rw [List.length_map]; unfold aP; omega, ?_⟩
 refine jQ M (fun v => .str (((zdD v).getD []).map bW)) _ _ _ (fun v hv => ?_) ?_
 ·obtain ⟨c, hc, rfl⟩ := List.mem_map.mp hv
  refine ⟨_, rfl, ?_⟩
  refine cK (c := decide (65 <= c) && decide (c <= 90)) M ?_ (fun h => ?_) (fun h => ?_)
  ·rw [<- leS1, <- leS1]
   exact zcg M (aE rfl) (aA (by kernel_rfl!) (by kernel_rfl!)) (aE rfl)
  ·have h := (Bool.and_eq_true_iff.mp h)
   rw [decide_eq_true_eq, decide_eq_true_eq] at h
   rw [show PV.str (((zdD (.str [c])).getD []).map bW) = .str [c + 32] from congrArg (fun n => PV.str [n]) (if_pos h)]
   refine i5 M (by kernel_rfl!) rfl rfl (by kernel_rfl) (aC M (v := .int ((c : Int) + 32)) (cZ (i := c) (j := 32) M (i5 M (by kernel_rfl!) rfl rfl (by kernel_rfl) (aC M (v := .str [c]) (by exact aA (by kernel_rfl!) (by kernel_rfl!)) aH) (of_eq (B := PV.int c = .int c) (by kernel_rfl) rfl)) (aE rfl)) aH) (of_eq (B := 0 <= (c : Int) + 32 /\ (c : Int) + 32 < 0x110000 /\ PV.str [c + 32] = .str [c + 32]) (by kernel_rfl) ⟨Int.natCast_nonneg (c + 32), Int.ofNat_lt.mpr (Nat.lt_of_le_of_lt (Nat.add_le_add h.2 (Nat.le_refl 32)) (by decide)), rfl⟩)
  ·have h : ¬ (65 <= c /\ c <= 90) := fun q => by rw [decide_eq_true q.1, decide_eq_true q.2] at h; cases h
   rw [show PV.str (((zdD (.str [c])).getD []).map bW) = .str [c] from congrArg (fun n => PV.str [n]) (if_neg h)]
   exact aA (by kernel_rfl!) (by kernel_rfl!)
 ·unfold bF
  rw [if_neg (by decide)]
  dsimp only [fM]
  rw [uV]
  refine ⟨rfl, x.map fun c => [bW c], ?_, ?_, ?_, rfl⟩
  ·rw [<- gA, List.map_map, List.map_map]; rfl
  ·rw [nI, List.length_map]; unfold aP; omega
  ·rw [nI]
noncomputable def nW : Fn := fun ps K => ∃ x : List Nat, ps = [.str x] /\ x.length < 1000000 /\ K (.str (x.map bW))
theorem jD : aX nW := fun _ _ _ h => e1 fun _ => c2 (h _)
theorem oQ (hB : BsOk (bs w.params h mb)) (hmb : HMb mb) : Meets prog w (bs w.params h mb) 1 (.ref 26) nW := by
 have hC : CtxOk prog w (bs w.params h mb) cR 0 := eC hmb (by simp) (by simp) (by simp) (by simp) (by simp) (by simp)
 refine bB (k := 1) (params := ["text"]) (dv := []) (dp := []) hB hC (by kernel_rfl) (by kernel_rfl) (by kernel_rfl) rfl (fun _ => .nil) (fun S vals hl => ?_) fun ps K ⟨x, h1, h2, h3⟩ => ?_
 ·obtain ⟨a, rfl⟩ := List.length_eq_one_iff.mp hl
  kernel_rfl
 ·subst h1
  exact ⟨rfl, zaS _ x K h2 h3⟩
theorem g8 {n k m : Nat} {C : Ctx} {Ca fI : Addr} {params : List String} {F : Fn} (hB : BsOk (bs w.params h mb)) (hC : CtxOk prog w (bs w.params h mb) C n)
  (hm : makesIn (HK w.params) Ca = true) (hin : findIn (HK w.params) (.ref Ca) "__init__" = some (some (.ref fI))) (hty : typeIn (HK w.params) (.ref fI) = some (.type "function")) (hkp : keepIn (HK w.params) (.ref Ca) = true)
  (hf : tE (HK w.params) fI = true) (hok : nY (aQ (HK w.params) fI) = true)
  (hpar : (params.all fun x => (aN (HK w.params) fI).lookup (Str.ofString x) == some .local || (aN (HK w.params) fI).lookup (Str.ofString x) == some .cell) = true)
  (hlen : params.length = k + 1)
  (hbind : ∀ S vals, vals.length = k + 1 -> (zbi (HK w.params) fI).map (fun fd => peek (HK w.params) S (bindArgs fd ⟨vals, []⟩)) = some (some ((params.map Str.ofString).zip vals)))
  (hF : ∀ ps K, F ps K -> ps.length = k /\ ∀ x : Nat, wSs C (cS (aN (HK w.params) fI)) (aQ (HK w.params) fI) (v3 fun p σ' => p = .none /\ ∃ fs : List PV, σ' x = some (.ins Ca (fs.map some)) /\ K (.inst Ca fs))
   ⟨bG ((params.map Str.ofString).zip (.ptr x :: ps)) fun _ => none, aR (fun _ => none) x (.ins Ca (List.replicate m none))⟩) :
  Meets prog w (bs w.params h mb) (n + 2) (.ref Ca) F := by
 obtain ⟨fd, h1, h2, h3⟩ := pA hf
 have hk : KeepsAt prog w h (.ref Ca) := by
  obtain ⟨q, _, e⟩ := looks_keep (M := model prog w) hkp (show (HK w.params).In h from hB.kin)
  exact ⟨q, e⟩
 refine (zB (C := C) (params := params.map Str.ofString) (k := k) (m := m) hB hC hm hin hty hk h1 hok (fun x hx => ?_) (by simpa using hlen) (fun s vals X hl => ?_)).weaken fun ps K hp => ?_
 ·obtain ⟨y, hy, rfl⟩ := List.mem_map.mp hx
  have := List.all_eq_true.mp hpar y hy
  rw [h3]
  simpa using this
 ·refine kp_binds X fun S => ?_
  have := hbind S vals hl
  rw [h2] at this
  show peek (HK w.params) S _ = _
  simpa using this
 ·rw [h3]; exact hF ps K hp
theorem xL {C : Ctx} (hB : BsOk (bs w.params h mb)) (hmb : HMb mb) (hs : C.slot = cR.slot) : tZ prog w (bs w.params h mb) C 1 := by
 have hC : CtxOk prog w (bs w.params h mb) cR 0 := eC hmb (by simp) (by simp) (by simp) (by simp) (by simp) (by simp)
 obtain ⟨fd, h1, h2, h3⟩ := pA (K := HK w.params) (a := 56) (by kernel_rfl)
 refine zcQ (Cn := 74) (f := 56) (mc := .type "type") (params := ["self", "source_line", "source_column"].map Str.ofString) hB hC (by kernel_rfl) (by kernel_rfl) (by kernel_rfl) (by kernel_rfl) h1 (by kernel_rfl) (fun x hx => ?_) rfl (fun s vals X hl => ?_) fun ad pa pb st K hK => ?_
 ·rw [h3]
  have : ∀ x ∈ ["self", "source_line", "source_column"].map Str.ofString, (aN (HK w.params) 56).lookup x = some .local := by
   intro x hx
   simp only [List.map_cons, List.map_nil, List.mem_cons, List.not_mem_nil, or_false] at hx
   rcases hx with rfl | rfl | rfl <;> kernel_rfl
  exact .inl (this x hx)
 ·refine kp_binds X fun S => ?_
  obtain ⟨a, b, c, rfl⟩ := mO hl
  have : (zbi (HK w.params) 56).map (fun fd => peek (HK w.params) S (bindArgs fd ⟨[a, b, c], []⟩)) = some (some ((["self", "source_line", "source_column"].map Str.ofString).zip [a, b, c])) := by kernel_rfl
  rw [h2] at this
  show peek (HK w.params) S _ = _
  simpa using this
 ·rw [h3]
  obtain ⟨c, fs, i, g1, g2, g3, c', fs', j, g4, g5, g6, g7⟩ := hK
  rw [hs] at g2 g5
  conv in (aQ _ _) => whnf
  conv in (aN _ _) => whnf
  have M := zD
  refine aB (e8 M pa ?_ (by kernel_rfl!) g1 g2 g3 ?_)
  ·exact aA (by kernel_rfl!) (by kernel_rfl!)
  dsimp only [eP]
  refine aB (e8 M pb ?_ (by kernel_rfl!) g4 g5 g6 ?_)
  ·exact aA (by kernel_rfl!) (by kernel_rfl!)
  dsimp only [eP]
  refine eI ⟨rfl, g7⟩
noncomputable def cT : Ctx := mkC [("ascii_lower", nW)] [] true [] []
theorem g9 : CtxMono cT := bV (by simp [jD]) (by simp)
theorem rO (hB : BsOk (bs w.params h mb)) (hmb : HMb mb) : CtxOk prog w (bs w.params h mb) cT 1 :=
 eC hmb (by simp [jD]) (by simp) (by simp) (fun e he => by
  simp only [List.mem_singleton] at he; subst he
  exact ⟨.ref 26, by kernel_rfl, oQ hB hmb⟩) (by simp) (fun _ => xL hB hmb rfl)
noncomputable def za5 : PV -> Option Bool
 | .none => some false
 | .int _ => some true
 | _ => none
theorem zc5 {C : Ctx} {κ : Kn} {e : Expr} {p p2 : Pos} {k : Nat} {st : St} {v : PV} {b : Bool} (M : CtxMono C) (hb : za5 v = some b) (h : ev C κ e st v) : ev C κ (.Compare e [.IsNot] [.Constant .none k p] p2) st (.bool b) := by
 refine bL M h (aE rfl) ?_
 cases v <;> cases hb <;> rfl
noncomputable def t7 : Fn := fun ps K => ∃ (vl : PV) (vk : PV) (vv : PV), ps = [vl, vk, vv] /\ K (.inst 134 [vv, vk, vl])
theorem rX : aX t7 := fun _ _ _ h => e3 fun _ _ _ => c1 (h _)
theorem wI (p : Params) (vl : PV) (vk : PV) (vv : PV) (K : PV -> Prop) (x : Nat) (hK : K (.inst 134 [vv, vk, vl])) :
  wSs cT (cS (aN (HK p) 123)) (aQ (HK p) 123) (v3 fun p σ' => p = .none /\ ∃ fs : List PV, σ' x = some (.ins 134 (fs.map some)) /\ K (.inst 134 fs))
   ⟨bG ((["self", "line", "column", "value"].map Str.ofString).zip (.ptr x :: [vl, vk, vv])) fun _ => none, aR (fun _ => none) x (.ins 134 (List.replicate 3 none))⟩ := by
 have M := g9
 conv in (aQ _ _) => whnf
 conv in (aN _ _) => whnf
 refine aB (j8 (a := x) (c := 134) (fs := List.replicate 3 none) (i := 2) (j := 1) M vl vk rfl (by decide +kernel) ?_ ?_ ?_ (by dsimp only; exact aS _ _ _) (by decide +kernel) (by simp) (by decide +kernel) (by simp) ?_)
 ·(first | exact aE rfl | exact aA (by kernel_rfl!) (by kernel_rfl!))
 ·(first | exact aE rfl | exact aA (by kernel_rfl!) (by kernel_rfl!))
 ·(first | exact aE rfl | exact aA (by kernel_rfl!) (by kernel_rfl!))
 dsimp only [eP]
 refine aB (e8 (a := x) (c := 134) (i := 0) M vv ?_ (by kernel_rfl!) (aS _ _ _) (by decide +kernel) (by simp) ?_)
 ·(first | exact aE rfl | exact aA (by kernel_rfl!) (by kernel_rfl!))
 dsimp only [eP]
 (repeat (first | refine eI ?_ | dsimp only [eP]))
 exact ⟨rfl, [vv, vk, vl], by dsimp only; rw [aS]; rfl, hK⟩
theorem uZ (hB : BsOk (bs w.params h mb)) (hmb : HMb mb) : Meets prog w (bs w.params h mb) 3 (.ref 134) t7 := by
 refine g8 (k := 3) (m := 3) (fI := 123) (params := ["self", "line", "column", "value"]) hB (rO hB hmb) (by kernel_rfl) (by kernel_rfl) (by kernel_rfl) (by kernel_rfl) (by kernel_rfl) (by kernel_rfl) (by kernel_rfl) rfl (fun S vals hl => ?_) fun ps K ⟨vl, vk, vv, h1, hk⟩ => ?_
 ·obtain ⟨a, b, c, d, rfl⟩ := zdZ hl
  kernel_rfl
 ·subst h1
  exact ⟨rfl, fun x => wI _ vl vk vv K x hk⟩
noncomputable def t0 : Fn := fun ps K => ∃ (vl : PV) (vk : PV) (vv : PV), ps = [vl, vk, vv] /\ K (.inst 206 [vv, vk, vl])
theorem rV : aX t0 := fun _ _ _ h => e3 fun _ _ _ => c1 (h _)
theorem wG (p : Params) (vl : PV) (vk : PV) (vv : PV) (K : PV -> Prop) (x : Nat) (hK : K (.inst 206 [vv, vk, vl])) :
  wSs cT (cS (aN (HK p) 181)) (aQ (HK p) 181) (v3 fun p σ' => p = .none /\ ∃ fs : List PV, σ' x = some (.ins 206 (fs.map some)) /\ K (.inst 206 fs))
   ⟨bG ((["self", "line", "column", "value"].map Str.ofString).zip (.ptr x :: [vl, vk, vv])) fun _ => none, aR (fun _ => none) x (.ins 206 (List.replicate 3 none))⟩ := by
 have M := g9
 conv in (aQ _ _) => whnf
 conv in (aN _ _) => whnf
 refine aB (j8 (a := x) (c := 206) (fs := List.replicate 3 none) (i := 2) (j := 1) M vl vk rfl (by decide +kernel) ?_ ?_ ?_ (by dsimp only; exact aS _ _ _) (by decide +kernel) (by simp) (by decide +kernel) (by simp) ?_)
 ·(first | exact aE rfl | exact aA (by kernel_rfl!) (by kernel_rfl!))
 ·(first | exact aE rfl | exact aA (by kernel_rfl!) (by kernel_rfl!))
 ·(first | exact aE rfl | exact aA (by kernel_rfl!) (by kernel_rfl!))
 dsimp only [eP]
 refine aB (e8 (a := x) (c := 206) (i := 0) M vv ?_ (by kernel_rfl!) (aS _ _ _) (by decide +kernel) (by simp) ?_)
 ·(first | exact aE rfl | exact aA (by kernel_rfl!) (by kernel_rfl!))
 dsimp only [eP]
 (repeat (first | refine eI ?_ | dsimp only [eP]))
 exact ⟨rfl, [vv, vk, vl], by dsimp only; rw [aS]; rfl, hK⟩
theorem uX (hB : BsOk (bs w.params h mb)) (hmb : HMb mb) : Meets prog w (bs w.params h mb) 3 (.ref 206) t0 := by
 refine g8 (k := 3) (m := 3) (fI := 181) (params := ["self", "line", "column", "value"]) hB (rO hB hmb) (by kernel_rfl) (by kernel_rfl) (by kernel_rfl) (by kernel_rfl) (by kernel_rfl) (by kernel_rfl) (by kernel_rfl) rfl (fun S vals hl => ?_) fun ps K ⟨vl, vk, vv, h1, hk⟩ => ?_
 ·obtain ⟨a, b, c, d, rfl⟩ := zdZ hl
  kernel_rfl
 ·subst h1
  exact ⟨rfl, fun x => wG _ vl vk vv K x hk⟩
noncomputable def jX : Fn := fun ps K => ∃ (vl : PV) (vk : PV) (xvalue : List Nat), ps = [vl, vk, (.str xvalue)] /\ xvalue.length < 1000000 /\ K (.inst 235 [(.str (xvalue.map bW)), (.str xvalue), vk, vl])
theorem nU : aX jX := fun _ _ _ h => e3 fun _ _ _ => c2 (h _)
theorem qC (p : Params) (vl : PV) (vk : PV) (xvalue : List Nat) (K : PV -> Prop) (x : Nat) (h2 : xvalue.length < 1000000) (hK : K (.inst 235 [(.str (xvalue.map bW)), (.str xvalue), vk, vl])) :
  wSs cT (cS (aN (HK p) 224)) (aQ (HK p) 224) (v3 fun p σ' => p = .none /\ ∃ fs : List PV, σ' x = some (.ins 235 (fs.map some)) /\ K (.inst 235 fs))
   ⟨bG ((["self", "line", "column", "value"].map Str.ofString).zip (.ptr x :: [vl, vk, (.str xvalue)])) fun _ => none, aR (fun _ => none) x (.ins 235 (List.replicate 4 none))⟩ := by
 have M := g9
 conv in (aQ _ _) => whnf
 conv in (aN _ _) => whnf
 refine aB (j8 (a := x) (c := 235) (fs := List.replicate 4 none) (i := 3) (j := 2) M vl vk rfl (by decide +kernel) ?_ ?_ ?_ (by dsimp only; exact aS _ _ _) (by decide +kernel) (by simp) (by decide +kernel) (by simp) ?_)
 ·(first | exact aE rfl | exact aA (by kernel_rfl!) (by kernel_rfl!))
 ·(first | exact aE rfl | exact aA (by kernel_rfl!) (by kernel_rfl!))
 ·(first | exact aE rfl | exact aA (by kernel_rfl!) (by kernel_rfl!))
 dsimp only [eP]
 refine aB (e8 (a := x) (c := 235) (i := 1) M (.str xvalue) ?_ (by kernel_rfl!) (aS _ _ _) (by decide +kernel) (by simp) ?_)
 ·(first | exact aE rfl | exact aA (by kernel_rfl!) (by kernel_rfl!))
 dsimp only [eP]
 refine aB (xA (aB (e8 (a := x) (c := 235) (i := 0) M (.str (xvalue.map bW)) ?_ (by kernel_rfl!) (aS _ _ _) (by decide +kernel) (by simp) ?_)))
 ·exact bC (F := nW) M (by kernel_rfl!) rfl (aC M (v := .str xvalue) (by exact aA (by kernel_rfl!) (by kernel_rfl!)) aH) ⟨xvalue, rfl, h2, .inl rfl, rfl⟩
 (repeat (first | refine eI ?_ | dsimp only [eP]))
 (repeat (first | refine eI ?_ | dsimp only [eP]))
 exact ⟨rfl, [(.str (xvalue.map bW)), (.str xvalue), vk, vl], by dsimp only; rw [aS]; rfl, hK⟩
theorem oP (hB : BsOk (bs w.params h mb)) (hmb : HMb mb) : Meets prog w (bs w.params h mb) 3 (.ref 235) jX := by
 refine g8 (k := 3) (m := 4) (fI := 224) (params := ["self", "line", "column", "value"]) hB (rO hB hmb) (by kernel_rfl) (by kernel_rfl) (by kernel_rfl) (by kernel_rfl) (by kernel_rfl) (by kernel_rfl) (by kernel_rfl) rfl (fun S vals hl => ?_) fun ps K ⟨vl, vk, xvalue, h1, h2, hk⟩ => ?_
 ·obtain ⟨a, b, c, d, rfl⟩ := zdZ hl
  kernel_rfl
 ·subst h1
  exact ⟨rfl, fun x => qC _ vl vk xvalue K x h2 hk⟩
noncomputable def zbD : Fn := fun ps K => ∃ (vl : PV) (vk : PV) (xvalue : List Nat), ps = [vl, vk, (.str xvalue)] /\ xvalue.length < 1000000 /\ K (.inst 265 [(.str (xvalue.map bW)), (.str xvalue), vk, vl])
theorem vY : aX zbD := fun _ _ _ h => e3 fun _ _ _ => c2 (h _)
theorem z8 (p : Params) (vl : PV) (vk : PV) (xvalue : List Nat) (K : PV -> Prop) (x : Nat) (h2 : xvalue.length < 1000000) (hK : K (.inst 265 [(.str (xvalue.map bW)), (.str xvalue), vk, vl])) :
  wSs cT (cS (aN (HK p) 254)) (aQ (HK p) 254) (v3 fun p σ' => p = .none /\ ∃ fs : List PV, σ' x = some (.ins 265 (fs.map some)) /\ K (.inst 265 fs))
   ⟨bG ((["self", "line", "column", "value"].map Str.ofString).zip (.ptr x :: [vl, vk, (.str xvalue)])) fun _ => none, aR (fun _ => none) x (.ins 265 (List.replicate 4 none))⟩ := by
 have M := g9
 conv in (aQ _ _) => whnf
 conv in (aN _ _) => whnf
 refine aB (j8 (a := x) (c := 265) (fs := List.replicate 4 none) (i := 3) (j := 2) M vl vk rfl (by decide +kernel) ?_ ?_ ?_ (by dsimp only; exact aS _ _ _) (by decide +kernel) (by simp) (by decide +kernel) (by simp) ?_)
 ·(first | exact aE rfl | exact aA (by kernel_rfl!) (by kernel_rfl!))
 ·(first | exact aE rfl | exact aA (by kernel_rfl!) (by kernel_rfl!))
 ·(first | exact aE rfl | exact aA (by kernel_rfl!) (by kernel_rfl!))
 dsimp only [eP]
 refine aB (e8 (a := x) (c := 265) (i := 1) M (.str xvalue) ?_ (by kernel_rfl!) (aS _ _ _) (by decide +kernel) (by simp) ?_)
 ·(first | exact aE rfl | exact aA (by kernel_rfl!) (by kernel_rfl!))
 dsimp only [eP]
 refine aB (xA (aB (e8 (a := x) (c := 265) (i := 0) M (.str (xvalue.map bW)) ?_ (by kernel_rfl!) (aS _ _ _) (by decide +kernel) (by simp) ?_)))
 ·exact bC (F := nW) M (by kernel_rfl!) rfl (aC M (v := .str xvalue) (by exact aA (by kernel_rfl!) (by kernel_rfl!)) aH) ⟨xvalue, rfl, h2, .inl rfl, rfl⟩
 (repeat (first | refine eI ?_ | dsimp only [eP]))
 (repeat (first | refine eI ?_ | dsimp only [eP]))
 exact ⟨rfl, [(.str (xvalue.map bW)), (.str xvalue), vk, vl], by dsimp only; rw [aS]; rfl, hK⟩
theorem xU (hB : BsOk (bs w.params h mb)) (hmb : HMb mb) : Meets prog w (bs w.params h mb) 3 (.ref 265) zbD := by
 refine g8 (k := 3) (m := 4) (fI := 254) (params := ["self", "line", "column", "value"]) hB (rO hB hmb) (by kernel_rfl) (by kernel_rfl) (by kernel_rfl) (by kernel_rfl) (by kernel_rfl) (by kernel_rfl) (by kernel_rfl) rfl (fun S vals hl => ?_) fun ps K ⟨vl, vk, xvalue, h1, h2, hk⟩ => ?_
 ·obtain ⟨a, b, c, d, rfl⟩ := zdZ hl
  kernel_rfl
 ·subst h1
  exact ⟨rfl, fun x => z8 _ vl vk xvalue K x h2 hk⟩
noncomputable def nV : Fn := fun ps K => ∃ (vl : PV) (vk : PV) (vv : PV) (vb : PV), ps = [vl, vk, vv, vb] /\ K (.inst 295 [vb, vv, vk, vl])
theorem pU : aX nV := fun _ _ _ h => e4 fun _ _ _ _ => c1 (h _)
theorem uC (p : Params) (vl : PV) (vk : PV) (vv : PV) (vb : PV) (K : PV -> Prop) (x : Nat) (hK : K (.inst 295 [vb, vv, vk, vl])) :
  wSs cT (cS (aN (HK p) 284)) (aQ (HK p) 284) (v3 fun p σ' => p = .none /\ ∃ fs : List PV, σ' x = some (.ins 295 (fs.map some)) /\ K (.inst 295 fs))
   ⟨bG ((["self", "line", "column", "value", "is_identifier"].map Str.ofString).zip (.ptr x :: [vl, vk, vv, vb])) fun _ => none, aR (fun _ => none) x (.ins 295 (List.replicate 4 none))⟩ := by
 have M := g9
 conv in (aQ _ _) => whnf
 conv in (aN _ _) => whnf
 refine aB (j8 (a := x) (c := 295) (fs := List.replicate 4 none) (i := 3) (j := 2) M vl vk rfl (by decide +kernel) ?_ ?_ ?_ (by dsimp only; exact aS _ _ _) (by decide +kernel) (by simp) (by decide +kernel) (by simp) ?_)
 ·(first | exact aE rfl | exact aA (by kernel_rfl!) (by kernel_rfl!))
 ·(first | exact aE rfl | exact aA (by kernel_rfl!) (by kernel_rfl!))
 ·(first | exact aE rfl | exact aA (by kernel_rfl!) (by kernel_rfl!))
 dsimp only [eP]
 refine aB (e8 (a := x) (c := 295) (i := 1) M vv ?_ (by kernel_rfl!) (aS _ _ _) (by decide +kernel) (by simp) ?_)
 ·(first | exact aE rfl | exact aA (by kernel_rfl!) (by kernel_rfl!))
 dsimp only [eP]
 refine aB (e8 (a := x) (c := 295) (i := 0) M vb ?_ (by kernel_rfl!) (aS _ _ _) (by decide +kernel) (by simp) ?_)
 ·(first | exact aE rfl | exact aA (by kernel_rfl!) (by kernel_rfl!))
 dsimp only [eP]
 (repeat (first | refine eI ?_ | dsimp only [eP]))
 exact ⟨rfl, [vb, vv, vk, vl], by dsimp only; rw [aS]; rfl, hK⟩
theorem qW (hB : BsOk (bs w.params h mb)) (hmb : HMb mb) : Meets prog w (bs w.params h mb) 3 (.ref 295) nV := by
 refine g8 (k := 4) (m := 4) (fI := 284) (params := ["self", "line", "column", "value", "is_identifier"]) hB (rO hB hmb) (by kernel_rfl) (by kernel_rfl) (by kernel_rfl) (by kernel_rfl) (by kernel_rfl) (by kernel_rfl) (by kernel_rfl) rfl (fun S vals hl => ?_) fun ps K ⟨vl, vk, vv, vb, h1, hk⟩ => ?_
 ·obtain ⟨a, b, c, d, e, rfl⟩ := zeQ hl
  kernel_rfl
 ·subst h1
  exact ⟨rfl, fun x => uC _ vl vk vv vb K x hk⟩
noncomputable def t5 : Fn := fun ps K => ∃ (vl : PV) (vk : PV) (vv : PV) (vi : PV) (vr : PV) (xunit : List Nat) (b : Bool), ps = [vl, vk, vv, vi, vr, (.str xunit)] /\ xunit.length < 1000000 /\ za5 vi = some b /\ K (.inst 479 [vi, (.bool b), (.str (xunit.map bW)), vr, (.str xunit), vv, vk, vl])
theorem rW : aX t5 := fun _ _ _ h => e7 fun _ _ _ _ _ _ _ => c3 (h _)
theorem wH (p : Params) (vl : PV) (vk : PV) (vv : PV) (vi : PV) (vr : PV) (xunit : List Nat) (b : Bool) (K : PV -> Prop) (x : Nat) (h2 : xunit.length < 1000000) (h3 : za5 vi = some b) (hK : K (.inst 479 [vi, (.bool b), (.str (xunit.map bW)), vr, (.str xunit), vv, vk, vl])) :
  wSs cT (cS (aN (HK p) 468)) (aQ (HK p) 468) (v3 fun p σ' => p = .none /\ ∃ fs : List PV, σ' x = some (.ins 479 (fs.map some)) /\ K (.inst 479 fs))
   ⟨bG ((["self", "line", "column", "value", "int_value", "representation", "unit"].map Str.ofString).zip (.ptr x :: [vl, vk, vv, vi, vr, (.str xunit)])) fun _ => none, aR (fun _ => none) x (.ins 479 (List.replicate 8 none))⟩ := by
 have M := g9
 conv in (aQ _ _) => whnf
 conv in (aN _ _) => whnf
 refine aB (j8 (a := x) (c := 479) (fs := List.replicate 8 none) (i := 7) (j := 6) M vl vk rfl (by decide +kernel) ?_ ?_ ?_ (by dsimp only; exact aS _ _ _) (by decide +kernel) (by simp) (by decide +kernel) (by simp) ?_)
 ·(first | exact aE rfl | exact aA (by kernel_rfl!) (by kernel_rfl!))
 ·(first | exact aE rfl | exact aA (by kernel_rfl!) (by kernel_rfl!))
 ·(first | exact aE rfl | exact aA (by kernel_rfl!) (by kernel_rfl!))
 dsimp only [eP]
 refine aB (e8 (a := x) (c := 479) (i := 5) M vv ?_ (by kernel_rfl!) (aS _ _ _) (by decide +kernel) (by simp) ?_)
 ·(first | exact aE rfl | exact aA (by kernel_rfl!) (by kernel_rfl!))
 dsimp only [eP]
 refine aB (e8 (a := x) (c := 479) (i := 0) M vi ?_ (by kernel_rfl!) (aS _ _ _) (by decide +kernel) (by simp) ?_)
 ·(first | exact aE rfl | exact aA (by kernel_rfl!) (by kernel_rfl!))
 dsimp only [eP]
 refine aB (e8 (a := x) (c := 479) (i := 1) M (.bool b) ?_ (by kernel_rfl!) (aS _ _ _) (by decide +kernel) (by simp) ?_)
 ·exact zc5 M h3 (by exact aA (by kernel_rfl!) (by kernel_rfl!))
 dsimp only [eP]
 refine aB (e8 (a := x) (c := 479) (i := 3) M vr ?_ (by kernel_rfl!) (aS _ _ _) (by decide +kernel) (by simp) ?_)
 ·(first | exact aE rfl | exact aA (by kernel_rfl!) (by kernel_rfl!))
 dsimp only [eP]
 refine aB (e8 (a := x) (c := 479) (i := 4) M (.str xunit) ?_ (by kernel_rfl!) (aS _ _ _) (by decide +kernel) (by simp) ?_)
 ·(first | exact aE rfl | exact aA (by kernel_rfl!) (by kernel_rfl!))
 dsimp only [eP]
 refine aB (xA (aB (e8 (a := x) (c := 479) (i := 2) M (.str (xunit.map bW)) ?_ (by kernel_rfl!) (aS _ _ _) (by decide +kernel) (by simp) ?_)))
 ·exact bC (F := nW) M (by kernel_rfl!) rfl (aC M (v := .str xunit) (by exact aA (by kernel_rfl!) (by kernel_rfl!)) aH) ⟨xunit, rfl, h2, .inl rfl, rfl⟩
 (repeat (first | refine eI ?_ | dsimp only [eP]))
 (repeat (first | refine eI ?_ | dsimp only [eP]))
 exact ⟨rfl, [vi, (.bool b), (.str (xunit.map bW)), vr, (.str xunit), vv, vk, vl], by dsimp only; rw [aS]; rfl, hK⟩
theorem uY (hB : BsOk (bs w.params h mb)) (hmb : HMb mb) : Meets prog w (bs w.params h mb) 3 (.ref 479) t5 := by
 refine g8 (k := 6) (m := 8) (fI := 468) (params := ["self", "line", "column", "value", "int_value", "representation", "unit"]) hB (rO hB hmb) (by kernel_rfl) (by kernel_rfl) (by kernel_rfl) (by kernel_rfl) (by kernel_rfl) (by kernel_rfl) (by kernel_rfl) rfl (fun S vals hl => ?_) fun ps K ⟨vl, vk, vv, vi, vr, xunit, b, h1, h2, h3, hk⟩ => ?_
 ·obtain ⟨a, b, c, d, e, f, g, rfl⟩ := zeB hl
  kernel_rfl
 ·subst h1
  exact ⟨rfl, fun x => wH _ vl vk vv vi vr xunit b K x h2 h3 hk⟩
noncomputable def zbC : Fn := fun ps K => ∃ (vl : PV) (vk : PV) (xname : List Nat) (va : PV), ps = [vl, vk, (.str xname), va] /\ xname.length < 1000000 /\ K (.inst 600 [va, (.str (xname.map bW)), (.str xname), vk, vl])
theorem vX : aX zbC := fun _ _ _ h => e4 fun _ _ _ _ => c2 (h _)
theorem z7 (p : Params) (vl : PV) (vk : PV) (xname : List Nat) (va : PV) (K : PV -> Prop) (x : Nat) (h2 : xname.length < 1000000) (hK : K (.inst 600 [va, (.str (xname.map bW)), (.str xname), vk, vl])) :
  wSs cT (cS (aN (HK p) 589)) (aQ (HK p) 589) (v3 fun p σ' => p = .none /\ ∃ fs : List PV, σ' x = some (.ins 600 (fs.map some)) /\ K (.inst 600 fs))
   ⟨bG ((["self", "line", "column", "name", "arguments"].map Str.ofString).zip (.ptr x :: [vl, vk, (.str xname), va])) fun _ => none, aR (fun _ => none) x (.ins 600 (List.replicate 5 none))⟩ := by
 have M := g9
 conv in (aQ _ _) => whnf
 conv in (aN _ _) => whnf
 refine aB (j8 (a := x) (c := 600) (fs := List.replicate 5 none) (i := 4) (j := 3) M vl vk rfl (by decide +kernel) ?_ ?_ ?_ (by dsimp only; exact aS _ _ _) (by decide +kernel) (by simp) (by decide +kernel) (by simp) ?_)
 ·(first | exact aE rfl | exact aA (by kernel_rfl!) (by kernel_rfl!))
 ·(first | exact aE rfl | exact aA (by kernel_rfl!) (by kernel_rfl!))
 ·(first | exact aE rfl | exact aA (by kernel_rfl!) (by kernel_rfl!))
 dsimp only [eP]
 refine aB (e8 (a := x) (c := 600) (i := 2) M (.str xname) ?_ (by kernel_rfl!) (aS _ _ _) (by decide +kernel) (by simp) ?_)
 ·(first | exact aE rfl | exact aA (by kernel_rfl!) (by kernel_rfl!))
 dsimp only [eP]
 refine aB (xA (aB (e8 (a := x) (c := 600) (i := 1) M (.str (xname.map bW)) ?_ (by kernel_rfl!) (aS _ _ _) (by decide +kernel) (by simp) ?_)))
 ·exact bC (F := nW) M (by kernel_rfl!) rfl (aC M (v := .str xname) (by exact aA (by kernel_rfl!) (by kernel_rfl!)) aH) ⟨xname, rfl, h2, .inl rfl, rfl⟩
 (repeat (first | refine eI ?_ | dsimp only [eP]))
 refine aB (e8 (a := x) (c := 600) (i := 0) M va ?_ (by kernel_rfl!) (aS _ _ _) (by decide +kernel) (by simp) ?_)
 ·(first | exact aE rfl | exact aA (by kernel_rfl!) (by kernel_rfl!))
 dsimp only [eP]
 (repeat (first | refine eI ?_ | dsimp only [eP]))
 exact ⟨rfl, [va, (.str (xname.map bW)), (.str xname), vk, vl], by dsimp only; rw [aS]; rfl, hK⟩
theorem xT (hB : BsOk (bs w.params h mb)) (hmb : HMb mb) : Meets prog w (bs w.params h mb) 3 (.ref 600) zbC := by
 refine g8 (k := 4) (m := 5) (fI := 589) (params := ["self", "line", "column", "name", "arguments"]) hB (rO hB hmb) (by kernel_rfl) (by kernel_rfl) (by kernel_rfl) (by kernel_rfl) (by kernel_rfl) (by kernel_rfl) (by kernel_rfl) rfl (fun S vals hl => ?_) fun ps K ⟨vl, vk, xname, va, h1, h2, hk⟩ => ?_
 ·obtain ⟨a, b, c, d, e, rfl⟩ := zeQ hl
  kernel_rfl
 ·subst h1
  exact ⟨rfl, fun x => z7 _ vl vk xname va K x h2 hk⟩
inductive Tk where
 | lit (v : List Nat) | ident (v : List Nat) | dim (iv : Option Int) (r u : List Nat)
 | atk (v : List Nat) | hash (v : List Nat) (b : Bool) | com (v : List Nat)
noncomputable def nX : Option Int -> PV
 | none => .none
 | some i => .int i
noncomputable def lcS (s : String) : List Nat := (Str.ofString s).cps.toList
noncomputable def tkP (lc : Nat × Nat) : Tk -> PV
 | .lit v => .inst 206 [.str v, .int lc.2, .int lc.1]
 | .ident v => .inst 235 [.str (v.map bW), .str v, .int lc.2, .int lc.1]
 | .dim iv r u => .inst 479 [nX iv, .bool iv.isSome, .str (u.map bW), .str r, .str u, .str r, .int lc.2, .int lc.1]
 | .atk v => .inst 265 [.str (v.map bW), .str v, .int lc.2, .int lc.1]
 | .hash v b => .inst 295 [.bool b, .str v, .int lc.2, .int lc.1]
 | .com v => .inst 134 [.str v, .int lc.2, .int lc.1]
noncomputable def fnP (lc : Nat × Nat) (v : List Nat) (p : PV) : PV := .inst 600 [p, .str (v.map bW), .str v, .int lc.2, .int lc.1]
noncomputable def adv (lc : Nat × Nat) : List Nat -> Nat × Nat
 | [] => lc
 | c :: r => adv (if c = 10 then (lc.1 + 1, 1) else (lc.1, lc.2 + 1)) r
noncomputable def zA : List Nat -> Option Nat
 | [] => none
 | c :: r => if [42, 47].isPrefixOf (c :: r) then some 0 else (zA r).map (· + 1)
noncomputable def o6 (r : List Nat) : Bool := (r[0]?).any fun c => bU c || (c == 92 && !([92, 10].isPrefixOf r))
inductive Act where
 | tok (t : Tk) | opn (v : List Nat) | cls
inductive Nx : List Nat -> Act -> Nat -> Prop
 | ident (c : Nat) (r v : List Nat) (n : Nat) : bY c = false -> aM (c :: r) = true -> NameAt (c :: r) v n -> [40].isPrefixOf ((c :: r).drop n) = false -> Nx (c :: r) (.tok (.ident v)) n
 | opn (c : Nat) (r v : List Nat) (n : Nat) : bY c = false -> aM (c :: r) = true -> NameAt (c :: r) v n -> [40].isPrefixOf ((c :: r).drop n) = true -> v.map bW ≠ [117, 114, 108] -> Nx (c :: r) (.opn v) (n + 1)
 | dim (c : Nat) (r v : List Nat) (n k : Nat) (b : Bool) (iv : Option Int) : bY c = false -> aM (c :: r) = false -> xH (c :: r) = some (n, b) -> (b = true -> ∃ i, iv = some i /\ zdr ((c :: r).take n) fun z => z = .int i) -> (b = false -> iv = none) -> aM ((c :: r).drop n) = true -> NameAt ((c :: r).drop n) v k ->
   Nx (c :: r) (.tok (.dim iv ((c :: r).take n) v)) (n + k)
 | atk (r v : List Nat) (n : Nat) : aM r = true -> NameAt r v n -> Nx (64 :: r) (.tok (.atk v)) (1 + n)
 | hash (r v : List Nat) (n : Nat) : o6 r = true -> NameAt r v n -> Nx (35 :: r) (.tok (.hash v (aM r))) (1 + n)
 | com (r : List Nat) (k : Nat) : zA r = some k -> Nx (47 :: 42 :: r) (.tok (.com (r.take k))) (2 + k + 2)
 | comma (r : List Nat) : Nx (44 :: r) (.tok (.lit [44])) 1
 | cls (r : List Nat) : Nx (41 :: r) .cls 1
noncomputable abbrev Ev := (Nat × Nat) × Act
noncomputable def Act.deep (d : Nat) : Act -> Nat
 | .tok _ => d
 | .opn _ => d + 1
 | .cls => d - 1
inductive Reads : Nat -> Nat × Nat -> List Nat -> List Ev -> Prop
 | nil (d : Nat) (lc : Nat × Nat) : Reads d lc [] []
 | cons (d n : Nat) (lc : Nat × Nat) (x : List Nat) (a : Act) (E : List Ev) : Nx x a n -> 1 <= n -> n <= x.length -> (a = .cls -> 0 < d) -> Reads (a.deep d) (adv lc (x.take n)) (x.drop n) E -> Reads d lc x ((lc, a) :: E)
structure PF where
 ts : List PV
 lc : Nat × Nat
 v : List Nat
section
variable (f : Nat × Nat -> Tk -> PV) (g : Nat × Nat -> List Nat -> PV -> PV)
noncomputable def jS : List PV -> List PF -> List PV
 | ts, [] => ts
 | ts, q :: fr => jS (q.ts ++ [g q.lc q.v (.list ts)]) fr
noncomputable def zdw (lc : Nat × Nat) (ts : List PV) (fr : List PF) (K : List PV -> List PF -> List PV) : Act -> List PV
 | .tok t => K (ts ++ [f lc t]) fr
 | .opn v => K [] (⟨ts, lc, v⟩ :: fr)
 | .cls => fr.casesOn (K ts []) fun q fr => K (q.ts ++ [g q.lc q.v (.list ts)]) fr
noncomputable def dT : List Ev -> List PV -> List PF -> List PV
 | [], ts, fr => jS g ts fr
 | e :: E, ts, fr => zdw f g e.1 ts fr (dT E) e.2
end
theorem y9 : ∀ {x : List Nat} {n : Nat}, zA x = some n -> n + 2 <= x.length
 | [], n, h => by cases h
 | c :: r, n, h => by
  unfold zA at h
  split at h
  ·rename_i hp
   cases h
   exact (List.isPrefixOf_iff_prefix.mp hp).length_le
  ·obtain ⟨k, hk, rfl⟩ := Option.map_eq_some_iff.mp h
   exact Nat.succ_le_succ (y9 hk)
theorem eZ (lc : Nat × Nat) : ∀ (x y : List Nat), adv lc (x ++ y) = adv (adv lc x) y
 | [], y => rfl
 | c :: x, y => eZ (if c = 10 then (lc.1 + 1, 1) else (lc.1, lc.2 + 1)) x y
theorem tY (lc : Nat × Nat) : ∀ (y : List Nat), (adv lc y).1 = lc.1 + y.count 10
 | [] => rfl
 | c :: x => by
  unfold adv
  rw [tY _ x, List.count_cons]
  by_cases h : c = 10
  ·subst h; simp; omega
  ·simp [h]
theorem zbx (lc : Nat × Nat) : ∀ (y : List Nat), 10 ∉ y -> adv lc y = (lc.1, lc.2 + y.length)
 | [], _ => rfl
 | c :: x, h => by
  unfold adv
  rw [if_neg (fun q => h (by rw [q]; simp)), zbx _ x (fun q => h (List.mem_cons_of_mem _ q)), List.length_cons]
  simp; omega
noncomputable def gU (x : List Nat) : Nat × Nat := adv (1, 1) x
theorem oV (c : Nat) (x : List Nat) : ∀ (n i : Nat) (st : Option Nat), oW c x (n + 1) i st = if x[i + n]? = some c then some (i + n) else oW c x n i st
 | 0, i, st => rfl
 | n + 1, i, st => by
  have h := oV c x n (i + 1) (if x[i]? = some c then some i else st)
  rw [Nat.add_assoc, Nat.add_comm 1] at h
  exact h
theorem uM {c : Nat} {x : List Nat} {i j : Nat} (h : i <= j) (hl : j < x.length) : eU c x i (j + 1) = if x[j] = c then (j : Int) else eU c x i j := by
 unfold eU
 rw [Nat.min_eq_left (show j + 1 <= x.length from hl), Nat.min_eq_left (Nat.le_of_lt hl), Nat.succ_sub h, oV, Nat.add_sub_cancel' h, List.getElem?_eq_getElem hl]
 by_cases hc : x[j] = c
 ·rw [if_pos hc, if_pos (congrArg some hc)]; rfl
 ·rw [if_neg hc, if_neg fun q => hc (Option.some.inj q)]
theorem zcL {x : List Nat} {j : Nat} (hl : j < x.length) : gU (x.take (j + 1)) = if x[j] = 10 then ((gU (x.take j)).1 + 1, 1) else ((gU (x.take j)).1, (gU (x.take j)).2 + 1) := by
 rw [List.take_succ_eq_append_getElem hl, gU, eZ]; rfl
theorem zcM {x : List Nat} {t p : Nat} (h : t <= p) : (gU (x.take p)).1 = (gU (x.take t)).1 + ((x.take p).drop t).count 10 := by
 have := List.take_append_drop t (x.take p)
 rw [List.take_take, Nat.min_eq_left h] at this
 rw [<- tY, gU, gU, <- eZ, this]
theorem sT {css : List Nat} {t : Nat} : ∀ (d : Nat), t + d <= css.length ->
  (eU 10 css t (t + d) = -1 /\ (gU (css.take (t + d))).1 = (gU (css.take t)).1 /\ (gU (css.take (t + d))).2 = (gU (css.take t)).2 + d) \/
  ∃ m : Nat, eU 10 css t (t + d) = m /\ (gU (css.take (t + d))).1 = (gU (css.take t)).1 + (1 + ((css.take m).drop t).count 10) /\ m + (gU (css.take (t + d))).2 = t + d
 | 0, h => .inl ⟨by unfold eU; rw [Nat.min_eq_left h, Nat.add_sub_cancel_left]; rfl, rfl, rfl⟩
 | d + 1, h => by
  rw [<- Nat.add_assoc, uM (Nat.le_add_right t d) h, zcL (show t + d < css.length from h)]
  by_cases hc : css[t + d] = 10
  ·rw [if_pos hc, if_pos hc]
   exact .inr ⟨t + d, rfl, by rw [Nat.add_comm 1, <- Nat.add_assoc, zcM (Nat.le_add_right t d)], rfl⟩
  ·rw [if_neg hc, if_neg hc]
   rcases sT d (Nat.le_of_lt h) with ⟨h1, h2, h3⟩ | ⟨m, h1, h2, h3⟩
   ·exact .inl ⟨h1, h2, congrArg Nat.succ h3⟩
   ·exact .inr ⟨m, h1, h2, congrArg Nat.succ h3⟩
noncomputable def lJ (os : List Nat) (σ : Nat -> Option Cell) : Nat -> Option Cell := fun b => if b ∈ os then none else σ b
noncomputable def LeC (σ σ' : Nat -> Option Cell) : Prop := ∀ b c, σ b = some c -> σ' b = some c
mutual
theorem zdL {σ σ' : Nat -> Option Cell} (h : LeC σ σ') : ∀ (t : PV) {v : PV}, Res σ v t -> Res σ' v t
 | .tup ts, v, ⟨xs, e, r⟩ => ⟨xs, e, dE h ts r⟩
 | .list ts, v, .inl ⟨xs, e, r⟩ => .inl ⟨xs, e, dE h ts r⟩
 | .list ts, v, .inr ⟨a, xs, e, q, r⟩ => .inr ⟨a, xs, e, h _ _ q, dE h ts r⟩
 | .inst _ ts, v, ⟨xs, e, r⟩ => ⟨xs, e, dE h ts r⟩
 | .none, _, r => r
 | .bool _, _, r => r
 | .int _, _, r => r
 | .str _, _, r => r
 | .rng _ _, _, r => r
 | .dict _, _, r => r
 | .ptr _, _, r => r
theorem dE {σ σ' : Nat -> Option Cell} (h : LeC σ σ') : ∀ (ts : List PV) {vs : List PV}, lN σ vs ts -> lN σ' vs ts
 | [], _, r => r
 | t :: ts, _, ⟨y, ys, e, r, rs⟩ => ⟨y, ys, e, zdL h t r, dE h ts rs⟩
end
theorem m3 {σ : Nat -> Option Cell} {v t : PV} (h : Res σ v t) : ∀ {ts vs : List PV}, lN σ vs ts -> lN σ (vs ++ [v]) (ts ++ [t])
 | [], _, r => by cases r; exact ⟨v, [], rfl, h, rfl⟩
 | _ :: _, _, ⟨y, ys, e, r, rs⟩ => by subst e; exact ⟨y, _, rfl, r, m3 h rs⟩
theorem m0 {σ : Nat -> Option Cell} : ∀ {ts vs : List PV}, lN σ vs ts -> vs.length = ts.length
 | [], _, r => by cases r; rfl
 | _ :: _, _, ⟨y, ys, e, r, rs⟩ => by subst e; exact congrArg Nat.succ (m0 rs)
theorem kG {os : List Nat} {σ : Nat -> Option Cell} {b : Nat} {c : Cell} (h : lJ os σ b = some c) : b ∉ os /\ σ b = some c := by
 unfold lJ at h
 split at h
 ·cases h
 ·rename_i q; exact ⟨q, h⟩
theorem kF {os : List Nat} {σ : Nat -> Option Cell} {b : Nat} {c : Cell} (h : b ∉ os) (e : σ b = some c) : lJ os σ b = some c := by unfold lJ; rw [if_neg h]; exact e
theorem tA {os : List Nat} {σ : Nat -> Option Cell} {a : Nat} {c : Cell} (h : a ∈ os) : LeC (lJ os σ) (lJ os (aR σ a c)) := fun b d e => by
 obtain ⟨h1, h2⟩ := kG e
 exact kF h1 (by rw [bK _ (fun q => h1 (by rw [q]; exact h))]; exact h2)
section
variable {g : Nat × Nat -> List Nat -> PV -> PV} {sb a b : Nat} {σ σ' : Nat -> Option Cell} {fr : List (Nat × PF)} {ts xs : List PV} {lc : Nat × Nat} {v : List Nat}
noncomputable def zen (g : Nat × Nat -> List Nat -> PV -> PV) (σ : Nat -> Option Cell) (os : List Nat) : Nat -> List (Nat × PF) -> Prop
 | _, [] => True
 | ch, q :: fr => (∃ xs, σ q.1 = some (.lst (xs ++ [g q.2.lc q.2.v (.ptr ch)])) /\ lN (lJ os σ) xs q.2.ts) /\ zen g σ os q.1 fr
noncomputable def sN (sb a : Nat) (fr : List (Nat × PF)) : List Nat := sb :: a :: fr.map (·.1)
structure Tree (g : Nat × Nat -> List Nat -> PV -> PV) (sb : Nat) (σ : Nat -> Option Cell) (a : Nat) (fr : List (Nat × PF)) (ts : List PV) : Prop where
 nd : (sN sb a fr).Nodup
 top : ∃ xs, σ a = some (.lst xs) /\ lN (lJ (sN sb a fr) σ) xs ts
 low : zen g σ (sN sb a fr) a fr
 sbx : (σ sb).isSome = true
theorem eX {os os' : List Nat} (h : LeC (lJ os σ) (lJ os' σ')) : ∀ (fr : List (Nat × PF)) (ch : Nat), (∀ q ∈ fr, σ' q.1 = σ q.1) -> zen g σ os ch fr -> zen g σ' os' ch fr
 | [], _, _, _ => trivial
 | q :: fr, _, e, ⟨⟨xs, h1, h2⟩, h3⟩ => ⟨⟨xs, by rw [e q List.mem_cons_self]; exact h1, dE h _ h2⟩, eX h fr q.1 (fun q hq => e q (List.mem_cons_of_mem _ hq)) h3⟩
theorem Tree.ne (T : Tree g sb σ a fr ts) : sb ≠ a /\ (∀ q ∈ fr, q.1 ≠ sb /\ q.1 ≠ a) := by
 obtain ⟨h1, h2⟩ := List.nodup_cons.mp T.nd
 have h3 := (List.nodup_cons.mp h2).1
 exact ⟨fun e => h1 (e ▸ List.mem_cons_self), fun q hq => ⟨fun e => h1 (e ▸ List.mem_cons_of_mem _ (List.mem_map_of_mem hq)), fun e => h3 (e ▸ List.mem_map_of_mem hq)⟩⟩
theorem Tree.push {w t : PV} (T : Tree g sb σ a fr ts) (hx : σ a = some (.lst xs)) (ht : ∀ s, Res s w t) : Tree g sb (aR σ a (.lst (xs ++ [w]))) a fr (ts ++ [t]) := by
 obtain ⟨ys, h1, h2⟩ := T.top
 rw [hx] at h1; cases h1
 have le : LeC (lJ (sN sb a fr) σ) (lJ (sN sb a fr) (aR σ a (.lst (xs ++ [w])))) := tA (List.mem_cons_of_mem _ List.mem_cons_self)
 exact ⟨T.nd, ⟨_, aS _ _ _, m3 (ht _) (dE le _ h2)⟩, eX le _ _ (fun q hq => bK _ (T.ne.2 q hq).2 _) T.low, by rw [bK _ T.ne.1]; exact T.sbx⟩
theorem Tree.set (T : Tree g sb σ a fr ts) (c : Cell) : Tree g sb (aR σ sb c) a fr ts := by
 obtain ⟨ys, h1, h2⟩ := T.top
 have le : LeC (lJ (sN sb a fr) σ) (lJ (sN sb a fr) (aR σ sb c)) := tA List.mem_cons_self
 exact ⟨T.nd, ⟨ys, by rw [bK _ (Ne.symm T.ne.1)]; exact h1, dE le _ h2⟩, eX le _ _ (fun q hq => bK _ (T.ne.2 q hq).1 _) T.low, by rw [aS]; rfl⟩
theorem kJ {os : List Nat} : ∀ (fr : List (Nat × PF)) (ch : Nat), zen g σ os ch fr -> ∀ q ∈ fr, (σ q.1).isSome = true
 | q :: fr, ch, ⟨⟨xs, h1, _⟩, h3⟩, p, hp => by
  rcases List.mem_cons.mp hp with e | e
  ·subst e; rw [h1]; rfl
  ·exact kJ fr q.1 h3 p e
theorem Tree.opn (T : Tree g sb σ a fr ts) (hx : σ a = some (.lst xs)) (hb : σ b = none) : Tree g sb (aR (aR σ b (.lst [])) a (.lst (xs ++ [g lc v (.ptr b)]))) b ((a, ⟨ts, lc, v⟩) :: fr) [] := by
 obtain ⟨ys, h1, h2⟩ := T.top
 rw [hx] at h1; cases h1
 have ba : b ≠ a := fun e => by rw [e, hx] at hb; cases hb
 have bs : b ≠ sb := fun e => by have := T.sbx; rw [<- e, hb] at this; cases this
 have bf : ∀ q ∈ fr, q.1 ≠ b := fun q hq e => by have := kJ _ _ T.low q hq; rw [e, hb] at this; cases this
 obtain ⟨n1, n2⟩ := List.nodup_cons.mp T.nd
 have le : LeC (lJ (sN sb a fr) σ) (lJ (sN sb b ((a, ⟨ts, lc, v⟩) :: fr)) (aR (aR σ b (.lst [])) a (.lst (xs ++ [g lc v (.ptr b)])))) := fun x d e => by
  obtain ⟨q1, q2⟩ := kG e
  have xb : x ≠ b := fun e => by rw [e, hb] at q2; cases q2
  have xa : x ≠ a := fun e => q1 (e ▸ List.mem_cons_of_mem _ List.mem_cons_self)
  refine kF (fun m => ?_) (by rw [bK _ xa, bK _ xb]; exact q2)
  rcases List.mem_cons.mp m with e | m
  ·exact q1 (e ▸ List.mem_cons_self)
  ·rcases List.mem_cons.mp m with e | m
   ·exact xb e
   ·exact q1 (List.mem_cons_of_mem _ m)
 refine ⟨List.nodup_cons.mpr ⟨fun m => ?_, List.nodup_cons.mpr ⟨fun m => ?_, n2⟩⟩, ⟨[], by rw [bK _ ba, aS], rfl⟩, ⟨⟨xs, aS _ _ _, dE le _ h2⟩, ?_⟩, by rw [bK _ T.ne.1, bK _ (Ne.symm bs)]; exact T.sbx⟩
 ·rcases List.mem_cons.mp m with e | m
  ·exact bs e.symm
  ·exact n1 m
 ·rcases List.mem_cons.mp m with e | m
  ·exact ba e
  ·obtain ⟨q, hq, e⟩ := List.mem_map.mp m
   exact bf q hq e
 ·exact eX le _ _ (fun q hq => by rw [bK _ (T.ne.2 q hq).2, bK _ (bf q hq)]) T.low
theorem Tree.cls {q : Nat × PF} (hg : ∀ s lc v p t, Res s p t -> Res s (g lc v p) (g lc v t)) (T : Tree g sb σ a (q :: fr) ts) : Tree g sb σ q.1 fr (q.2.ts ++ [g q.2.lc q.2.v (.list ts)]) := by
 obtain ⟨ys, h1, h2⟩ := T.top
 obtain ⟨⟨xs, h3, h4⟩, h5⟩ := T.low
 obtain ⟨n1, n2⟩ := List.nodup_cons.mp T.nd
 obtain ⟨n2, n3⟩ := List.nodup_cons.mp n2
 have le : LeC (lJ (sN sb a (q :: fr)) σ) (lJ (sN sb q.1 fr) σ) := fun x d e => by
  obtain ⟨q1, q2⟩ := kG e
  refine kF (fun m => q1 ?_) q2
  rcases List.mem_cons.mp m with e | m
  ·exact e ▸ List.mem_cons_self
  ·exact List.mem_cons_of_mem _ (List.mem_cons_of_mem _ m)
 refine ⟨List.nodup_cons.mpr ⟨fun m => n1 (List.mem_cons_of_mem _ m), n3⟩, ⟨_, h3, m3 (hg _ _ _ _ _ (show Res (lJ (sN sb q.1 fr) σ) (.ptr a) (.list ts) from Or.inr ⟨a, ys, rfl, kF (fun m => ?_) h1, dE le _ h2⟩)) (dE le _ h4)⟩, eX le _ _ (fun _ _ => rfl) h5, T.sbx⟩
 rcases List.mem_cons.mp m with e | m
 ·exact n1 (e ▸ List.mem_cons_self)
 ·exact n2 m
noncomputable def mZ : Nat -> List (Nat × PF) -> Nat
 | a, [] => a
 | _, q :: fr => mZ q.1 fr
theorem Tree.root (hg : ∀ s lc v p t, Res s p t -> Res s (g lc v p) (g lc v t)) : ∀ (fr : List (Nat × PF)) (a : Nat) (ts : List PV), Tree g sb σ a fr ts -> ∃ xs, σ (mZ a fr) = some (.lst xs) /\ lN σ xs (jS g ts (fr.map (·.2)))
 | [], a, ts, T => by
  obtain ⟨ys, h1, h2⟩ := T.top
  exact ⟨ys, h1, dE (fun x d e => (kG e).2) _ h2⟩
 | q :: fr, a, ts, T => Tree.root hg fr q.1 _ (T.cls hg)
noncomputable def wt (ts : List PV) (fr : List (Nat × PF)) : Nat := ts.length + (fr.map fun q => q.2.ts.length + 1).sum
end
noncomputable def cPf : List (String × Fn) := [("_is_ident_start", zeu), ("_consume_ident", zev), ("_number_end", zbE), ("ascii_lower", nW)]
noncomputable def cPc : List (String × Fn) := [("LiteralToken", t0), ("IdentToken", jX), ("DimensionToken", t5), ("AtKeywordToken", zbD), ("HashToken", nV), ("Comment", t7), ("FunctionBlock", zbC)]
noncomputable def cP : Ctx := mkC cPf cPc false [] [272, 274, 327, 363, 370, 377, 437, 458, 507]
theorem tS : ∀ e ∈ cPf, aX e.2 := by simp only [cPf, List.mem_cons, List.not_mem_nil, or_false]; rintro e (rfl | rfl | rfl | rfl); all_goals first | exact zL | exact zM | exact vZ | exact jD
theorem tR : ∀ e ∈ cPc, aX e.2 := by
 simp only [cPc, List.mem_cons, List.not_mem_nil, or_false]; rintro e (rfl | rfl | rfl | rfl | rfl | rfl | rfl)
 all_goals first | exact rV | exact nU | exact rW | exact vY | exact pU | exact rX | exact vX
theorem bE : CtxMono cP := bV tS tR
noncomputable def jY : List Stmt -> List Stmt
 | (.While _ b _ _) :: _ => b
 | _ :: r => jY r
 | [] => []
noncomputable def kB : Nat -> List Stmt -> Stmt
 | 0, s :: _ => s
 | n + 1, _ :: r => kB n r
 | _, [] => .Pass ⟨0, 0, 0, 0⟩
noncomputable def zE : Nat -> Stmt -> List Stmt
 | 0, .If _ b _ _ => b
 | 0, _ => []
 | n + 1, .If _ _ o _ => match o with
  | [.If t b o p] => zE n (.If t b o p)
  | o => o
 | _ + 1, _ => []
noncomputable def knP (P : Params) : Kn := cS (aN (HK P) 628)
noncomputable def rA (P : Params) : List Stmt := jY (aQ (HK P) 628)
noncomputable def br1 (P : Params) (j : Nat) : List Stmt := zE j (kB 5 (rA P))
noncomputable def br2 (P : Params) (j : Nat) : List Stmt := zE j (kB 7 (rA P))
noncomputable abbrev Rows := List (Nat × PF)
noncomputable def kS (fr : Rows) : PV := fr.casesOn .none fun _ _ => .str [41]
noncomputable def stk : Rows -> List PV
 | [] => []
 | q :: fr => stk fr ++ [.tup [.ptr q.1, kS fr]]
noncomputable def LZ (css : List Nat) (root sb q t l : Nat) (n : Int) (a : Nat) (e : PV) : List (Str × PV) := [("css", .str css), ("length", .int css.length), ("skip_comments", .bool false), ("pos", .int q), ("token_start_pos", .int t), ("line", .int l), ("last_newline", .int n),
 ("root", .ptr root), ("tokens", .ptr a), ("end_char", e), ("stack", .ptr sb)]
noncomputable def LX (css : List Nat) (root sb p : Nat) (lc : Nat × Nat) (a c : Nat) (e : PV) : List (Str × PV) := ("c", .str [c]) :: ("column", .int lc.2) :: LZ css root sb p p lc.1 ((p : Int) - lc.2) a e
noncomputable def Inv (css : List Nat) (root sb : Nat) (R : List PV) (n : Nat) (st : St) : Prop :=
 ∃ (p t a : Nat) (fr : Rows) (ts : List PV) (E : List Ev), n = css.length - p /\ t <= p /\ p <= css.length /\ dC (LZ css root sb p t (gU (css.take t)).1 ((t : Int) - (gU (css.take t)).2) a (kS fr)) st.ρ /\
  Tree fnP sb st.σ a fr ts /\ st.σ sb = some (.lst (stk fr)) /\ wt ts fr <= p /\ mZ a fr = root /\ Reads fr.length (gU (css.take p)) (css.drop p) E /\ dT tkP fnP E ts (fr.map (·.2)) = R
noncomputable def rT (css : List Nat) (root sb : Nat) (R : List PV) (p : Nat) (st : St) : Prop := ∃ m, m < css.length - p /\ Inv css root sb R m st
noncomputable def Done (root : Nat) (R : List PV) (st : St) : Prop := st.ρ "root" = some (.ptr root) /\ ∃ xs, st.σ root = some (.lst xs) /\ lN st.σ xs R
structure Mid (css : List Nat) (root sb : Nat) (R : List PV) (st : St) (p c : Nat) (r : List Nat) (lc : Nat × Nat) (a : Nat) (fr : Rows) (ts : List PV) (act : Act) (n : Nat) (E : List Ev) : Prop where
 hlen : css.length <= 1000
 ha : Al css
 lt : p < css.length
 drop : css.drop p = c :: r
 at_ : css[p]? = some c
 hlc : lc = gU (css.take p)
 core : dC (LX css root sb p lc a c (kS fr)) st.ρ
 tree : Tree fnP sb st.σ a fr ts
 stk : st.σ sb = some (.lst (stk fr))
 wt : wt ts fr <= p
 root : mZ a fr = root
 n1 : 1 <= n
 n2 : p + n <= css.length
 deep : act = .cls -> 0 < fr.length
 next : Reads (act.deep fr.length) (adv lc ((c :: r).take n)) ((c :: r).drop n) E
 run : zdw tkP fnP lc ts (fr.map (·.2)) (dT tkP fnP E) act = R
section
variable {css : List Nat} {root sb : Nat} {R : List PV} {st st' : St} {p c : Nat} {r : List Nat} {lc : Nat × Nat} {a : Nat} {fr : Rows} {ts : List PV} {act : Act} {n : Nat} {E : List Ev} {xs : List PV}
theorem z9 {x : List Nat} (n : Nat) (hd : css.drop p = x) : gU (css.take (p + n)) = adv (gU (css.take p)) (x.take n) := by
 unfold gU
 rw [List.take_add, eZ, hd]
theorem Mid.lt2 (m : Mid css root sb R st p c r lc a fr ts act n E) : css.length < 1000000 := Nat.lt_of_le_of_lt m.hlen (by decide)
theorem Mid.few (m : Mid css root sb R st p c r lc a fr ts act n E) (hx : st.σ a = some (.lst xs)) : xs.length < aP := by
 obtain ⟨ys, h1, h2⟩ := m.tree.top
 rw [hx] at h1; cases h1
 have h3 := m.wt
 have h4 := m.lt
 have h5 := m.lt2
 rw [m0 h2]
 unfold Mine.wt at h3
 unfold aP
 omega
theorem Mid.fewS (m : Mid css root sb R st p c r lc a fr ts act n E) : (Mine.stk fr).length < aP := by
 have h3 := m.wt
 have h4 := m.lt
 have h5 := m.lt2
 have : ∀ fr : Rows, (Mine.stk fr).length <= (fr.map fun q => q.2.ts.length + 1).sum := fun fr => by
  induction fr with
  | nil => exact Nat.le_refl _
  | cons q fr ih => rw [Mine.stk, List.length_append, List.map_cons, List.sum_cons]; show _ + 1 <= _; omega
 have := this fr
 unfold Mine.wt at h3
 unfold aP
 omega
theorem Mid.nxt (m : Mid css root sb R st p c r lc a fr ts act n E) : Reads (act.deep fr.length) (gU (css.take (p + n))) (css.drop (p + n)) E := by
 rw [z9 n m.drop, <- m.hlc, <- List.drop_drop, m.drop]; exact m.next
theorem f8 {t : Tk} (m : Mid css root sb R st p c r lc a fr ts (.tok t) n E) (hc : dC (LZ css root sb (p + n) p lc.1 ((p : Int) - lc.2) a (kS fr)) st'.ρ)
  (hx : st.σ a = some (.lst xs)) (hσ : st'.σ = aR st.σ a (.lst (xs ++ [tkP lc t]))) : rT css root sb R p st' := by
 have n1 := m.n1
 have n2 := m.n2
 refine ⟨css.length - (p + n), by omega, p + n, p, a, fr, ts ++ [tkP lc t], E, rfl, Nat.le_add_right _ _, n2, ?_, ?_, ?_, ?_, m.root, m.nxt, m.run⟩
 ·rw [<- m.hlc]; exact hc
 ·rw [hσ]
  refine m.tree.push hx fun s => ?_
  cases t with
  | dim iv r u => cases iv <;> exact bA _ _ rfl
  | _ => exact bA _ _ rfl
 ·rw [hσ, bK _ m.tree.ne.1]; exact m.stk
 ·have := m.wt
  unfold wt at this ⊢
  rw [List.length_append]; show ts.length + 1 + _ <= _; omega
theorem zX {v : List Nat} {b : Nat} (m : Mid css root sb R st p c r lc a fr ts (.opn v) n E) (hc : dC (LZ css root sb (p + n) p lc.1 ((p : Int) - lc.2) b (.str [41])) st'.ρ)
  (hx : st.σ a = some (.lst xs)) (hb : st.σ b = none) (hσ : st'.σ = aR (aR (aR st.σ b (.lst [])) a (.lst (xs ++ [fnP lc v (.ptr b)]))) sb (.lst (stk fr ++ [.tup [.ptr a, kS fr]]))) : rT css root sb R p st' := by
 have n1 := m.n1
 have n2 := m.n2
 refine ⟨css.length - (p + n), by omega, p + n, p, b, (a, ⟨ts, lc, v⟩) :: fr, [], E, rfl, Nat.le_add_right _ _, n2, ?_, ?_, ?_, ?_, m.root, m.nxt, m.run⟩
 ·rw [<- m.hlc]; exact hc
 ·rw [hσ]; exact (m.tree.opn hx hb).set _
 ·rw [hσ, aS]; rfl
 ·have := m.wt
  unfold wt at this ⊢
  rw [List.map_cons, List.sum_cons]; show 0 + (ts.length + 1 + _) <= _; omega
theorem yR (s : Nat -> Option Cell) (lc : Nat × Nat) (v : List Nat) (p t : PV) (h : Res s p t) : Res s (fnP lc v p) (fnP lc v t) := ⟨_, rfl, p, _, rfl, h, d7 s _ rfl⟩
theorem zY {q : Nat × PF} {fr' : Rows} (m : Mid css root sb R st p c r lc a (q :: fr') ts .cls n E) (hc : dC (LZ css root sb (p + n) p lc.1 ((p : Int) - lc.2) q.1 (kS fr')) st'.ρ)
  (hσ : st'.σ = aR st.σ sb (.lst (stk fr'))) : rT css root sb R p st' := by
 have n1 := m.n1
 have n2 := m.n2
 refine ⟨css.length - (p + n), by omega, p + n, p, q.1, fr', q.2.ts ++ [fnP q.2.lc q.2.v (.list ts)], E, rfl, Nat.le_add_right _ _, n2, ?_, ?_, ?_, ?_, m.root, m.nxt, m.run⟩
 ·rw [<- m.hlc]; exact hc
 ·rw [hσ]; exact (m.tree.cls yR).set _
 ·rw [hσ, aS]
 ·have := m.wt
  unfold wt at this ⊢
  rw [List.map_cons, List.sum_cons] at this
  rw [List.length_append]; show q.2.ts.length + 1 + _ <= _; omega
theorem zaZ (T : Tree fnP sb st.σ a fr ts) (hr : mZ a fr = root) (hE : Reads fr.length lc [] E) (hR : dT tkP fnP E ts (fr.map (·.2)) = R) (hρ : st.ρ "root" = some (.ptr root)) : Done root R st := by
 cases hE with
 | nil =>
  refine ⟨hρ, ?_⟩
  rw [<- hr, <- hR]
  exact T.root yR
 | cons _ n _ _ _ _ _ h1 h2 => exact absurd (Nat.le_trans h1 h2) (by decide)
end
section
variable {κ : Kn} {st : St} {css : List Nat} {i c : Nat} {p0 p1 p2 p3 p4 p5 p6 : Pos}
theorem zc4 (k1 : κ "_is_ident_start" = some .globalImplicit) (k2 : κ "css" = some .local) (k3 : κ "pos" = some .local) (h1 : st.ρ "css" = some (.str css)) (h2 : st.ρ "pos" = some (.int i)) (hx : css.length < 1000000) (ha : Al css) (hc : css[i]? = some c) :
  ev cP κ (.Call (.Name (Str.ofString "_is_ident_start") p1) [.Name (Str.ofString "css") p2, .Name (Str.ofString "pos") p3] [] p4) st (.bool (aM (css.drop i))) :=
 bC (F := zeu) bE k1 rfl (aC bE (aA k2 h1) (aC bE (aA k3 h2) aH)) ⟨css, i, c, rfl, hx, ha, hc, .inl rfl, rfl⟩
theorem zbk {v : List Nat} {n : Nat} (k1 : κ "_consume_ident" = some .globalImplicit) (k2 : κ "css" = some .local) (k3 : κ "pos" = some .local) (h1 : st.ρ "css" = some (.str css)) (h2 : st.ρ "pos" = some (.int i)) (hx : css.length < 1000000) (ha : Al css) (hi : i <= css.length) (hv : NameAt (css.drop i) v n) :
  ev cP κ (.Call (.Name (Str.ofString "_consume_ident") p1) [.Name (Str.ofString "css") p2, .Name (Str.ofString "pos") p3] [] p4) st (.tup [.str v, .int (i + n : Nat)]) :=
 bC (F := zev) bE k1 rfl (aC bE (aA k2 h1) (aC bE (aA k3 h2) aH)) ⟨css, i, v, n, rfl, hx, ha, hi, hv, .inl rfl, rfl⟩
theorem zbI (k1 : κ "_is_ident_start" = some .globalImplicit) (k2 : κ "css" = some .local) (k3 : κ "pos" = some .local) (k4 : κ "length" = some .local) (h1 : st.ρ "css" = some (.str css)) (h2 : st.ρ "pos" = some (.int i)) (h3 : st.ρ "length" = some (.int css.length)) (hx : css.length < 1000000) (ha : Al css) :
  tv cP κ (.BoolOp .And [.Compare (.Name (Str.ofString "pos") p5) [.Lt] [.Name (Str.ofString "length") p6] p0, .Call (.Name (Str.ofString "_is_ident_start") p1) [.Name (Str.ofString "css") p2, .Name (Str.ofString "pos") p3] [] p4] p) st (aM (css.drop i)) := by
 have e : aM (css.drop i) = (decide (i < css.length) && aM (css.drop i)) := by
  by_cases h : i < css.length
  ·rw [decide_eq_true h, Bool.true_and]
  ·rw [List.drop_of_length_le (Nat.le_of_not_lt h)]; exact (Bool.and_false _).symm
 rw [e]
 exact dJ bE (bQ bE (kP bE (aA k3 h2) (aA k4 h3))) fun h => c6 (bQ bE (zc4 k1 k2 k3 h1 h2 hx ha (List.getElem?_eq_getElem (of_decide_eq_true h))))
end
section
variable {P : Params} {Q : Fl -> St -> Prop} {css : List Nat} {root sb : Nat} {R : List PV} {st st' : St} {p c : Nat} {r : List Nat} {lc : Nat × Nat} {a : Nat} {fr : Rows} {ts : List PV} {act : Act} {n k : Nat} {E : List Ev} {v : List Nat}
theorem qM {κ : Kn} {e : Expr} {p1 p2 p3 p4 : Pos} {xs : List PV} {Q : Fl -> St -> Prop} {st : St} (M : CtxMono cP) (v : PV) (hk : κ "tokens" = some .local) (hx : st.ρ "tokens" = some (.ptr a)) (hc : st.σ a = some (.lst xs)) (hl : xs.length < aP) (he : ev cP κ e st v)
  (hr : bT [e] = none) (k : Q .next ⟨st.ρ, aR st.σ a (.lst (xs ++ [v]))⟩) :
  wS cP κ (.Expr (.Call (.Attribute (.Name (Str.ofString "tokens") p1) (Str.ofString "append") p2) [e] [] p3) p4) Q st :=
 b7 M v hk hx hc he hr hl k
theorem brId (m : Mid css root sb R st p c r lc a fr ts act n E) (hv : NameAt (c :: r) v k) (hs : ([40].isPrefixOf ((c :: r).drop k) = false /\ act = .tok (.ident v) /\ n = k) \/ ([40].isPrefixOf ((c :: r).drop k) = true /\ act = .opn v /\ n = k + 1 /\ v.map bW ≠ [117, 114, 108])) (hQ : ∀ st', rT css root sb R p st' -> Q .cont st') : wSs cP (knP P) (br1 P 3) Q st := by
 have M := bE
 obtain ⟨ρ, σ⟩ := st
 have ha := m.ha
 have hlt := m.lt
 have hd := m.drop
 have hx2 := m.lt2
 have hx3 := Nat.lt_trans hx2 (show 1000000 < 2000000 by decide)
 have hn2 := m.n2
 obtain ⟨xs, hcell, _⟩ := m.tree.top
 have few := m.few hcell
 have hco := m.core
 have hd1 : css.drop (p + 1) = r := by rw [<- List.drop_drop, hd]; rfl
 refine cF (L := LX css root sb p lc a c (kS fr)) hco ?_
 clear hco
 conv in (br1 _ _) => whnf
 unfold knP
 rw [<- hd] at hv
 have hkl : p + k <= css.length := gT (Nat.le_of_lt hlt) hv.le.1
 have hvl : v.length < 1000000 := Nat.lt_of_le_of_lt (Nat.le_trans hv.le.2 (Nat.le_trans (Nat.le_add_left _ p) hkl)) hx2
 have hsw : (c :: r).drop k = css.drop (p + k) := by rw [<- hd, List.drop_drop]
 rw [hsw] at hs
 refine aB (dK M (.str v) (.int (p + k : Nat)) (zbk (by kernel_rfl!) (by kernel_rfl!) (by kernel_rfl!) (by kernel_rfl!) (by kernel_rfl!) hx2 ha (Nat.le_of_lt hlt) hv) (by kernel_rfl) (by kernel_rfl) ?_)
 refine aB (bR M (![40].isPrefixOf (css.drop (p + k))) (n7 M (bQ M (kL (q := Str.ofString "(") M (by exact aA (by kernel_rfl!) (by kernel_rfl!)) (by exact aA (by kernel_rfl!) (by kernel_rfl!)) hkl hx3 rfl))) (fun h => ?_) (fun h => ?_))
 ·rcases hs with ⟨_, rfl, rfl⟩ | ⟨h1, _⟩
  ·refine aB (qM M (tkP lc (.ident v)) (by kernel_rfl) (by kernel_rfl!) hcell few (kQ (F := jX) M (by kernel_rfl!) rfl rfl (aC M (v := .int lc.1) (by exact aA (by kernel_rfl!) (by kernel_rfl!)) (aC M (v := .int lc.2) (by exact aA (by kernel_rfl!) (by kernel_rfl!)) (aC M (v := .str v) (by exact aA (by kernel_rfl!) (by kernel_rfl!)) aH))) ⟨_, _, _, rfl, hvl, rfl⟩) rfl ?_)
   exact aB (lV (hQ _ (f8 m (by (show _ = _; first | kernel_rfl! | (rw [<- Nat.add_assoc]; kernel_rfl!) | (rw [<- Nat.add_assoc, <- Nat.add_assoc]; kernel_rfl!))) hcell rfl)))
  ·rw [h1] at h; cases h
 ·rcases hs with ⟨h1, _⟩ | ⟨_, rfl, rfl, hu⟩
  ·rw [h1] at h; cases h
  ·refine aB (eF M (.int (p + k : Nat)) (.int 1) (by kernel_rfl!) (aE rfl) (by kernel_rfl) (of_eq dN ?_))
   refine aB (xA (aB (aJ M (.bool false) ?_ (by kernel_rfl) ?_)))
   ·exact (decide_eq_false (p := v.map bW = (Str.ofString "url").cps.toList) (by rw [show (Str.ofString "url").cps.toList = [117, 114, 108] by decide +kernel]; exact hu)) ▸ pF (q := "url") M (bC (F := nW) M (by kernel_rfl!) rfl (aC M (v := .str v) (by exact aA (by kernel_rfl!) (by kernel_rfl!)) aH) ⟨v, rfl, hvl, .inl rfl, rfl⟩)
   (repeat (first | refine eI ?_ | dsimp only [eP]))
   refine aB (bR M false (bQ M (by exact aA (by kernel_rfl!) (by kernel_rfl!))) (fun h => by cases h) (fun _ => ?_))
   (repeat (first | refine eI ?_ | dsimp only [eP]))
   refine aB (oF (by kernel_rfl) (by kernel_rfl) fun b hb => ?_)
   have ba : a ≠ b := fun e => by
    have hb : σ b = none := hb
    have hcell : σ a = _ := hcell
    rw [<- e, hcell] at hb; cases hb
   have bs : sb ≠ b := fun e => by
    have hb : σ b = none := hb
    have hs : σ sb = _ := m.stk
    rw [<- e, hs] at hb; cases hb
   refine aB (qM (a := a) (xs := xs) M (fnP lc v (.ptr b)) (by kernel_rfl) (by kernel_rfl!) (by dsimp only; rw [bK _ ba]; exact hcell) few (kQ (F := zbC) M (by kernel_rfl!) rfl rfl (aC M (v := .int lc.1) (by exact aA (by kernel_rfl!) (by kernel_rfl!)) (aC M (v := .int lc.2) (by exact aA (by kernel_rfl!) (by kernel_rfl!)) (aC M (v := .str v) (by exact aA (by kernel_rfl!) (by kernel_rfl!)) (aC M (v := .ptr b) (by exact aA (by kernel_rfl!) (by kernel_rfl!)) aH)))) ⟨_, _, _, _, rfl, hvl, rfl⟩) rfl ?_)
   refine aB (b7 (a := sb) (xs := stk fr) M (.tup [.ptr a, kS fr]) (by kernel_rfl) (by kernel_rfl!) (by dsimp only; rw [bK _ m.tree.ne.1, bK _ bs]; exact m.stk) (a0 M (aC M (by exact aA (by kernel_rfl!) (by kernel_rfl!)) (aC M (by exact aA (by kernel_rfl!) (by kernel_rfl!)) aH))) rfl m.fewS ?_)
   refine aB (aJ M (.str [41]) (aE rfl) (by kernel_rfl) ?_)
   refine aB (aJ M (.ptr b) (by exact aA (by kernel_rfl!) (by kernel_rfl!)) (by kernel_rfl) ?_)
   exact aB (lV (hQ _ (zX m (by (show _ = _; first | kernel_rfl! | (rw [<- Nat.add_assoc]; kernel_rfl!) | (rw [<- Nat.add_assoc, <- Nat.add_assoc]; kernel_rfl!))) hcell hb rfl)))
end
theorem xR {c : Nat} (h : fL c = true) : (decide (c ∈ (Str.ofString "0123456789abcdefghijklmnopqrstuvwxyz-_ABCDEFGHIJKLMNOPQRSTUVWXYZ").cps.toList) || decide (127 < c)) = bU c :=
 dY (f := fun c => decide (c ∈ (Str.ofString "0123456789abcdefghijklmnopqrstuvwxyz-_ABCDEFGHIJKLMNOPQRSTUVWXYZ").cps.toList) || decide (127 < c)) (by decide +kernel) h
theorem rG (x : List Nat) : ∀ (n i : Nat), i + n = x.length + 1 -> l7 x [42, 47] i n = (zA (x.drop i)).elim (-1) fun k => ((i + k : Nat) : Int)
 | 0, i, h => by rw [List.drop_of_length_le ((show i = x.length + 1 from h) ▸ Nat.le_succ _)]; rfl
 | n + 1, i, h => by
  unfold l7
  by_cases hl : i < x.length
  ·rw [rG x n (i + 1) (by rw [<- h, Nat.add_assoc, Nat.add_comm 1]), List.drop_eq_getElem_cons hl]
   conv => rhs; unfold zA
   split
   ·rfl
   ·cases zA (x.drop (i + 1)) with
    | none => rfl
    | some k => exact congrArg Int.ofNat ((Nat.add_right_comm i 1 k).trans rfl)
  ·rw [List.drop_of_length_le (Nat.le_of_not_lt hl), if_neg (by decide), rG x n (i + 1) (by rw [<- h, Nat.add_assoc, Nat.add_comm 1]), List.drop_of_length_le (Nat.le_trans (Nat.le_of_not_lt hl) (Nat.le_succ i))]; rfl
theorem zd1 (x : List Nat) (i : Nat) (h : i <= x.length) : yS x [42, 47] i = (zA (x.drop i)).elim (-1) fun k => ((i + k : Nat) : Int) := rG x _ _ (Nat.add_sub_cancel' (Nat.le_trans h (Nat.le_succ _)))
section
variable {P : Params} {Q : Fl -> St -> Prop} {css : List Nat} {root sb : Nat} {R : List PV} {st st' : St} {p c : Nat} {r : List Nat} {lc : Nat × Nat} {a : Nat} {fr : Rows} {ts : List PV} {act : Act} {n k : Nat} {E : List Ev} {v : List Nat}
theorem brAt (m : Mid css root sb R st p c r lc a fr ts (.tok (.atk v)) (1 + k) E) (h0 : aM r = true) (hv : NameAt r v k) (hQ : ∀ st', rT css root sb R p st' -> Q .next st') : wSs cP (knP P) (br2 P 1) Q st := by
 have M := bE
 obtain ⟨ρ, σ⟩ := st
 have ha := m.ha
 have hlt := m.lt
 have hd := m.drop
 have hx2 := m.lt2
 have hx3 := Nat.lt_trans hx2 (show 1000000 < 2000000 by decide)
 have hn2 := m.n2
 obtain ⟨xs, hcell, _⟩ := m.tree.top
 have few := m.few hcell
 have hco := m.core
 have hd1 : css.drop (p + 1) = r := by rw [<- List.drop_drop, hd]; rfl
 refine cF (L := LX css root sb p lc a c (kS fr)) hco ?_
 clear hco
 conv in (br2 _ _) => whnf
 unfold knP
 rw [<- hd1] at hv h0
 have hvl : v.length < 1000000 := Nat.lt_of_le_of_lt (Nat.le_trans hv.le.2 (Nat.le_trans (Nat.le_add_left _ (p + 1)) (gT hlt hv.le.1))) hx2
 refine aB (eF M (.int p) (.int 1) (by kernel_rfl!) (aE rfl) (by kernel_rfl) (of_eq dN ?_))
 refine aB (bR M true (h0 ▸ zbI (i := p + 1) (by kernel_rfl!) (by kernel_rfl!) (by kernel_rfl!) (by kernel_rfl!) (by kernel_rfl!) (by kernel_rfl!) (by kernel_rfl!) hx2 ha) (fun _ => ?_) (fun h => by cases h))
 refine aB (dK M (.str v) (.int (p + 1 + k : Nat)) (zbk (i := p + 1) (by kernel_rfl!) (by kernel_rfl!) (by kernel_rfl!) (by kernel_rfl!) (by kernel_rfl!) hx2 ha hlt hv) (by kernel_rfl) (by kernel_rfl) ?_)
 refine aB (qM M (tkP lc (.atk v)) (by kernel_rfl) (by kernel_rfl!) hcell few (kQ (F := zbD) M (by kernel_rfl!) rfl rfl (aC M (v := .int lc.1) (by exact aA (by kernel_rfl!) (by kernel_rfl!)) (aC M (v := .int lc.2) (by exact aA (by kernel_rfl!) (by kernel_rfl!)) (aC M (v := .str v) (by exact aA (by kernel_rfl!) (by kernel_rfl!)) aH))) ⟨_, _, _, rfl, hvl, rfl⟩) rfl ?_)
 exact hQ _ (f8 m (by (show _ = _; first | kernel_rfl! | (rw [<- Nat.add_assoc]; kernel_rfl!) | (rw [<- Nat.add_assoc, <- Nat.add_assoc]; kernel_rfl!))) hcell rfl)
theorem zed (m : Mid css root sb R st p c r lc a fr ts (.tok (.hash v (aM r))) (1 + k) E) (h0 : o6 r = true) (hv : NameAt r v k) (hQ : ∀ st', rT css root sb R p st' -> Q .next st') : wSs cP (knP P) (br2 P 2) Q st := by
 have M := bE
 obtain ⟨ρ, σ⟩ := st
 have ha := m.ha
 have hlt := m.lt
 have hd := m.drop
 have hx2 := m.lt2
 have hx3 := Nat.lt_trans hx2 (show 1000000 < 2000000 by decide)
 have hn2 := m.n2
 obtain ⟨xs, hcell, _⟩ := m.tree.top
 have few := m.few hcell
 have hco := m.core
 have hd1 : css.drop (p + 1) = r := by rw [<- List.drop_drop, hd]; rfl
 refine cF (L := LX css root sb p lc a c (kS fr)) hco ?_
 clear hco
 conv in (br2 _ _) => whnf
 unfold knP
 rw [<- hd1] at hv h0 m
 have hl : p + 1 < css.length := by
  rw [o6, d8] at h0
  cases hg : css[p + 1]? with
  | none => rw [hg] at h0; cases h0
  | some c => exact tC hg
 have hg : css[p + 1]? = some css[p + 1] := List.getElem?_eq_getElem hl
 rw [o6, d8, hg, Option.any_some] at h0
 refine aB (eF M (.int p) (.int 1) (by kernel_rfl!) (aE rfl) (by kernel_rfl) (of_eq dN ?_))
 refine aB (bR M (decide (p + 1 < css.length) && true) (dJ M (bQ M (kP M (by exact aA (by kernel_rfl!) (by kernel_rfl!)) (by exact aA (by kernel_rfl!) (by kernel_rfl!)))) fun h1 => c6 ?_) (fun h => ?_) (fun h => ?_))
 ·rw [<- h0, <- xR (ha.get hl), Bool.or_assoc]
  exact mN M (bQ M (fY M (fJ M rfl (by exact aA (by kernel_rfl!) (by kernel_rfl!)) (by exact aA (by kernel_rfl!) (by kernel_rfl!)) hg))) fun _ => mN M (bQ M (tJ M (by kernel_rfl!) rfl rfl (by kernel_rfl) (fJ M rfl (by exact aA (by kernel_rfl!) (by kernel_rfl!)) (by exact aA (by kernel_rfl!) (by kernel_rfl!)) hg))) fun _ => c6 (dJ M (bQ M (gO M (fJ M rfl (by exact aA (by kernel_rfl!) (by kernel_rfl!)) (by exact aA (by kernel_rfl!) (by kernel_rfl!)) hg) (by kernel_rfl))) fun _ => c6 (n7 M (bQ M (kL (q := Str.ofString "\\\n") M (by exact aA (by kernel_rfl!) (by kernel_rfl!)) (by exact aA (by kernel_rfl!) (by kernel_rfl!)) hlt hx3 rfl))))
 ·refine aB (aJ M (.bool (aM (css.drop (p + 1)))) (zc4 (by kernel_rfl!) (by kernel_rfl!) (by kernel_rfl!) (by kernel_rfl!) (by kernel_rfl!) hx2 ha hg) (by kernel_rfl) ?_)
  refine aB (dK M (.str v) (.int (p + 1 + k : Nat)) (zbk (i := p + 1) (by kernel_rfl!) (by kernel_rfl!) (by kernel_rfl!) (by kernel_rfl!) (by kernel_rfl!) hx2 ha hlt hv) (by kernel_rfl) (by kernel_rfl) ?_)
  refine aB (qM M (tkP lc (.hash v (aM (css.drop (p + 1))))) (by kernel_rfl) (by kernel_rfl!) hcell few (kQ (F := nV) M (by kernel_rfl!) rfl rfl (aC M (v := .int lc.1) (by exact aA (by kernel_rfl!) (by kernel_rfl!)) (aC M (v := .int lc.2) (by exact aA (by kernel_rfl!) (by kernel_rfl!)) (aC M (v := .str v) (by exact aA (by kernel_rfl!) (by kernel_rfl!)) (aC M (v := .bool (aM (css.drop (p + 1)))) (by exact aA (by kernel_rfl!) (by kernel_rfl!)) aH)))) ⟨_, _, _, _, rfl, rfl⟩) rfl ?_)
  exact hQ _ (f8 m (by (show _ = _; first | kernel_rfl! | (rw [<- Nat.add_assoc]; kernel_rfl!) | (rw [<- Nat.add_assoc, <- Nat.add_assoc]; kernel_rfl!))) hcell rfl)
 ·rw [decide_eq_true hl] at h; cases h
end
theorem zd6 {κ : Kn} {st : St} {css : List Nat} {p : Nat} {p1 p2 p3 p4 p5 p6 p7 : Pos} {k k' : Nat} (hp : p + 2 <= css.length) (hx : css.length < 1000000) (k1 : κ "css" = some .local) (k2 : κ "pos" = some .local) (h1 : st.ρ "css" = some (.str css)) (h2 : st.ρ "pos" = some (.int p)) :
  ev cP κ (.Call (.Attribute (.Name (Str.ofString "css") p1) (Str.ofString "find") p2) [.Constant (.str (Str.ofString "*/")) k p3, .BinOp (.Name (Str.ofString "pos") p4) .Add (.Constant (.int 2) k' p5) p6] [] p7) st (.int ((zA (css.drop (p + 2))).elim (-1) fun k => ((p + 2 + k : Nat) : Int))) :=
 nM bE (aA k1 h1) (aC bE (aE rfl) (aC bE (cZ (i := p) (j := 2) bE (aA k2 h2) (aE rfl)) aH)) rfl (by kernel_rfl) (by rw [uW]; exact ⟨Int.natCast_nonneg (p + 2), v0 (n := p + 2) (Nat.lt_of_le_of_lt hp (Nat.lt_trans hx (by decide))), congrArg PV.int (zd1 css (p + 2) hp), rfl⟩)
theorem zdJ {C : Ctx} {κ : Kn} {x y s : Str} {px py pt p p1 p2 p3 : Pos} {kk a : Nat} {v w : PV} {xs : List PV} {Q : Fl -> St -> Prop} {st : St} (hk : κ s = some .local) (hx : st.ρ s = some (.ptr a)) (hc : st.σ a = some (.lst (xs ++ [.tup [v, w]]))) (hs : d6 κ x = true) (hs' : d6 κ y = true)
  (k : Q .next ⟨upd (upd st.ρ x v) y w, aR st.σ a (.lst xs)⟩) : wS C κ (.Assign [.Tuple [.Name x px, .Name y py] kk pt] (.Call (.Attribute (.Name s p1) (Str.ofString "pop") p2) [] [] p3) p) Q st := by
 show wE C _ κ _ st
 rw [eO, show bT [] = none from rfl, cX]
 refine ⟨rfl, ?_⟩
 rw [fN, hk, gV, hx, eK]
 refine ⟨?_, ?_⟩
 ·show (dS (st.σ a)).isSome = true
  rw [hc]; rfl
 ·rw [fM]
  have hn : ∀ y, y ≠ "pop" -> ¬ (Str.ofString "pop" = Str.ofString y) := fun y h q => h ((sEq _ _).mp q).symm
  show eG st.σ (Str.ofString "pop") (.ptr a) [] _
  unfold eG
  rw [if_neg (hn _ (by decide)), if_neg (hn _ (by decide)), if_neg (hn _ (by decide)), if_neg (hn _ (by decide)), if_neg (hn _ (by decide)), if_neg (hn _ (by decide)), if_pos rfl]
  exact ⟨rfl, xs, _, hc, bP (bP hs (bP hs' rfl)) rfl, k⟩
section
variable {P : Params} {Q : Fl -> St -> Prop} {css : List Nat} {root sb : Nat} {R : List PV} {st st' : St} {p c : Nat} {r : List Nat} {lc : Nat × Nat} {a : Nat} {fr : Rows} {ts : List PV} {act : Act} {n k : Nat} {E : List Ev} {v : List Nat}
theorem zeY (m : Mid css root sb R st p c r lc a fr ts (.tok (.com ((r.drop 1).take k))) (2 + k + 2) E) (hk : zA (r.drop 1) = some k) (h2 : 1 <= r.length) (hQ : ∀ st', rT css root sb R p st' -> Q .next st') : wSs cP (knP P) (br2 P 9) Q st := by
 have M := bE
 obtain ⟨ρ, σ⟩ := st
 have ha := m.ha
 have hlt := m.lt
 have hd := m.drop
 have hx2 := m.lt2
 have hx3 := Nat.lt_trans hx2 (show 1000000 < 2000000 by decide)
 have hn2 := m.n2
 obtain ⟨xs, hcell, _⟩ := m.tree.top
 have few := m.few hcell
 have hco := m.core
 have hd1 : css.drop (p + 1) = r := by rw [<- List.drop_drop, hd]; rfl
 refine cF (L := LX css root sb p lc a c (kS fr)) hco ?_
 clear hco
 conv in (br2 _ _) => whnf
 unfold knP
 have hd2 : css.drop (p + 2) = r.drop 1 := by rw [<- hd1, List.drop_drop]
 have hp2 : p + 2 <= css.length := gT (Nat.le_of_lt hlt) (hd ▸ Nat.succ_le_succ h2)
 have he := fun {κ st p1 p2 p3 p4 p5 p6 p7 k k'} => @zd6 κ st css p p1 p2 p3 p4 p5 p6 p7 k k' hp2 hx2
 rw [hd2, hk] at he
 have hkl := y9 hk
 have hk2 : p + 2 + k <= css.length := gT hp2 (hd2 ▸ Nat.le_trans (Nat.le_add_right k 2) hkl)
 refine aB (aJ M (.int (p + 2 + k : Nat)) (he (by kernel_rfl!) (by kernel_rfl!) (by kernel_rfl!) (by kernel_rfl!)) (by kernel_rfl) ?_)
 refine aB (bR M false (bQ M (bL (a := .int (p + 2 + k : Nat)) (b := .int (-1)) M (by exact aA (by kernel_rfl!) (by kernel_rfl!)) (l8 M (aE rfl)) (decide_eq_false (by omega)))) (fun h => by cases h) (fun _ => ?_))
 refine aB (bR M true (n7 (c := false) M (bQ M (by exact aA (by kernel_rfl!) (by kernel_rfl!)))) (fun _ => ?_) (fun h => by cases h))
 have hv : (css.drop (p + 2)).take (p + 2 + k - (p + 2)) = (r.drop 1).take k := by rw [hd2, Nat.add_sub_cancel_left]
 refine aB (qM M (tkP lc (.com ((r.drop 1).take k))) (by kernel_rfl) (by kernel_rfl!) hcell few (kQ (F := t7) M (by kernel_rfl!) rfl rfl (aC M (v := .int lc.1) (by exact aA (by kernel_rfl!) (by kernel_rfl!)) (aC M (v := .int lc.2) (by exact aA (by kernel_rfl!) (by kernel_rfl!)) (aC M (hv ▸ yT (x := css) (i := p + 2) (j := p + 2 + k) M (by exact aA (by kernel_rfl!) (by kernel_rfl!)) (cZ (i := p) (j := 2) M (by exact aA (by kernel_rfl!) (by kernel_rfl!)) (aE rfl)) (by exact aA (by kernel_rfl!) (by kernel_rfl!)) (Nat.le_add_right _ k) (Nat.lt_of_le_of_lt hk2 hx3)) aH))) ⟨_, _, _, rfl, rfl⟩) rfl ?_)
 refine aB (eF M (.int (p + 2 + k : Nat)) (.int 2) (by kernel_rfl!) (aE rfl) (by kernel_rfl) (of_eq dN ?_))
 exact hQ _ (f8 m (by (show _ = _; first | kernel_rfl! | (rw [<- Nat.add_assoc]; kernel_rfl!) | (rw [<- Nat.add_assoc, <- Nat.add_assoc]; kernel_rfl!))) hcell rfl)
theorem zee (m : Mid css root sb R st p c r lc a fr ts (.tok (.lit [c])) 1 E) (hQ : ∀ st', rT css root sb R p st' -> Q .next st') : wSs cP (knP P) (br2 P 13) Q st := by
 have M := bE
 obtain ⟨ρ, σ⟩ := st
 have ha := m.ha
 have hlt := m.lt
 have hd := m.drop
 have hx2 := m.lt2
 have hx3 := Nat.lt_trans hx2 (show 1000000 < 2000000 by decide)
 have hn2 := m.n2
 obtain ⟨xs, hcell, _⟩ := m.tree.top
 have few := m.few hcell
 have hco := m.core
 have hd1 : css.drop (p + 1) = r := by rw [<- List.drop_drop, hd]; rfl
 refine cF (L := LX css root sb p lc a c (kS fr)) hco ?_
 clear hco
 conv in (br2 _ _) => whnf
 unfold knP
 refine aB (qM M (tkP lc (.lit [c])) (by kernel_rfl) (by kernel_rfl!) hcell few (kQ (F := t0) M (by kernel_rfl!) rfl rfl (aC M (v := .int lc.1) (by exact aA (by kernel_rfl!) (by kernel_rfl!)) (aC M (v := .int lc.2) (by exact aA (by kernel_rfl!) (by kernel_rfl!)) (aC M (v := .str [c]) (by exact aA (by kernel_rfl!) (by kernel_rfl!)) aH))) ⟨_, _, _, rfl, rfl⟩) rfl ?_)
 refine aB (eF M (.int p) (.int 1) (by kernel_rfl!) (aE rfl) (by kernel_rfl) (of_eq dN ?_))
 exact hQ _ (f8 m (by (show _ = _; first | kernel_rfl! | (rw [<- Nat.add_assoc]; kernel_rfl!) | (rw [<- Nat.add_assoc, <- Nat.add_assoc]; kernel_rfl!))) hcell rfl)
theorem zeZ {q : Nat × PF} {fr' : Rows} (hfr : fr = q :: fr') (m : Mid css root sb R st p c r lc a fr ts .cls 1 E) (hQ : ∀ st', rT css root sb R p st' -> Q .next st') : wSs cP (knP P) (br2 P 6) Q st := by
 have M := bE
 obtain ⟨ρ, σ⟩ := st
 have ha := m.ha
 have hlt := m.lt
 have hd := m.drop
 have hx2 := m.lt2
 have hx3 := Nat.lt_trans hx2 (show 1000000 < 2000000 by decide)
 have hn2 := m.n2
 obtain ⟨xs, hcell, _⟩ := m.tree.top
 have few := m.few hcell
 have hco := m.core
 have hd1 : css.drop (p + 1) = r := by rw [<- List.drop_drop, hd]; rfl
 refine cF (L := LX css root sb p lc a c (kS fr)) hco ?_
 clear hco
 conv in (br2 _ _) => whnf
 unfold knP
 have hs : σ sb = some (.lst (stk fr' ++ [.tup [.ptr q.1, kS fr']])) := by have := m.stk; rw [hfr] at this; exact this
 refine aB (zdJ (a := sb) (xs := stk fr') (v := .ptr q.1) (w := kS fr') (by kernel_rfl) (by kernel_rfl!) hs (by kernel_rfl) (by kernel_rfl) ?_)
 refine aB (eF M (.int p) (.int 1) (by kernel_rfl!) (aE rfl) (by kernel_rfl) (of_eq dN ?_))
 rw [hfr] at m
 exact hQ _ (zY m (by (show _ = _; first | kernel_rfl! | (rw [<- Nat.add_assoc]; kernel_rfl!) | (rw [<- Nat.add_assoc, <- Nat.add_assoc]; kernel_rfl!))) rfl)
end
theorem zeN (iv : Option Int) : za5 (nX iv) = some iv.isSome := by cases iv <;> rfl
section
variable {P : Params} {Q : Fl -> St -> Prop} {css : List Nat} {root sb : Nat} {R : List PV} {st st' : St} {p c : Nat} {r : List Nat} {lc : Nat × Nat} {a : Nat} {fr : Rows} {ts : List PV} {act : Act} {n k : Nat} {E : List Ev} {v : List Nat}
theorem zeX {b : Bool} {iv : Option Int} (m : Mid css root sb R st p c r lc a fr ts (.tok (.dim iv ((c :: r).take n) v)) (n + k) E) (h1 : b = true -> ∃ i, iv = some i /\ zdr ((c :: r).take n) fun z => z = .int i) (h2 : b = false -> iv = none) (h3 : aM ((c :: r).drop n) = true) (hv : NameAt ((c :: r).drop n) v k)
  (vend : st.ρ "end" = some (.int ((p + n : Nat)))) (vpl : st.ρ "plain" = some (.bool b)) (hQ : ∀ st', rT css root sb R p st' -> Q .next st') : wSs cP (knP P) (br2 P 0) Q st := by
 have M := bE
 obtain ⟨ρ, σ⟩ := st
 have ha := m.ha
 have hlt := m.lt
 have hd := m.drop
 have hx2 := m.lt2
 have hx3 := Nat.lt_trans hx2 (show 1000000 < 2000000 by decide)
 have hn2 := m.n2
 obtain ⟨xs, hcell, _⟩ := m.tree.top
 have few := m.few hcell
 have hco := m.core
 have hd1 : css.drop (p + 1) = r := by rw [<- List.drop_drop, hd]; rfl
 refine cF (L := LX css root sb p lc a c (kS fr)) hco ?_
 clear hco
 conv in (br2 _ _) => whnf
 unfold knP
 refine cF (L := [("end", .int ((p + n : Nat))), ("plain", .bool b)]) (aF vend (aF vpl rfl)) ?_
 have hle : p + n <= css.length := Nat.le_trans (Nat.le_add_right _ k) (by rw [Nat.add_assoc]; exact hn2)
 have htk : (css.drop p).take (p + n - p) = (c :: r).take n := by rw [hd, Nat.add_sub_cancel_left]
 rw [show (c :: r).drop n = css.drop (p + n) by rw [<- List.drop_drop, hd]] at h3 hv
 clear hd hd1
 generalize (c :: r).take n = rp at m h1 htk
 have hvl : v.length < 1000000 := Nat.lt_of_le_of_lt (Nat.le_trans hv.le.2 (Nat.le_trans (Nat.le_add_left _ (p + n)) (gT hle hv.le.1))) hx2
 refine aB (aJ M (.int (p + n : Nat)) (by exact aA (by kernel_rfl!) (by kernel_rfl!)) (by kernel_rfl) ?_)
 refine aB (aJ M (.str rp) (htk ▸ yT M (by exact aA (by kernel_rfl!) (by kernel_rfl!)) (by exact aA (by kernel_rfl!) (by kernel_rfl!)) (by exact aA (by kernel_rfl!) (by kernel_rfl!)) (Nat.le_add_right p n) (Nat.lt_of_le_of_lt hle hx3)) (by kernel_rfl) ?_)
 refine aB (aJ M (.str rp) (by exact aA (by kernel_rfl!) (by kernel_rfl!)) (by kernel_rfl) ?_)
 refine aB (aJ M (nX iv) (cK (c := b) M (bQ M (by exact aA (by kernel_rfl!) (by kernel_rfl!))) (fun h => ?_) (fun h => ?_)) (by kernel_rfl) ?_)
 ·obtain ⟨i, rfl, hi⟩ := h1 h
  exact i5 M (by kernel_rfl!) rfl rfl (by kernel_rfl) (aC M (v := .str rp) (by exact aA (by kernel_rfl!) (by kernel_rfl!)) aH) (of_eq (B := zdr rp fun r => r = .int i) (by kernel_rfl) hi)
 ·rw [h2 h]
  exact aE rfl
 refine aB (bR M true (h3 ▸ zbI (i := p + n) (by kernel_rfl!) (by kernel_rfl!) (by kernel_rfl!) (by kernel_rfl!) (by kernel_rfl!) (by kernel_rfl!) (by kernel_rfl!) hx2 ha) (fun _ => ?_) (fun h => by cases h))
 refine aB (dK M (.str v) (.int (p + n + k : Nat)) (zbk (i := p + n) (by kernel_rfl!) (by kernel_rfl!) (by kernel_rfl!) (by kernel_rfl!) (by kernel_rfl!) hx2 ha hle hv) (by kernel_rfl) (by kernel_rfl) ?_)
 refine aB (qM M (tkP lc (.dim iv rp v)) (by kernel_rfl) (by kernel_rfl!) hcell few (kQ (F := t5) M (by kernel_rfl!) rfl rfl (aC M (v := .int lc.1) (by exact aA (by kernel_rfl!) (by kernel_rfl!)) (aC M (v := .int lc.2) (by exact aA (by kernel_rfl!) (by kernel_rfl!)) (aC M (v := .str rp) (by exact aA (by kernel_rfl!) (by kernel_rfl!)) (aC M (v := nX iv) (by exact aA (by kernel_rfl!) (by kernel_rfl!)) (aC M (v := .str rp) (by exact aA (by kernel_rfl!) (by kernel_rfl!)) (aC M (v := .str v) (by exact aA (by kernel_rfl!) (by kernel_rfl!)) aH)))))) ⟨_, _, _, _, _, _, iv.isSome, rfl, hvl, zeN iv, rfl⟩) rfl ?_)
 exact hQ _ (f8 m (by (show _ = _; first | kernel_rfl! | (rw [<- Nat.add_assoc]; kernel_rfl!) | (rw [<- Nat.add_assoc, <- Nat.add_assoc]; kernel_rfl!))) hcell rfl)
end
theorem xS (c : Nat) : decide (c ∈ (Str.ofString " \n\t").cps.toList) = bY c := by
 rw [show (Str.ofString " \n\t").cps.toList = [32, 10, 9] by decide +kernel, Bool.eq_iff_iff]
 simp only [bY, List.mem_cons, List.not_mem_nil, or_false, decide_eq_true_eq, Bool.or_eq_true, beq_iff_eq, or_assoc]
theorem yX {C : Ctx} {κ : Kn} {l : Expr} {q : Str} {k : Nat} {p p' : Pos} {st : St} {c d : Nat} (M : CtxMono C) (hc : c ≠ d) (h : ev C κ l st (.str [c])) (hq : q.cps.toList = [d]) : ev C κ (.Compare l [.Eq] [.Constant (.str q) k p] p') st (.bool false) :=
 decide_eq_false hc ▸ gO M h hq
noncomputable def rU (c : Nat) (r : List Nat) (act : Act) (n : Nat) : Prop :=
 if c = 64 then ∃ v k, act = .tok (.atk v) /\ n = 1 + k /\ aM r = true /\ NameAt r v k
 else if c = 35 then ∃ v k, act = .tok (.hash v (aM r)) /\ n = 1 + k /\ o6 r = true /\ NameAt r v k
 else if c = 41 then act = .cls /\ n = 1
 else if c = 47 then ∃ k, act = .tok (.com ((r.drop 1).take k)) /\ n = 2 + k + 2 /\ zA (r.drop 1) = some k /\ 1 <= r.length /\ [47, 42].isPrefixOf (c :: r) = true
 else c = 44 /\ act = .tok (.lit [c]) /\ n = 1
theorem Nx.blank {c : Nat} {r : List Nat} {act : Act} {n : Nat} (h : Nx (c :: r) act n) : bY c = false := by
 cases h <;> first | rfl | assumption
theorem Nx.kind {c : Nat} {r : List Nat} {act : Act} {n : Nat} (h : Nx (c :: r) act n) (h4 : aM (c :: r) = false) (hn : xH (c :: r) = none) : rU c r act n := by
 cases h with
 | ident _ _ _ _ _ h => rw [h4] at h; cases h
 | opn _ _ _ _ _ h => rw [h4] at h; cases h
 | dim _ _ _ _ _ _ _ _ _ h => rw [hn] at h; cases h
 | atk _ v k e1 e2 => exact ⟨v, k, rfl, rfl, e1, e2⟩
 | hash _ v k e1 e2 => exact ⟨v, k, rfl, rfl, e1, e2⟩
 | com r k e => exact ⟨k, rfl, rfl, e, Nat.le_add_left 1 _, rfl⟩
 | comma => exact ⟨rfl, rfl, rfl⟩
 | cls => exact ⟨rfl, rfl⟩
theorem Nx.name {c : Nat} {r : List Nat} {act : Act} {n : Nat} (h : Nx (c :: r) act n) (h4 : aM (c :: r) = true) : ∃ v k, NameAt (c :: r) v k /\
  (([40].isPrefixOf ((c :: r).drop k) = false /\ act = .tok (.ident v) /\ n = k) \/ ([40].isPrefixOf ((c :: r).drop k) = true /\ act = .opn v /\ n = k + 1 /\ v.map bW ≠ [117, 114, 108])) := by
 cases h with
 | ident _ _ v _ _ _ g1 g2 => exact ⟨v, _, g1, .inl ⟨g2, rfl, rfl⟩⟩
 | opn _ _ v k _ _ g1 g2 g3 => exact ⟨v, k, g1, .inr ⟨g2, rfl, rfl, g3⟩⟩
 | dim _ _ _ _ _ _ _ _ g => rw [g] at h4; cases h4
 | _ => cases h4
theorem Nx.dimn {c : Nat} {r : List Nat} {act : Act} {n z : Nat} {b : Bool} (h : Nx (c :: r) act n) (h4 : aM (c :: r) = false) (hn : xH (c :: r) = some (z, b)) : ∃ v k iv, act = .tok (.dim iv ((c :: r).take z) v) /\ n = z + k /\
  (b = true -> ∃ i, iv = some i /\ zdr ((c :: r).take z) fun z => z = .int i) /\ (b = false -> iv = none) /\ aM ((c :: r).drop z) = true /\ NameAt ((c :: r).drop z) v k := by
 cases h with
 | ident _ _ _ _ _ h => rw [h4] at h; cases h
 | opn _ _ _ _ _ h => rw [h4] at h; cases h
 | dim _ _ v _ k _ iv _ _ hn' g1 g2 g3 g4 => rw [hn] at hn'; cases hn'; exact ⟨v, k, iv, rfl, rfl, g1, g2, g3, g4⟩
 | _ => cases hn
theorem zcy {q x : List Nat} {k : Nat} (ha : Al x) (hk : k ∈ q) (hn : fL k = false) : q.isPrefixOf x = false := by
 cases h : q.isPrefixOf x with
 | false => rfl
 | true => have := ha k ((List.isPrefixOf_iff_prefix.mp h).subset hk); rw [hn] at this; cases this
section
variable {P : Params} {Q : Fl -> St -> Prop} {css : List Nat} {root sb : Nat} {R : List PV} {st st' : St} {p c : Nat} {r : List Nat} {lc : Nat × Nat} {a : Nat} {fr : Rows} {ts : List PV} {act : Act} {n k : Nat} {E : List Ev} {v : List Nat}
theorem Mid.keep {L : List (Str × PV)} (m : Mid css root sb R st p c r lc a fr ts act n E) (h : dC L st.ρ) : Mid css root sb R ⟨bG L st.ρ, st.σ⟩ p c r lc a fr ts act n E := by
 rw [<- bI L h]; exact m
theorem Mid.cast {act' : Act} {n' : Nat} (m : Mid css root sb R st p c r lc a fr ts act n E) (h : act = act') (k : n = n') : Mid css root sb R st p c r lc a fr ts act' n' E := by
 subst h; subst k; exact m
theorem zeL {L : List (Str × PV)} {f : Fl} (h : dC L st.ρ) (k : Q f st) : Q f ⟨bG L st.ρ, st.σ⟩ := by
 rw [<- bI L h]; exact k
theorem zeK {C : Ctx} {κ : Kn} {ss : List Stmt} {L : List (Str × PV)} (h : dC L st.ρ) (k : wSs C κ ss Q st) : wSs C κ ss Q ⟨bG L st.ρ, st.σ⟩ := by
 rw [<- bI L h]; exact k
theorem zec (m : Mid css root sb R st p c r lc a fr ts act n E) (hx : Nx (c :: r) act n) (hQ : ∀ st', rT css root sb R p st' -> Q .cont st') (hn : aM (c :: r) = false -> Q .next st) :
  wS cP (knP P) (kB 5 (rA P)) Q st := by
 have M := bE
 have ha := m.ha
 have hlt := m.lt
 have hd := m.drop
 have hx2 := m.lt2
 have hat := m.at_
 refine oX m.core ?_
 have hn := fun h => zeL (Q := Q) m.core (hn h)
 have m := m.keep m.core
 have hac := ha.at hat
 conv in (kB _ _) => whnf
 unfold knP
 refine bR M false (hx.blank ▸ xS c ▸ bQ M (fY M (by exact aA (by kernel_rfl!) (by kernel_rfl!)))) (fun h => by cases h) (fun h1 => ?_)
 have hU : decide (c ∈ (Str.ofString "Uu").cps.toList) = false := dY (f := fun c => decide (c ∈ (Str.ofString "Uu").cps.toList)) (g := fun _ => false) (by decide +kernel) hac
 refine aB (bR M (false && false) (dJ M (bQ M (hU ▸ fY M (by exact aA (by kernel_rfl!) (by kernel_rfl!)))) fun h => by cases h) (fun h2 => by cases h2) (fun h2 => ?_))
 have h3 : [45, 45, 62].isPrefixOf (css.drop p) = false := zcy (k := 62) (ha.drop p) (by decide) (by decide)
 refine aB (bR M false (h3 ▸ bQ M (kL (q := Str.ofString "-->") M (by exact aA (by kernel_rfl!) (by kernel_rfl!)) (by exact aA (by kernel_rfl!) (by kernel_rfl!)) (Nat.le_of_lt hlt) (Nat.lt_trans hx2 (by decide)) rfl)) (fun h3 => by cases h3) (fun h3 => ?_))
 refine aB (bR M (aM (c :: r)) (hd ▸ bQ M (zc4 (by kernel_rfl!) (by kernel_rfl!) (by kernel_rfl!) (by kernel_rfl!) (by kernel_rfl!) hx2 ha hat)) (fun h4 => ?_) (fun h4 => hn h4))
 exact x2 (fun v k => a2 fun g1 g2 => brId (P := P) m g1 g2 hQ) (hx.name h4)
theorem zea (m : Mid css root sb R st p c r lc a fr ts act n E) (hx : rU c r act n) (he : st.ρ "end" = some .none) (hQ : ∀ st', rT css root sb R p st' -> Q .next st') : wS cP (knP P) (kB 7 (rA P)) Q st := by
 have M := bE
 have ha := m.ha
 have hlt := m.lt
 have hd := m.drop
 have hx2 := Nat.lt_trans m.lt2 (by decide : 1000000 < 2000000)
 refine oX (aF he m.core) ?_
 have m := m.keep (aF he m.core)
 clear he
 have hac := ha.at m.at_
 conv in (kB _ _) => whnf
 unfold knP
 refine bR M false (bQ M (bL (a := .none) (b := .none) M (by exact aA (by kernel_rfl!) (by kernel_rfl!)) (aE rfl) rfl)) (fun h => by cases h) (fun _ => ?_)
 unfold rU at hx
 refine aB (bR M (decide (c = 64)) (bQ M (gO M (by exact aA (by kernel_rfl!) (by kernel_rfl!)) (by kernel_rfl))) (fun g => ?_) (fun g => ?_))
 ·rw [if_pos (of_decide_eq_true g)] at hx
  exact x2 (fun v k => a4 fun h1 h2 e1 e2 => brAt (P := P) (m.cast h1 h2) e1 e2 hQ) hx
 rw [if_neg (of_decide_eq_false g)] at hx
 clear g
 refine aB (bR M (decide (c = 35)) (bQ M (gO M (by exact aA (by kernel_rfl!) (by kernel_rfl!)) (by kernel_rfl))) (fun g => ?_) (fun g => ?_))
 ·rw [if_pos (of_decide_eq_true g)] at hx
  exact x2 (fun v k => a4 fun h1 h2 e1 e2 => zed (P := P) (m.cast h1 h2) e1 e2 hQ) hx
 rw [if_neg (of_decide_eq_false g)] at hx
 clear g
 have hcs : c = 41 \/ c = 47 \/ c = 44 := by
  by_cases g1 : c = 41
  ·exact .inl g1
  ·by_cases g2 : c = 47
   ·exact .inr (.inl g2)
   ·rw [if_neg g1, if_neg g2] at hx; exact .inr (.inr hx.1)
 have ne : ∀ d, d ≠ 41 /\ d ≠ 47 /\ d ≠ 44 -> c ≠ d := fun d hd e => by subst e; exact hcs.elim hd.1 fun h => h.elim hd.2.1 hd.2.2
 clear hcs
 refine aB (bR M false (bQ M (yX (d := 123) M (ne _ (by decide)) (by exact aA (by kernel_rfl!) (by kernel_rfl!)) (by kernel_rfl))) (fun g => by cases g) (fun _ => ?_))
 refine aB (bR M false (bQ M (yX (d := 91) M (ne _ (by decide)) (by exact aA (by kernel_rfl!) (by kernel_rfl!)) (by kernel_rfl))) (fun g => by cases g) (fun _ => ?_))
 refine aB (bR M false (bQ M (yX (d := 40) M (ne _ (by decide)) (by exact aA (by kernel_rfl!) (by kernel_rfl!)) (by kernel_rfl))) (fun g => by cases g) (fun _ => ?_))
 by_cases g : c = 41
 ·rw [if_pos g] at hx
  refine x2 (fun q fr' hf => ?_) (List.exists_cons_of_length_pos (m.deep hx.1))
  exact aB (bR M true (bQ M (bL (a := .str [c]) (b := kS fr) M (by exact aA (by kernel_rfl!) (by kernel_rfl!)) (by exact aA (by kernel_rfl!) (by kernel_rfl!)) (by rw [g, hf]; rfl))) (fun _ => zeZ (P := P) hf (m.cast hx.1 hx.2) hQ) (fun g => by cases g))
 rw [if_neg g] at hx
 refine aB (bR M false (bQ M (bL (a := .str [c]) (b := kS fr) M (by exact aA (by kernel_rfl!) (by kernel_rfl!)) (by exact aA (by kernel_rfl!) (by kernel_rfl!)) ?_)) (fun g => by cases g) (fun _ => ?_))
 ·cases fr with
  | nil => rfl
  | cons q fr' => exact decide_eq_false fun e => g (List.cons.inj e).1
 have hB : decide (c ∈ (Str.ofString "}])").cps.toList) = false := (dY (f := fun c => decide (c ∈ (Str.ofString "}])").cps.toList)) (g := fun c => decide (c = 41)) (by decide +kernel) hac).trans (decide_eq_false g)
 refine aB (bR M false (bQ M (hB ▸ fY M (by exact aA (by kernel_rfl!) (by kernel_rfl!)))) (fun g => by cases g) (fun _ => ?_))
 clear hB
 refine aB (bR M false (bQ M (bL (a := .str [c]) M (by exact aA (by kernel_rfl!) (by kernel_rfl!)) (a0 M (aC M (aE rfl) (aC M (aE rfl) aH))) ⟨[[34], [39]], by decide +kernel, (dY (f := fun c => decide ([c] ∈ ([[34], [39]] : List (List Nat)))) (g := fun c => decide (c = 34)) (by decide +kernel) hac).trans (decide_eq_false (ne 34 (by decide)))⟩)) (fun g => by cases g) (fun _ => ?_))
 by_cases g2 : c = 47
 ·rw [if_pos g2] at hx
  refine x1 (fun k => a5 fun h1 h2 e1 e2 e3 => ?_) hx
  have m := m.cast h1 h2
  exact aB (bR M true (e3 ▸ hd ▸ bQ M (kL (q := Str.ofString "/*") M (by exact aA (by kernel_rfl!) (by kernel_rfl!)) (by exact aA (by kernel_rfl!) (by kernel_rfl!)) (Nat.le_of_lt hlt) hx2 rfl)) (fun _ => zeY (P := P) m e1 e2 hQ) (fun g => by cases g))
 rw [if_neg g2] at hx
 have h44 := hx.1
 have m := m.cast hx.2.1 hx.2.2
 have h5 : [47, 42].isPrefixOf (c :: r) = false := by rw [h44]; rfl
 refine aB (bR M false (h5 ▸ hd ▸ bQ M (kL (q := Str.ofString "/*") M (by exact aA (by kernel_rfl!) (by kernel_rfl!)) (by exact aA (by kernel_rfl!) (by kernel_rfl!)) (Nat.le_of_lt hlt) hx2 rfl)) (fun g => by cases g) (fun _ => ?_))
 refine aB (bR M false (bQ M (zbU M (by exact aA (by kernel_rfl!) (by kernel_rfl!)) (by exact aA (by kernel_rfl!) (by kernel_rfl!)) (Nat.le_of_lt hlt) hx2 rfl ha (k := 60) (by kernel_rfl) (by decide))) (fun g => by cases g) (fun _ => ?_))
 refine aB (bR M false (bQ M (zbU M (by exact aA (by kernel_rfl!) (by kernel_rfl!)) (by exact aA (by kernel_rfl!) (by kernel_rfl!)) (Nat.le_of_lt hlt) hx2 rfl ha (k := 124) (by kernel_rfl) (by decide))) (fun g => by cases g) (fun _ => ?_))
 have h6 : decide (c ∈ (Str.ofString "~|^$*").cps.toList) = false := by rw [h44]; decide +kernel
 exact aB (bR M false (h6 ▸ bQ M (fY M (by exact aA (by kernel_rfl!) (by kernel_rfl!)))) (fun g => by cases g) (fun _ => zee (P := P) m hQ))
theorem zcD {o : Option (Nat × Bool)} {ρ : dG} (hp : dC [("end", (o.elim .none fun e => .int (p + e.1 : Nat))), ("plain", (o.elim (.bool false) fun e => .bool e.2))] ρ) :
  (o = none /\ ρ "end" = some .none) \/ ∃ z b, o = some (z, b) /\ ρ "end" = some (.int ((p + z : Nat))) /\ ρ "plain" = some (.bool b) := by
 obtain ⟨h1, h2⟩ := List.cons.inj hp
 cases o with
 | none => exact .inl ⟨rfl, h1⟩
 | some e => exact .inr ⟨e.1, e.2, rfl, h1, (List.cons.inj h2).1⟩
theorem zeb (m : Mid css root sb R st p c r lc a fr ts act n E) (hx : Nx (c :: r) act n) (h4 : aM (c :: r) = false) (hp : dC [("end", ((xH (c :: r)).elim .none fun e => .int (p + e.1 : Nat))), ("plain", ((xH (c :: r)).elim (.bool false) fun e => .bool e.2))] st.ρ)
  (hQ : ∀ st', rT css root sb R p st' -> Q .next st') : wS cP (knP P) (kB 7 (rA P)) Q st := by
 refine (zcD hp).elim (fun h => zea m (hx.kind h4 h.1) h.2 hQ) (x2 fun z b => a3 fun hn h1 h2 => ?_)
 refine x3 (fun v k iv => a6 fun e1 e2 g1 g2 g3 g4 => ?_) (hx.dimn h4 hn)
 have M := bE
 have f : dC [("end", .int ((p + z : Nat))), ("plain", .bool b)] st.ρ := aF h1 (aF h2 rfl)
 have br := zeK f (zeX (P := P) (m.cast e1 e2) g1 g2 g3 g4 h1 h2 hQ)
 refine oX f ?_
 clear m
 conv in (kB _ _) => whnf
 exact bR M true (bQ M (bL (a := .int (p + z : Nat)) (b := .none) M (by exact aA (by kernel_rfl!) (by kernel_rfl!)) (aE rfl) rfl)) (fun _ => br) (fun h => by cases h)
end
theorem nK {C : Ctx} {κ : Kn} {o : Expr} {p q : Str} {x y : List Nat} {k1 k2 : Nat} {p1 p2 p3 p4 : Pos} {st : St} (M : CtxMono C) (h : ev C κ o st (.str x)) (hl : x.length <= 1000000) (hp : p.cps.toList ≠ []) (hq : q.cps.toList.length = 1) (hpq : p ≠ q) (hy : oK p.cps.toList q.cps.toList x = y) :
  ev C κ (.Call (.Attribute o (Str.ofString "replace") p1) [.Constant (.str p) k1 p2, .Constant (.str q) k2 p3] [] p4) st (.str y) :=
 ⟨rfl, aO (e := o) M h ⟨rfl, hl, hp, hq, hpq, congrArg _ hy, rfl⟩⟩
theorem iA {k : Nat} {r q : List Nat} : ∀ (n : Nat) (x : List Nat), x.length < n -> k ∉ x -> b8 (k :: r) q n x = x
 | n + 1, [], _, _ => rfl
 | n + 1, c :: x, h, hk => by
  have e : (k :: r).isPrefixOf (c :: x) = false := by
   show ((k == c) && _) = false
   rw [beq_eq_false_iff_ne.mpr (fun e => hk (by rw [e]; exact List.mem_cons_self))]; rfl
  show (if (k :: r).isPrefixOf (c :: x) = true then _ else c :: b8 (k :: r) q n x) = _
  rw [e, yE, iA n x (Nat.lt_of_succ_lt_succ h) fun m => hk (List.mem_cons_of_mem _ m)]
theorem sS {x : List Nat} (h : Al x) {k : Nat} (hk : fL k = false) : k ∉ x := fun q => by rw [h k q] at hk; cases hk
theorem qT {σ : Nat -> Option Cell} {x : List Nat} {c : Nat} {i j : Int} {K : PV -> (Nat -> Option Cell) -> Prop} : eG σ "rfind" (.str x) [.str [c], .int i, .int j] K = okI i (okI j (K (.int (eU c x i.toNat j.toNat)) σ)) := by kernel_rfl
theorem qU {σ : Nat -> Option Cell} {x : List Nat} {c : Nat} {i j : Int} {K : PV -> (Nat -> Option Cell) -> Prop} : eG σ "count" (.str x) [.str [c], .int i, .int j] K = okI i (okI j (K (.int ((((x.take j.toNat).drop i.toNat).count c : Nat) : Int)) σ)) := by kernel_rfl
section
variable {P : Params} {Q : Fl -> St -> Prop} {css : List Nat} {root sb : Nat} {R : List PV} {st st' : St} {p t a : Nat} {fr : Rows} {ts : List PV} {E : List Ev}
theorem wB (hlen : css.length <= 1000) (ha : Al css) (htp : t <= p) (hlt : p < css.length) (hcore : dC (LZ css root sb p t (gU (css.take t)).1 ((t : Int) - (gU (css.take t)).2) a (kS fr)) st.ρ)
  (tree : Tree fnP sb st.σ a fr ts) (hstk : st.σ sb = some (.lst (stk fr))) (hwt : wt ts fr <= p) (hroot : mZ a fr = root) (hE : Reads fr.length (gU (css.take p)) (css.drop p) E) (hrun : dT tkP fnP E ts (fr.map (·.2)) = R)
  (hN : ∀ st', rT css root sb R p st' -> Q .next st') (hC : ∀ st', rT css root sb R p st' -> Q .cont st') : wSs cP (knP P) (rA P) Q st := by
 have M := bE
 have hx2 : css.length < 1000000 := Nat.lt_of_le_of_lt hlen (by decide)
 have lt62 : ∀ {i}, i <= css.length -> i < 2000000 := fun h => Nat.lt_of_le_of_lt h (Nat.lt_trans hx2 (by decide))
 obtain ⟨ρ, σ⟩ := st
 refine cF (L := LZ css root sb p t (gU (css.take t)).1 ((t : Int) - (gU (css.take t)).2) a (kS fr)) hcore ?_
 clear hcore
 have hg : css[p]? = some css[p] := List.getElem?_eq_getElem hlt
 have hd : css.drop p = css[p] :: css.drop (p + 1) := List.drop_eq_getElem_cons hlt
 have hnl := sT (css := css) (t := t) (p - t) (by rw [Nat.add_sub_cancel' htp]; exact Nat.le_of_lt hlt)
 rw [Nat.add_sub_cancel' htp] at hnl
 generalize gU (css.take t) = lt at hnl ⊢
 generalize hLp : gU (css.take p) = lp at hE hnl
 conv in (rA _) => whnf
 unfold knP
 refine aB (aJ M (.int (eU 10 css t p)) (nM M (by exact aA (by kernel_rfl!) (by kernel_rfl!)) (aC M (v := .str [10]) (aE rfl) (aC M (v := .int t) (by exact aA (by kernel_rfl!) (by kernel_rfl!)) (aC M (v := .int p) (by exact aA (by kernel_rfl!) (by kernel_rfl!)) aH))) rfl (by kernel_rfl) (of_eq qT ⟨Int.natCast_nonneg t, v0 (lt62 (Nat.le_trans htp (Nat.le_of_lt hlt))), Int.natCast_nonneg p, v0 (lt62 (Nat.le_of_lt hlt)), rfl, rfl⟩)) (by kernel_rfl) ?_)
 refine eJ M (fun st1 => st1.σ = σ /\ dC (LZ css root sb p t lp.1 ((p : Int) - lp.2) a (kS fr)) st1.ρ)
  (bR M (!decide (eU 10 css t p = -1)) (bQ M (bL (a := .int (eU 10 css t p)) (b := .int (-1)) M (by exact aA (by kernel_rfl!) (by kernel_rfl!)) (l8 M (aE rfl)) rfl)) (fun h => ?_) (fun h => ?_)) ?_
 ·rcases hnl with ⟨h1, _⟩ | ⟨k, h1, h2, h3⟩
  ·rw [h1] at h; cases h
  ·have hk : k <= css.length := Nat.le_trans (h3 ▸ Nat.le_add_right k lp.2) (Nat.le_of_lt hlt)
   rw [h1, h2, show (p : Int) - lp.2 = k by rw [<- h3]; show ((k : Int) + (lp.2 : Int)) - lp.2 = k; exact Int.add_sub_cancel _ _]
   refine aB (eF M (.int lt.1) (.int (1 + (((css.take k).drop t).count 10 : Nat))) (by kernel_rfl!) (cZ (i := 1) M (aE rfl) (nM M (by exact aA (by kernel_rfl!) (by kernel_rfl!)) (aC M (v := .str [10]) (aE rfl) (aC M (v := .int t) (by exact aA (by kernel_rfl!) (by kernel_rfl!)) (aC M (v := .int k) (by exact aA (by kernel_rfl!) (by kernel_rfl!)) aH))) rfl (by kernel_rfl) (of_eq qU ⟨Int.natCast_nonneg t, v0 (lt62 (Nat.le_trans htp (Nat.le_of_lt hlt))), Int.natCast_nonneg k, v0 (lt62 hk), rfl, rfl⟩))) (by kernel_rfl) (of_eq dN ?_))
   exact aB (aJ M (.int k) (by exact aA (by kernel_rfl!) (by kernel_rfl!)) (by kernel_rfl) ⟨rfl, by (show _ = _; first | kernel_rfl! | (rw [<- Nat.add_assoc]; kernel_rfl!) | (rw [<- Nat.add_assoc, <- Nat.add_assoc]; kernel_rfl!))⟩)
 ·rcases hnl with ⟨h1, h2, h3⟩ | ⟨k, h1, h2, h3⟩
  ·rw [h2, h3, show (p : Int) - ((lt.2 + (p - t) : Nat) : Int) = (t : Int) - lt.2 by omega]
   exact ⟨rfl, by (show _ = _; first | kernel_rfl! | (rw [<- Nat.add_assoc]; kernel_rfl!) | (rw [<- Nat.add_assoc, <- Nat.add_assoc]; kernel_rfl!))⟩
  ·rw [h1] at h; cases h
 ·clear hnl
  rintro ⟨ρ1, σ1⟩ ⟨hσ, hco⟩
  cases hσ
  refine cF (L := LZ css root sb p t lp.1 ((p : Int) - lp.2) a (kS fr)) hco ?_
  clear hco
  refine aB (aJ M (.int ((p : Int) - ((p : Int) - lp.2))) (zbV (i := p) (j := (p : Int) - lp.2) M (by exact aA (by kernel_rfl!) (by kernel_rfl!)) (by exact aA (by kernel_rfl!) (by kernel_rfl!))) (by kernel_rfl) ?_)
  rw [show (p : Int) - ((p : Int) - lp.2) = lp.2 from Int.sub_sub_self _ _]
  refine aB (aJ M (.int p) (by exact aA (by kernel_rfl!) (by kernel_rfl!)) (by kernel_rfl) ?_)
  refine aB (aJ M (.str [css[p]]) (fJ M rfl (by exact aA (by kernel_rfl!) (by kernel_rfl!)) (by exact aA (by kernel_rfl!) (by kernel_rfl!)) hg) (by kernel_rfl) ?_)
  rw [hd] at hE
  cases hE with
  | cons _ n _ _ act E hnx n1 n2 hde hnext =>
   have n3 : p + n <= css.length := gT (Nat.le_of_lt hlt) (by rw [hd]; exact n2)
   have mid : ∀ st2 : St, st2.σ = σ1 -> dC (LX css root sb p lp a css[p] (kS fr)) st2.ρ -> Mid css root sb R st2 p css[p] (css.drop (p + 1)) lp a fr ts act n E :=
    fun st2 g1 g2 => ⟨hlen, ha, hlt, hd, hg, hLp.symm, g2, by rw [g1]; exact tree, by rw [g1]; exact hstk, hwt, hroot, n1, n3, hde, hnext, hrun⟩
   refine aB (zec (P := P) (mid _ rfl (by (show _ = _; first | kernel_rfl! | (rw [<- Nat.add_assoc]; kernel_rfl!) | (rw [<- Nat.add_assoc, <- Nat.add_assoc]; kernel_rfl!)))) hnx (fun st' h => hC _ h) fun h4 => ?_)
   refine aB (dK M ((xH (css.drop p)).elim .none fun e => .int (p + e.1 : Nat)) ((xH (css.drop p)).elim (.bool false) fun e => .bool e.2) (bC (F := zbE) M (by kernel_rfl!) rfl (aC M (v := .str css) (by exact aA (by kernel_rfl!) (by kernel_rfl!)) (aC M (v := .int p) (by exact aA (by kernel_rfl!) (by kernel_rfl!)) aH)) ⟨css, p, rfl, hx2, ha, Nat.le_of_lt hlt, .inl rfl, ?_⟩) (by kernel_rfl) (by kernel_rfl) ?_)
   ·rw [zdN]
    cases xH (css.drop p) <;> rfl
   rw [hd]
   exact aB (zeb (P := P) (mid _ rfl (by (show _ = _; first | kernel_rfl! | (rw [<- Nat.add_assoc]; kernel_rfl!) | (rw [<- Nat.add_assoc, <- Nat.add_assoc]; kernel_rfl!)))) hnx h4 (by (show _ = _; first | kernel_rfl! | (rw [<- Nat.add_assoc]; kernel_rfl!) | (rw [<- Nat.add_assoc, <- Nat.add_assoc]; kernel_rfl!))) (fun st' h => hN _ h))
end
theorem uQ (P : Params) (x css : List Nat) (E : List Ev) (K : PV -> Prop) (hx : x.length <= 1000) (h0 : 0 ∉ x) (hm : oK [13, 10] [10] x = css) (hc : css.length <= 1000) (ha : Al css) (hE : Reads 0 (1, 1) css E) (hK : K (.list (dT tkP fnP E [] []))) :
  wSs cP (cS (aN (HK P) 628)) (aQ (HK P) 628) (lW K) ⟨bG [("css", .str x), ("skip_comments", .bool false)] (fun _ => none), fun _ => none⟩ := by
 have M := bE
 conv in (aQ _ _) => whnf
 refine aB (aJ M (.str css) ?_ (by kernel_rfl) ?_)
 ·have h6 : x.length <= 1000000 := Nat.le_trans hx (by decide)
  have h7 : css.length <= 1000000 := Nat.le_trans hc (by decide)
  exact nK M (nK M (nK M (nK (y := x) M (aA (by kernel_rfl!) (by kernel_rfl!)) h6 (by decide +kernel) (by kernel_rfl) (by decide +kernel) (iA _ _ (Nat.lt_succ_self _) h0)) h6 (by decide +kernel) (by kernel_rfl) (by decide +kernel) hm) h7 (by decide +kernel) (by kernel_rfl) (by decide +kernel) (iA _ _ (Nat.lt_succ_self _) (sS ha (by decide)))) h7 (by decide +kernel) (by kernel_rfl) (by decide +kernel) (iA _ _ (Nat.lt_succ_self _) (sS ha (by decide)))
 refine aB (aJ M (.int css.length) (l9 M (by kernel_rfl!) rfl rfl (by kernel_rfl) (by exact aA (by kernel_rfl!) (by kernel_rfl!))) (by kernel_rfl) ?_)
 refine aB (mX M (.int ((0 : Nat) : Int)) (aE rfl) (by kernel_rfl) (by kernel_rfl) ?_)
 refine aB (aJ M (.int ((1 : Nat) : Int)) (aE rfl) (by kernel_rfl) ?_)
 refine aB (aJ M (.int (-1)) (l8 M (aE rfl)) (by kernel_rfl) ?_)
 refine aB (zcv (by rfl) (by kernel_rfl) (by kernel_rfl) fun a hna => ?_)
 refine aB (aJ M .none (aE rfl) (by kernel_rfl) ?_)
 refine aB (oF (by rfl) (by kernel_rfl) fun b hb => ?_)
 have hab : b ≠ a := fun q => by
  subst q
  dsimp only at hb
  rw [aS] at hb; cases hb
 refine eJ M (fun st => Done a (dT tkP fnP E [] []) st)
  (iW M (fun n st => Inv css a b (dT tkP fnP E [] []) n st) ?_ (css.length - 0) _
   ⟨0, 0, a, [], [], E, rfl, Nat.le_refl _, Nat.zero_le _, by (show _ = _; first | kernel_rfl! | (rw [<- Nat.add_assoc]; kernel_rfl!) | (rw [<- Nat.add_assoc, <- Nat.add_assoc]; kernel_rfl!)), ⟨List.nodup_cons.mpr ⟨fun m => hab (List.mem_singleton.mp m), List.nodup_cons.mpr ⟨List.not_mem_nil, List.nodup_nil⟩⟩, ⟨[], ?_, rfl⟩, trivial, ?_⟩, aS _ _ _, Nat.le_refl _, rfl, hE, rfl⟩) ?_
 ·rintro n ⟨ρ, σ⟩ ⟨p, t, a', fr, ts, E', rfl, htp, hp, hcore, tree, hs, hw, hr, hE, hrun⟩
  refine ⟨decide (p < css.length), ?_, fun hc' => ?_, fun hc' => ?_⟩
  ·rw [show ρ = bG _ ρ from bI _ hcore]
   exact bQ M (kP M (by exact aA (by kernel_rfl!) (by kernel_rfl!)) (by exact aA (by kernel_rfl!) (by kernel_rfl!)))
  ·exact wB (P := P) hc ha htp (of_decide_eq_true hc') hcore tree hs hw hr hE hrun (fun st' h => h) (fun st' h => h)
  ·rw [List.drop_of_length_le (Nat.le_of_not_lt (of_decide_eq_false hc'))] at hE
   exact zaZ tree hr hE hrun (by rw [show ρ = bG _ ρ from bI _ hcore]; kernel_rfl!)
 ·dsimp only
  rw [bK _ (Ne.symm hab), aS]
 ·dsimp only
  rw [aS]; rfl
 ·rintro ⟨ρ, σ⟩ ⟨h1, xs, h2, h3⟩
  refine cF (L := [("root", .ptr a)]) (aF h1 rfl) ?_
  exact aB (aT M (.ptr a) (by exact aA (by kernel_rfl!) (by kernel_rfl!)) ⟨.list (dT tkP fnP E [] []), .inr ⟨a, _, rfl, h2, h3⟩, hK⟩)
noncomputable def lA : Fn := fun ps K => ∃ (x css : List Nat) (E : List Ev), ps = [.str x] /\ x.length <= 1000 /\ 0 ∉ x /\ oK [13, 10] [10] x = css /\ css.length <= 1000 /\ Al css /\ Reads 0 (1, 1) css E /\ K (.list (dT tkP fnP E [] []))
theorem pV : aX lA := fun _ _ _ h => e3 fun _ _ _ => c7 (h _)
theorem zeV (hB : BsOk (bs w.params h mb)) (hmb : HMb mb) : CtxOk prog w (bs w.params h mb) cP 4 := by
 refine eC hmb tS tR (by simp) (fun e he => ?_) (fun e he => ?_) (by simp)
 ·simp only [cPf, List.mem_cons, List.not_mem_nil, or_false] at he
  rcases he with rfl | rfl | rfl | rfl
  ·exact ⟨.ref 642, by kernel_rfl, (zaP hB hmb).le (by decide)⟩
  ·exact ⟨.ref 649, by kernel_rfl, (zaQ hB hmb).le (by decide)⟩
  ·exact ⟨.ref 613, by kernel_rfl, (xV hB hmb).le (by decide)⟩
  ·exact ⟨.ref 26, by kernel_rfl, (oQ hB hmb).le (by decide)⟩
 ·simp only [cPc, List.mem_cons, List.not_mem_nil, or_false] at he
  rcases he with rfl | rfl | rfl | rfl | rfl | rfl | rfl
  ·exact ⟨.ref 206, by kernel_rfl, (uX hB hmb).le (by decide)⟩
  ·exact ⟨.ref 235, by kernel_rfl, (oP hB hmb).le (by decide)⟩
  ·exact ⟨.ref 479, by kernel_rfl, (uY hB hmb).le (by decide)⟩
  ·exact ⟨.ref 265, by kernel_rfl, (xU hB hmb).le (by decide)⟩
  ·exact ⟨.ref 295, by kernel_rfl, (qW hB hmb).le (by decide)⟩
  ·exact ⟨.ref 134, by kernel_rfl, (uZ hB hmb).le (by decide)⟩
  ·exact ⟨.ref 600, by kernel_rfl, (xT hB hmb).le (by decide)⟩
theorem qY (hB : BsOk (bs w.params h mb)) (hmb : HMb mb) : Meets prog w (bs w.params h mb) 5 (.ref 628) lA := by
 refine bB (k := 1) (params := ["css", "skip_comments"]) (dv := [.bool false]) (dp := [.bool false]) hB (zeV hB hmb) (by kernel_rfl) (by kernel_rfl) (by kernel_rfl) rfl (fun _ => .one (by simp [VRel])) (fun S vals hl => ?_) fun ps K ⟨x, css, E, h1, h2, h3, h4, h5, h6, h7, h8⟩ => ?_
 ·obtain ⟨a, rfl⟩ := List.length_eq_one_iff.mp hl
  kernel_rfl
 ·subst h1
  exact ⟨rfl, uQ _ x css E K h2 h3 h4 h5 h6 h7 h8⟩
noncomputable def cN0 : Ctx := mkC [] [] false [] []
theorem fD : CtxMono cN0 := bV (by simp) (by simp)
theorem k6 (hmb : HMb mb) : CtxOk prog w (bs w.params h mb) cN0 0 := eC hmb (by simp) (by simp) (by simp) (by simp) (by simp) (by simp)
section
variable {C : Ctx} {κ : Kn}
theorem a1 {x name : Str} {p1 p2 : Pos} {st : St} {c : Nat} {fs : List PV} {v : PV} (hk : κ x = some .local) (hx : st.ρ x = some (.inst c fs)) (hv : (C.slot c name).bind (fun i => fs[i]?) = some v) : ev C κ (.Attribute (.Name x p1) name p2) st v := by
 obtain ⟨i, hs, hv⟩ := Option.bind_eq_some_iff.mp hv
 show (if κ x = some .globalImplicit then opt (C.val x) _ else opt (st.ρ x) _)
 rw [hk, gV, hx]
 show oN (C.slot c name) _ fun i => opt fs[i]? _
 rw [hs]
 show opt fs[i]? _
 rw [hv]
 exact ⟨rfl, rfl⟩
theorem gY {x name : Str} {p1 p2 : Pos} {st : St} {c : Nat} {fs : List PV} {v : PV} (hk : κ x = some .local) (hx : st.ρ x = some (.inst c fs)) (hs : C.slot c name = none) (hv : C.cval c name = some v) : ev C κ (.Attribute (.Name x p1) name p2) st v := by
 show (if κ x = some .globalImplicit then opt (C.val x) _ else opt (st.ρ x) _)
 rw [hk, gV, hx]
 show oN (C.slot c name) _ _
 rw [hs, cX, hv]
 exact ⟨rfl, rfl⟩
end
noncomputable def pZ (b : Bool) : List Nat := if b then lcS "yes" else lcS "no"
noncomputable def t8 : Fn := fun ps K => ∃ b : Bool, ps = [.bool b] /\ K (.str (pZ b))
theorem lB : aX t8 := fun _ _ _ h => e1 fun _ => c1 (h _)
theorem xY (p : Params) (b : Bool) (K : PV -> Prop) (hK : K (.str (pZ b))) : wSs cN0 (cS (aN (HK p) 741)) (aQ (HK p) 741) (lW K) ⟨bG [("flag", .bool b)] (fun _ => none), fun _ => none⟩ := by
 have M := fD
 conv in (aQ _ _) => whnf
 conv in (aN _ _) => whnf
 cases b
 ·exact aB (aT M (.str (pZ false)) (cK (c := false) M (bQ M (bL (a := .bool false) (b := .bool true) M (by exact aA (by kernel_rfl!) (by kernel_rfl!)) (aE rfl) rfl)) (fun h => by cases h) (fun _ => cK (c := true) M (bQ M (bL (a := .bool false) (b := .bool false) M (by exact aA (by kernel_rfl!) (by kernel_rfl!)) (aE rfl) rfl)) (fun _ => aE rfl) (fun h => by cases h))) ⟨_, bA _ _ rfl, hK⟩)
 ·exact aB (aT M (.str (pZ true)) (cK (c := true) M (bQ M (bL (a := .bool true) (b := .bool true) M (by exact aA (by kernel_rfl!) (by kernel_rfl!)) (aE rfl) rfl)) (fun _ => aE rfl) (fun h => by cases h)) ⟨_, bA _ _ rfl, hK⟩)
theorem u6 (hB : BsOk (bs w.params h mb)) (hmb : HMb mb) : Meets prog w (bs w.params h mb) 1 (.ref 741) t8 := by
 refine bB (k := 1) (params := ["flag"]) (dv := []) (dp := []) hB (k6 hmb) (by kernel_rfl) (by kernel_rfl) (by kernel_rfl) rfl (fun _ => .nil) (fun S vals hl => ?_) fun ps K ⟨b, h1, h2⟩ => ?_
 ·obtain ⟨a, rfl⟩ := List.length_eq_one_iff.mp hl
  kernel_rfl
 ·subst h1; exact ⟨rfl, xY _ b K h2⟩
noncomputable def eS (lc : Nat × Nat) : PV := .tup [.int lc.1, .int lc.2]
noncomputable def bN (lc : Nat × Nat) : Tk -> PV
 | .lit v => .tup [.str (lcS "literal"), eS lc, .str v]
 | .ident v => .tup [.str (lcS "ident"), eS lc, .str v, .str (v.map bW)]
 | .dim iv r u => .tup [.str (lcS "dimension"), eS lc, .str u, .str (u.map bW), nX iv, .str r]
 | .atk v => .tup [.str (lcS "at-keyword"), eS lc, .str v, .str (v.map bW)]
 | .hash v b => .tup [.str (lcS "hash"), eS lc, .str v, .str (pZ b)]
 | .com v => .tup [.str (lcS "comment"), eS lc, .str v]
noncomputable def j3 (lc : Nat × Nat) (v : List Nat) (p : PV) : PV := .tup [.str (lcS "function"), eS lc, .str v, .str (v.map bW), p]
inductive ToldL : Nat -> List PV -> List PV -> Prop
 | nil (d : Nat) : ToldL d [] []
 | tok (d : Nat) (lc : Nat × Nat) (t : Tk) (r r' : List PV) : ToldL d r r' -> ToldL d (tkP lc t :: r) (bN lc t :: r')
 | fn (d : Nat) (lc : Nat × Nat) (v : List Nat) (as bs r r' : List PV) : as.length <= 1000 -> ToldL d as bs -> ToldL (d + 1) r r' -> ToldL (d + 1) (fnP lc v (.list as) :: r) (j3 lc v (.list bs) :: r')
theorem ToldL.up {d : Nat} {a b : List PV} (h : ToldL d a b) : ToldL (d + 1) a b := by
 induction h with
 | nil => exact .nil _
 | tok d lc t r r' _ ih => exact .tok _ lc t _ _ ih
 | fn d lc v as bs r r' hl h1 h2 ih1 ih2 => exact .fn _ lc v _ _ _ _ hl ih1 ih2
theorem ToldL.app {d : Nat} {a b a' b' : List PV} (h : ToldL d a b) (h' : ToldL d a' b') : ToldL d (a ++ a') (b ++ b') := by
 induction h with
 | nil => exact h'
 | tok d lc t r r' _ ih => exact .tok _ lc t _ _ (ih h')
 | fn d lc v as bs r r' hl h1 h2 ih1 ih2 => exact .fn _ lc v _ _ _ _ hl h1 (ih2 h')
theorem ToldL.len {d : Nat} {a b : List PV} (h : ToldL d a b) : a.length = b.length := by
 induction h with
 | nil => rfl
 | tok d lc t r r' _ ih => exact congrArg Nat.succ ih
 | fn d lc v as bs r r' hl h1 h2 ih1 ih2 => exact congrArg Nat.succ ih2
theorem ToldL.plain {d : Nat} {a b : List PV} (h : ToldL d a b) : fF b = true /\ zdt b <= 2 * d + 2 /\ rF b = true := by
 induction h with
 | nil => exact ⟨rfl, Nat.zero_le _, rfl⟩
 | tok d lc t r r' _ ih =>
  obtain ⟨h1, h2, h3⟩ := ih
  have q : Mine.plain (bN lc t) = true /\ dep (bN lc t) <= 2 /\ zeP (bN lc t) = true := by
   cases t with
   | dim iv r u => cases iv <;> exact ⟨rfl, Nat.le_of_ble_eq_true (by kernel_rfl), rfl⟩
   | _ => exact ⟨rfl, Nat.le_of_ble_eq_true (by kernel_rfl), rfl⟩
  exact ⟨Bool.and_eq_true_iff.mpr ⟨q.1, h1⟩, Nat.max_le.mpr ⟨Nat.le_trans q.2.1 (Nat.le_add_left _ _), h2⟩, Bool.and_eq_true_iff.mpr ⟨q.2.2, h3⟩⟩
 | fn d lc v as bs r r' hl _ _ ih1 ih2 =>
  obtain ⟨h1, h2, h3⟩ := ih2
  obtain ⟨g1, g2, g3⟩ := ih1
  refine ⟨Bool.and_eq_true_iff.mpr ⟨?_, h1⟩, Nat.max_le.mpr ⟨?_, h2⟩, Bool.and_eq_true_iff.mpr ⟨?_, h3⟩⟩
  ·show (true && (true && (true && (true && (fF bs && true))))) = true
   rw [g1]; rfl
  ·refine Nat.succ_le_succ (Nat.max_le.mpr ⟨Nat.zero_le _, Nat.max_le.mpr ⟨Nat.succ_le_succ (Nat.zero_le _), Nat.max_le.mpr ⟨Nat.zero_le _, Nat.max_le.mpr ⟨Nat.zero_le _, Nat.max_le.mpr ⟨Nat.succ_le_succ g2, Nat.zero_le _⟩⟩⟩⟩⟩)
  ·show (true && (true && (true && (true && (rF bs && true))))) = true
   rw [g3]; rfl
theorem ToldL.le {d m : Nat} {a b : List PV} (h : ToldL d a b) (hm : d <= m) : ToldL m a b := by
 induction hm with
 | refl => exact h
 | step _ ih => exact ih.up
theorem t1 {a b c m : Nat} (h : a + (b + 1) + c <= m) : a + b + c <= m := Nat.le_trans (Nat.add_le_add_right (Nat.add_le_add_left (Nat.le_succ b) a) c) h
theorem t2 {a b c m : Nat} (h : a + (b + 1) + c <= m) : a + 1 + b + c <= m := by rw [Nat.add_assoc a 1 b, Nat.add_comm 1 b]; exact h
theorem t3 {a b c m : Nat} (h : a + (b + 1) + c <= m) : a + b + (c + 1) <= m := by rw [Nat.add_comm c 1, <- Nat.add_assoc]; exact h
theorem t6 {a b c m : Nat} (h : a + b + c <= m) : a <= m := Nat.le_trans (Nat.le_trans (Nat.le_add_right a b) (Nat.le_add_right _ c)) h
theorem sF {d : Nat} {ts us ts' us' : List PV} (lc : Nat × Nat) (v : List Nat) (h : ToldL d ts us) (h' : ToldL d ts' us') (hl : ts.length <= 1000) : ToldL (d + 1) (ts' ++ [fnP lc v (.list ts)]) (us' ++ [j3 lc v (.list us)]) :=
 h'.up.app (.fn d lc v _ _ _ _ hl h (.nil _))
noncomputable def twin (z : PF × List PV) : PF := ⟨z.2, z.1.lc, z.1.v⟩
noncomputable def TB (d k : Nat) (zs : List (PF × List PV)) : Prop := ∀ z ∈ zs, ToldL d z.1.ts z.2 /\ z.1.ts.length <= k
theorem TB.up {d k : Nat} {zs : List (PF × List PV)} (h : TB d k zs) : TB (d + 1) (k + 1) zs := fun z hz => ⟨(h z hz).1.up, Nat.le_succ_of_le (h z hz).2⟩
theorem TB.wid {d k : Nat} {zs : List (PF × List PV)} (h : TB d k zs) : TB d (k + 1) zs := fun z hz => ⟨(h z hz).1, Nat.le_succ_of_le (h z hz).2⟩
theorem TB.tail {d k : Nat} {z : PF × List PV} {zs : List (PF × List PV)} (h : TB d k (z :: zs)) : TB d k zs := fun y hy => h y (List.mem_cons_of_mem _ hy)
theorem TB.cons {d k : Nat} {z : PF × List PV} {zs : List (PF × List PV)} (h : TB d k zs) (h1 : ToldL d z.1.ts z.2) (h2 : z.1.ts.length <= k) : TB d k (z :: zs) := fun y hy => (List.mem_cons.mp hy).elim (fun e => e ▸ ⟨h1, h2⟩) (h y)
theorem qH {x : List PV} {p : PV} {k : Nat} (h : x.length <= k) : (x ++ [p]).length <= k + 1 := by rw [List.length_append]; exact Nat.succ_le_succ h
noncomputable def zem (m : Nat) (x y : List PV) : Prop := ToldL m x y /\ x.length <= 1000
theorem vQ (m : Nat) : ∀ (E : List Ev) (d k : Nat) (ts us : List PV) (zs : List (PF × List PV)), ToldL d ts us -> TB d k zs -> ts.length <= k -> d + E.length + zs.length <= m -> k + E.length + zs.length <= 1000 ->
  zem m (dT tkP fnP E ts (zs.map (·.1))) (dT bN j3 E us (zs.map twin)) := by
 intro E
 induction E with
 | nil =>
  intro d k ts us zs
  induction zs generalizing d k ts us with
  | nil => exact fun h _ ht hd hk => ⟨h.le hd, Nat.le_trans ht hk⟩
  | cons z zs ih =>
   intro h hz ht hd hk
   obtain ⟨z1, z4⟩ := hz z List.mem_cons_self
   exact ih (d + 1) (k + 1) _ _ (sF z.1.lc z.1.v h z1 (Nat.le_trans ht (t6 hk))) hz.tail.up (qH z4) (t2 (c := 0) hd) (t2 (c := 0) hk)
 | cons e E ih =>
  intro d k ts us zs h hz ht hd hk
  show zem m (zdw tkP fnP e.1 ts (zs.map (·.1)) (dT tkP fnP E) e.2) (zdw bN j3 e.1 us (zs.map twin) (dT bN j3 E) e.2)
  cases e.2 with
  | tok t => exact ih d (k + 1) _ _ zs (h.app (.tok d _ _ _ _ (.nil _))) hz.wid (qH ht) (t1 hd) (t2 hk)
  | opn v => exact ih d k [] [] ((⟨ts, e.1, v⟩, us) :: zs) (.nil _) (hz.cons h ht) (Nat.zero_le _) (t3 hd) (t3 hk)
  | cls =>
   cases zs with
   | nil => exact ih d k ts us [] h hz ht (t1 hd) (t1 hk)
   | cons z zs =>
    obtain ⟨z1, z4⟩ := hz z List.mem_cons_self
    exact ih (d + 1) (k + 1) _ _ zs (sF z.1.lc z.1.v h z1 (Nat.le_trans ht (t6 hk))) hz.tail.up (qH z4) (t2 (Nat.le_of_succ_le hd)) (t2 (Nat.le_of_succ_le hk))
noncomputable def lL (F : Fn) : Ctx := mkC [("_law_mark", t8), ("_law_told", F)] [] false [] [620]
theorem cO {F : Fn} (hF : aX F) : CtxMono (lL F) := bV (by simp [lB, hF]) (by simp)
theorem a7 {C : Ctx} {κ : Kn} {x : Str} {q : String} {k : Nat} {p1 p2 p3 : Pos} {st : St} {y : List Nat} {b : Bool} (M : CtxMono C) (k1 : κ x = some .local) (h : st.ρ x = some (.str y)) (he : decide (y = (Str.ofString q).cps.toList) = b) :
  tv C κ (.Compare (.Name x p1) [.Eq] [.Constant (.str (Str.ofString q)) k p2] p3) st b := he ▸ bQ M (pF M (aA k1 h))
noncomputable def hV (P : Params) : List Stmt := match kB 1 (aQ (HK P) 748) with
 | .For _ _ b _ _ => b
 | _ => []
section
variable {P : Params} {ρ : dG} {σ : Nat -> Option Cell} {a : Nat} {vs : List PV} {lc : Nat × Nat} {Q : Fl -> St -> Prop} {F : Fn}
theorem zZ (v : List Nat) (hF : aX F) (ht : ρ "told" = some (.ptr a)) (hc : σ a = some (.lst vs)) (hl : vs.length < aP) (hQ : ∀ ρ', ρ' "told" = some (.ptr a) -> Q .next ⟨ρ', aR σ a (.lst (vs ++ [bN lc (.lit v)]))⟩) :
  wSs (lL F) (cS (aN (HK P) 748)) (hV P) Q ⟨upd ρ "node" (tkP lc (.lit v)), σ⟩ := by
 have M := cO hF
 refine cF (L := [("told", .ptr a)]) (aF ht rfl) ?_
 conv in (hV _) => whnf
 refine aB (aJ M (.str (lcS "literal")) (gY (c := 206) (fs := [.str v, .int lc.2, .int lc.1]) (by kernel_rfl!) (by kernel_rfl!) (by kernel_rfl) (by kernel_rfl)) (by kernel_rfl) ?_)
 refine aB (aJ M (eS lc) (a0 M (aC M (v := .int lc.1) (a1 (c := 206) (fs := [.str v, .int lc.2, .int lc.1]) (by kernel_rfl!) (by kernel_rfl!) (by kernel_rfl)) (aC M (v := .int lc.2) (a1 (c := 206) (fs := [.str v, .int lc.2, .int lc.1]) (by kernel_rfl!) (by kernel_rfl!) (by kernel_rfl)) aH))) (by kernel_rfl) ?_)
 refine aB (bR M false (a7 (y := lcS "literal") (b := false) M (by kernel_rfl!) (by kernel_rfl!) (by decide +kernel)) (fun h => by cases h) (fun _ => ?_))
 refine aB (bR M false (a7 (y := lcS "literal") (b := false) M (by kernel_rfl!) (by kernel_rfl!) (by decide +kernel)) (fun h => by cases h) (fun _ => ?_))
 refine aB (bR M false (a7 (y := lcS "literal") (b := false) M (by kernel_rfl!) (by kernel_rfl!) (by decide +kernel)) (fun h => by cases h) (fun _ => ?_))
 refine aB (bR M (false || false) (mN (c := false) (d := false) M (a7 (y := lcS "literal") M (by kernel_rfl!) (by kernel_rfl!) (by decide +kernel)) fun _ => c6 (a7 (y := lcS "literal") M (by kernel_rfl!) (by kernel_rfl!) (by decide +kernel))) (fun h => by cases h) (fun _ => ?_))
 refine aB (bR M (true || true) (mN (c := true) (d := true) M (a7 (y := lcS "literal") M (by kernel_rfl!) (by kernel_rfl!) (by decide +kernel)) fun h => by cases h) (fun _ => ?_) (fun h => by cases h))
 refine aB (b7 M (bN lc (.lit v)) (by kernel_rfl) (by kernel_rfl!) hc (a0 M (aC M (v := .str (lcS "literal")) (by exact aA (by kernel_rfl!) (by kernel_rfl!)) (aC M (v := eS lc) (by exact aA (by kernel_rfl!) (by kernel_rfl!)) (aC M (v := .str v) (a1 (c := 206) (fs := [.str v, .int lc.2, .int lc.1]) (by kernel_rfl!) (by kernel_rfl!) (by kernel_rfl)) aH)))) rfl hl ?_)
 exact hQ _ (by kernel_rfl!)
theorem uB (v : List Nat) (hF : aX F) (ht : ρ "told" = some (.ptr a)) (hc : σ a = some (.lst vs)) (hl : vs.length < aP) (hQ : ∀ ρ', ρ' "told" = some (.ptr a) -> Q .next ⟨ρ', aR σ a (.lst (vs ++ [bN lc (.ident v)]))⟩) :
  wSs (lL F) (cS (aN (HK P) 748)) (hV P) Q ⟨upd ρ "node" (tkP lc (.ident v)), σ⟩ := by
 have M := cO hF
 refine cF (L := [("told", .ptr a)]) (aF ht rfl) ?_
 conv in (hV _) => whnf
 refine aB (aJ M (.str (lcS "ident")) (gY (c := 235) (fs := [.str (v.map bW), .str v, .int lc.2, .int lc.1]) (by kernel_rfl!) (by kernel_rfl!) (by kernel_rfl) (by kernel_rfl)) (by kernel_rfl) ?_)
 refine aB (aJ M (eS lc) (a0 M (aC M (v := .int lc.1) (a1 (c := 235) (fs := [.str (v.map bW), .str v, .int lc.2, .int lc.1]) (by kernel_rfl!) (by kernel_rfl!) (by kernel_rfl)) (aC M (v := .int lc.2) (a1 (c := 235) (fs := [.str (v.map bW), .str v, .int lc.2, .int lc.1]) (by kernel_rfl!) (by kernel_rfl!) (by kernel_rfl)) aH))) (by kernel_rfl) ?_)
 refine aB (bR M false (a7 (y := lcS "ident") (b := false) M (by kernel_rfl!) (by kernel_rfl!) (by decide +kernel)) (fun h => by cases h) (fun _ => ?_))
 refine aB (bR M false (a7 (y := lcS "ident") (b := false) M (by kernel_rfl!) (by kernel_rfl!) (by decide +kernel)) (fun h => by cases h) (fun _ => ?_))
 refine aB (bR M false (a7 (y := lcS "ident") (b := false) M (by kernel_rfl!) (by kernel_rfl!) (by decide +kernel)) (fun h => by cases h) (fun _ => ?_))
 refine aB (bR M (true || true) (mN (c := true) (d := true) M (a7 (y := lcS "ident") M (by kernel_rfl!) (by kernel_rfl!) (by decide +kernel)) fun h => by cases h) (fun _ => ?_) (fun h => by cases h))
 refine aB (b7 M (bN lc (.ident v)) (by kernel_rfl) (by kernel_rfl!) hc (a0 M (aC M (v := .str (lcS "ident")) (by exact aA (by kernel_rfl!) (by kernel_rfl!)) (aC M (v := eS lc) (by exact aA (by kernel_rfl!) (by kernel_rfl!)) (aC M (v := .str v) (a1 (c := 235) (fs := [.str (v.map bW), .str v, .int lc.2, .int lc.1]) (by kernel_rfl!) (by kernel_rfl!) (by kernel_rfl)) (aC M (v := .str (v.map bW)) (a1 (c := 235) (fs := [.str (v.map bW), .str v, .int lc.2, .int lc.1]) (by kernel_rfl!) (by kernel_rfl!) (by kernel_rfl)) aH))))) rfl hl ?_)
 exact hQ _ (by kernel_rfl!)
theorem z6 (v : List Nat) (hF : aX F) (ht : ρ "told" = some (.ptr a)) (hc : σ a = some (.lst vs)) (hl : vs.length < aP) (hQ : ∀ ρ', ρ' "told" = some (.ptr a) -> Q .next ⟨ρ', aR σ a (.lst (vs ++ [bN lc (.atk v)]))⟩) :
  wSs (lL F) (cS (aN (HK P) 748)) (hV P) Q ⟨upd ρ "node" (tkP lc (.atk v)), σ⟩ := by
 have M := cO hF
 refine cF (L := [("told", .ptr a)]) (aF ht rfl) ?_
 conv in (hV _) => whnf
 refine aB (aJ M (.str (lcS "at-keyword")) (gY (c := 265) (fs := [.str (v.map bW), .str v, .int lc.2, .int lc.1]) (by kernel_rfl!) (by kernel_rfl!) (by kernel_rfl) (by kernel_rfl)) (by kernel_rfl) ?_)
 refine aB (aJ M (eS lc) (a0 M (aC M (v := .int lc.1) (a1 (c := 265) (fs := [.str (v.map bW), .str v, .int lc.2, .int lc.1]) (by kernel_rfl!) (by kernel_rfl!) (by kernel_rfl)) (aC M (v := .int lc.2) (a1 (c := 265) (fs := [.str (v.map bW), .str v, .int lc.2, .int lc.1]) (by kernel_rfl!) (by kernel_rfl!) (by kernel_rfl)) aH))) (by kernel_rfl) ?_)
 refine aB (bR M false (a7 (y := lcS "at-keyword") (b := false) M (by kernel_rfl!) (by kernel_rfl!) (by decide +kernel)) (fun h => by cases h) (fun _ => ?_))
 refine aB (bR M false (a7 (y := lcS "at-keyword") (b := false) M (by kernel_rfl!) (by kernel_rfl!) (by decide +kernel)) (fun h => by cases h) (fun _ => ?_))
 refine aB (bR M false (a7 (y := lcS "at-keyword") (b := false) M (by kernel_rfl!) (by kernel_rfl!) (by decide +kernel)) (fun h => by cases h) (fun _ => ?_))
 refine aB (bR M (false || true) (mN (c := false) (d := true) M (a7 (y := lcS "at-keyword") M (by kernel_rfl!) (by kernel_rfl!) (by decide +kernel)) fun _ => c6 (a7 (y := lcS "at-keyword") M (by kernel_rfl!) (by kernel_rfl!) (by decide +kernel))) (fun _ => ?_) (fun h => by cases h))
 refine aB (b7 M (bN lc (.atk v)) (by kernel_rfl) (by kernel_rfl!) hc (a0 M (aC M (v := .str (lcS "at-keyword")) (by exact aA (by kernel_rfl!) (by kernel_rfl!)) (aC M (v := eS lc) (by exact aA (by kernel_rfl!) (by kernel_rfl!)) (aC M (v := .str v) (a1 (c := 265) (fs := [.str (v.map bW), .str v, .int lc.2, .int lc.1]) (by kernel_rfl!) (by kernel_rfl!) (by kernel_rfl)) (aC M (v := .str (v.map bW)) (a1 (c := 265) (fs := [.str (v.map bW), .str v, .int lc.2, .int lc.1]) (by kernel_rfl!) (by kernel_rfl!) (by kernel_rfl)) aH))))) rfl hl ?_)
 exact hQ _ (by kernel_rfl!)
theorem z0 (iv : Option Int) (r : List Nat) (u : List Nat) (hF : aX F) (ht : ρ "told" = some (.ptr a)) (hc : σ a = some (.lst vs)) (hl : vs.length < aP) (hQ : ∀ ρ', ρ' "told" = some (.ptr a) -> Q .next ⟨ρ', aR σ a (.lst (vs ++ [bN lc (.dim iv r u)]))⟩) :
  wSs (lL F) (cS (aN (HK P) 748)) (hV P) Q ⟨upd ρ "node" (tkP lc (.dim iv r u)), σ⟩ := by
 have M := cO hF
 refine cF (L := [("told", .ptr a)]) (aF ht rfl) ?_
 conv in (hV _) => whnf
 refine aB (aJ M (.str (lcS "dimension")) (gY (c := 479) (fs := [nX iv, .bool iv.isSome, .str (u.map bW), .str r, .str u, .str r, .int lc.2, .int lc.1]) (by kernel_rfl!) (by kernel_rfl!) (by kernel_rfl) (by kernel_rfl)) (by kernel_rfl) ?_)
 refine aB (aJ M (eS lc) (a0 M (aC M (v := .int lc.1) (a1 (c := 479) (fs := [nX iv, .bool iv.isSome, .str (u.map bW), .str r, .str u, .str r, .int lc.2, .int lc.1]) (by kernel_rfl!) (by kernel_rfl!) (by kernel_rfl)) (aC M (v := .int lc.2) (a1 (c := 479) (fs := [nX iv, .bool iv.isSome, .str (u.map bW), .str r, .str u, .str r, .int lc.2, .int lc.1]) (by kernel_rfl!) (by kernel_rfl!) (by kernel_rfl)) aH))) (by kernel_rfl) ?_)
 refine aB (bR M false (a7 (y := lcS "dimension") (b := false) M (by kernel_rfl!) (by kernel_rfl!) (by decide +kernel)) (fun h => by cases h) (fun _ => ?_))
 refine aB (bR M true (a7 (y := lcS "dimension") (b := true) M (by kernel_rfl!) (by kernel_rfl!) (by decide +kernel)) (fun _ => ?_) (fun h => by cases h))
 refine aB (b7 M (bN lc (.dim iv r u)) (by kernel_rfl) (by kernel_rfl!) hc (a0 M (aC M (v := .str (lcS "dimension")) (by exact aA (by kernel_rfl!) (by kernel_rfl!)) (aC M (v := eS lc) (by exact aA (by kernel_rfl!) (by kernel_rfl!)) (aC M (v := .str u) (a1 (c := 479) (fs := [nX iv, .bool iv.isSome, .str (u.map bW), .str r, .str u, .str r, .int lc.2, .int lc.1]) (by kernel_rfl!) (by kernel_rfl!) (by kernel_rfl)) (aC M (v := .str (u.map bW)) (a1 (c := 479) (fs := [nX iv, .bool iv.isSome, .str (u.map bW), .str r, .str u, .str r, .int lc.2, .int lc.1]) (by kernel_rfl!) (by kernel_rfl!) (by kernel_rfl)) (aC M (v := nX iv) (a1 (c := 479) (fs := [nX iv, .bool iv.isSome, .str (u.map bW), .str r, .str u, .str r, .int lc.2, .int lc.1]) (by kernel_rfl!) (by kernel_rfl!) (by kernel_rfl)) (aC M (v := .str r) (a1 (c := 479) (fs := [nX iv, .bool iv.isSome, .str (u.map bW), .str r, .str u, .str r, .int lc.2, .int lc.1]) (by kernel_rfl!) (by kernel_rfl!) (by kernel_rfl)) aH))))))) rfl hl ?_)
 exact hQ _ (by kernel_rfl!)
theorem wD (v : List Nat) (b : Bool) (hF : aX F) (ht : ρ "told" = some (.ptr a)) (hc : σ a = some (.lst vs)) (hl : vs.length < aP) (hQ : ∀ ρ', ρ' "told" = some (.ptr a) -> Q .next ⟨ρ', aR σ a (.lst (vs ++ [bN lc (.hash v b)]))⟩) :
  wSs (lL F) (cS (aN (HK P) 748)) (hV P) Q ⟨upd ρ "node" (tkP lc (.hash v b)), σ⟩ := by
 have M := cO hF
 refine cF (L := [("told", .ptr a)]) (aF ht rfl) ?_
 conv in (hV _) => whnf
 refine aB (aJ M (.str (lcS "hash")) (gY (c := 295) (fs := [.bool b, .str v, .int lc.2, .int lc.1]) (by kernel_rfl!) (by kernel_rfl!) (by kernel_rfl) (by kernel_rfl)) (by kernel_rfl) ?_)
 refine aB (aJ M (eS lc) (a0 M (aC M (v := .int lc.1) (a1 (c := 295) (fs := [.bool b, .str v, .int lc.2, .int lc.1]) (by kernel_rfl!) (by kernel_rfl!) (by kernel_rfl)) (aC M (v := .int lc.2) (a1 (c := 295) (fs := [.bool b, .str v, .int lc.2, .int lc.1]) (by kernel_rfl!) (by kernel_rfl!) (by kernel_rfl)) aH))) (by kernel_rfl) ?_)
 refine aB (bR M false (a7 (y := lcS "hash") (b := false) M (by kernel_rfl!) (by kernel_rfl!) (by decide +kernel)) (fun h => by cases h) (fun _ => ?_))
 refine aB (bR M false (a7 (y := lcS "hash") (b := false) M (by kernel_rfl!) (by kernel_rfl!) (by decide +kernel)) (fun h => by cases h) (fun _ => ?_))
 refine aB (bR M true (a7 (y := lcS "hash") (b := true) M (by kernel_rfl!) (by kernel_rfl!) (by decide +kernel)) (fun _ => ?_) (fun h => by cases h))
 refine aB (b7 M (bN lc (.hash v b)) (by kernel_rfl) (by kernel_rfl!) hc (a0 M (aC M (v := .str (lcS "hash")) (by exact aA (by kernel_rfl!) (by kernel_rfl!)) (aC M (v := eS lc) (by exact aA (by kernel_rfl!) (by kernel_rfl!)) (aC M (v := .str v) (a1 (c := 295) (fs := [.bool b, .str v, .int lc.2, .int lc.1]) (by kernel_rfl!) (by kernel_rfl!) (by kernel_rfl)) (aC M (v := .str (pZ b)) (bC (F := t8) M (by kernel_rfl!) rfl (aC M (v := .bool b) (a1 (c := 295) (fs := [.bool b, .str v, .int lc.2, .int lc.1]) (by kernel_rfl!) (by kernel_rfl!) (by kernel_rfl)) aH) ⟨b, rfl, .inl rfl, rfl⟩) aH))))) rfl hl ?_)
 exact hQ _ (by kernel_rfl!)
theorem z5 (v : List Nat) (hF : aX F) (ht : ρ "told" = some (.ptr a)) (hc : σ a = some (.lst vs)) (hl : vs.length < aP) (hQ : ∀ ρ', ρ' "told" = some (.ptr a) -> Q .next ⟨ρ', aR σ a (.lst (vs ++ [bN lc (.com v)]))⟩) :
  wSs (lL F) (cS (aN (HK P) 748)) (hV P) Q ⟨upd ρ "node" (tkP lc (.com v)), σ⟩ := by
 have M := cO hF
 refine cF (L := [("told", .ptr a)]) (aF ht rfl) ?_
 conv in (hV _) => whnf
 refine aB (aJ M (.str (lcS "comment")) (gY (c := 134) (fs := [.str v, .int lc.2, .int lc.1]) (by kernel_rfl!) (by kernel_rfl!) (by kernel_rfl) (by kernel_rfl)) (by kernel_rfl) ?_)
 refine aB (aJ M (eS lc) (a0 M (aC M (v := .int lc.1) (a1 (c := 134) (fs := [.str v, .int lc.2, .int lc.1]) (by kernel_rfl!) (by kernel_rfl!) (by kernel_rfl)) (aC M (v := .int lc.2) (a1 (c := 134) (fs := [.str v, .int lc.2, .int lc.1]) (by kernel_rfl!) (by kernel_rfl!) (by kernel_rfl)) aH))) (by kernel_rfl) ?_)
 refine aB (bR M false (a7 (y := lcS "comment") (b := false) M (by kernel_rfl!) (by kernel_rfl!) (by decide +kernel)) (fun h => by cases h) (fun _ => ?_))
 refine aB (bR M false (a7 (y := lcS "comment") (b := false) M (by kernel_rfl!) (by kernel_rfl!) (by decide +kernel)) (fun h => by cases h) (fun _ => ?_))
 refine aB (bR M false (a7 (y := lcS "comment") (b := false) M (by kernel_rfl!) (by kernel_rfl!) (by decide +kernel)) (fun h => by cases h) (fun _ => ?_))
 refine aB (bR M (false || false) (mN (c := false) (d := false) M (a7 (y := lcS "comment") M (by kernel_rfl!) (by kernel_rfl!) (by decide +kernel)) fun _ => c6 (a7 (y := lcS "comment") M (by kernel_rfl!) (by kernel_rfl!) (by decide +kernel))) (fun h => by cases h) (fun _ => ?_))
 refine aB (bR M (false || true) (mN (c := false) (d := true) M (a7 (y := lcS "comment") M (by kernel_rfl!) (by kernel_rfl!) (by decide +kernel)) fun _ => c6 (a7 (y := lcS "comment") M (by kernel_rfl!) (by kernel_rfl!) (by decide +kernel))) (fun _ => ?_) (fun h => by cases h))
 refine aB (b7 M (bN lc (.com v)) (by kernel_rfl) (by kernel_rfl!) hc (a0 M (aC M (v := .str (lcS "comment")) (by exact aA (by kernel_rfl!) (by kernel_rfl!)) (aC M (v := eS lc) (by exact aA (by kernel_rfl!) (by kernel_rfl!)) (aC M (v := .str v) (a1 (c := 134) (fs := [.str v, .int lc.2, .int lc.1]) (by kernel_rfl!) (by kernel_rfl!) (by kernel_rfl)) aH)))) rfl hl ?_)
 exact hQ _ (by kernel_rfl!)
theorem zcj (v : List Nat) (as bs : List PV) (hr : ∀ K : PV -> Prop, K (.list bs) -> F [.list as] K) (hF : aX F) (ht : ρ "told" = some (.ptr a)) (hc : σ a = some (.lst vs)) (hl : vs.length < aP) (hQ : ∀ ρ', ρ' "told" = some (.ptr a) -> Q .next ⟨ρ', aR σ a (.lst (vs ++ [j3 lc v (.list bs)]))⟩) :
  wSs (lL F) (cS (aN (HK P) 748)) (hV P) Q ⟨upd ρ "node" (fnP lc v (.list as)), σ⟩ := by
 have M := cO hF
 refine cF (L := [("told", .ptr a)]) (aF ht rfl) ?_
 conv in (hV _) => whnf
 refine aB (aJ M (.str (lcS "function")) (gY (c := 600) (fs := [.list as, .str (v.map bW), .str v, .int lc.2, .int lc.1]) (by kernel_rfl!) (by kernel_rfl!) (by kernel_rfl) (by kernel_rfl)) (by kernel_rfl) ?_)
 refine aB (aJ M (eS lc) (a0 M (aC M (v := .int lc.1) (a1 (c := 600) (fs := [.list as, .str (v.map bW), .str v, .int lc.2, .int lc.1]) (by kernel_rfl!) (by kernel_rfl!) (by kernel_rfl)) (aC M (v := .int lc.2) (a1 (c := 600) (fs := [.list as, .str (v.map bW), .str v, .int lc.2, .int lc.1]) (by kernel_rfl!) (by kernel_rfl!) (by kernel_rfl)) aH))) (by kernel_rfl) ?_)
 refine aB (bR M true (a7 (y := lcS "function") (b := true) M (by kernel_rfl!) (by kernel_rfl!) (by decide +kernel)) (fun _ => ?_) (fun h => by cases h))
 refine aB (b7 M (j3 lc v (.list bs)) (by kernel_rfl) (by kernel_rfl!) hc (a0 M (aC M (v := .str (lcS "function")) (by exact aA (by kernel_rfl!) (by kernel_rfl!)) (aC M (v := eS lc) (by exact aA (by kernel_rfl!) (by kernel_rfl!)) (aC M (v := .str v) (a1 (c := 600) (fs := [.list as, .str (v.map bW), .str v, .int lc.2, .int lc.1]) (by kernel_rfl!) (by kernel_rfl!) (by kernel_rfl)) (aC M (v := .str (v.map bW)) (a1 (c := 600) (fs := [.list as, .str (v.map bW), .str v, .int lc.2, .int lc.1]) (by kernel_rfl!) (by kernel_rfl!) (by kernel_rfl)) (aC M (v := .list bs) (bC (F := F) M (by kernel_rfl!) rfl (aC M (v := .list as) (a1 (c := 600) (fs := [.list as, .str (v.map bW), .str v, .int lc.2, .int lc.1]) (by kernel_rfl!) (by kernel_rfl!) (by kernel_rfl)) aH) (hr _ ⟨.inl rfl, rfl⟩)) aH)))))) rfl hl ?_)
 exact hQ _ (by kernel_rfl!)
end
theorem wF (p : Params) {F : Fn} (hF : aX F) (d : Nat) (as bs : List PV) (K : PV -> Prop) (hr : ∀ d', d = d' + 1 -> ∀ (as bs : List PV) (K : PV -> Prop), as.length <= 1000 -> ToldL d' as bs -> K (.list bs) -> F [.list as] K) (hl : as.length <= 1000) (h : ToldL d as bs) (hK : K (.list bs)) :
  wSs (lL F) (cS (aN (HK p) 748)) (aQ (HK p) 748) (lW K) ⟨bG [("nodes", .list as)] (fun _ => none), fun _ => none⟩ := by
 have M := cO hF
 conv in (aQ _ _) => whnf
 refine aB (oF (by rfl) (by kernel_rfl) fun a ha => ?_)
 refine eJ M (fun st => dC [("told", .ptr a)] st.ρ /\ st.σ a = some (.lst bs))
  (zcw M (.list as) as rfl (Nat.le_trans hl (by decide)) (by kernel_rfl) (aA (by kernel_rfl!) (by kernel_rfl!))
   (fun i st => dC [("told", .ptr a)] st.ρ /\ ∃ done rest, done ++ rest = bs /\ ToldL d (as.drop i) rest /\ st.σ a = some (.lst done)) (fun i hi st hI => ?_) (fun st hI => ?_) ⟨by (show _ = _; first | kernel_rfl! | (rw [<- Nat.add_assoc]; kernel_rfl!) | (rw [<- Nat.add_assoc, <- Nat.add_assoc]; kernel_rfl!)), [], bs, rfl, h, aS _ _ _⟩) ?_
 ·obtain ⟨ρ, σ⟩ := st
  obtain ⟨h1, done, rest, h2, h3, h4⟩ := hI
  refine ⟨_, rfl, ?_⟩
  have ht : ρ "told" = some (.ptr a) := (List.cons.inj h1).1
  have hdl : done.length < aP := by
   have e1 := h.len
   rw [<- h2, List.length_append] at e1
   unfold aP; omega
  rw [List.drop_eq_getElem_cons hi] at h3
  generalize as[i] = x at h3 ⊢
  have step : ∀ (y : PV) (r' : List PV), done ++ y :: r' = bs -> ToldL d (as.drop (i + 1)) r' -> ∀ ρ', ρ' "told" = some (.ptr a) -> dC [("told", .ptr a)] ρ' /\ ∃ done' rest, done' ++ rest = bs /\ ToldL d (as.drop (i + 1)) rest /\ aR σ a (.lst (done ++ [y])) a = some (.lst done') := fun y r' e1 e2 ρ' e3 => ⟨aF e3 rfl, done ++ [y], r', by rw [List.append_assoc]; exact e1, e2, aS _ _ _⟩
  cases h3 with
  | tok _ lc t _ r' h3 =>
   have q := step _ r' h2 h3
   cases t with
   | lit v => exact zZ (P := p) v hF ht h4 hdl q
   | ident v => exact uB (P := p) v hF ht h4 hdl q
   | dim iv r u => exact z0 (P := p) iv r u hF ht h4 hdl q
   | atk v => exact z6 (P := p) v hF ht h4 hdl q
   | hash v b => exact wD (P := p) v b hF ht h4 hdl q
   | com v => exact z5 (P := p) v hF ht h4 hdl q
  | fn d' lc v as' bs' _ r' g1 g2 h3 => exact zcj (P := p) v as' bs' (fun K hK => hr d' rfl as' bs' K g1 g2 hK) hF ht h4 hdl (step _ r' h2 h3)
 ·obtain ⟨h1, done, rest, h2, h3, h4⟩ := hI
  rw [List.drop_length] at h3
  cases h3
  rw [List.append_nil] at h2
  exact ⟨h1, h2 ▸ h4⟩
 ·rintro ⟨ρ, σ⟩ ⟨h1, h2⟩
  refine cF h1 ?_
  exact aB (aT M (.ptr a) (aA (by kernel_rfl!) (by kernel_rfl!)) ⟨.list bs, .inr ⟨a, _, rfl, h2, d7 _ _ h.plain.2.2⟩, hK⟩)
noncomputable def pT (d : Nat) : Fn := fun ps K => ∃ as bs : List PV, ps = [.list as] /\ as.length <= 1000 /\ ToldL d as bs /\ K (.list bs)
theorem k9 (d : Nat) : aX (pT d) := fun ps K K' h ⟨as, bs, h1, h2, h3, h4⟩ => ⟨as, bs, h1, h2, h3, h _ h4⟩
noncomputable def zcb : Fn := fun _ _ => False
theorem rY : aX zcb := fun _ _ _ _ h => h
section
theorem u5 (hB : BsOk (bs w.params h mb)) (n : Nat) : Meets prog w (bs w.params h mb) n (.ref 748) zcb := by
 obtain ⟨fd, h1, h2, h3⟩ := pA (K := HK w.params) (a := 748) (by kernel_rfl)
 exact ⟨iJ hB h1, fun A E G s args ps K hA hi ho ht hv h => h.elim⟩
theorem iF {F : Fn} {n d : Nat} (hB : BsOk (bs w.params h mb)) (hmb : HMb mb) (hF : aX F) (hM : Meets prog w (bs w.params h mb) (n + 1) (.ref 748) F)
  (hr : ∀ d', d = d' + 1 -> ∀ (as bs : List PV) (K : PV -> Prop), as.length <= 1000 -> ToldL d' as bs -> K (.list bs) -> F [.list as] K) : Meets prog w (bs w.params h mb) (n + 2) (.ref 748) (pT d) := by
 have hC : CtxOk prog w (bs w.params h mb) (lL F) (n + 1) := eC hmb (by simp [lB, hF]) (by simp) (by simp) (fun e he => by
  simp only [List.mem_cons, List.not_mem_nil, or_false] at he
  rcases he with rfl | rfl
  ·exact ⟨.ref 741, by kernel_rfl, (u6 hB hmb).le (Nat.le_add_left 1 n)⟩
  ·exact ⟨.ref 748, by kernel_rfl, hM⟩) (by simp) (by simp)
 refine bB (k := 1) (params := ["nodes"]) (dv := []) (dp := []) hB hC (by kernel_rfl) (by kernel_rfl) (by kernel_rfl) rfl (fun _ => .nil) (fun S vals hl => ?_) fun ps K ⟨as, bs, h1, h2, h3, h4⟩ => ?_
 ·obtain ⟨a, rfl⟩ := List.length_eq_one_iff.mp hl
  kernel_rfl
 ·subst h1; exact ⟨rfl, wF _ hF d as bs K hr h2 h3 h4⟩
theorem l5 (hB : BsOk (bs w.params h mb)) (hmb : HMb mb) : ∀ d : Nat, Meets prog w (bs w.params h mb) (d + 2) (.ref 748) (pT d)
 | 0 => iF hB hmb rY (u5 hB 1) (fun d' e => by cases e)
 | d + 1 => iF hB hmb (k9 d) (l5 hB hmb d) (fun d' e as bs K g1 g2 g3 => by cases e; exact ⟨as, bs, rfl, g1, g2, g3⟩)
end
section
variable {C : Ctx} {κ : Kn}
noncomputable def zb2 (e : Expr) : Option PV := exc none jM (fun _ => none) (fun _ => none) (fun _ _ _ => none) (fun _ _ => none) (fun _ _ => none) e
theorem yY {e : Expr} {st : St} {v : PV} (h : zb2 e = some v) : ev C κ e st v := by
 cases e <;> first | exact aE h | cases h
theorem d4 {st : St} (M : CtxMono C) : ∀ {es : List Expr} {vs : List PV}, es.map zb2 = vs.map some -> evs C κ es st vs
 | [], [], _ => aH
 | e :: es, v :: vs, h => by
  obtain ⟨h1, h2⟩ := List.cons.inj h
  exact aC M (yY h1) (d4 M h2)
theorem zc6 {ks : List (Option Expr)} {vs : List Expr} {p : Pos} {st : St} {l : List (Str × Str)} (h : rM ks vs = some l) : ev C κ (.Dict ks vs p) st (.dict (dlP l)) := by
 show opt (rM ks vs) _
 rw [h]; exact ⟨rfl, rfl⟩
theorem fZ {l r : Expr} {p : Pos} {st : St} {a b : Nat} (M : CtxMono C) (h1 : ev C κ l st (.int a)) (h2 : ev C κ r st (.int b)) : ev C κ (.Compare l [.Eq] [r] p) st (.bool (decide (a = b))) := bL M h1 h2 (decide_eq_decide.mpr Int.ofNat_inj)
theorem tK {l r : Expr} {p : Pos} {st : St} {a b : Nat} (M : CtxMono C) (h1 : ev C κ l st (.int a)) (h2 : ev C κ r st (.int b)) : ev C κ (.Compare l [.Gt] [r] p) st (.bool (decide (b < a))) := bL M h1 h2 (decide_eq_decide.mpr Int.ofNat_lt)
theorem zc1 {l : Expr} {q : Str} {k : Nat} {p p' : Pos} {st : St} {c : Nat} (M : CtxMono C) (h : ev C κ l st (.str [c])) : ev C κ (.Compare l [.NotIn] [.Constant (.str q) k p] p') st (.bool (!decide (c ∈ q.cps.toList))) := bL M h (aE rfl) (congrArg _ (nG _ _))
theorem gZ {l r : Expr} {p : Pos} {st : St} {x y : List Nat} (M : CtxMono C) (h : ev C κ l st (.str x)) (h' : ev C κ r st (.str y)) (hl : x.length + y.length <= aP) : ev C κ (.BinOp l .Add r p) st (.str (x ++ y)) :=
 aO (e := l) M h (aO (e := r) M h' ⟨hl, rfl, rfl⟩)
theorem yU {l r : Expr} {p : Pos} {st : St} {c k : Nat} {i : Int} (M : CtxMono C) (h : ev C κ l st (.str [c])) (h' : ev C κ r st (.int i)) (e : i = (k : Int)) (hk : k <= 1000) : ev C κ (.BinOp l .Mult r p) st (.str (List.replicate k c)) := by
 subst e
 exact aO (e := l) M h (aO (e := r) M h' ⟨Int.natCast_nonneg k, Int.ofNat_le.mpr hk, rfl, rfl, rfl⟩)
theorem zd7 {l r : Expr} {p : Pos} {st : St} {i j : Int} (M : CtxMono C) (h : ev C κ l st (.int i)) (h' : ev C κ r st (.int j)) (hj : 0 < j) (hj' : j < 4294967296) : ev C κ (.BinOp l .FloorDiv r p) st (.int (i / j)) :=
 aO (e := l) M h (aO (e := r) M h' ⟨hj, hj', rfl, rfl⟩)
end
noncomputable def jB (v : PV) : Fn := fun ps K => ps = [] /\ K v
theorem jA (v : PV) : aX (jB v) := fun ps K K' h ⟨h1, h2⟩ => ⟨h1, h _ h2⟩
noncomputable def signsL : List Nat := [97, 45, 48, 233, 32, 70, 10, 95, 57, 40, 92, 101, 34, 20013, 90, 9, 46, 1, 128512, 58]
noncomputable def sI : PV := .list (signsL.map fun c => .str [c])
noncomputable def lowerD : List (List Nat × List Nat) := [([70], [102]), ([90], [122])]
noncomputable def numsL : List (List Nat × Option Int) := [([55], some 7), ([45, 49, 50], some (-12)), ([43, 48, 46, 53], none), ([51, 101, 50], none)]
noncomputable def zaH : PV := .list (numsL.map fun e => .tup [.str e.1, nX e.2])
noncomputable def blanksL : List (List Nat) := [[32], [32], [32], [10], [], [9], [13, 10]]
noncomputable def nP : PV := .list (blanksL.map .str)
noncomputable def gapsL : List (List Nat) := [[], [44], [47, 42, 42, 47], [47, 42, 10, 42, 47]]
noncomputable def zdY : PV := .list (gapsL.map .str)
noncomputable def c8 (c : Nat) : Bool := decide (c ∈ lcS "aF_eZ") || decide (127 < c)
noncomputable def fE : Fn := fun ps K => ∃ c : Nat, ps = [.str [c]] /\ K (.bool (c8 c))
theorem dZ : aX fE := fun _ _ _ h => e1 fun _ => c1 (h _)
section
theorem qX (hB : BsOk (bs w.params h mb)) (hmb : HMb mb) : Meets prog w (bs w.params h mb) 1 (.ref 684) (jB sI) := by
 refine bB (k := 0) (params := []) (dv := []) (dp := []) hB (k6 hmb) (by kernel_rfl) (by kernel_rfl) (by kernel_rfl) rfl (fun _ => .nil) (fun S vals hl => ?_) fun ps K ⟨h1, h2⟩ => ?_
 ·cases List.length_eq_zero_iff.mp hl; kernel_rfl
 ·subst h1
  refine ⟨rfl, ?_⟩
  have M := fD
  conv in (aQ _ _) => whnf
  exact aB (aT M sI (i0 M rfl (d4 M (by kernel_rfl))) ⟨_, bA _ _ rfl, h2⟩)
theorem q0 (hB : BsOk (bs w.params h mb)) (hmb : HMb mb) : Meets prog w (bs w.params h mb) 1 (.ref 691) (jB (.dict lowerD)) := by
 refine bB (k := 0) (params := []) (dv := []) (dp := []) hB (k6 hmb) (by kernel_rfl) (by kernel_rfl) (by kernel_rfl) rfl (fun _ => .nil) (fun S vals hl => ?_) fun ps K ⟨h1, h2⟩ => ?_
 ·cases List.length_eq_zero_iff.mp hl; kernel_rfl
 ·subst h1
  refine ⟨rfl, ?_⟩
  have M := fD
  conv in (aQ _ _) => whnf
  exact aB (aT M (.dict lowerD) (zc6 (l := [("F", "f"), ("Z", "z")]) rfl) ⟨_, bA _ _ rfl, h2⟩)
theorem u4 (hB : BsOk (bs w.params h mb)) (hmb : HMb mb) : Meets prog w (bs w.params h mb) 1 (.ref 698) (jB zaH) := by
 refine bB (k := 0) (params := []) (dv := []) (dp := []) hB (k6 hmb) (by kernel_rfl) (by kernel_rfl) (by kernel_rfl) rfl (fun _ => .nil) (fun S vals hl => ?_) fun ps K ⟨h1, h2⟩ => ?_
 ·cases List.length_eq_zero_iff.mp hl; kernel_rfl
 ·subst h1
  refine ⟨rfl, ?_⟩
  have M := fD
  conv in (aQ _ _) => whnf
  refine aB (aT M zaH (i0 M rfl (aC M (a0 M (d4 M ?_)) (aC M (a0 M (aC M (aE rfl) (aC M (l8 (i := 12) M (aE rfl)) aH))) (aC M (a0 M (d4 M ?_)) (aC M (a0 M (d4 M ?_)) aH))))) ⟨_, bA _ _ rfl, h2⟩) <;> kernel_rfl
theorem oR (hB : BsOk (bs w.params h mb)) (hmb : HMb mb) : Meets prog w (bs w.params h mb) 1 (.ref 706) (jB nP) := by
 refine bB (k := 0) (params := []) (dv := []) (dp := []) hB (k6 hmb) (by kernel_rfl) (by kernel_rfl) (by kernel_rfl) rfl (fun _ => .nil) (fun S vals hl => ?_) fun ps K ⟨h1, h2⟩ => ?_
 ·cases List.length_eq_zero_iff.mp hl; kernel_rfl
 ·subst h1
  refine ⟨rfl, ?_⟩
  have M := fD
  conv in (aQ _ _) => whnf
  exact aB (aT M nP (i0 M rfl (d4 M (by kernel_rfl))) ⟨_, bA _ _ rfl, h2⟩)
theorem jJ (hB : BsOk (bs w.params h mb)) (hmb : HMb mb) : Meets prog w (bs w.params h mb) 1 (.ref 713) fE := by
 refine bB (k := 1) (params := ["sign"]) (dv := []) (dp := []) hB (k6 hmb) (by kernel_rfl) (by kernel_rfl) (by kernel_rfl) rfl (fun _ => .nil) (fun S vals hl => ?_) fun ps K ⟨c, h1, h2⟩ => ?_
 ·obtain ⟨a, rfl⟩ := xF hl
  kernel_rfl
 ·subst h1
  refine ⟨rfl, ?_⟩
  have M := fD
  conv in (aQ _ _) => whnf
  exact aB (aT M (.bool (c8 c)) (pE M (fY M (by exact aA (by kernel_rfl!) (by kernel_rfl!))) fun _ => fH (tJ M (by kernel_rfl!) rfl rfl (by kernel_rfl) (by exact aA (by kernel_rfl!) (by kernel_rfl!)))) ⟨_, cW _ _, h2⟩)
end
noncomputable def pD (T : List Nat) : Nat -> Nat -> List Nat -> List Nat
 | 0, _, acc => acc
 | k + 1, n, acc => if n = 0 then acc else pD T k (n / 16) ((T[n % 16]?).getD 0 :: acc)
noncomputable def v2 (way : Nat) : List Nat := if way = 3 then lcS "0123456789ABCDEF" else lcS "0123456789abcdef"
theorem za3 (way : Nat) : (v2 way).length = 16 := by unfold v2; split <;> decide +kernel
theorem vL (T : List Nat) (k : Nat) (acc : List Nat) : pD T k 0 acc = acc := by cases k <;> rfl
theorem pC (T : List Nat) : ∀ (k n : Nat) (acc : List Nat), (pD T k n acc).length <= acc.length + k
 | 0, n, acc => Nat.le_refl _
 | k + 1, n, acc => by
  unfold pD
  split
  ·exact Nat.le_add_right _ _
  ·exact Nat.le_trans (pC T k _ _) (by rw [List.length_cons]; omega)
noncomputable def rI (way : Nat) (f : List Nat) : List Nat := if way = 4 then List.replicate (6 - f.length) 48 ++ f else f
noncomputable def rH (way : Nat) (f : List Nat) : List Nat := if way = 5 then 48 :: f else f
noncomputable def cV (c way : Nat) (first : Bool) : List Nat :=
 if (decide (way = 0) && (c8 c || (decide (c ∈ lcS "-09") && !first))) = true then [c]
 else if (decide (way < 2) && !decide (c ∈ lcS "a0F9e\n")) = true then [92, c]
 else 92 :: (rH way (rI way (pD (v2 way) 6 c [])) ++ (blanksL[way]?).getD [])
noncomputable def cSp : Ctx := mkC [("_law_letter", fE), ("_law_BLANKS", jB nP)] [] false [] []
theorem zbr : CtxMono cSp := bV (by
 simp only [List.mem_cons, List.not_mem_nil, or_false]; rintro e (rfl | rfl)
 ·exact dZ
 ·exact jA _) (by simp)
theorem yN {α : Type} (l : List α) (i : Nat) : pY l (i : Int) = l[i]? := by unfold pY; rw [if_neg (Int.not_lt.mpr (Int.natCast_nonneg i)), Int.toNat_natCast]
theorem eA {C : Ctx} {κ : Kn} {o i : Expr} {p : Pos} {st : St} {xs : List PV} {n : Nat} {v : PV} (M : CtxMono C) (hs : zaY i = false) (h : ev C κ o st (.list xs)) (h' : ev C κ i st (.int n)) (hv : xs[n]? = some v) : ev C κ (.Subscript o i p) st v :=
 mA M hs h h' (by show opt (pY xs (n : Int)) _; rw [yN, hv]; rfl)
theorem oA (p : Params) (c way : Nat) (first : Bool) (K : PV -> Prop) (hc : c < 16777216) (hw : way < 7) (hK : K (.str (cV c way first))) :
  wSs cSp (cS (aN (HK p) 720)) (aQ (HK p) 720) (lW K) ⟨bG [("sign", .str [c]), ("way", .int way), ("first", .bool first)] (fun _ => none), fun _ => none⟩ := by
 have M := zbr
 conv in (aQ _ _) => whnf
 unfold cV at hK
 refine aB (bR M (decide (way = 0) && (c8 c || (decide (c ∈ lcS "-09") && !first))) (dJ M (bQ M (fZ (a := way) (b := 0) M (by exact aA (by kernel_rfl!) (by kernel_rfl!)) (aE rfl))) fun _ => c6 (mN M (bQ M (bC (F := fE) M (by kernel_rfl!) rfl (aC M (v := .str [c]) (by exact aA (by kernel_rfl!) (by kernel_rfl!)) aH) ⟨c, rfl, .inl rfl, rfl⟩)) fun _ => c6 (dJ M (bQ M (fY M (by exact aA (by kernel_rfl!) (by kernel_rfl!)))) fun _ => c6 (n7 M (bQ M (by exact aA (by kernel_rfl!) (by kernel_rfl!))))))) (fun h => ?_) (fun h => ?_))
 ·rw [if_pos h] at hK
  exact aB (aT M (.str [c]) (by exact aA (by kernel_rfl!) (by kernel_rfl!)) ⟨_, bA _ _ rfl, hK⟩)
 rw [if_neg (by rw [h]; decide)] at hK
 clear h
 refine aB (bR M (decide (way < 2) && !decide (c ∈ lcS "a0F9e\n")) (dJ M (bQ M (kP (a := way) (b := 2) M (by exact aA (by kernel_rfl!) (by kernel_rfl!)) (aE rfl))) fun _ => c6 (bQ M (zc1 M (by exact aA (by kernel_rfl!) (by kernel_rfl!))))) (fun h => ?_) (fun h => ?_))
 ·rw [if_pos h] at hK
  exact aB (aT M (.str [92, c]) (gZ (x := [92]) (y := [c]) M (aE rfl) (by exact aA (by kernel_rfl!) (by kernel_rfl!)) (show 2 <= aP by decide)) ⟨_, bA _ _ rfl, hK⟩)
 rw [if_neg (by rw [h]; decide)] at hK
 clear h
 have hl := pC (v2 way) 6 c []
 refine aB (aJ M (.int c) (i5 M (by kernel_rfl!) rfl rfl (by kernel_rfl) (aC M (v := .str [c]) (by exact aA (by kernel_rfl!) (by kernel_rfl!)) aH) (of_eq (B := PV.int c = .int c) (by kernel_rfl) rfl)) (by kernel_rfl) ?_)
 refine aB (aJ M (.str []) (aE rfl) (by kernel_rfl) ?_)
 generalize hR : pD (v2 way) 6 c [] = R at hK hl
 let R1 : St -> Prop := fun st => dC [("way", .int way), ("figures", .str R)] st.ρ
 let I : Nat -> St -> Prop := fun k st => ∃ (n : Nat) (acc : List Nat), dC [("way", .int way), ("number", .int n), ("figures", .str acc)] st.ρ /\ n < 16 ^ k /\ acc.length + k <= 6 /\ pD (v2 way) k n acc = R
 refine eJ M R1 (iW M I ?_ 6 _ ⟨c, [], by (show _ = _; first | kernel_rfl! | (rw [<- Nat.add_assoc]; kernel_rfl!) | (rw [<- Nat.add_assoc, <- Nat.add_assoc]; kernel_rfl!)), hc, by decide, hR⟩) ?_
 ·refine fun k st => x2 fun n acc => a4 fun h1 h2 h3 h4 => keepP st h1 ?_
  refine ⟨decide (0 < n), bQ M (tK (a := n) (b := 0) M (by exact aA (by kernel_rfl!) (by kernel_rfl!)) (aE rfl)), fun hc => ?_, fun hc => ?_⟩
  ·have hc := of_decide_eq_true hc
   obtain ⟨k', rfl⟩ : ∃ k', k = k' + 1 := ⟨k - 1, by cases k with | zero => omega | succ k => rfl⟩
   unfold pD at h4
   rw [if_neg (Nat.ne_of_gt hc)] at h4
   have hm : n % 16 < (v2 way).length := by rw [za3]; exact Nat.mod_lt _ (by decide)
   rw [List.getElem?_eq_getElem hm, Option.getD_some] at h4
   refine aB (aJ M (.str ((v2 way)[n % 16] :: acc)) (gZ (x := [(v2 way)[n % 16]]) M (fJ (x := v2 way) (n := n % 16) M rfl (cK (c := decide (way = 3)) M (bQ M (fZ (a := way) (b := 3) M (by exact aA (by kernel_rfl!) (by kernel_rfl!)) (aE rfl))) (fun q => ?_) (fun q => ?_)) (tI (i := n) (j := 16) M (by exact aA (by kernel_rfl!) (by kernel_rfl!)) (aE rfl) (by decide)) (List.getElem?_eq_getElem hm)) (by exact aA (by kernel_rfl!) (by kernel_rfl!)) ?_) (by kernel_rfl) ?_)
   ·rw [v2, if_pos (of_decide_eq_true q)]; exact aE rfl
   ·rw [v2, if_neg (of_decide_eq_false q)]; exact aE rfl
   ·show 1 + acc.length <= _; unfold aP; omega
   refine aB (aJ M (.int ((n / 16 : Nat) : Int)) (zd7 (i := n) (j := 16) M (by exact aA (by kernel_rfl!) (by kernel_rfl!)) (aE rfl) (by decide) (by decide)) (by kernel_rfl) ?_)
   exact ⟨k', Nat.lt_succ_self k', n / 16, _, by (show _ = _; first | kernel_rfl! | (rw [<- Nat.add_assoc]; kernel_rfl!) | (rw [<- Nat.add_assoc, <- Nat.add_assoc]; kernel_rfl!)), Nat.div_lt_of_lt_mul (by rw [Nat.mul_comm]; exact h2), by rw [List.length_cons]; omega, h4⟩
  ·have hn : n = 0 := Nat.eq_zero_of_not_pos (of_decide_eq_false hc)
   rw [hn, vL] at h4
   subst h4
   exact by (show _ = _; first | kernel_rfl! | (rw [<- Nat.add_assoc]; kernel_rfl!) | (rw [<- Nat.add_assoc, <- Nat.add_assoc]; kernel_rfl!))
 refine fun st h1 => cF h1 ?_
 clear h1 hR
 have hl : R.length <= 6 := hl
 let R2 : St -> Prop := fun st => dC [("way", .int way), ("figures", .str (rI way R))] st.ρ
 refine eJ M R2 (bR M (decide (way = 4)) (bQ M (fZ (a := way) (b := 4) M (by exact aA (by kernel_rfl!) (by kernel_rfl!)) (aE rfl))) (fun h => ?_) (fun h => ?_)) ?_
 ·refine aB (aJ M (.str (List.replicate (6 - R.length) 48 ++ R)) (gZ M (yU (i := 6 - (R.length : Int)) M (aE rfl) (zbV (i := 6) (j := R.length) M (aE rfl) (l9 M (by kernel_rfl!) rfl rfl (by kernel_rfl) (by exact aA (by kernel_rfl!) (by kernel_rfl!)))) (by omega) (by omega)) (by exact aA (by kernel_rfl!) (by kernel_rfl!)) ?_) (by kernel_rfl) ?_)
  ·rw [List.length_replicate]; unfold aP; omega
  ·show dC _ _; rw [rI, if_pos (of_decide_eq_true h)]; exact by (show _ = _; first | kernel_rfl! | (rw [<- Nat.add_assoc]; kernel_rfl!) | (rw [<- Nat.add_assoc, <- Nat.add_assoc]; kernel_rfl!))
 ·show dC _ _; rw [rI, if_neg (of_decide_eq_false h)]; exact by (show _ = _; first | kernel_rfl! | (rw [<- Nat.add_assoc]; kernel_rfl!) | (rw [<- Nat.add_assoc, <- Nat.add_assoc]; kernel_rfl!))
 refine fun st h1 => cF h1 ?_
 clear h1
 have hl4 : (rI way R).length <= 6 := by
  unfold rI; split
  ·rw [List.length_append, List.length_replicate]; omega
  ·exact hl
 clear R2
 generalize rI way R = R4 at hK hl4
 let R2 : St -> Prop := fun st => dC [("way", .int way), ("figures", .str (rH way R4))] st.ρ
 refine eJ M R2 (bR M (decide (way = 5)) (bQ M (fZ (a := way) (b := 5) M (by exact aA (by kernel_rfl!) (by kernel_rfl!)) (aE rfl))) (fun h => ?_) (fun h => ?_)) ?_
 ·refine aB (aJ M (.str (48 :: R4)) (gZ (x := [48]) M (aE rfl) (by exact aA (by kernel_rfl!) (by kernel_rfl!)) ?_) (by kernel_rfl) ?_)
  ·show 1 + R4.length <= _; unfold aP; omega
  ·show dC _ _; rw [rH, if_pos (of_decide_eq_true h)]; exact by (show _ = _; first | kernel_rfl! | (rw [<- Nat.add_assoc]; kernel_rfl!) | (rw [<- Nat.add_assoc, <- Nat.add_assoc]; kernel_rfl!))
 ·show dC _ _; rw [rH, if_neg (of_decide_eq_false h)]; exact by (show _ = _; first | kernel_rfl! | (rw [<- Nat.add_assoc]; kernel_rfl!) | (rw [<- Nat.add_assoc, <- Nat.add_assoc]; kernel_rfl!))
 refine fun st h1 => cF h1 ?_
 clear h1 R2
 have hl5 : (rH way R4).length <= 7 := by
  unfold rH; split
  ·exact Nat.succ_le_succ hl4
  ·exact Nat.le_succ_of_le hl4
 generalize rH way R4 = R5 at hK hl5
 have hb : blanksL[way]? = some blanksL[way] := List.getElem?_eq_getElem hw
 have hb2 : (blanksL[way]).length <= 2 := of_decide_eq_true (List.all_eq_true.mp (show blanksL.all (fun x => decide (x.length <= 2)) = true from by decide) _ (List.getElem_mem hw))
 rw [hb, Option.getD_some] at hK
 generalize blanksL[way] = bl at hK hb hb2
 refine aB (aT M (.str ((92 :: R5) ++ bl)) (gZ M (gZ (x := [92]) M (aE rfl) (by exact aA (by kernel_rfl!) (by kernel_rfl!)) ?_) (eA (xs := blanksL.map .str) (n := way) M rfl (bC (F := jB nP) M (by kernel_rfl!) rfl aH ⟨rfl, .inl rfl, rfl⟩) (by exact aA (by kernel_rfl!) (by kernel_rfl!)) (by rw [List.getElem?_map, hb]; rfl)) ?_) ⟨_, bA _ _ rfl, hK⟩)
 ·show 1 + R5.length <= _; unfold aP; omega
 ·show R5.length + 1 + bl.length <= _; unfold aP; omega
noncomputable def iS : Fn := fun ps K => ∃ (c way : Nat) (first : Bool), ps = [.str [c], .int way, .bool first] /\ c < 16777216 /\ way < 7 /\ K (.str (cV c way first))
theorem lO : aX iS := fun _ _ _ h => e3 fun _ _ _ => c3 (h _)
theorem nC (hB : BsOk (bs w.params h mb)) (hmb : HMb mb) : Meets prog w (bs w.params h mb) 2 (.ref 720) iS := by
 have hC : CtxOk prog w (bs w.params h mb) cSp 1 := eC hmb (by
   simp only [List.mem_cons, List.not_mem_nil, or_false]; rintro e (rfl | rfl)
   ·exact dZ
   ·exact jA _) (by simp) (by simp) (fun e he => by
  simp only [List.mem_cons, List.not_mem_nil, or_false] at he
  rcases he with rfl | rfl
  ·exact ⟨.ref 713, by kernel_rfl, jJ hB hmb⟩
  ·exact ⟨.ref 706, by kernel_rfl, oR hB hmb⟩) (by simp) (by simp)
 refine bB (k := 3) (params := ["sign", "way", "first"]) (dv := []) (dp := []) hB hC (by kernel_rfl) (by kernel_rfl) (by kernel_rfl) rfl (fun _ => .nil) (fun S vals hl => ?_) fun ps K ⟨c, way, f, h1, h2, h3, h4⟩ => ?_
 ·obtain ⟨a, b, c, rfl⟩ := mO hl
  kernel_rfl
 ·subst h1
  exact ⟨rfl, oA _ c way f K h2 h3 h4⟩
noncomputable def bH (x : List Nat) : List Nat := x.filter (· != 13)
theorem cY (x y : List Nat) : bH (x ++ y) = bH x ++ bH y := List.filter_append ..
theorem uU (p : Params) (lc : Nat × Nat) (x : List Nat) (K : PV -> Prop) (hx : x.length <= 1000) (hK : K (eS (adv lc (bH x)))) : wSs cN0 (cS (aN (HK p) 734)) (aQ (HK p) 734) (lW K) ⟨bG [("place", eS lc), ("written", .str x)] (fun _ => none), fun _ => none⟩ := by
 have M := fD
 conv in (aQ _ _) => whnf
 have hl' : (x.map fun c => PV.str [c]).length = x.length := List.length_map _
 refine aB (dK M (.int lc.1) (.int lc.2) (by exact aA (by kernel_rfl!) (by kernel_rfl!)) (by kernel_rfl) (by kernel_rfl) ?_)
 let R : St -> Prop := fun st => dC [("line", .int (adv lc (bH x)).1), ("column", .int (adv lc (bH x)).2)] st.ρ
 refine eJ M R
  (zcw M (.str x) (x.map fun c => .str [c]) rfl (hl' ▸ Nat.le_trans hx (by decide)) (by kernel_rfl) (by exact aA (by kernel_rfl!) (by kernel_rfl!))
   (fun i st => dC [("line", .int (adv lc (bH (x.take i))).1), ("column", .int (adv lc (bH (x.take i))).2)] st.ρ) (fun i hi st hI => ?_) (fun st hI => ?_) (by (show _ = _; first | kernel_rfl! | (rw [<- Nat.add_assoc]; kernel_rfl!) | (rw [<- Nat.add_assoc, <- Nat.add_assoc]; kernel_rfl!)))) ?_
 ·obtain ⟨ρ, σ⟩ := st
  have hi : i < x.length := hl' ▸ hi
  refine ⟨_, rfl, ?_⟩
  rw [List.take_succ_eq_append_getElem hi, cY, eZ, List.getElem_map]
  rw [show ρ = bG _ ρ from bI _ hI]
  clear hI
  generalize x[i] = c
  generalize adv lc (bH (x.take i)) = l
  refine aB (bR M (decide (c = 10)) (bQ M (gO M (by exact aA (by kernel_rfl!) (by kernel_rfl!)) (by kernel_rfl))) (fun h => ?_) (fun h => ?_))
  ·rw [of_decide_eq_true h]
   refine aB (eF M (.int l.1) (.int 1) (by kernel_rfl!) (aE rfl) (by kernel_rfl) (of_eq dN ?_))
   exact aB (aJ M (.int 1) (aE rfl) (by kernel_rfl) (by (show _ = _; first | kernel_rfl! | (rw [<- Nat.add_assoc]; kernel_rfl!) | (rw [<- Nat.add_assoc, <- Nat.add_assoc]; kernel_rfl!))))
  ·have h10 := of_decide_eq_false h
   refine aB (bR M (!decide (c = 13)) (bQ M (bL (a := .str [c]) (b := .str [13]) M (by exact aA (by kernel_rfl!) (by kernel_rfl!)) (aE rfl) (congrArg _ (decide_eq_decide.mpr ⟨fun h => (List.cons.inj h).1, fun h => congrArg (fun n => [n]) h⟩)))) (fun h => ?_) (fun h => ?_))
   ·have h13 : c ≠ 13 := fun e => by rw [decide_eq_true e] at h; cases h
    have e : adv l (bH [c]) = (l.1, l.2 + 1) := by
     rw [show bH [c] = [c] from by unfold bH; rw [List.filter_cons_of_pos (p := fun x => x != 13) (bne_iff_ne.mpr h13)]; rfl]
     show adv (if c = 10 then _ else _) [] = _
     rw [if_neg h10]; rfl
    rw [e]
    exact aB (eF M (.int l.2) (.int 1) (by kernel_rfl!) (aE rfl) (by kernel_rfl) (of_eq dN (by (show _ = _; first | kernel_rfl! | (rw [<- Nat.add_assoc]; kernel_rfl!) | (rw [<- Nat.add_assoc, <- Nat.add_assoc]; kernel_rfl!)))))
   ·have h13 : c = 13 := of_decide_eq_true (by rw [Bool.not_eq_false'] at h; exact h)
    rw [h13]
    exact by (show _ = _; first | kernel_rfl! | (rw [<- Nat.add_assoc]; kernel_rfl!) | (rw [<- Nat.add_assoc, <- Nat.add_assoc]; kernel_rfl!))
 ·rw [hl', List.take_length] at hI
  exact hI
 ·exact fun st h1 => cF h1 (aB (aT M (eS (adv lc (bH x))) (a0 M (aC M (by exact aA (by kernel_rfl!) (by kernel_rfl!)) (aC M (by exact aA (by kernel_rfl!) (by kernel_rfl!)) aH))) ⟨_, bA _ _ rfl, hK⟩))
noncomputable def jC : Fn := fun ps K => ∃ (lc : Nat × Nat) (x : List Nat), ps = [eS lc, .str x] /\ x.length <= 1000 /\ K (eS (adv lc (bH x)))
theorem pX : aX jC := fun _ _ _ h => e2 fun _ _ => c2 (h _)
theorem qZ (hB : BsOk (bs w.params h mb)) (hmb : HMb mb) : Meets prog w (bs w.params h mb) 1 (.ref 734) jC := by
 refine bB (k := 2) (params := ["place", "written"]) (dv := []) (dp := []) hB (k6 hmb) (by kernel_rfl) (by kernel_rfl) (by kernel_rfl) rfl (fun _ => .nil) (fun S vals hl => ?_) fun ps K ⟨lc, x, h1, h2, h3⟩ => ?_
 ·obtain ⟨a, b, rfl⟩ := jF hl
  kernel_rfl
 ·subst h1; exact ⟨rfl, uU _ lc x K h2 h3⟩
noncomputable def iQ (u : List Nat) : Bool := decide (u.headD 0 ∈ lcS "-\\") || c8 (u.headD 0)
noncomputable def c9 (us : List (List Nat)) : Bool := us.casesOn false fun u0 r => if decide (u0 = lcS "-") = true then r.casesOn false fun u1 _ => iQ u1 else decide (u0.headD 0 = 92) || c8 (u0.headD 0)
noncomputable def zdn (u : List Nat) : Prop := ∃ c r, u = c :: r /\ (c = 92 \/ r = [])
noncomputable def cId : Ctx := mkC [("_law_letter", fE)] [] false [] []
theorem zbs : CtxMono cId := bV (by simp [dZ]) (by simp)
theorem lI (p : Params) (us : List (List Nat)) (K : PV -> Prop) (hn : us ≠ []) (hu : ∀ u ∈ us, zdn u) (hl : us.length <= 1000) (hK : K (.bool (c9 us))) : wSs cId (cS (aN (HK p) 727)) (aQ (HK p) 727) (lW K) ⟨bG [("units", .list (us.map .str))] (fun _ => none), fun _ => none⟩ := by
 have M := zbs
 conv in (aQ _ _) => whnf
 cases us with
 | nil => exact absurd rfl hn
 | cons u0 r =>
  obtain ⟨c, z, rfl, hc⟩ := hu u0 List.mem_cons_self
  refine aB (bR M (decide (c :: z = lcS "-")) (bQ M (pF M (eA (xs := ((c :: z) :: r).map .str) (n := 0) M rfl (by exact aA (by kernel_rfl!) (by kernel_rfl!)) (aE rfl) rfl))) (fun h => ?_) (fun h => ?_))
  ·have hK' : K (.bool (r.casesOn false fun u1 _ => iQ u1)) := by
    rw [show c9 ((c :: z) :: r) = r.casesOn false fun u1 _ => iQ u1 from if_pos h] at hK; exact hK
   clear hK
   cases r with
   | nil => exact aB (aT M (.bool (false && false)) (kR M (bL (a := .int ((1 : Nat) : Int)) (b := .int 1) M (i5 M (by kernel_rfl!) rfl rfl (by kernel_rfl) (aC M (v := .list [.str (c :: z)]) (by exact aA (by kernel_rfl!) (by kernel_rfl!)) aH) (of_eq (B := PV.int ((1 : Nat) : Int) = .int ((1 : Nat) : Int)) (by kernel_rfl) rfl)) (aE rfl) rfl) fun h => by cases h) ⟨_, cW _ _, hK'⟩)
   | cons u1 r =>
    obtain ⟨d, y, rfl, hd⟩ := hu u1 (List.mem_cons_of_mem _ List.mem_cons_self)
    have hlen : (((c :: z) :: (d :: y) :: r).map PV.str).length = r.length + 2 := List.length_map _
    refine aB (aT M (.bool (true && iQ (d :: y))) (kR M (bL (a := .int ((r.length + 2 : Nat) : Int)) (b := .int ((1 : Nat) : Int)) M (i5 M (by kernel_rfl!) rfl rfl (by kernel_rfl) (aC M (v := .list (((c :: z) :: (d :: y) :: r).map .str)) (by exact aA (by kernel_rfl!) (by kernel_rfl!)) aH) (of_eq (B := PV.int ((((c :: z) :: (d :: y) :: r).map PV.str).length : Nat) = .int ((r.length + 2 : Nat) : Int)) (by kernel_rfl) (by rw [hlen]))) (aE rfl) (decide_eq_true (Int.ofNat_lt.mpr (show 1 < r.length + 2 by omega)))) fun _ => fH ?_) ⟨_, cW _ _, hK'⟩)
    refine pE M (fY M (mA (a := .str (d :: y)) (b := .int 0) M rfl (eA (xs := ((c :: z) :: (d :: y) :: r).map .str) (n := 1) M rfl (by exact aA (by kernel_rfl!) (by kernel_rfl!)) (aE rfl) rfl) (aE rfl) rfl)) fun q => fH ?_
    have hy : y = [] := hd.resolve_left fun e => by
     have q := of_decide_eq_false q
     rw [e] at q; exact q (show (92 : Nat) ∈ lcS "-\\" by decide +kernel)
    subst hy
    exact bC (F := fE) M (by kernel_rfl!) rfl (aC M (v := .str [d]) (eA (xs := ((c :: z) :: [d] :: r).map .str) (n := 1) M rfl (by exact aA (by kernel_rfl!) (by kernel_rfl!)) (aE rfl) rfl) aH) ⟨d, rfl, .inl rfl, rfl⟩
  ·have hK' : K (.bool (decide (c = 92) || c8 c)) := by
    rw [show c9 ((c :: z) :: r) = (decide (c = 92) || c8 c) from if_neg (by rw [h]; decide)] at hK; exact hK
   refine aB (aT M (.bool (decide (c = 92) || c8 c)) (pE M (gO M (mA (a := .str (c :: z)) (b := .int 0) M rfl (eA (xs := ((c :: z) :: r).map .str) (n := 0) M rfl (by exact aA (by kernel_rfl!) (by kernel_rfl!)) (aE rfl) rfl) (aE rfl) rfl) (by kernel_rfl)) fun q => fH ?_) ⟨_, cW _ _, hK'⟩)
   have hz : z = [] := hc.resolve_left (of_decide_eq_false q)
   subst hz
   exact bC (F := fE) M (by kernel_rfl!) rfl (aC M (v := .str [c]) (eA (xs := ([c] :: r).map .str) (n := 0) M rfl (by exact aA (by kernel_rfl!) (by kernel_rfl!)) (aE rfl) rfl) aH) ⟨c, rfl, .inl rfl, rfl⟩
noncomputable def cQ : Fn := fun ps K => ∃ us : List (List Nat), ps = [.list (us.map .str)] /\ us ≠ [] /\ (∀ u ∈ us, zdn u) /\ us.length <= 1000 /\ K (.bool (c9 us))
theorem jE : aX cQ := fun _ _ _ h => e1 fun _ => c4 (h _)
theorem jN (hB : BsOk (bs w.params h mb)) (hmb : HMb mb) : Meets prog w (bs w.params h mb) 2 (.ref 727) cQ := by
 have hC : CtxOk prog w (bs w.params h mb) cId 1 := eC hmb (by simp [dZ]) (by simp) (by simp) (fun e he => by
  simp only [List.mem_singleton] at he; subst he
  exact ⟨.ref 713, by kernel_rfl, jJ hB hmb⟩) (by simp) (by simp)
 refine bB (k := 1) (params := ["units"]) (dv := []) (dp := []) hB hC (by kernel_rfl) (by kernel_rfl) (by kernel_rfl) rfl (fun _ => .nil) (fun S vals hl => ?_) fun ps K ⟨us, h1, h2, h3, h4, h5⟩ => ?_
 ·obtain ⟨a, rfl⟩ := xF hl
  kernel_rfl
 ·subst h1
  exact ⟨rfl, lI _ us K h2 h3 h4 h5⟩
noncomputable def vN : List Nat -> Bool
 | [] => true
 | c :: r => (c != 13 || r.head? == some 10) && vN r
theorem iL : ∀ {x y : List Nat}, vN x = true -> vN y = true -> vN (x ++ y) = true
 | [], y, _, h => h
 | c :: r, y, h, h' => by
  obtain ⟨h1, h2⟩ := Bool.and_eq_true_iff.mp h
  refine Bool.and_eq_true_iff.mpr ⟨?_, iL h2 h'⟩
  rcases Bool.or_eq_true_iff.mp h1 with h1 | h1
  ·rw [h1]; rfl
  ·cases r with
   | nil => cases h1
   | cons d r => exact Bool.or_eq_true_iff.mpr (.inr h1)
theorem fT {c : Nat} {x : List Nat} (h : c ≠ 13) : bH (c :: x) = c :: bH x := List.filter_cons_of_pos (p := fun x => x != 13) (bne_iff_ne.mpr h)
theorem j9 : ∀ (n : Nat) (x : List Nat), x.length < n -> vN x = true -> b8 [13, 10] [10] n x = bH x
 | n + 1, [], _, _ => rfl
 | n + 1, c :: x, h, hc => by
  obtain ⟨h1, h2⟩ := Bool.and_eq_true_iff.mp hc
  have hl : x.length < n := Nat.lt_of_succ_lt_succ h
  show (if [13, 10].isPrefixOf (c :: x) = true then [10] ++ b8 [13, 10] [10] n ((c :: x).drop 2) else c :: b8 [13, 10] [10] n x) = _
  by_cases e : c = 13
  ·subst e
   cases x with
   | nil => cases h1
   | cons d y =>
    have hd : d = 10 := by have := eq_of_beq h1; exact Option.some.inj this
    subst hd
    rw [if_pos (show [13, 10].isPrefixOf (13 :: 10 :: y) = true from rfl), show (13 :: 10 :: y).drop 2 = y from rfl, j9 n y (Nat.lt_of_succ_lt hl) (Bool.and_eq_true_iff.mp h2).2]
    exact (fT (x := y) (show (10 : Nat) ≠ 13 by decide)).symm
  ·rw [if_neg, j9 n x hl h2, fT e]
   intro q
   have q : (13 == c) = true := (Bool.and_eq_true_iff.mp q).1
   exact e (eq_of_beq q).symm
noncomputable def qE (x : List Nat) : Bool := x.casesOn true fun c _ => [41, 44, 47, 64, 35].contains c
noncomputable def zda (x : List Nat) : Bool := x.casesOn true fun c _ => [41, 44, 47, 64, 35, 40].contains c
noncomputable def nb (x : List Nat) : Bool := x.casesOn true fun c _ => !bY c
theorem hX {x : List Nat} (h : qE x = true) : zda x = true := by
 cases x with
 | nil => rfl
 | cons c r => exact List.contains_iff_mem.mpr ((show ∀ c ∈ [41, 44, 47, 64, 35], c ∈ [41, 44, 47, 64, 35, 40] by decide) c (List.contains_iff_mem.mp h))
theorem rL {P : Nat -> Bool} (hP : [41, 44, 47, 64, 35, 40].all P = true) {c : Nat} {r : List Nat} (h : zda (c :: r) = true) : P c = true := List.all_eq_true.mp hP c (List.contains_iff_mem.mp h)
noncomputable def mB (t : List Nat) (s : Nat) : Bool :=
 if dX (t.headD 0) = true then decide ((t.takeWhile dX).length <= 6) && (decide (t.takeWhile dX ≠ []) && (decide (fS 16 0 (t.takeWhile dX) = some s) && (decide (0 < s) && (decide (s <= 1114111) &&
  ((decide (t.dropWhile dX = []) && decide ((t.takeWhile dX).length = 6)) || (decide ((t.dropWhile dX).length = 1) && bY ((t.dropWhile dX).headD 0)))))))
 else decide (t = [s]) && decide (s ≠ 10)
noncomputable def qB (u : List Nat) (s : Nat) : Bool := u.casesOn false fun c t => if c = 92 then mB t s else decide (t = []) && (decide (c = s) && bU c)
theorem nH : ∀ (k : Nat) (h x : List Nat), (∀ c ∈ h, dX c = true) -> h.length <= k -> (h.length = k \/ iY (k - h.length) x = 0) -> iY k (h ++ x) = h.length
 | 0, h, x, _, hl, _ => by cases h with | nil => rfl | cons => exact absurd hl (Nat.not_succ_le_zero _)
 | k + 1, [], x, _, _, hx => hx.elim (fun e => by cases e) fun e => e
 | k + 1, c :: h, x, ha, hl, hx => by
  show (if dX c = true then iY k (h ++ x) + 1 else 0) = _
  rw [if_pos (ha c List.mem_cons_self), nH k h x (fun c hc => ha c (List.mem_cons_of_mem _ hc)) (Nat.le_of_succ_le_succ hl) (hx.imp Nat.succ.inj fun e => by rwa [List.length_cons, Nat.add_sub_add_right] at e)]
  rfl
theorem yI {k c : Nat} {r : List Nat} (h : dX c = false) : iY k (c :: r) = 0 := by
 cases k with
 | zero => rfl
 | succ k => show (if dX c = true then _ else 0) = 0; rw [if_neg (by rw [h]; decide)]
theorem rP {c : Nat} (h : bY c = true) : dX c = false := by
 unfold bY at h
 simp only [Bool.or_eq_true, beq_iff_eq] at h
 rcases h with (rfl | rfl) | rfl <;> rfl
theorem iR (p : Nat -> Bool) : ∀ (x : List Nat), ∀ c ∈ x.takeWhile p, p c = true
 | a :: r, c, hc => by
  rw [List.takeWhile_cons] at hc
  cases q : p a with
  | false => rw [q] at hc; cases hc
  | true =>
   rw [q] at hc
   exact (List.mem_cons.mp hc).elim (fun e => e ▸ q) (iR p r c)
theorem zd8 {t : List Nat} {s : Nat} {tail : List Nat} (h : mB t s = true) (ht : nb tail = true) : EscAt (t ++ tail) s t.length := by
 unfold mB at h
 split at h
 ·simp only [Bool.and_eq_true, Bool.or_eq_true, decide_eq_true_eq] at h
  obtain ⟨h1, h2, h3, h4, h5, h6⟩ := h
  have hall := iR dX t
  have hsum : t.takeWhile dX ++ t.dropWhile dX = t := List.takeWhile_append_dropWhile
  generalize t.takeWhile dX = g at *
  generalize t.dropWhile dX = b at *
  subst hsum
  rw [List.append_assoc]
  have hg : 0 < g.length := List.length_pos_iff.mpr h2
  have key : iY 6 (g ++ (b ++ tail)) = g.length /\ e9 (b ++ tail) = b.length := by
   rcases h6 with ⟨rfl, h6⟩ | ⟨h6, h7⟩
   ·refine ⟨nH 6 g _ hall h1 (.inl h6), ?_⟩
    cases tail with
    | nil => rfl
    | cons c r => show (if bY c = true then 1 else 0) = 0; rw [if_neg]; rw [(Bool.not_eq_true' _).mp ht]; decide
   ·obtain ⟨z, rfl⟩ := List.length_eq_one_iff.mp h6
    have h7 : bY z = true := h7
    refine ⟨nH 6 g _ hall h1 (.inr (yI (rP h7))), ?_⟩
    show (if bY z = true then 1 else 0) = 1
    rw [if_pos h7]
  obtain ⟨k1, k2⟩ := key
  have := EscAt.hex (x := g ++ (b ++ tail)) (s := s) (by rw [k1]; exact hg) (by rw [k1, List.take_left]; exact h3) h4 h5
  rw [k1, List.drop_left, k2] at this
  rw [List.length_append]; exact this
 ·rename_i hn
  simp only [Bool.and_eq_true, decide_eq_true_eq] at h
  obtain ⟨rfl, h2⟩ := h
  exact .sign (yI (Bool.eq_false_iff.mpr hn)) rfl
theorem tL {t : List Nat} {s : Nat} (h : mB t s = true) (tail : List Nat) : [92, 10].isPrefixOf (92 :: (t ++ tail)) = false := by
 cases t with
 | nil =>
  have h : (decide (([] : List Nat) = [s]) && decide (s ≠ 10)) = true := h
  exact absurd (of_decide_eq_true (Bool.and_eq_true_iff.mp h).1) (fun e => by cases e)
 | cons d t =>
  show (true && ((10 == d) && _)) = false
  have : (10 == d) = false := by
   refine beq_eq_false_iff_ne.mpr fun e => ?_
   subst e
   have h : (decide (10 :: t = [s]) && decide (s ≠ 10)) = true := h
   obtain ⟨h1, h2⟩ := Bool.and_eq_true_iff.mp h
   obtain ⟨rfl, _⟩ := List.cons.inj (of_decide_eq_true h1)
   exact absurd h2 (by decide)
  rw [this]; rfl
theorem v9 {u : List Nat} {s : Nat} {tail v : List Nat} {n : Nat} (h : qB u s = true) (ht : nb tail = true) (hv : NameAt tail v n) : NameAt (u ++ tail) (s :: v) (u.length + n) := by
 cases u with
 | nil => cases h
 | cons c t =>
  have h : (if c = 92 then mB t s else decide (t = []) && (decide (c = s) && bU c)) = true := h
  split at h
  ·rename_i e
   subst e
   have := NameAt.esc (t ++ tail) v s t.length n (tL h tail) (zd8 h ht) (by rw [List.drop_left]; exact hv)
   rw [List.length_cons, Nat.add_comm]; exact this
  ·obtain ⟨h1, h2⟩ := Bool.and_eq_true_iff.mp h
   obtain ⟨h2, h3⟩ := Bool.and_eq_true_iff.mp h2
   cases of_decide_eq_true h1
   cases of_decide_eq_true h2
   rw [show ([_] : List Nat).length + n = n + 1 from Nat.add_comm 1 n]
   exact .sign _ tail v n h3 hv
noncomputable def zeU (c : Nat) (t : List Nat) (s : Nat) : Bool :=
 qB (bH (c :: t)) s && (vN (c :: t) && ((bH (c :: t)).all fL && (!(c :: t).contains 0 && (decide ((c :: t).length <= 9) && (decide (c ≠ 13) && ((decide (c = 92) || decide (t = [])) && (!bY c && (decide (c8 c = bD c) && (decide (c = 45 -> t = []) && (decide (c = 101 -> t = []) && ((bU c || decide (c = 92)) && (decide (c ≠ 69) && signsL.contains s))))))))))))
noncomputable def zb5 (u : List Nat) (s : Nat) : Bool := u.casesOn false fun c t => zeU c t s
structure Unit' (u : List Nat) (s c : Nat) (t : List Nat) : Prop where
 eq : u = c :: t
 md : bH u = c :: bH t
 uc : qB (bH u) s = true
 cr : vN u = true
 al : Al (bH u)
 nz : 0 ∉ u
 len : u.length <= 9
 one : c = 92 \/ t = []
 nbl : bY c = false
 let_ : c8 c = bD c
 min : c = 45 -> t = []
 e101 : c = 101 -> t = []
 nch : bU c = true \/ c = 92
 e69 : c ≠ 69
 sg : s ∈ signsL
theorem dP {u : List Nat} {s : Nat} (h : zb5 u s = true) : ∃ c t, Unit' u s c t := by
 cases u with
 | nil => cases h
 | cons c t =>
  have h : zeU c t s = true := h
  simp only [zeU, Bool.and_eq_true, Bool.or_eq_true, Bool.not_eq_true', decide_eq_true_eq] at h
  obtain ⟨h1, h2, h3, h4, h5, h6, h7, h8, h9, h10, h11, h12, h14, h13⟩ := h
  exact ⟨c, t, rfl, fT h6, h1, h2, List.all_eq_true.mp h3, fun m => (by rw [List.contains_iff_mem.mpr m] at h4; cases h4), h5, h7, h8, h9, h10, h11, h12, h14, List.contains_iff_mem.mp h13⟩
noncomputable def UO : List (List Nat) -> List Nat -> Prop
 | [], v => v = []
 | u :: us, v => ∃ s v', v = s :: v' /\ zb5 u s = true /\ UO us v'
theorem UO.app : ∀ {us : List (List Nat)} {v : List Nat} {u : List Nat} {s : Nat}, UO us v -> zb5 u s = true -> UO (us ++ [u]) (v ++ [s])
 | [], v, u, s, h, hu => by cases h; exact ⟨s, [], rfl, hu, rfl⟩
 | w :: us, v, u, s, ⟨z, v', e, h1, h2⟩, hu => by subst e; exact ⟨z, v' ++ [s], rfl, h1, h2.app hu⟩
theorem UO.len : ∀ {us : List (List Nat)} {v : List Nat}, UO us v -> us.length = v.length
 | [], _, h => by cases h; rfl
 | _ :: us, _, ⟨_, _, e, _, h⟩ => by subst e; exact congrArg Nat.succ h.len
theorem UO.text : ∀ {us : List (List Nat)} {v : List Nat}, UO us v -> vN us.flatten = true /\ Al (bH us.flatten) /\ 0 ∉ us.flatten /\ us.flatten.length <= 9 * us.length /\ (∀ u ∈ us, zdn u) /\ ∀ s ∈ v, s ∈ signsL
 | [], _, h => by cases h; exact ⟨rfl, fun c h => (by cases h), fun h => (by cases h), Nat.zero_le _, fun u h => (by cases h), fun s h => by cases h⟩
 | u :: us, _, ⟨s, v, e, h1, h2⟩ => by
  subst e
  obtain ⟨c, t, hu⟩ := dP h1
  obtain ⟨g1, g2, g3, g4, g5, g6⟩ := h2.text
  refine ⟨iL hu.cr g1, ?_, ?_, ?_, ?_, ?_⟩
  ·rw [List.flatten_cons, cY]
   exact fun d hd => (List.mem_append.mp hd).elim (hu.al d) (g2 d)
  ·rw [List.flatten_cons]
   exact fun hd => (List.mem_append.mp hd).elim hu.nz g3
  ·rw [List.flatten_cons, List.length_append, List.length_cons]; have := hu.len; omega
  ·exact fun w hw => (List.mem_cons.mp hw).elim (fun e => e ▸ ⟨c, t, hu.eq, hu.one⟩) (g5 w)
  ·exact fun w hw => (List.mem_cons.mp hw).elim (fun e => e ▸ hu.sg) (g6 w)
theorem zaK {tail : List Nat} (ht : zda tail = true) : ∀ {us : List (List Nat)} {v : List Nat}, UO us v -> nb (bH us.flatten ++ tail) = true
 | [], _, _ => by
  cases tail with
  | nil => rfl
  | cons c r => exact rL (P := fun c => !bY c) (by decide) ht
 | u :: us, _, ⟨s, v, e, h1, h2⟩ => by
  obtain ⟨c, t, hu⟩ := dP h1
  rw [List.flatten_cons, cY, hu.md]
  show (!bY c) = true
  rw [hu.nbl]; rfl
theorem iX {tail : List Nat} (ht : zda tail = true) : ∀ {us : List (List Nat)} {v : List Nat}, UO us v -> NameAt (bH us.flatten ++ tail) v (bH us.flatten).length
 | [], _, h => by
  cases h
  refine .stop tail fun c r e => ?_
  subst e
  have := rL (P := fun c => !bU c && decide (c ≠ 92)) (by decide) ht
  obtain ⟨h1, h2⟩ := Bool.and_eq_true_iff.mp this
  exact ⟨(Bool.not_eq_true' _).mp h1, of_decide_eq_true h2⟩
 | u :: us, _, ⟨s, v, e, h1, h2⟩ => by
  subst e
  obtain ⟨c, t, hu⟩ := dP h1
  have := v9 hu.uc (zaK ht h2) (iX ht h2)
  rw [List.flatten_cons, cY, List.append_assoc, List.length_append]
  exact this
theorem Unit'.esc {u : List Nat} {s c : Nat} {t : List Nat} (h : Unit' u s c t) (e : c = 92) (X : List Nat) : [92, 10].isPrefixOf (c :: (bH t ++ X)) = false := by
 have h1 := h.uc
 rw [h.md] at h1
 have h1 : (if c = 92 then mB (bH t) s else decide (bH t = []) && (decide (c = s) && bU c)) = true := h1
 rw [if_pos e] at h1
 rw [e]; exact tL h1 X
theorem no92 {c : Nat} {X : List Nat} (e : c ≠ 92) (q : List Nat) : (92 :: q).isPrefixOf (c :: X) = false := by
 show ((92 == c) && _) = false
 rw [beq_eq_false_iff_ne.mpr (Ne.symm e)]; rfl
theorem zaa {tail : List Nat} (ht : zda tail = true) : iH tail = false := by
 cases tail with
 | nil => rfl
 | cons c r =>
  have := rL (P := fun c => !bD c && (decide (c ≠ 45) && decide (c ≠ 92))) (by decide) ht
  simp only [Bool.and_eq_true, Bool.not_eq_true', decide_eq_true_eq] at this
  obtain ⟨h1, h2, h3⟩ := this
  show ((bD c || c == 45) || ([92].isPrefixOf (c :: r) && _)) = false
  rw [h1, beq_eq_false_iff_ne.mpr h2, no92 h3]; rfl
theorem sV (c : Nat) : decide (c ∈ lcS "-\\") = (decide (c = 45) || decide (c = 92)) := by
 rw [show lcS "-\\" = [45, 92] by decide +kernel, <- Bool.decide_or]
 exact decide_eq_decide.mpr (by rw [List.mem_cons, List.mem_singleton])
theorem iI {us : List (List Nat)} {v tail : List Nat} (h : UO us v) (hn : us ≠ []) (ht : zda tail = true) : aM (bH us.flatten ++ tail) = c9 us := by
 cases us with
 | nil => exact absurd rfl hn
 | cons u us =>
  obtain ⟨s, v, rfl, h1, h2⟩ := h
  obtain ⟨c, t, hu⟩ := dP h1
  have h5 := hu.min
  have h6 := hu.let_
  have h7 := hu.esc
  rw [List.flatten_cons, cY, hu.md, hu.eq, List.cons_append, List.cons_append, List.append_assoc]
  show (bD c || ((c == 45 && iH (bH t ++ (bH us.flatten ++ tail))) || (c == 92 && !([92, 10].isPrefixOf (c :: (bH t ++ (bH us.flatten ++ tail))))))) = (if decide (c :: t = lcS "-") = true then us.casesOn false fun u1 _ => iQ u1 else decide (c = 92) || c8 c)
  rw [show lcS "-" = [45] by decide +kernel]
  by_cases e : c = 45
  ·subst e
   rw [h5 rfl, if_pos (decide_eq_true rfl), show bD 45 = false from rfl, Bool.false_or, show ((45 : Nat) == 45) = true from rfl, Bool.true_and, show ((45 : Nat) == 92) = false from rfl, Bool.false_and, Bool.or_false]
   cases us with
   | nil => exact zaa ht
   | cons u1 us =>
    obtain ⟨s1, v1, _, g1, _⟩ := h2
    obtain ⟨d, y, hw⟩ := dP g1
    have h8 := hw.esc
    have h9 := hw.let_
    rw [List.flatten_cons, cY, hw.md, hw.eq]
    show ((bD d || d == 45) || ([92].isPrefixOf (d :: (bH y ++ bH us.flatten ++ tail)) && !([92, 10].isPrefixOf (d :: (bH y ++ bH us.flatten ++ tail))))) = (decide (d ∈ lcS "-\\") || c8 d)
    rw [sV, <- h9]
    by_cases e : d = 92
    ·rw [List.append_assoc, h8 e, e]; rfl
    ·rw [no92 e, decide_eq_false e, Bool.false_and, Bool.or_false, Bool.or_false, Bool.or_comm]; rfl
  ·rw [if_neg (by rw [decide_eq_true_eq]; exact fun q => e (List.cons.inj q).1), beq_eq_false_iff_ne.mpr e, Bool.false_and, Bool.false_or, <- h6, Bool.or_comm]
   by_cases e2 : c = 92
   ·rw [h7 e2, e2]; rfl
   ·rw [decide_eq_false e2, beq_eq_false_iff_ne.mpr e2]; rfl
theorem iE {us : List (List Nat)} {v : List Nat} (h : UO us v) (hn : us ≠ []) : ∃ u c t x, us.head? = some u /\ u.headD 0 = c /\ bH us.flatten = c :: x /\ (∃ s, Unit' u s c t) /\ ∀ tail, (c == 92 && !([92, 10].isPrefixOf (c :: x ++ tail))) = (c == 92) := by
 cases us with
 | nil => exact absurd rfl hn
 | cons u us =>
  obtain ⟨s, v, rfl, h1, h2⟩ := h
  obtain ⟨c, t, hu⟩ := dP h1
  refine ⟨u, c, t, bH t ++ bH us.flatten, rfl, by rw [hu.eq]; rfl, by rw [List.flatten_cons, cY, hu.md]; rfl, ⟨s, hu⟩, fun tail => ?_⟩
  by_cases e : c = 92
  ·rw [List.cons_append, List.append_assoc, hu.esc e, Bool.not_false, Bool.and_true]
  ·rw [beq_eq_false_iff_ne.mpr e]; rfl
noncomputable def zdl (u : List Nat) : Bool := decide (u.headD 0 = 92) || c8 (u.headD 0)
theorem qG : (signsL.all fun s => (List.range 7).all fun w => [true, false].all fun f => zb5 (cV s w f) s && (!f || zdl (cV s w f))) = true := by decide +kernel
theorem j4 {s w : Nat} (f : Bool) (hs : s ∈ signsL) (hw : w < 7) : zb5 (cV s w f) s = true /\ (f = true -> zdl (cV s w f) = true) := by
 have := List.all_eq_true.mp (List.all_eq_true.mp (List.all_eq_true.mp qG s hs) w (List.mem_range.mpr hw)) f (by cases f <;> decide)
 obtain ⟨h1, h2⟩ := Bool.and_eq_true_iff.mp this
 exact ⟨h1, fun e => by subst e; exact h2⟩
theorem e_chk : zb5 (lcS "\\65 ") 101 = true /\ zdl (lcS "\\65 ") = true := by decide +kernel
theorem oS {s : Nat} (h : s ∈ signsL) : (lowerD.lookup [s]).getD [s] = [bW s] /\ bW s ≠ 117 :=
 (show ∀ s ∈ signsL, (lowerD.lookup [s]).getD [s] = [bW s] /\ bW s ≠ 117 by decide +kernel) s h
theorem uL {s : Nat} (h : s ∈ signsL) : s < 16777216 := (show ∀ s ∈ signsL, s < 16777216 by decide +kernel) s h
noncomputable def vW (z : List Nat) (a : Act) (g : Bool) : Prop := 1 <= z.length /\ ∀ rest, (g = true -> qE rest = true) -> Nx (z ++ rest) a z.length
theorem vG : vW [44] (.tok (.lit [44])) false := ⟨by decide, fun rest _ => .comma rest⟩
theorem za7 : vW [41] .cls false := ⟨by decide, fun rest _ => .cls rest⟩
theorem yL : vW [47, 42, 42, 47] (.tok (.com [])) false := ⟨by decide, fun rest _ => .com (42 :: 47 :: rest) 0 rfl⟩
theorem yK : vW [47, 42, 10, 42, 47] (.tok (.com [10])) false := ⟨by decide, fun rest _ => .com (10 :: 42 :: 47 :: rest) 1 rfl⟩
theorem zeG {x : List Nat} (h : qE x = true) : [40].isPrefixOf x = false := by
 cases x with
 | nil => rfl
 | cons c r =>
  have := (show ∀ c ∈ [41, 44, 47, 64, 35], (40 == c) = false by decide) c (List.contains_iff_mem.mp h)
  show ((40 == c) && _) = false
  rw [this]; rfl
section
variable {us : List (List Nat)} {v : List Nat}
theorem vF (h : UO us v) (hn : us ≠ []) (hi : c9 us = true) : vW (bH us.flatten) (.tok (.ident v)) true := by
 obtain ⟨u, c, t, x, _, _, h3, ⟨s, hu⟩, _⟩ := iE h hn
 refine ⟨by rw [h3]; exact Nat.le_add_left 1 _, fun rest hr => ?_⟩
 have hr := hr rfl
 have hna := iX (hX hr) h
 have hst := (iI h hn (hX hr)).trans hi
 have hd : (bH us.flatten ++ rest).drop (bH us.flatten).length = rest := List.drop_left
 generalize (bH us.flatten).length = n at *
 rw [h3] at hna hst hd ⊢
 exact .ident c _ v n hu.nbl hst hna (show [40].isPrefixOf ((c :: x ++ rest).drop n) = false by rw [hd]; exact zeG hr)
theorem zcJ (h : UO us v) : v.map bW ≠ [117, 114, 108] := fun e => by
 cases v with
 | nil => cases e
 | cons s v => exact (oS (h.text.2.2.2.2.2 s List.mem_cons_self)).2 (List.cons.inj e).1
theorem zcT (h : UO us v) (hn : us ≠ []) (hi : c9 us = true) : vW (bH us.flatten ++ [40]) (.opn v) false := by
 obtain ⟨u, c, t, x, _, _, h3, ⟨s, hu⟩, _⟩ := iE h hn
 refine ⟨by rw [List.length_append]; exact Nat.le_add_left 1 _, fun rest hr => ?_⟩
 have he : zda (40 :: rest) = true := rfl
 have hna := iX he h
 have hst := (iI h hn he).trans hi
 have hd : (bH us.flatten ++ 40 :: rest).drop (bH us.flatten).length = 40 :: rest := List.drop_left
 rw [List.length_append, List.append_assoc]
 show Nx (bH us.flatten ++ 40 :: rest) _ ((bH us.flatten).length + 1)
 generalize (bH us.flatten).length = n at *
 rw [h3] at hna hst hd ⊢
 exact .opn c _ v n hu.nbl hst hna (show [40].isPrefixOf ((c :: x ++ 40 :: rest).drop n) = true by rw [hd]; rfl) (zcJ h)
theorem zcU (h : UO us v) (hn : us ≠ []) (hi : c9 us = true) : vW (64 :: bH us.flatten) (.tok (.atk v)) true :=
 ⟨Nat.le_add_left 1 _, fun rest hr => by
  have hr := hX (hr rfl)
  rw [List.length_cons, Nat.add_comm]
  exact .atk _ v _ ((iI h hn hr).trans hi) (iX hr h)⟩
theorem yJ (h : UO us v) (hn : us ≠ []) : vW (35 :: bH us.flatten) (.tok (.hash v (c9 us))) true :=
 ⟨Nat.le_add_left 1 _, fun rest hr => by
  have hr := hX (hr rfl)
  rw [List.length_cons, Nat.add_comm, <- iI h hn hr]
  refine .hash _ v _ ?_ (iX hr h)
  obtain ⟨u, c, t, x, _, _, h3, ⟨s, hu⟩, h4⟩ := iE h hn
  rw [h3]
  show (bU c || (c == 92 && !([92, 10].isPrefixOf (c :: x ++ rest)))) = true
  rw [h4 rest]
  rcases hu.nch with q | q
  ·rw [q]; rfl
  ·rw [q]; rfl⟩
theorem y1 (c : Nat) (r : List Nat) : gG (c :: r) = if lH c = true then gG r + 1 else 0 := by
 unfold gG
 rw [List.takeWhile_cons]
 split <;> rfl
theorem zdM {c : Nat} {X : List Nat} (h1 : lH c = false) (h2 : c ≠ 46) (h3 : c ≠ 101) (h4 : c ≠ 69) : ∀ e ∈ numsL, xH (e.1 ++ c :: X) = some (e.1.length, e.2.isSome) := by
 have d0 : gG (c :: X) = 0 := by rw [y1, if_neg (by rw [h1]; decide)]
 have f0 : vK (c :: X) = none := if_neg fun q => h2 (Option.some.inj q.1)
 have e0 : zbT (c :: X) = none := if_neg fun q => q.elim (fun q => h3 (Option.some.inj q)) fun q => h4 (Option.some.inj q)
 intro e he
 rcases List.mem_cons.mp he with rfl | he
 ·show zN (55 :: c :: X) (gG (c :: X) + 1) (gG (c :: X) + 1 + 0) = _
  rw [d0, zN, show (55 :: c :: X).drop (0 + 1 + 0) = c :: X from rfl, f0, e0]; rfl
 rcases List.mem_cons.mp he with rfl | he
 ·show zN (45 :: 49 :: 50 :: c :: X) (gG (c :: X) + 1 + 1) (gG (c :: X) + 1 + 1 + 1) = _
  rw [d0, zN, show (45 :: 49 :: 50 :: c :: X).drop (0 + 1 + 1 + 1) = c :: X from rfl, f0, e0]; rfl
 rcases List.mem_cons.mp he with rfl | he
 ·show zN (43 :: 48 :: 46 :: 53 :: c :: X) 1 2 = _
  rw [zN, show vK ((43 :: 48 :: 46 :: 53 :: c :: X).drop 2) = some (gG (c :: X) + 1 + 1) from rfl, d0, Option.elim_some, show (43 :: 48 :: 46 :: 53 :: c :: X).drop (0 + 1 + 1 + 2) = c :: X from rfl, e0]; rfl
 rcases List.mem_cons.mp he with rfl | he
 ·show zN (51 :: 101 :: 50 :: c :: X) 1 1 = _
  rw [zN, show vK ((51 :: 101 :: 50 :: c :: X).drop 1) = none from rfl, show zbT ((51 :: 101 :: 50 :: c :: X).drop 1) = some (gG (c :: X) + 1 + 1) from rfl, d0]; rfl
 ·cases he
theorem zaG : ∀ e ∈ numsL, (e.2.isSome = true -> ∃ i, e.2 = some i /\ zdr e.1 fun z => z = .int i) /\ (e.2.isSome = false -> e.2 = none) := by
 intro e he
 rcases List.mem_cons.mp he with rfl | he
 ·exact ⟨fun _ => ⟨7, rfl, by decide, .inr (.inr ⟨7, rfl, rfl⟩)⟩, fun h => by cases h⟩
 rcases List.mem_cons.mp he with rfl | he
 ·exact ⟨fun _ => ⟨-12, rfl, by decide, .inl ⟨rfl, by decide, 12, rfl, rfl⟩⟩, fun h => by cases h⟩
 rcases List.mem_cons.mp he with rfl | he
 ·exact ⟨fun h => (by cases h), fun _ => rfl⟩
 rcases List.mem_cons.mp he with rfl | he
 ·exact ⟨fun h => (by cases h), fun _ => rfl⟩
 ·cases he
theorem xG (X : List Nat) : ∀ e ∈ numsL, ∃ c r, e.1 = c :: r /\ bY c = false /\ aM (e.1 ++ X) = false := by
 intro e he
 rcases List.mem_cons.mp he with rfl | he
 ·exact ⟨_, _, rfl, rfl, rfl⟩
 rcases List.mem_cons.mp he with rfl | he
 ·exact ⟨_, _, rfl, rfl, rfl⟩
 rcases List.mem_cons.mp he with rfl | he
 ·exact ⟨_, _, rfl, rfl, rfl⟩
 rcases List.mem_cons.mp he with rfl | he
 ·exact ⟨_, _, rfl, rfl, rfl⟩
 ·cases he
theorem qF {c : Nat} (h : bD c = true) : lH c = false /\ c ≠ 46 := by
 unfold bD at h
 unfold lH
 simp only [Bool.or_eq_true, Bool.and_eq_true, decide_eq_true_eq, beq_iff_eq] at h
 constructor
 ·rw [<- Bool.not_eq_true, Bool.and_eq_true, decide_eq_true_eq, decide_eq_true_eq]; omega
 ·omega
theorem za6 {e : List Nat × Option Int} (he : e ∈ numsL) (h : UO us v) (hn : us ≠ []) (hi : c9 us = true) (h0 : ∀ u, us.head? = some u -> u.headD 0 ≠ 101) : vW (e.1 ++ bH us.flatten) (.tok (.dim e.2 e.1 v)) true := by
 obtain ⟨u, c, t, x, g1, g2, h3, ⟨s, hu⟩, _⟩ := iE h hn
 have hc : lH c = false /\ c ≠ 46 := by
  cases us with
  | nil => exact absurd rfl hn
  | cons u' us =>
   cases g1
   have hi : (if decide (u = lcS "-") = true then us.casesOn false fun u1 _ => iQ u1 else decide (u.headD 0 = 92) || c8 (u.headD 0)) = true := hi
   rw [hu.eq] at hi
   split at hi
   ·rename_i q
    rw [show lcS "-" = [45] by decide +kernel, decide_eq_true_eq] at q
    rw [(List.cons.inj q).1]; exact ⟨rfl, by decide⟩
   ·rcases Bool.or_eq_true_iff.mp hi with q | q
    ·rw [show c = 92 from of_decide_eq_true q]; exact ⟨rfl, by decide⟩
    ·exact qF (hu.let_ ▸ q)
 have hnum := fun rest => zdM (c := c) (X := x ++ rest) hc.1 hc.2 (g2 ▸ h0 u g1) hu.e69 e he
 refine ⟨by rw [List.length_append, h3]; exact Nat.le_trans (Nat.le_add_left 1 _) (Nat.le_add_left _ _), fun rest hr => ?_⟩
 have hr := hX (hr rfl)
 obtain ⟨d, r, e1, e2, e3⟩ := xG (bH us.flatten ++ rest) e he
 obtain ⟨i1, i2⟩ := zaG e he
 have hn1 := hnum rest
 rw [<- List.cons_append, <- h3] at hn1
 have hna := iX hr h
 have hst := (iI h hn hr).trans hi
 have ht : (e.1 ++ (bH us.flatten ++ rest)).take e.1.length = e.1 := List.take_left
 have hd : (e.1 ++ (bH us.flatten ++ rest)).drop e.1.length = bH us.flatten ++ rest := List.drop_left
 rw [List.append_assoc, List.length_append]
 generalize bH us.flatten ++ rest = Y at *
 generalize (bH us.flatten).length = m at *
 obtain ⟨y, ev⟩ := e
 dsimp only at *
 subst e1
 have := Nx.dim d (r ++ Y) v (d :: r).length m ev.isSome ev e2 e3 hn1 (by rw [<- List.cons_append, ht]; exact i1) i2 (by rw [<- List.cons_append, hd]; exact hst) (by rw [<- List.cons_append, hd]; exact hna)
 rw [<- List.cons_append, ht] at this
 exact this
end
noncomputable def zcO (P : Params) : List Stmt := jY (aQ (HK P) 753)
structure Lay (T X : List Nat) (lc : Nat × Nat) (g : Bool) (E : List Ev) (us : List PV) (fr : List PF) : Prop where
 rd : ∀ rest E', (g = true -> qE rest = true) -> Reads fr.length lc rest E' -> Reads 0 (1, 1) (X ++ rest) (E ++ E')
 bl : ∀ E', dT bN j3 (E ++ E') [] [] = dT bN j3 E' us fr
 md : bH T = X
 cr : vN T = true
 al : Al X
 nz : 0 ∉ T
theorem zcN : Lay [] [] (1, 1) false [] [] [] := ⟨fun rest E' _ h => h, fun _ => rfl, rfl, rfl, fun c h => (by cases h), fun h => (by cases h)⟩
section
variable {T X y : List Nat} {lc : Nat × Nat} {g g' : Bool} {E : List Ev} {us us' : List PV} {fr fr' : List PF} {a : Act}
theorem Lay.add (L : Lay T X lc g E us fr) (hG : vW (bH y) a g') (hc : vN y = true) (ha : Al (bH y)) (hz : 0 ∉ y) (hs : g = true -> ∀ rest, qE (bH y ++ rest) = true) (hd : a = .cls -> 0 < fr.length) (hl : fr'.length = a.deep fr.length)
  (hb : ∀ K, zdw bN j3 lc us fr K a = K us' fr') : Lay (T ++ y) (X ++ bH y) (adv lc (bH y)) g' (E ++ [(lc, a)]) us' fr' where
 rd := fun rest E' hr hR => by
  rw [List.append_assoc, List.append_assoc]
  refine L.rd _ _ (fun q => hs q rest) (.cons _ (bH y).length _ _ _ _ (hG.2 rest hr) hG.1 ?_ hd ?_)
  ·rw [List.length_append]; exact Nat.le_add_right _ _
  ·rw [List.take_left, List.drop_left, <- hl]; exact hR
 bl := fun E' => by
  rw [List.append_assoc, L.bl]
  exact hb _
 md := by rw [cY, L.md]
 cr := iL L.cr hc
 al := fun c h => (List.mem_append.mp h).elim (L.al c) (ha c)
 nz := fun h => (List.mem_append.mp h).elim L.nz hz
end
theorem sG (s : Nat -> Option Cell) (lc : Nat × Nat) (v : List Nat) (p t : PV) (h : Res s p t) : Res s (j3 lc v p) (j3 lc v t) := by
 refine ⟨_, rfl, _, _, rfl, rfl, _, _, rfl, bA s (eS lc) rfl, _, _, rfl, rfl, _, _, rfl, rfl, _, _, rfl, h, rfl⟩
theorem Tree.fresh {g : Nat × Nat -> List Nat -> PV -> PV} {sb a b : Nat} {σ : Nat -> Option Cell} {fr : List (Nat × PF)} {ts : List PV} (T : Tree g sb σ a fr ts) (hb : σ b = none) (c : Cell) : Tree g sb (aR σ b c) a fr ts := by
 obtain ⟨ys, h1, h2⟩ := T.top
 have le : LeC (lJ (sN sb a fr) σ) (lJ (sN sb a fr) (aR σ b c)) := fun x d e => by
  obtain ⟨q1, q2⟩ := kG e
  exact kF q1 (by rw [bK _ (fun e => by rw [e, hb] at q2; cases q2)]; exact q2)
 have ba : a ≠ b := fun e => by rw [<- e, h1] at hb; cases hb
 have bs : sb ≠ b := fun e => by have := T.sbx; rw [e, hb] at this; cases this
 exact ⟨T.nd, ⟨ys, by rw [bK _ ba]; exact h1, dE le _ h2⟩, eX le _ _ (fun q hq => bK _ (fun e => by have := kJ _ _ T.low q hq; rw [e, hb] at this; cases this) _) T.low, by rw [bK _ bs]; exact T.sbx⟩
noncomputable def xB : Nat -> Rows -> List PV
 | a, [] => [.ptr a]
 | a, q :: fr => xB q.1 fr ++ [.ptr a]
theorem oG (a : Nat) (fr : Rows) : ∃ S, xB a fr = S ++ [.ptr a] := by
 cases fr with
 | nil => exact ⟨[], rfl⟩
 | cons q fr => exact ⟨xB q.1 fr, rfl⟩
theorem mY : ∀ (a : Nat) (fr : Rows), (xB a fr).length = fr.length + 1
 | _, [] => rfl
 | _, q :: fr => by rw [xB, List.length_append, mY q.1 fr]; rfl
theorem oH : ∀ (a : Nat) (fr : Rows), ∃ S, xB a fr = .ptr (mZ a fr) :: S
 | _, [] => ⟨[], rfl⟩
 | a, q :: fr => by obtain ⟨S, e⟩ := oH q.1 fr; exact ⟨S ++ [.ptr a], by rw [xB, e]; rfl⟩
section
variable {C : Ctx} {κ : Kn}
theorem bX {n : String} (y : String) (h : y ≠ n) : ¬ (Str.ofString n = Str.ofString y) := fun q => h ((sEq _ _).mp q).symm
theorem zeC {s : Str} {p p1 p2 p3 : Pos} {a : Nat} {v : PV} {xs : List PV} {Q : Fl -> St -> Prop} {st : St} (hk : κ s = some .local) (hx : st.ρ s = some (.ptr a)) (hc : st.σ a = some (.lst (xs ++ [v]))) (k : Q .next ⟨st.ρ, aR st.σ a (.lst xs)⟩) :
  wS C κ (.Expr (.Call (.Attribute (.Name s p1) (Str.ofString "pop") p2) [] [] p3) p) Q st := by
 have hn : Str.ofString "pop" ≠ Str.ofString "__init__" := by rw [Ne, sEq]; decide
 have h0 : cJ (.Call (.Attribute (.Name s p1) (Str.ofString "pop") p2) [] [] p3) = none := if_neg fun h => hn h.2.1
 rw [iT, h0]
 refine ⟨rfl, ?_⟩
 rw [eO, show bT [] = none from rfl, cX]
 refine ⟨rfl, ?_⟩
 rw [fN, hk, gV, hx, eK]
 refine ⟨?_, ?_⟩
 ·show (dS (st.σ a)).isSome = true
  rw [hc]; rfl
 ·rw [fM]
  show eG st.σ (Str.ofString "pop") (.ptr a) [] _
  unfold eG
  rw [if_neg (bX _ (by decide)), if_neg (bX _ (by decide)), if_neg (bX _ (by decide)), if_neg (bX _ (by decide)), if_neg (bX _ (by decide)), if_neg (bX _ (by decide)), if_pos rfl]
  exact ⟨rfl, xs, _, hc, k⟩
theorem j7 {x : Str} {e : Expr} {p1 p2 p3 p4 p5 p6 p7 : Pos} {kk rb a : Nat} {S xs : List PV} {Q : Fl -> St -> Prop} {st : St} (M : CtxMono C) (v : PV) (hk : κ x = some .local) (hx : st.ρ x = some (.ptr rb)) (hS : st.σ rb = some (.lst (S ++ [.ptr a]))) (hc : st.σ a = some (.lst xs)) (he : ev C κ e st v)
  (hr : bT [e] = none) (hl : xs.length < aP) (k : Q .next ⟨st.ρ, aR st.σ a (.lst (xs ++ [v]))⟩) :
  wS C κ (.Expr (.Call (.Attribute (.Subscript (.Name x p1) (.UnaryOp .USub (.Constant (.int 1) kk p2) p3) p4) (Str.ofString "append") p5) [e] [] p6) p7) Q st := by
 have hn : Str.ofString "append" ≠ Str.ofString "__init__" := by rw [Ne, sEq]; decide
 have h0 : cJ (.Call (.Attribute (.Subscript (.Name x p1) (.UnaryOp .USub (.Constant (.int 1) kk p2) p3) p4) (Str.ofString "append") p5) [e] [] p6) = none := if_neg (c := nmE (.Subscript (.Name x p1) (.UnaryOp .USub (.Constant (.int 1) kk p2) p3) p4) = some (Str.ofString "Node") /\ Str.ofString "append" = Str.ofString "__init__" /\ ([] : List Keyword).isEmpty = true) (t := some [e]) fun h => hn h.2.1
 rw [iT, h0]
 refine ⟨rfl, ?_⟩
 rw [eO, hr]
 refine ⟨rfl, ?_⟩
 rw [cX]
 refine aO (v := .ptr a) M (mA (a := .ptr rb) (b := .int (-1)) M rfl (aA hk hx) (l8 M (aE rfl)) ?_) ?_
 ·show zbP (Option.casesOn (motive := fun _ => PV) (dS (st.σ rb)) (.ptr rb) .list) (.int (-1)) _
  rw [hS]
  show opt (pY (S ++ [PV.ptr a]) (-1)) _
  unfold pY
  rw [if_pos (by decide), if_pos (by rw [List.length_append]; show (0 : Int) <= -1 + ((S.length + 1 : Nat) : Int); omega), show ((-1 : Int) + ((S ++ [PV.ptr a]).length : Int)).toNat = S.length by rw [List.length_append]; show ((-1 : Int) + ((S.length + 1 : Nat) : Int)).toNat = _; omega, List.getElem?_append_right (Nat.le_refl _), Nat.sub_self]
  rfl
 refine ⟨?_, aO M he ?_⟩
 ·show (Str.ofString "append" == Str.ofString "append" && (dS (st.σ a)).isSome) = true
  rw [hc, beq_self_eq_true]; rfl
 ·rw [fM]
  show (if Str.ofString "append" = Str.ofString "append" then _ else _)
  rw [if_pos rfl]
  exact ⟨xs, hc, hl, k⟩
theorem zc3 {x : Str} {p q p2 : Pos} {st : St} {a : Nat} {xs : List PV} (M : CtxMono C) (k : κ "len" = some .globalImplicit) (hf : C.fn "len" = none) (hc : C.cls "len" = none) (hb : C.bi "len" = true) (hk : κ x = some .local) (hx : st.ρ x = some (.ptr a)) (hl : st.σ a = some (.lst xs)) :
  ev C κ (.Call (.Name (Str.ofString "len") q) [.Name x p] [] p2) st (.int xs.length) :=
 i5 M k hf hc hb (aC M (aA hk hx) aH) (by
  show biP _ [Option.casesOn (motive := fun _ => PV) (dS (st.σ a)) (.ptr a) .list] _
  rw [hl]
  exact of_eq (B := PV.int xs.length = .int xs.length) (by kernel_rfl) rfl)
theorem zd5 {o k d : Expr} {p p2 : Pos} {st : St} {es : List (List Nat × List Nat)} {x : List Nat} {dv : PV} (M : CtxMono C) (h : ev C κ o st (.dict es)) (hk : ev C κ k st (.str x)) (hd : ev C κ d st dv) (hr : bT [k, d] = none) :
  ev C κ (.Call (.Attribute o (Str.ofString "get") p) [k, d] [] p2) st (((es.lookup x).map PV.str).getD dv) := by
 rw [ev, eO, hr, cX]
 refine ⟨rfl, aO M h ⟨rfl, aO M hk (aO M hd ?_)⟩⟩
 rw [fM]
 show eG st.σ (Str.ofString "get") (.dict es) [.str x, dv] _
 unfold eG
 rw [if_neg (bX _ (by decide)), if_neg (bX _ (by decide)), if_neg (bX _ (by decide)), if_neg (bX _ (by decide)), if_neg (bX _ (by decide)), if_neg (bX _ (by decide)), if_neg (bX _ (by decide)), if_pos rfl]
 exact ⟨rfl, rfl⟩
theorem zbj {e : Expr} {k : Nat} {p1 p2 p4 : Pos} {st : St} {zs : List (List Nat)} {v : List Nat} (M : CtxMono C) (h : ev C κ e st (.list (zs.map .str))) (hr : bT [e] = none) (hv : zs.flatten = v) (hl : v.length <= aP) :
  ev C κ (.Call (.Attribute (.Constant (.str (Str.ofString "")) k p1) (Str.ofString "join") p2) [e] [] p4) st (.str v) := by
 subst hv
 rw [ev, eO, hr, cX, r7, show jM (.str (Str.ofString "")) = some (.str []) from rfl, eK]
 refine ⟨rfl, rfl, aO M h ?_⟩
 rw [fM]
 show eG st.σ (Str.ofString "join") (.str []) [.list (zs.map .str)] _
 unfold eG
 rw [if_neg (bX _ (by decide)), if_neg (bX _ (by decide)), if_neg (bX _ (by decide)), if_neg (bX _ (by decide)), if_neg (bX _ (by decide)), if_pos rfl]
 exact ⟨rfl, zs, gA zs, hl, rfl, rfl⟩
theorem zdK {x : Str} {px p pos : Pos} {elt tgt iter : Expr} {sc : Scope} {Q : Fl -> St -> Prop} {st : St} {v : PV} {items : List PV} (M : CtxMono C) (f : PV -> PV) (hsc : dA κ sc = true) (hn : (cA tgt).all (fun x => sc.names.lookup x == some .local) = true) (hit : ev C κ iter st v) (hi : fU v = some items) (hl : items.length <= aP) (hm : C.mutL pos.line = true) (hs : d6 κ x = true)
  (h : ∀ w ∈ items, ∃ ρ1, iP tgt w (fX sc.names st.ρ) = some ρ1 /\ ev C (cS sc.names) elt ⟨ρ1, st.σ⟩ (f w)) (k : ∀ a, st.σ a = none -> Q .next ⟨upd st.ρ x (.ptr a), aR st.σ a (.lst (items.map f))⟩) : wS C κ (.Assign [.Name x px] (.ListComp elt [⟨tgt, iter, [], 0⟩] sc pos) p) Q st := by
 show wE C (.ListComp elt [⟨tgt, iter, [], 0⟩] sc pos) κ (fun v st1 => eD C κ [.Name x px] v st1 fun st2 => Q .next st2) st
 refine ⟨rfl, hsc, hn, aO M hit ?_⟩
 show opt (fU v) _
 rw [hi]
 refine ⟨hl, jQ M f _ _ _ h ?_⟩
 unfold bF
 rw [if_pos hm]
 exact fun a ha => ⟨bP (bP hs rfl) rfl, k a ha⟩
theorem zcu {x : Str} {px p pos pos2 : Pos} {Q : Fl -> St -> Prop} {st : St} (hm : C.mutL pos.line = true) (hm2 : C.mutL pos2.line = true) (hs : d6 κ x = true) (h : ∀ a, st.σ a = none -> ∀ b, aR st.σ a (.lst []) b = none -> Q .next ⟨upd st.ρ x (.ptr b), aR (aR st.σ a (.lst [])) b (.lst [.ptr a])⟩) :
  wS C κ (.Assign [.Name x px] (.List [.List [] pos] pos2) p) Q st := by
 show bF C pos [] (fun v st1 => bF C pos2 [v] (fun v st1 => eD C κ [.Name x px] v st1 fun st2 => Q .next st2) st1) st
 unfold bF
 rw [if_pos hm]
 intro a ha
 dsimp only
 rw [if_pos hm2]
 exact fun b hb => ⟨bP (bP hs rfl) rfl, h a ha b hb⟩
theorem zd2 {e e' : Expr} {p : Pos} {st : St} {xs ys : List PV} (M : CtxMono C) (h : ev C κ e st (.list xs)) (h' : ev C κ e' st (.list ys)) : ev C κ (.BoolOp .Or [e, e'] p) st (.list (if xs.isEmpty = true then ys else xs)) := by
 refine aO (e := e) M h ?_
 show opt (some (!xs.isEmpty)) _
 cases xs with
 | nil => exact h'
 | cons a r => exact ⟨rfl, rfl⟩
theorem tH {l r : Expr} {p : Pos} {st : St} {a b : Nat} (M : CtxMono C) (h1 : ev C κ l st (.int a)) (h2 : ev C κ r st (.int b)) : ev C κ (.Compare l [.NotEq] [r] p) st (.bool (!decide (a = b))) := bL M h1 h2 (congrArg _ (decide_eq_decide.mpr Int.ofNat_inj))
end
noncomputable def cLf : List (String × Fn) := [("_law_SIGNS", jB sI), ("_law_LOWER", jB (.dict lowerD)), ("_law_NUMBERS", jB zaH), ("_law_spelled", iS), ("_law_identifier", cQ), ("_law_moved", jC), ("_law_told", pT 60), ("parse_component_value_list", lA)]
theorem tT : ∀ e ∈ cLf, aX e.2 := by
 simp only [cLf, List.mem_cons, List.not_mem_nil, or_false]; rintro e (rfl | rfl | rfl | rfl | rfl | rfl | rfl | rfl)
 all_goals first | exact lO | exact jE | exact pX | exact k9 _ | exact pV | exact jA _
noncomputable def cL : Ctx := mkC cLf [] false [("_law_GAPS", zdY)] [641, 660, 674]
theorem eR : CtxMono cL := bV tT (by simp)
noncomputable def knL (P : Params) : Kn := cS (aN (HK P) 753)
noncomputable def nm (n : Int) (m : Nat) : Nat := (n % (m : Int)).toNat
theorem zdR (n : Int) {m : Nat} (h : 0 < m) : n % (m : Int) = (nm n m : Int) := (Int.toNat_of_nonneg (Int.emod_nonneg _ (by omega))).symm
theorem xM (n : Int) {m : Nat} (h : 0 < m) : nm n m < m := by
 have h1 := Int.emod_lt_of_pos n (show (0 : Int) < m by omega)
 rw [zdR n h] at h1
 exact Int.ofNat_lt.mp h1
theorem kN {C : Ctx} {κ : Kn} {e : Expr} {p p' : Pos} {k : Nat} {st : St} {n : Int} (m : Nat) (hm : 0 < m) (M : CtxMono C) (h : ev C κ e st (.int n)) : ev C κ (.BinOp e .Mod (.Constant (.int (m : Int)) k p) p') st (.int (nm n m)) :=
 zdR n hm ▸ tI M h (aE rfl) (Int.ofNat_lt.mpr hm)
noncomputable def forB (P : Params) : List Stmt := match kB 9 (zcO P) with
 | .For _ _ b _ _ => b
 | _ => []
noncomputable def LB (n : Int) (k : Nat) (is : List Int) (T : List Nat) (lc : Nat × Nat) (rb at_ : Nat) : List (Str × PV) := [("n", .int n), ("kind", .int k), ("tape", .list (is.map .int)), ("text", .str T), ("place", eS lc), ("rows", .ptr rb), ("at", .int at_)]
noncomputable def LC (n : Int) (k : Nat) (is : List Int) (T : List Nat) (lc : Nat × Nat) (rb at_ : Nat) (nv : List Nat) (ub : Nat) : List (Str × PV) := ("units", .ptr ub) :: ("name", .str nv) :: LB n k is T lc rb at_
noncomputable def jZ (m : Int) : Nat := if 6 < nm m 9 then 0 else nm m 9
theorem mK (m : Int) : jZ m < 7 := by unfold jZ; split <;> omega
noncomputable def gN (k : Nat) (nv : List Nat) : Bool := !decide (k = 3) && decide (nv ∈ ([[], [45]] : List (List Nat)))
noncomputable def eB (k : Nat) (nv u : List Nat) : Bool := decide (k = 4) && (decide (nv = []) && decide (u = [101]))
noncomputable def lE (k : Nat) (nv : List Nat) (s way : Nat) : List Nat := if eB k nv (cV s way (gN k nv)) = true then lcS "\\65 " else cV s way (gN k nv)
section
variable {P : Params} {Q : Fl -> St -> Prop} {ρ : dG} {σ : Nat -> Option Cell} {n m : Int} {k : Nat} {is : List Int} {T nv : List Nat} {lc : Nat × Nat} {rb at_ ub s : Nat} {zs : List PV}
theorem zbd (hρ : dC (("m", .int m) :: LC n k is T lc rb at_ nv ub) ρ) (hσ : σ ub = some (.lst zs)) (hs : signsL[nm m 20]? = some s) (hz : zs.length < aP) (hnv : nv.length + 1 <= aP)
  (hQ : ∀ ρ', dC (LC n k is T lc rb at_ (nv ++ [s]) ub) ρ' -> Q .next ⟨ρ', aR σ ub (.lst (zs ++ [.str (lE k nv s (jZ m))]))⟩) : wSs cL (knL P) (forB P) Q ⟨ρ, σ⟩ := by
 have M := eR
 refine cF hρ ?_
 clear hρ
 have hsm : s ∈ signsL := List.mem_of_getElem? hs
 conv in (forB _) => whnf
 unfold knL
 refine aB (aJ M (.str [s]) (eA (xs := signsL.map fun c => .str [c]) (n := nm m 20) M rfl (bC (F := jB sI) M (by kernel_rfl!) rfl aH ⟨rfl, .inl rfl, rfl⟩) (kN 20 (by decide) M (by exact aA (by kernel_rfl!) (by kernel_rfl!))) (by rw [List.getElem?_map, hs]; rfl)) (by kernel_rfl) ?_)
 unfold lE at hQ
 refine aB (aJ M (.str (cV s (jZ m) (gN k nv))) (bC (F := iS) M (by kernel_rfl!) rfl (aC M (v := .str [s]) (by exact aA (by kernel_rfl!) (by kernel_rfl!)) (aC M (v := .int (jZ m)) (cK (c := decide (6 < nm m 9)) M (bQ M (tK (a := nm m 9) (b := 6) M (kN 9 (by decide) M (by exact aA (by kernel_rfl!) (by kernel_rfl!))) (aE rfl))) (fun q => ?_) (fun q => ?_)) (aC M (v := .bool (gN k nv)) (kR M (tH (a := k) (b := 3) M (by exact aA (by kernel_rfl!) (by kernel_rfl!)) (aE rfl)) fun _ => fH (bL (a := .str nv) M (by exact aA (by kernel_rfl!) (by kernel_rfl!)) (a0 M (aC M (aE rfl) (aC M (aE rfl) aH))) ⟨[[], [45]], by decide +kernel, rfl⟩)) aH))) ⟨s, jZ m, gN k nv, rfl, uL hsm, mK m, .inl rfl, rfl⟩) (by kernel_rfl) ?_)
 ·rw [jZ, if_pos (of_decide_eq_true q)]; exact aE rfl
 ·rw [jZ, if_neg (of_decide_eq_false q)]; exact kN 9 (by decide) M (by exact aA (by kernel_rfl!) (by kernel_rfl!))
 generalize cV s (jZ m) (gN k nv) = u at hQ
 refine aB (b7 M (.str (if eB k nv u = true then lcS "\\65 " else u)) (by kernel_rfl) (by kernel_rfl!) hσ (cK (c := eB k nv u) M (dJ M (bQ M (fZ (a := k) (b := 4) M (by exact aA (by kernel_rfl!) (by kernel_rfl!)) (aE rfl))) fun _ => dJ M (bQ M (pF (q := "") M (by exact aA (by kernel_rfl!) (by kernel_rfl!)))) fun _ => c6 (bQ M (pF (q := "e") M (by exact aA (by kernel_rfl!) (by kernel_rfl!))))) (fun q => ?_) (fun q => ?_)) rfl hz ?_)
 ·rw [if_pos q]; exact aE rfl
 ·rw [if_neg (by rw [q]; decide)]; exact (by exact aA (by kernel_rfl!) (by kernel_rfl!))
 refine aB (eF M (.str nv) (.str [s]) (by kernel_rfl!) (by exact aA (by kernel_rfl!) (by kernel_rfl!)) (by kernel_rfl) (of_eq oY ⟨hnv, ?_⟩))
 exact hQ _ (by (show _ = _; first | kernel_rfl! | (rw [<- Nat.add_assoc]; kernel_rfl!) | (rw [<- Nat.add_assoc, <- Nat.add_assoc]; kernel_rfl!)))
end
structure Sta (σ : Nat -> Option Cell) (rb r0 a : Nat) (fr : Rows) (T X : List Nat) (lc : Nat × Nat) (g : Bool) (E : List Ev) (us : List PV) (N M : Nat) : Prop where
 tree : Tree j3 rb σ a fr us
 stk : σ rb = some (.lst (xB a fr))
 root : mZ a fr = r0
 lay : Lay T X lc g E us (fr.map (·.2))
 tl : T.length <= N
 el : E.length <= M
 wl : wt us fr <= M
structure Rws (σ : Nat -> Option Cell) (rb r0 a : Nat) (fr : Rows) (us : List PV) : Prop where
 tree : Tree j3 rb σ a fr us
 stk : σ rb = some (.lst (xB a fr))
 root : mZ a fr = r0
noncomputable def zeO (gv : Nat) : Option Tk := if gv = 0 then none else if gv = 1 then some (.lit [44]) else if gv = 2 then some (.com []) else some (.com [10])
noncomputable def zbb (lc : Nat × Nat) (gv : Nat) : List PV := (zeO gv).casesOn [] fun t => [bN lc t]
theorem mR (s : Nat -> Option Cell) (lc : Nat × Nat) (t : Tk) : Res s (bN lc t) (bN lc t) := by
 cases t with
 | dim iv r u => cases iv <;> exact bA _ _ rfl
 | _ => exact bA _ _ rfl
section
variable {P : Params} {Q : Fl -> St -> Prop} {ρ : dG} {σ : Nat -> Option Cell} {n : Int} {k gv : Nat} {is : List Int} {T X : List Nat} {lc : Nat × Nat} {g : Bool} {E : List Ev} {us : List PV} {rb r0 at_ a N M' : Nat} {fr : Rows}
theorem Rws.top {σ : Nat -> Option Cell} (S : Rws σ rb r0 a fr us) : ∃ xs, σ a = some (.lst xs) /\ xs.length = us.length := by
 obtain ⟨xs, h1, h2⟩ := S.tree.top
 exact ⟨xs, h1, m0 h2⟩
theorem Rws.push {σ : Nat -> Option Cell} {xs : List PV} {t : PV} (S : Rws σ rb r0 a fr us) (hx : σ a = some (.lst xs)) (ht : ∀ s, Res s t t) : Rws (aR σ a (.lst (xs ++ [t]))) rb r0 a fr (us ++ [t]) :=
 ⟨S.tree.push hx ht, by rw [bK _ S.tree.ne.1]; exact S.stk, S.root⟩
theorem zad (S : Sta σ rb r0 a fr T X lc g E us N M') (hN : N <= 900) (hM : M' <= 900) (hρ : dC (("glued", .bool g) :: LB n k is T lc rb at_) ρ)
  (hQ : ∀ ρ' σ' a' fr' T' X' lc' g' E' us', Sta σ' rb r0 a' fr' T' X' lc' g' E' us' (N + 1) (M' + 1) -> dC (("glued", .bool g') :: LB n k is T' lc' rb at_) ρ' -> Q .next ⟨ρ', σ'⟩) : wS cL (knL P) (kB 2 (zcO P)) Q ⟨ρ, σ⟩ := by
 have M := eR
 refine oX hρ ?_
 clear hρ
 conv in (kB _ _) => whnf
 unfold knL
 refine bR M (decide (1 < fr.length + 1) && decide (nm n 11 < 5)) (dJ M (bQ M (tK (a := fr.length + 1) (b := 1) M (mY a fr ▸ zc3 (a := rb) M (by kernel_rfl!) rfl rfl (by kernel_rfl) (by kernel_rfl!) (by kernel_rfl!) S.stk) (aE rfl))) fun _ => c6 (bQ M (kP (a := nm n 11) (b := 5) M (kN 11 (by decide) M (by exact aA (by kernel_rfl!) (by kernel_rfl!))) (aE rfl)))) (fun h => ?_) (fun h => ?_)
 ·have h := of_decide_eq_true (Bool.and_eq_true_iff.mp h).1
  cases fr with
  | nil => exact absurd h (Nat.lt_irrefl 1)
  | cons q fr =>
   refine aB (zeC (a := rb) (v := .ptr a) (xs := xB q.1 fr) (by kernel_rfl) (by kernel_rfl!) S.stk ?_)
   have hTl : T.length + 1 <= aP := by have := S.tl; unfold aP; omega
   refine aB (eF M (.str T) (.str [41]) (by kernel_rfl!) (aE rfl) (by kernel_rfl) (of_eq oY ⟨hTl, ?_⟩))
   refine aB (aJ M (eS (adv lc (bH [41]))) (bC (F := jC) M (by kernel_rfl!) rfl (aC M (v := eS lc) (by exact aA (by kernel_rfl!) (by kernel_rfl!)) (aC M (v := .str [41]) (aE rfl) aH)) ⟨lc, [41], rfl, by decide, .inl rfl, rfl⟩) (by kernel_rfl) ?_)
   refine aB (aJ M (.bool false) (aE rfl) (by kernel_rfl) ?_)
   have hwl := S.wl
   refine hQ _ _ q.1 fr (T ++ [41]) (X ++ bH [41]) (adv lc (bH [41])) false (E ++ [(lc, .cls)]) (q.2.ts ++ [j3 q.2.lc q.2.v (.list us)]) ⟨(S.tree.cls sG).set _, aS _ _ _, S.root, S.lay.add (y := [41]) (show vW (bH [41]) .cls false from za7) rfl (fun c h => ?_) (by decide) (fun _ _ => rfl) (fun _ => Nat.succ_pos _) rfl (fun _ => rfl), ?_, ?_, ?_⟩ (by (show _ = _; first | kernel_rfl! | (rw [<- Nat.add_assoc]; kernel_rfl!) | (rw [<- Nat.add_assoc, <- Nat.add_assoc]; kernel_rfl!)))
   ·rw [List.mem_singleton.mp h]; decide
   ·rw [List.length_append]; exact Nat.succ_le_succ S.tl
   ·rw [List.length_append]; exact Nat.succ_le_succ S.el
   ·unfold wt at hwl ⊢
    rw [List.map_cons, List.sum_cons] at hwl
    rw [List.length_append]; show q.2.ts.length + 1 + _ <= _; omega
 ·exact hQ _ _ a fr T X lc g E us ⟨S.tree, S.stk, S.root, S.lay, Nat.le_succ_of_le S.tl, Nat.le_succ_of_le S.el, Nat.le_succ_of_le S.wl⟩ (by (show _ = _; first | kernel_rfl! | (rw [<- Nat.add_assoc]; kernel_rfl!) | (rw [<- Nat.add_assoc, <- Nat.add_assoc]; kernel_rfl!)))
theorem zba (gv : Nat) (h : gv < 4) : (gapsL.map PV.str)[gv]? = some (.str ((gapsL[gv]?).getD [])) := by
 have e : gapsL[gv]? = some gapsL[gv] := List.getElem?_eq_getElem h
 rw [List.getElem?_map, e]; rfl
theorem yW {κ : Kn} {st : St} {p1 p2 p3 : Pos} (h : gv < 4) (k1 : κ "_law_GAPS" = some .globalImplicit) (k2 : κ "gap" = some .local) (h1 : st.ρ "gap" = some (.int gv)) : ev cL κ (.Subscript (.Name (Str.ofString "_law_GAPS") p1) (.Name (Str.ofString "gap") p2) p3) st (.str ((gapsL[gv]?).getD [])) :=
 eA (xs := gapsL.map .str) (n := gv) eR rfl (rJ k1 rfl) (aA k2 h1) (zba gv h)
theorem w6 (x : List Nat) (h : 2 <= x.length) : slc x (some ((2 : Nat) : Int)) (some (-2)) = (x.drop 2).take (x.length - 2 - 2) := by
 unfold slc fK
 simp only [Option.map_some, Option.getD_some]
 rw [if_pos (show (-2 : Int) < 0 by decide), if_neg (show ¬ ((2 : Nat) : Int) < 0 by decide), Int.toNat_natCast, Nat.min_eq_left h, show ((-2 : Int) + (x.length : Int)).toNat = x.length - 2 by omega]
theorem zdE (S : Rws σ rb r0 a fr us) (hl : us.length <= 1000) (hg : gv < 4) (hρ : dC (("gap", .int gv) :: LB n k is T lc rb at_) ρ)
  (hQ : ∀ ρ' σ', Rws σ' rb r0 a fr (us ++ zbb lc gv) -> dC (("gap", .int gv) :: LB n k is T lc rb at_) ρ' -> Q .next ⟨ρ', σ'⟩) : wS cL (knL P) (kB 4 (zcO P)) Q ⟨ρ, σ⟩ := by
 have M := eR
 refine oX hρ ?_
 clear hρ
 conv in (kB _ _) => whnf
 unfold knL
 obtain ⟨S0, hS0⟩ := oG a fr
 obtain ⟨xs, hx, hxl⟩ := S.top
 have few : xs.length < aP := by unfold aP; omega
 have hstk : σ rb = some (.lst (S0 ++ [.ptr a])) := hS0 ▸ S.stk
 refine bR M (decide (gv = 1)) (bQ M (fZ (a := gv) (b := 1) M (by exact aA (by kernel_rfl!) (by kernel_rfl!)) (aE rfl))) (fun h => ?_) (fun h => ?_)
 ·have h := of_decide_eq_true h
  subst h
  refine aB (j7 (rb := rb) (a := a) (S := S0) M (bN lc (.lit [44])) (by kernel_rfl) (by kernel_rfl!) hstk hx (a0 M (aC M (v := .str (lcS "literal")) (aE rfl) (aC M (v := eS lc) (by exact aA (by kernel_rfl!) (by kernel_rfl!)) (aC M (v := .str [44]) (aE rfl) aH)))) rfl few ?_)
  exact hQ _ _ (S.push hx fun s => mR s lc _) (by (show _ = _; first | kernel_rfl! | (rw [<- Nat.add_assoc]; kernel_rfl!) | (rw [<- Nat.add_assoc, <- Nat.add_assoc]; kernel_rfl!)))
 have h1 := of_decide_eq_false h
 refine aB (bR M (decide (1 < gv)) (bQ M (tK (a := gv) (b := 1) M (by exact aA (by kernel_rfl!) (by kernel_rfl!)) (aE rfl))) (fun h => ?_) (fun h => ?_))
 ·have h := of_decide_eq_true h
  obtain ⟨v, hv, hg2⟩ : ∃ v, slc ((gapsL[gv]?).getD []) (some ((2 : Nat) : Int)) (some (-2)) = v /\ zbb lc gv = [bN lc (.com v)] := by
   have : gv = 2 \/ gv = 3 := by omega
   rcases this with rfl | rfl
   ·exact ⟨[], w6 _ (by decide), rfl⟩
   ·exact ⟨[10], w6 _ (by decide), rfl⟩
  rw [hg2] at hQ
  refine aB (j7 (rb := rb) (a := a) (S := S0) M (bN lc (.com v)) (by kernel_rfl) (by kernel_rfl!) hstk hx (a0 M (aC M (v := .str (lcS "comment")) (aE rfl) (aC M (v := eS lc) (by exact aA (by kernel_rfl!) (by kernel_rfl!)) (aC M (v := .str v) (hv ▸ kM M (yW hg (by kernel_rfl!) (by kernel_rfl!) (by kernel_rfl!)) (aE rfl) (l8 (i := 2) M (aE rfl)) (by decide)) aH)))) rfl few ?_)
  exact hQ _ _ (S.push hx fun s => mR s lc _) (by (show _ = _; first | kernel_rfl! | (rw [<- Nat.add_assoc]; kernel_rfl!) | (rw [<- Nat.add_assoc, <- Nat.add_assoc]; kernel_rfl!)))
 ·have h0 : gv = 0 := by have := of_decide_eq_false h; omega
  subst h0
  rw [show zbb lc 0 = [] from rfl, List.append_nil] at hQ
  exact hQ _ _ S (by (show _ = _; first | kernel_rfl! | (rw [<- Nat.add_assoc]; kernel_rfl!) | (rw [<- Nat.add_assoc, <- Nat.add_assoc]; kernel_rfl!)))
end
theorem zcm {σ σ' : Nat -> Option Cell} {rb r0 a gv : Nat} {fr : Rows} {T X : List Nat} {lc : Nat × Nat} {g : Bool} {E : List Ev} {us : List PV} {N M : Nat} (S : Sta σ rb r0 a fr T X lc g E us N M) (hg : gv < 4) (R : Rws σ' rb r0 a fr (us ++ zbb lc gv)) :
  ∃ E', Sta σ' rb r0 a fr (T ++ (gapsL[gv]?).getD []) (X ++ bH ((gapsL[gv]?).getD [])) (adv lc (bH ((gapsL[gv]?).getD []))) (g && decide (gv = 0)) E' (us ++ zbb lc gv) (N + 5) (M + 1) := by
 have tl := S.tl
 have el := S.el
 have wl := S.wl
 have step : ∀ (y : List Nat) (t : Tk) (h : gapsL[gv]? = some y) (hU : zbb lc gv = [bN lc t]) (hG : vW (bH y) (.tok t) false) (hc : vN y = true) (ha : Al (bH y)) (hz : 0 ∉ y) (hs : ∀ rest, qE (bH y ++ rest) = true) (hl : y.length <= 5) (h0 : gv ≠ 0),
   ∃ E', Sta σ' rb r0 a fr (T ++ (gapsL[gv]?).getD []) (X ++ bH ((gapsL[gv]?).getD [])) (adv lc (bH ((gapsL[gv]?).getD []))) (g && decide (gv = 0)) E' (us ++ zbb lc gv) (N + 5) (M + 1) := by
  intro y t h hU hG hc ha hz hs hl h0
  rw [h, Option.getD_some, decide_eq_false h0, Bool.and_false, hU]
  rw [hU] at R
  refine ⟨E ++ [(lc, .tok t)], R.tree, R.stk, R.root, S.lay.add hG hc ha hz (fun _ => hs) (fun e => by cases e) rfl (fun _ => rfl), ?_, ?_, ?_⟩
  ·rw [List.length_append]; omega
  ·rw [List.length_append]; exact Nat.succ_le_succ el
  ·unfold wt at wl ⊢
   rw [List.length_append]; show us.length + 1 + _ <= _; omega
 have : gv = 0 \/ gv = 1 \/ gv = 2 \/ gv = 3 := by omega
 rcases this with rfl | rfl | rfl | rfl
 ·rw [show zbb lc 0 = [] from rfl, List.append_nil] at R ⊢
  refine ⟨E, R.tree, R.stk, R.root, ?_, ?_, Nat.le_succ_of_le el, Nat.le_succ_of_le wl⟩
  ·show Lay (T ++ []) (X ++ []) lc (g && true) E us _
   rw [List.append_nil, List.append_nil, Bool.and_true]; exact S.lay
  ·show (T ++ []).length <= _
   rw [List.append_nil]; omega
 ·exact step [44] (.lit [44]) rfl rfl vG rfl (by decide +kernel) (by decide) (fun _ => rfl) (by decide) (by decide)
 ·exact step [47, 42, 42, 47] (.com []) rfl rfl yL rfl (by decide +kernel) (by decide) (fun _ => rfl) (by decide) (by decide)
 ·exact step [47, 42, 10, 42, 47] (.com [10]) rfl rfl yK rfl (by decide +kernel) (by decide) (fun _ => rfl) (by decide) (by decide)
noncomputable def vU (k : Nat) (nv : List Nat) (e : List Nat × Option Int) (uu : List (List Nat)) : Act :=
 if k = 0 then .tok (.ident nv) else if k = 1 then .opn nv else if k = 2 then .tok (.atk nv) else if k = 3 then .tok (.hash nv (c9 uu)) else .tok (.dim e.2 e.1 nv)
noncomputable def zcA (k : Nat) (e : List Nat × Option Int) : List Nat := if k = 0 then [] else if k = 1 then [] else if k = 2 then [64] else if k = 3 then [35] else e.1
theorem sP : ∀ e ∈ numsL, bH e.1 = e.1 /\ vN e.1 = true /\ Al e.1 /\ 0 ∉ e.1 /\ e.1.length <= 4 := by decide +kernel
theorem yD {k : Nat} {nv : List Nat} {e : List Nat × Option Int} {uu : List (List Nat)} (he : e ∈ numsL) (h : UO uu nv) (hn : uu ≠ []) (h1 : k ≠ 3 -> c9 uu = true) (h2 : k = 4 -> ∀ u, uu.head? = some u -> u.headD 0 ≠ 101) (hk : k < 5) :
  ∃ w, (if k = 1 then zcA k e ++ uu.flatten ++ [40] else zcA k e ++ uu.flatten) = w /\ vW (bH w) (vU k nv e uu) (!decide (k = 1)) /\ vN w = true /\ Al (bH w) /\ 0 ∉ w /\ w.length <= 9 * uu.length + 5 /\ (k = 2 \/ k = 3 -> ∀ rest, qE (bH w ++ rest) = true) := by
 obtain ⟨t1, t2, t3, t4, _, _⟩ := h.text
 have : k = 0 \/ k = 1 \/ k = 2 \/ k = 3 \/ k = 4 := by omega
 have alc : ∀ {c x}, fL c = true -> Al x -> Al (c :: x) := fun hc hx d hd => (List.mem_cons.mp hd).elim (fun e => e ▸ hc) (hx d)
 rcases this with rfl | rfl | rfl | rfl | rfl
 ·exact ⟨uu.flatten, rfl, vF h hn (h1 (by decide)), t1, t2, t3, Nat.le_trans t4 (Nat.le_add_right _ _), fun q => by omega⟩
 ·refine ⟨uu.flatten ++ [40], rfl, ?_, iL t1 rfl, ?_, ?_, ?_, fun q => by omega⟩
  ·rw [cY]; exact zcT h hn (h1 (by decide))
  ·rw [cY]
   exact fun c hc => (List.mem_append.mp hc).elim (t2 c) fun hc => by rw [List.mem_singleton.mp hc]; decide
  ·exact fun hc => (List.mem_append.mp hc).elim t3 (by decide)
  ·rw [List.length_append]; show _ + 1 <= _; omega
 ·exact ⟨64 :: uu.flatten, rfl, zcU h hn (h1 (by decide)), t1, alc (by decide) t2, fun hc => (List.mem_cons.mp hc).elim (by decide) t3, by rw [List.length_cons]; omega, fun _ _ => rfl⟩
 ·exact ⟨35 :: uu.flatten, rfl, yJ h hn, t1, alc (by decide) t2, fun hc => (List.mem_cons.mp hc).elim (by decide) t3, by rw [List.length_cons]; omega, fun _ _ => rfl⟩
 ·obtain ⟨n1, n2, n3, n4, n5⟩ := sP e he
  have hm : bH (e.1 ++ uu.flatten) = e.1 ++ bH uu.flatten := by rw [cY, n1]
  refine ⟨e.1 ++ uu.flatten, rfl, ?_, iL n2 t1, ?_, ?_, ?_, fun q => by omega⟩
  ·rw [hm]; exact za6 he h hn (h1 (by decide)) (h2 rfl)
  ·rw [hm]; exact fun c hc => (List.mem_append.mp hc).elim (n3 c) (t2 c)
  ·exact fun hc => (List.mem_append.mp hc).elim n4 t3
  ·rw [List.length_append]; omega
theorem zce {k : Nat} {nv : List Nat} {s way : Nat} (hs : s ∈ signsL) (hw : way < 7) : zb5 (lE k nv s way) s = true := by
 have h := (j4 (gN k nv) hs hw).1
 unfold lE
 split
 ·rename_i q
  unfold eB at q
  simp only [Bool.and_eq_true, decide_eq_true_eq] at q
  rw [q.2.2] at h
  obtain ⟨c, t, hu⟩ := dP h
  obtain ⟨h1, h2⟩ := List.cons.inj hu.eq
  have h3 := hu.uc
  rw [hu.md, <- h1, <- h2] at h3
  have h3 : (decide (([] : List Nat) = []) && (decide (101 = s) && bU 101)) = true := h3
  rw [<- of_decide_eq_true (Bool.and_eq_true_iff.mp (Bool.and_eq_true_iff.mp h3).2).1]
  exact e_chk.1
 ·exact h
theorem zbf {k dk s way : Nat} (hs : s ∈ signsL) (hw : way < 7) : (k ≠ 3 -> dk < 2 -> zdl (lE k (List.replicate dk 45) s way) = true) /\ (k = 4 -> dk = 0 -> (lE k (List.replicate dk 45) s way).headD 0 ≠ 101) := by
 obtain ⟨h1, h2⟩ := j4 (gN k (List.replicate dk 45)) hs hw
 refine ⟨fun hk hd => ?_, fun hk hd => ?_⟩
 ·have hf : gN k (List.replicate dk 45) = true := by
   unfold gN
   rw [decide_eq_false hk]
   have : dk = 0 \/ dk = 1 := by omega
   rcases this with rfl | rfl <;> rfl
  unfold lE
  split
  ·exact e_chk.2
  ·exact h2 hf
 ·subst hk hd
  unfold lE
  split
  ·decide +kernel
  ·rename_i q
   obtain ⟨c, t, hu⟩ := dP h1
   intro e
   refine q ?_
   rw [hu.eq] at e ⊢
   have e : c = 101 := e
   rw [e, hu.e101 e]; rfl
theorem u8 {k dk : Nat} {ws : List (List Nat)} {v : List Nat} {w0 : List Nat} (h : UO ws v) (hd : dk < 3) (hw : ws.head? = some w0) (c1 : k ≠ 3 -> dk < 2 -> zdl w0 = true) (c2 : k = 4 -> dk = 0 -> w0.headD 0 ≠ 101) :
  UO (List.replicate dk [45] ++ ws) (List.replicate dk 45 ++ v) /\ List.replicate dk [45] ++ ws ≠ [] /\ (k ≠ 3 -> c9 (List.replicate dk [45] ++ ws) = true) /\ (k = 4 -> ∀ u, (List.replicate dk [45] ++ ws).head? = some u -> u.headD 0 ≠ 101) := by
 have dash : zb5 [45] 45 = true := by decide +kernel
 cases ws with
 | nil => cases hw
 | cons w r =>
  cases hw
  have : dk = 0 \/ dk = 1 \/ dk = 2 := by omega
  rcases this with rfl | rfl | rfl
  ·refine ⟨h, fun e => (by cases e), fun hk => ?_, fun hk u hu => by cases hu; exact c2 hk rfl⟩
   have hb := c1 hk (by decide)
   show (if decide (w0 = lcS "-") = true then _ else decide (w0.headD 0 = 92) || c8 (w0.headD 0)) = true
   rw [if_neg]
   ·exact hb
   ·intro q
    rw [of_decide_eq_true q] at hb
    exact absurd hb (by decide +kernel)
  ·refine ⟨⟨45, v, rfl, dash, h⟩, fun e => (by cases e), fun hk => ?_, fun hk u hu => by cases hu; decide⟩
   have hb := c1 hk (by decide)
   show (if decide ([45] = lcS "-") = true then iQ w0 else decide (([45] : List Nat).headD 0 = 92) || c8 (([45] : List Nat).headD 0)) = true
   rw [if_pos (by decide +kernel)]
   unfold iQ
   rw [sV]
   unfold zdl at hb
   rw [Bool.or_assoc, hb, Bool.or_true]
  ·refine ⟨⟨45, 45 :: v, rfl, dash, 45, v, rfl, dash, h⟩, fun e => (by cases e), fun hk => ?_, fun hk u hu => by cases hu; decide⟩
   show (if decide ([45] = lcS "-") = true then iQ [45] else decide (([45] : List Nat).headD 0 = 92) || c8 (([45] : List Nat).headD 0)) = true
   rw [if_pos (by decide +kernel)]
   decide +kernel
theorem y2 {σ : Nat -> Option Cell} {a : Nat} {xs : List PV} (h : σ a = some (.lst xs)) : der σ (.ptr a) = .list xs := by
 show Option.casesOn (motive := fun _ => PV) (dS (σ a)) (.ptr a) .list = _
 rw [h]; rfl
noncomputable def LD (n : Int) (k : Nat) (is : List Int) (T : List Nat) (lc : Nat × Nat) (rb at_ : Nat) (nv : List Nat) (ub : Nat) (e : List Nat × Option Int) (w : List Nat) : List (Str × PV) := ("lowered", .str (nv.map bW)) :: ("number", .str e.1) :: ("whole", nX e.2) :: ("written", .str w) :: LC n k is T lc rb at_ nv ub
section
variable {P : Params} {Q : Fl -> St -> Prop} {ρ : dG} {σ : Nat -> Option Cell} {n : Int} {k : Nat} {is : List Int} {T nv w : List Nat} {lc : Nat × Nat} {us : List PV} {rb r0 at_ a ub : Nat} {fr : Rows} {e : List Nat × Option Int} {uu : List (List Nat)}
theorem zcn (S : Rws σ rb r0 a fr us) (hl : us.length <= 1000) (hfl : fr.length <= 1000) (hk : k < 5) (hu : UO uu nv) (hn : uu ≠ []) (hul : uu.length <= 1000) (hub : σ ub = some (.lst (uu.map .str))) (hwl : w.length <= 1000) (hρ : dC (LD n k is T lc rb at_ nv ub e w) ρ)
  (hQ : ∀ ρ' σ' a' fr' us', Rws σ' rb r0 a' fr' us' -> (∀ K, zdw bN j3 lc us (fr.map (·.2)) K (vU k nv e uu) = K us' (fr'.map (·.2))) -> (fr'.map (·.2)).length = (vU k nv e uu).deep (fr.map (·.2)).length -> wt us' fr' <= wt us fr + 1 -> dC (("written", .str (if k = 1 then w ++ [40] else w)) :: LB n k is T lc rb at_) ρ' -> Q .next ⟨ρ', σ'⟩) :
  wS cL (knL P) (kB 14 (zcO P)) Q ⟨ρ, σ⟩ := by
 have M := eR
 refine oX hρ ?_
 clear hρ
 conv in (kB _ _) => whnf
 unfold knL
 obtain ⟨S0, hS0⟩ := oG a fr
 obtain ⟨xs, hx, hxl⟩ := S.top
 have few : xs.length < aP := by unfold aP; omega
 have hstk : σ rb = some (.lst (S0 ++ [.ptr a])) := hS0 ▸ S.stk
 have fin : ∀ (t : Tk) (ρ' : dG), vU k nv e uu = .tok t -> dC (("written", .str (if k = 1 then w ++ [40] else w)) :: LB n k is T lc rb at_) ρ' -> Q .next ⟨ρ', aR σ a (.lst (xs ++ [bN lc t]))⟩ := fun t ρ' ht h => by
  refine hQ ρ' _ a fr (us ++ [bN lc t]) (S.push hx fun s => mR s lc t) (fun K => by rw [ht]; rfl) (by rw [ht]; rfl) ?_ h
  unfold wt
  rw [List.length_append]; show us.length + 1 + _ <= _; omega
 refine bR M (decide (k = 0)) (bQ M (fZ (a := k) (b := 0) M (by exact aA (by kernel_rfl!) (by kernel_rfl!)) (aE rfl))) (fun h => ?_) (fun h => ?_)
 ·have h := of_decide_eq_true h
  subst h
  refine aB (j7 (rb := rb) (a := a) (S := S0) M (bN lc (.ident nv)) (by kernel_rfl) (by kernel_rfl!) hstk hx (a0 M (aC M (v := .str (lcS "ident")) (aE rfl) (aC M (v := eS lc) (by exact aA (by kernel_rfl!) (by kernel_rfl!)) (aC M (v := .str nv) (by exact aA (by kernel_rfl!) (by kernel_rfl!)) (aC M (v := .str (nv.map bW)) (by exact aA (by kernel_rfl!) (by kernel_rfl!)) aH))))) rfl few ?_)
  exact fin (.ident nv) _ rfl (by (show _ = _; first | kernel_rfl! | (rw [<- Nat.add_assoc]; kernel_rfl!) | (rw [<- Nat.add_assoc, <- Nat.add_assoc]; kernel_rfl!)))
 have k0 := of_decide_eq_false h
 refine aB (bR M (decide (k = 1)) (bQ M (fZ (a := k) (b := 1) M (by exact aA (by kernel_rfl!) (by kernel_rfl!)) (aE rfl))) (fun h => ?_) (fun h => ?_))
 ·have h := of_decide_eq_true h
  subst h
  have hwl2 : w.length + 1 <= aP := by unfold aP; omega
  refine aB (eF M (.str w) (.str [40]) (by kernel_rfl!) (aE rfl) (by kernel_rfl) (of_eq oY ⟨hwl2, ?_⟩))
  refine aB (oF (by kernel_rfl) (by kernel_rfl) fun ib hib => ?_)
  have hib : σ ib = none := hib
  have ba : a ≠ ib := fun e => by rw [<- e, hx] at hib; cases hib
  have br : rb ≠ ib := fun e => by have := S.stk; rw [e, hib] at this; cases this
  refine aB (j7 (rb := rb) (a := a) (S := S0) (xs := xs) M (j3 lc nv (.ptr ib)) (by kernel_rfl) (by kernel_rfl!) (by dsimp only; rw [bK _ br]; exact hstk) (by dsimp only; rw [bK _ ba]; exact hx) (a0 M (aC M (v := .str (lcS "function")) (aE rfl) (aC M (v := eS lc) (by exact aA (by kernel_rfl!) (by kernel_rfl!)) (aC M (v := .str nv) (by exact aA (by kernel_rfl!) (by kernel_rfl!)) (aC M (v := .str (nv.map bW)) (by exact aA (by kernel_rfl!) (by kernel_rfl!)) (aC M (v := .ptr ib) (by exact aA (by kernel_rfl!) (by kernel_rfl!)) aH)))))) rfl few ?_)
  refine aB (b7 (a := rb) (xs := xB a fr) M (.ptr ib) (by kernel_rfl) (by kernel_rfl!) (by dsimp only; rw [bK _ S.tree.ne.1, bK _ br]; exact S.stk) (by exact aA (by kernel_rfl!) (by kernel_rfl!)) rfl (by rw [mY]; unfold aP; omega) ?_)
  refine hQ _ _ ib ((a, ⟨us, lc, nv⟩) :: fr) [] ⟨(S.tree.opn hx hib).set _, aS _ _ _, S.root⟩ (fun K => rfl) rfl ?_ (by (show _ = _; first | kernel_rfl! | (rw [<- Nat.add_assoc]; kernel_rfl!) | (rw [<- Nat.add_assoc, <- Nat.add_assoc]; kernel_rfl!)))
  unfold wt
  rw [List.map_cons, List.sum_cons]; show 0 + (us.length + 1 + _) <= _; omega
 have k1 := of_decide_eq_false h
 refine aB (bR M (decide (k = 2)) (bQ M (fZ (a := k) (b := 2) M (by exact aA (by kernel_rfl!) (by kernel_rfl!)) (aE rfl))) (fun h => ?_) (fun h => ?_))
 ·have h := of_decide_eq_true h
  subst h
  refine aB (j7 (rb := rb) (a := a) (S := S0) M (bN lc (.atk nv)) (by kernel_rfl) (by kernel_rfl!) hstk hx (a0 M (aC M (v := .str (lcS "at-keyword")) (aE rfl) (aC M (v := eS lc) (by exact aA (by kernel_rfl!) (by kernel_rfl!)) (aC M (v := .str nv) (by exact aA (by kernel_rfl!) (by kernel_rfl!)) (aC M (v := .str (nv.map bW)) (by exact aA (by kernel_rfl!) (by kernel_rfl!)) aH))))) rfl few ?_)
  exact fin (.atk nv) _ rfl (by (show _ = _; first | kernel_rfl! | (rw [<- Nat.add_assoc]; kernel_rfl!) | (rw [<- Nat.add_assoc, <- Nat.add_assoc]; kernel_rfl!)))
 have k2 := of_decide_eq_false h
 refine aB (bR M (decide (k = 3)) (bQ M (fZ (a := k) (b := 3) M (by exact aA (by kernel_rfl!) (by kernel_rfl!)) (aE rfl))) (fun h => ?_) (fun h => ?_))
 ·have h := of_decide_eq_true h
  subst h
  have hcall : cQ ([PV.ptr ub].map (der σ)) fun r => (([PV.ptr ub].any rD = false) \/ j6 r = true) /\ r = .bool (c9 uu) := by
   show cQ [der σ (.ptr ub)] _
   rw [y2 hub]
   exact ⟨uu, rfl, hn, hu.text.2.2.2.2.1, hul, .inr rfl, rfl⟩
  refine aB (j7 (rb := rb) (a := a) (S := S0) M (bN lc (.hash nv (c9 uu))) (by kernel_rfl) (by kernel_rfl!) hstk hx (a0 M (aC M (v := .str (lcS "hash")) (aE rfl) (aC M (v := eS lc) (by exact aA (by kernel_rfl!) (by kernel_rfl!)) (aC M (v := .str nv) (by exact aA (by kernel_rfl!) (by kernel_rfl!)) (aC M (v := .str (pZ (c9 uu))) (cK (c := c9 uu) M (bQ M (bC (F := cQ) M (by kernel_rfl!) rfl (aC M (v := .ptr ub) (by exact aA (by kernel_rfl!) (by kernel_rfl!)) aH) hcall)) (fun q => ?_) (fun q => ?_)) aH))))) rfl few ?_)
  ·rw [q]; exact aE rfl
  ·rw [q]; exact aE rfl
  exact fin (.hash nv (c9 uu)) _ rfl (by (show _ = _; first | kernel_rfl! | (rw [<- Nat.add_assoc]; kernel_rfl!) | (rw [<- Nat.add_assoc, <- Nat.add_assoc]; kernel_rfl!)))
 have k4 : k = 4 := by have := of_decide_eq_false h; omega
 subst k4
 refine aB (j7 (rb := rb) (a := a) (S := S0) M (bN lc (.dim e.2 e.1 nv)) (by kernel_rfl) (by kernel_rfl!) hstk hx (a0 M (aC M (v := .str (lcS "dimension")) (aE rfl) (aC M (v := eS lc) (by exact aA (by kernel_rfl!) (by kernel_rfl!)) (aC M (v := .str nv) (by exact aA (by kernel_rfl!) (by kernel_rfl!)) (aC M (v := .str (nv.map bW)) (by exact aA (by kernel_rfl!) (by kernel_rfl!)) (aC M (v := nX e.2) (by exact aA (by kernel_rfl!) (by kernel_rfl!)) (aC M (v := .str e.1) (by exact aA (by kernel_rfl!) (by kernel_rfl!)) aH))))))) rfl few ?_)
 exact fin (.dim e.2 e.1 nv) _ rfl (by (show _ = _; first | kernel_rfl! | (rw [<- Nat.add_assoc]; kernel_rfl!) | (rw [<- Nat.add_assoc, <- Nat.add_assoc]; kernel_rfl!)))
end
theorem zay {α : Type} (x : List α) (i j : Nat) (h : i <= j) : slc x (some (i : Int)) (some (j : Int)) = (x.drop i).take (j - i) := by
 unfold slc fK
 simp only [Option.map_some, Option.getD_some]
 rw [if_neg (by omega), if_neg (by omega)]
 simp only [Int.toNat_natCast]
 by_cases h1 : i <= x.length
 ·rw [Nat.min_eq_left h1]
  by_cases h2 : j <= x.length
  ·rw [Nat.min_eq_left h2]
  ·rw [Nat.min_eq_right (by omega)]
   rw [List.take_of_length_le (by simp), List.take_of_length_le (by simp; omega)]
 ·rw [show min i x.length = x.length from Nat.min_eq_right (by omega), List.drop_of_length_le (Nat.le_refl _), List.drop_of_length_le (by omega)]; simp
theorem zc0 {C : Ctx} {κ : Kn} {o l u : Expr} {p q : Pos} {st : St} {x : List PV} {i j : Nat} (M : CtxMono C) (h : ev C κ o st (.list x)) (hl : ev C κ l st (.int i)) (hu : ev C κ u st (.int j)) (hij : i <= j) (hj : j < 2000000) :
  ev C κ (.Subscript o (.Slice (some l) (some u) none q) p) st (.list ((x.drop i).take (j - i))) :=
 zay x i j hij ▸ aO (e := o) M h ⟨rfl, aO (e := l) M hl ⟨zdq i, v0 (Nat.lt_of_le_of_lt hij hj), aO (e := u) M hu ⟨zdq j, v0 hj, rfl, rfl⟩⟩⟩
noncomputable def zaM (is : List Int) (n : Int) (at_ : Nat) : List Int := if ((is.drop (at_ + 1)).take (1 + nm n 3)).isEmpty = true then [n] else (is.drop (at_ + 1)).take (1 + nm n 3)
theorem sU (is : List Int) (n : Int) (at_ : Nat) : 0 < (zaM is n at_).length /\ (zaM is n at_).length <= 1 + nm n 3 := by
 unfold zaM
 split
 ·exact ⟨Nat.one_pos, Nat.le_add_right _ _⟩
 ·rename_i h
  refine ⟨List.length_pos_iff.mpr fun e => h (by rw [e]; rfl), ?_⟩
  rw [List.length_take]; exact Nat.min_le_left _ _
theorem zaL (is : List Int) (n : Int) (at_ : Nat) : (if (((is.map PV.int).drop (at_ + 1)).take (1 + nm n 3)).isEmpty = true then [PV.int n] else ((is.map PV.int).drop (at_ + 1)).take (1 + nm n 3)) = (zaM is n at_).map PV.int := by
 unfold zaM
 rw [<- List.map_drop, <- List.map_take, List.isEmpty_map]
 split <;> rfl
theorem zcz {k : Nat} (hk : k < 5) (e : List Nat × Option Int) : [PV.str [], .str [], .str [64], .str [35], .str e.1][k]? = some (.str (zcA k e)) := by
 have : k = 0 \/ k = 1 \/ k = 2 \/ k = 3 \/ k = 4 := by omega
 rcases this with rfl | rfl | rfl | rfl | rfl <;> rfl
theorem zaR {s : Nat} (h : s ∈ signsL) : ((lowerD.lookup [s]).map PV.str).getD (.str [s]) = .str [bW s] := by
 have h1 := (oS h).1
 cases hl : lowerD.lookup [s] with
 | none => rw [hl] at h1; exact congrArg PV.str h1
 | some y => rw [hl] at h1; exact congrArg PV.str h1
noncomputable def ForI (n : Int) (k : Nat) (is : List Int) (T : List Nat) (lc : Nat × Nat) (rb at_ dk ub : Nat) (σ0 : Nat -> Option Cell) (i : Nat) (st : St) : Prop :=
 ∃ (ws : List (List Nat)) (v : List Nat), dC (LC n k is T lc rb at_ (List.replicate dk 45 ++ v) ub) st.ρ /\ st.σ = aR σ0 ub (.lst ((List.replicate dk [45] ++ ws).map .str)) /\ UO ws v /\ ws.length = i /\
  (0 < i -> ∃ w0, ws.head? = some w0 /\ (k ≠ 3 -> dk < 2 -> zdl w0 = true) /\ (k = 4 -> dk = 0 -> w0.headD 0 ≠ 101))
section
variable {P : Params} {Q : Fl -> St -> Prop} {ρ : dG} {σ σ0 : Nat -> Option Cell} {n : Int} {k : Nat} {is : List Int} {T : List Nat} {lc : Nat × Nat} {rb at_ ub dk : Nat}
theorem zdF (hat : at_ <= 100) (hk : dk < 3) (hub : σ0 ub = none) (hρ : dC (LC n k is T lc rb at_ (List.replicate dk 45) ub) ρ) (hσ : σ = aR σ0 ub (.lst ((List.replicate dk [45]).map .str)))
  (hQ : ∀ st, ForI n k is T lc rb at_ dk ub σ0 (zaM is n at_).length st -> Q .next st) : wS cL (knL P) (kB 9 (zcO P)) Q ⟨ρ, σ⟩ := by
 have M := eR
 refine oX hρ ?_
 clear hρ
 obtain ⟨m1, m2⟩ := sU is n at_
 have hn3 := xM n (show 0 < 3 by decide)
 have hfb := fun {Q' : Fl -> St -> Prop} {ρ : dG} {σ : Nat -> Option Cell} {m : Int} {nv : List Nat} {s : Nat} {zs : List PV} => @zbd P Q' ρ σ n m k is T nv lc rb at_ ub s zs
 conv in (kB _ _) => whnf
 unfold knL at *
 refine zcw M (.list ((zaM is n at_).map .int)) ((zaM is n at_).map .int) rfl (by rw [List.length_map]; unfold aP; omega) (by kernel_rfl) ?_ (ForI n k is T lc rb at_ dk ub σ0) (fun i hi st hI => ?_) (fun st hI => ?_) ⟨[], [], by rw [List.append_nil]; (show _ = _; first | kernel_rfl! | (rw [<- Nat.add_assoc]; kernel_rfl!) | (rw [<- Nat.add_assoc, <- Nat.add_assoc]; kernel_rfl!)), by rw [List.append_nil]; exact hσ, rfl, rfl, fun h => absurd h (Nat.lt_irrefl 0)⟩
 ·rw [<- zaL, show ((is.map PV.int).drop (at_ + 1)).take (1 + nm n 3) = ((is.map PV.int).drop (at_ + 1)).take (at_ + 2 + nm n 3 - (at_ + 1)) by rw [show at_ + 2 + nm n 3 - (at_ + 1) = 1 + nm n 3 by omega]]
  exact zd2 M (zc0 (i := at_ + 1) (j := at_ + 2 + nm n 3) M (by exact aA (by kernel_rfl!) (by kernel_rfl!)) (cZ (i := at_) (j := 1) M (by exact aA (by kernel_rfl!) (by kernel_rfl!)) (aE rfl)) (cZ (i := (at_ + 2 : Nat)) (j := nm n 3) M (cZ (i := at_) (j := 2) M (by exact aA (by kernel_rfl!) (by kernel_rfl!)) (aE rfl)) (kN 3 (by decide) M (by exact aA (by kernel_rfl!) (by kernel_rfl!)))) (by omega) (by omega)) (i0 M rfl (aC M (by exact aA (by kernel_rfl!) (by kernel_rfl!)) aH))
 ·obtain ⟨ρ1, σ1⟩ := st
  obtain ⟨ws, v, h1, h2, h3, h4, h5⟩ := hI
  have h2 : σ1 = _ := h2
  rw [List.length_map] at hi
  rw [List.getElem_map]
  generalize (zaM is n at_)[i] = m
  have hm20 : nm m 20 < signsL.length := xM m (by decide)
  have hs : signsL[nm m 20]? = some signsL[nm m 20] := List.getElem?_eq_getElem hm20
  have hsm : signsL[nm m 20] ∈ signsL := List.getElem_mem hm20
  have hvl := h3.len
  generalize signsL[nm m 20] = s at hs hsm
  refine ⟨_, rfl, hfb (nv := List.replicate dk 45 ++ v) (zs := (List.replicate dk [45] ++ ws).map .str) (s := s) ?_ (by rw [h2]; exact aS _ _ _) hs ?_ ?_ fun ρ' hρ' => ⟨ws ++ [lE k (List.replicate dk 45 ++ v) s (jZ m)], v ++ [s], ?_, ?_, h3.app (zce hsm (mK m)), ?_, fun _ => ?_⟩⟩
  ·rw [show ρ1 = bG _ ρ1 from bI _ h1]; (show _ = _; first | kernel_rfl! | (rw [<- Nat.add_assoc]; kernel_rfl!) | (rw [<- Nat.add_assoc, <- Nat.add_assoc]; kernel_rfl!))
  ·rw [List.length_map, List.length_append, List.length_replicate]; unfold aP; omega
  ·rw [List.length_append, List.length_replicate]; unfold aP; omega
  ·rw [<- List.append_assoc]; exact hρ'
  ·show aR σ1 ub _ = _
   rw [h2, v8, <- List.append_assoc, List.map_append (l₂ := [lE k (List.replicate dk 45 ++ v) s (jZ m)])]; rfl
  ·rw [List.length_append, h4]; rfl
  ·cases ws with
   | nil =>
    have hv : v = [] := h3
    subst hv
    rw [List.append_nil]
    exact ⟨_, rfl, zbf hsm (mK m)⟩
   | cons w r =>
    obtain ⟨w0, g1, g2⟩ := h5 (by rw [<- h4]; exact Nat.succ_pos _)
    exact ⟨w0, g1, g2⟩
 ·rw [List.length_map] at hI
  exact hQ st hI
end
noncomputable def L0 (is : List Int) (T : List Nat) (lc : Nat × Nat) (rb at_ : Nat) (g : Bool) : List (Str × PV) := [("tape", .list (is.map .int)), ("text", .str T), ("place", eS lc), ("rows", .ptr rb), ("at", .int at_), ("glued", .bool g)]
noncomputable def o9 (n : Int) (k : Nat) (g : Bool) : Nat := if (decide (nm n 4 = 0) && (g && (!decide (k = 2) && !decide (k = 3)))) = true then 1 else nm n 4
theorem zbc (n : Int) (k : Nat) (g : Bool) : o9 n k g < 4 := by
 have := xM n (show 0 < 4 by decide)
 unfold o9; split <;> omega
theorem vH {n : Int} {k : Nat} {g : Bool} (h : (g && decide (o9 n k g = 0)) = true) : k = 2 \/ k = 3 := by
 obtain ⟨h1, h2⟩ := Bool.and_eq_true_iff.mp h
 have h2 := of_decide_eq_true h2
 by_cases e2 : k = 2
 ·exact .inl e2
 by_cases e3 : k = 3
 ·exact .inr e3
 unfold o9 at h2
 rw [h1, decide_eq_false e2, decide_eq_false e3] at h2
 by_cases e : nm n 4 = 0
 ·rw [decide_eq_true e] at h2
  have h2 : (1 : Nat) = 0 := h2
  cases h2
 ·rw [decide_eq_false e] at h2
  exact absurd h2 e
theorem q1 {a : Nat} (h : a <= 20) : 20 * a <= 900 := Nat.le_trans (Nat.mul_le_mul_left 20 h) (by decide)
theorem q2 {a : Nat} (h : a <= 20) : 2 * a <= 900 := Nat.le_trans (Nat.mul_le_mul_left 2 h) (by decide)
theorem q3 {u s a : Nat} (h : u + s <= 2 * a + 1) (k : a <= 20) : u <= 1000 := Nat.le_trans (Nat.le_add_right u s) (Nat.le_trans h (Nat.le_trans (Nat.succ_le_succ (Nat.mul_le_mul_left 2 k)) (by decide)))
theorem q3' {u s a : Nat} (h : u + s <= 2 * a + 1 + 1) (k : a <= 20) : u <= 1000 := Nat.le_trans (Nat.le_add_right u s) (Nat.le_trans h (Nat.le_trans (Nat.succ_le_succ (Nat.succ_le_succ (Nat.mul_le_mul_left 2 k))) (by decide)))
theorem q4 {t g a : Nat} (h : t + g <= 20 * a + 1 + 5) (k : a <= 20) : t + g <= aP := Nat.le_trans h (Nat.le_trans (Nat.add_le_add_right (Nat.mul_le_mul_left 20 k) 6) (by decide))
theorem q6 {w u n dk : Nat} (h : w = u) (h2 : u <= 1 + n) (h3 : dk < 3) : dk + w <= 3 + n := by omega
theorem q7 {u n : Nat} (h : u <= 3 + n) (k : n < 3) : u <= 5 := by omega
theorem q8 {u f p n : Nat} (h : u <= 3 + n) (k : n < 3) (hf : f <= 9 * u) (hp : p <= 4) : p + f <= 49 := by omega
theorem q9 {w u n : Nat} (h : w <= 9 * u + 5) (h2 : u <= 3 + n) (k : n < 3) : w <= 50 := by omega
theorem q10 {w u n t a : Nat} (h : w <= 9 * u + 5) (h2 : u <= 3 + n) (k : n < 3) (ht : t <= 20 * a + 1 + 5) : t + w <= 20 * (a + (2 + n)) := by omega
theorem q11 {f s u a : Nat} (h6 : f <= s) (h : u + s <= 2 * a + 1 + 1) (k : a <= 20) : f <= 1000 := by omega
theorem q12 {e a n : Nat} (h : e <= 2 * a + 1 + 1) : e + 1 <= 2 * (a + (2 + n)) := by omega
theorem q13 {x w a n : Nat} (h : x <= w + 1) (k : w <= 2 * a + 1 + 1) : x <= 2 * (a + (2 + n)) := by omega
section
variable {P : Params} {Q : Fl -> St -> Prop} {ρ : dG} {σ : Nat -> Option Cell} {n : Int} {is : List Int} {T X : List Nat} {lc : Nat × Nat} {g : Bool} {E : List Ev} {us : List PV} {rb r0 at_ a : Nat} {fr : Rows}
theorem zaU (S : Sta σ rb r0 a fr T X lc g E us (20 * at_) (2 * at_)) (hat : at_ <= 20) (hn : is[at_]? = some n) (hρ : dC (L0 is T lc rb at_ g) ρ)
  (hQ : ∀ ρ' σ' a' fr' T' X' lc' g' E' us' at', at_ + 2 <= at' -> at' <= at_ + 4 -> Sta σ' rb r0 a' fr' T' X' lc' g' E' us' (20 * at') (2 * at') -> dC (L0 is T' lc' rb at' g') ρ' -> Q .next ⟨ρ', σ'⟩) : wSs cL (knL P) (zcO P) Q ⟨ρ, σ⟩ := by
 have M := eR
 have t2 := @zad P
 have t4 := @zdE P
 have t9 := @zdF P
 have t14 := @zcn P
 refine cF hρ ?_
 clear hρ
 conv in (zcO _) => whnf
 unfold knL at *
 have hk := xM n (show 0 < 5 by decide)
 refine aB (aJ M (.int n) (eA (xs := is.map .int) (n := at_) M rfl (by exact aA (by kernel_rfl!) (by kernel_rfl!)) (by exact aA (by kernel_rfl!) (by kernel_rfl!)) (by rw [List.getElem?_map, hn]; rfl)) (by kernel_rfl) ?_)
 refine aB (aJ M (.int (nm n 5)) (kN 5 (by decide) M (by exact aA (by kernel_rfl!) (by kernel_rfl!))) (by kernel_rfl) ?_)
 generalize nm n 5 = k at hk
 refine aB (t2 (n := n) (k := k) (is := is) (at_ := at_) S (by exact q1 hat) (by exact q2 hat) (by (show _ = _; first | kernel_rfl! | (rw [<- Nat.add_assoc]; kernel_rfl!) | (rw [<- Nat.add_assoc, <- Nat.add_assoc]; kernel_rfl!))) fun ρ1 σ1 a fr T X lc g E us S h => ?_)
 refine cF h ?_
 clear h
 have hg4 := zbc n k g
 have hst := vH (n := n) (k := k) (g := g)
 refine aB (aJ M (.int (o9 n k g)) (cK (c := decide (nm n 4 = 0) && (g && (!decide (k = 2) && !decide (k = 3)))) M (dJ M (bQ M (fZ (a := nm n 4) (b := 0) M (kN 4 (by decide) M (by exact aA (by kernel_rfl!) (by kernel_rfl!))) (aE rfl))) fun _ => dJ M (bQ M (by exact aA (by kernel_rfl!) (by kernel_rfl!))) fun _ => dJ M (bQ M (tH (a := k) (b := 2) M (by exact aA (by kernel_rfl!) (by kernel_rfl!)) (aE rfl))) fun _ => c6 (bQ M (tH (a := k) (b := 3) M (by exact aA (by kernel_rfl!) (by kernel_rfl!)) (aE rfl)))) (fun q => ?_) (fun q => ?_)) (by kernel_rfl) ?_)
 ·rw [o9, if_pos q]; exact aE rfl
 ·rw [o9, if_neg (by rw [q]; decide)]; exact kN 4 (by decide) M (by exact aA (by kernel_rfl!) (by kernel_rfl!))
 generalize o9 n k g = gv at hg4 hst
 have hul : us.length <= 1000 := by have := S.wl; exact q3 this hat
 refine aB (t4 (n := n) (k := k) (is := is) (T := T) (lc := lc) (at_ := at_) ⟨S.tree, S.stk, S.root⟩ hul hg4 (by (show _ = _; first | kernel_rfl! | (rw [<- Nat.add_assoc]; kernel_rfl!) | (rw [<- Nat.add_assoc, <- Nat.add_assoc]; kernel_rfl!))) fun ρ1 σ1 R h => ?_)
 refine cF h ?_
 clear h
 obtain ⟨E, S⟩ := zcm S hg4 R
 clear R hul
 have hGl : ((gapsL[gv]?).getD []).length <= 5 := (show ∀ v < 4, ((gapsL[v]?).getD []).length <= 5 by decide +kernel) gv hg4
 have hTl := S.tl
 rw [List.length_append] at hTl
 refine aB (eF M (.str T) (.str ((gapsL[gv]?).getD [])) (by kernel_rfl!) (yW hg4 (by kernel_rfl!) (by kernel_rfl!) (by kernel_rfl!)) (by kernel_rfl) (of_eq oY ⟨by exact q4 hTl hat, ?_⟩))
 refine aB (aJ M (eS (adv lc (bH ((gapsL[gv]?).getD [])))) (bC (F := jC) M (by kernel_rfl!) rfl (aC M (v := eS lc) (by exact aA (by kernel_rfl!) (by kernel_rfl!)) (aC M (v := .str ((gapsL[gv]?).getD [])) (yW hg4 (by kernel_rfl!) (by kernel_rfl!) (by kernel_rfl!)) aH)) ⟨lc, (gapsL[gv]?).getD [], rfl, Nat.le_trans hGl (by decide), .inl rfl, rfl⟩) (by kernel_rfl) ?_)
 clear hTl hGl
 generalize us ++ zbb lc gv = us at S
 generalize adv lc (bH ((gapsL[gv]?).getD [])) = lc at S
 generalize X ++ bH ((gapsL[gv]?).getD []) = X at S
 generalize T ++ (gapsL[gv]?).getD [] = T at S
 generalize (g && decide (gv = 0)) = gl at S hst
 obtain ⟨dk, hdk⟩ : ∃ dk, nm n 7 % 3 = dk := ⟨_, rfl⟩
 have hd3 : dk < 3 := hdk ▸ Nat.mod_lt _ (by decide)
 refine aB (aJ M (.str (List.replicate dk 45)) (yU (i := (nm n 7 : Int) % 3) M (aE rfl) (tI M (kN 7 (by decide) M (by exact aA (by kernel_rfl!) (by kernel_rfl!))) (aE rfl) (by decide)) (by rw [<- hdk]; rfl) (Nat.le_trans (Nat.le_of_lt hd3) (by decide))) (by kernel_rfl) ?_)
 refine aB (zdK (v := .str (List.replicate dk 45)) (items := (List.replicate dk 45).map fun c => .str [c]) M (fun v => v) (by kernel_rfl) (by decide +kernel) (by exact aA (by kernel_rfl!) (by kernel_rfl!)) rfl (by rw [List.length_map, List.length_replicate]; exact Nat.le_trans (Nat.le_of_lt hd3) (by decide)) (by kernel_rfl) (by kernel_rfl) (fun v hv => ?_) fun ub hub => ?_)
 ·obtain ⟨c, _, rfl⟩ := List.mem_map.mp hv
  exact ⟨_, rfl, aA (by kernel_rfl!) (by kernel_rfl!)⟩
 have hub : σ1 ub = none := hub
 refine aB (t9 (n := n) (k := k) (is := is) (T := T) (lc := lc) (rb := rb) (at_ := at_) (ub := ub) (dk := dk) (σ0 := σ1) (Nat.le_trans hat (by decide)) hd3 hub (by (show _ = _; first | kernel_rfl! | (rw [<- Nat.add_assoc]; kernel_rfl!) | (rw [<- Nat.add_assoc, <- Nat.add_assoc]; kernel_rfl!))) ?_ fun st hI => ?_)
 ·show aR σ1 ub _ = _
  rw [List.map_id', List.map_replicate, List.map_replicate]
 obtain ⟨ρ2, σ2⟩ := st
 obtain ⟨ws, v, h1, h2, h3, h4, h5⟩ := hI
 have h2 : σ2 = _ := h2
 obtain ⟨m1, m2⟩ := sU is n at_
 obtain ⟨w0, g1, g2, g3⟩ := h5 m1
 obtain ⟨hU, hne, hid, h101⟩ := u8 h3 hd3 g1 g2 g3
 have huul : (List.replicate dk [45] ++ ws).length <= 3 + nm n 3 := by rw [List.length_append, List.length_replicate]; exact q6 h4 m2 hd3
 have hn3 := xM n (show 0 < 3 by decide)
 refine cF h1 ?_
 clear h1 h5 g1 g2 g3 h3 h4 m1 m2
 generalize List.replicate dk [45] ++ ws = uu at *
 generalize List.replicate dk 45 ++ v = nv at *
 have R2 : Rws σ2 rb r0 a fr us := by
  rw [h2]
  refine ⟨S.tree.fresh hub _, ?_, S.root⟩
  rw [bK _ (fun e => by have := S.stk; rw [e, hub] at this; cases this)]
  exact S.stk
 have hcu : σ2 ub = some (.lst (uu.map .str)) := by rw [h2]; exact aS _ _ _
 clear h2 hub
 obtain ⟨x1, x2, x3, x4, x5, x6⟩ := hU.text
 have hvl := hU.len
 refine aB (eF M (.int at_) (.int ((2 + nm n 3 : Nat) : Int)) (by kernel_rfl!) (cZ (i := 2) (j := nm n 3) M (aE rfl) (kN 3 (by decide) M (by exact aA (by kernel_rfl!) (by kernel_rfl!)))) (by kernel_rfl) (of_eq dN ?_))
 refine aB (aJ M (.str (nv.map bW)) (zbj (zs := nv.map fun c => [bW c]) M ?_ rfl (nI bW nv) (by rw [List.length_map, <- hvl]; exact Nat.le_trans (q7 huul hn3) (by decide))) (by kernel_rfl) ?_)
 ·have e : (nv.map fun c => [bW c]).map PV.str = (nv.map fun c => PV.str [c]).map fun v => PV.str (((zdD v).getD []).map bW) := by rw [List.map_map, List.map_map]; rfl
  rw [e]
  refine zc2 (v := .str nv) M _ (by kernel_rfl) (by decide +kernel) (by exact aA (by kernel_rfl!) (by kernel_rfl!)) rfl (by rw [List.length_map, <- hvl]; exact Nat.le_trans (q7 huul hn3) (by decide)) rfl fun w hw => ?_
  obtain ⟨c, hc, rfl⟩ := List.mem_map.mp hw
  refine ⟨_, rfl, ?_⟩
  show ev _ _ _ _ (.str [bW c])
  rw [<- zaR (x6 c hc)]
  exact zd5 M (bC (F := jB (.dict lowerD)) M (by kernel_rfl!) rfl aH ⟨rfl, .inl rfl, rfl⟩) (aA (by kernel_rfl!) (by kernel_rfl!)) (aA (by kernel_rfl!) (by kernel_rfl!)) rfl
 have he4 : nm n 13 % 4 < numsL.length := Nat.mod_lt _ (by decide)
 have hes : numsL[nm n 13 % 4]? = some numsL[nm n 13 % 4] := List.getElem?_eq_getElem he4
 have hem : numsL[nm n 13 % 4] ∈ numsL := List.getElem_mem he4
 generalize numsL[nm n 13 % 4] = e at hes hem
 refine aB (dK M (.str e.1) (nX e.2) (eA (xs := numsL.map fun e => .tup [.str e.1, nX e.2]) (n := nm n 13 % 4) M rfl (bC (F := jB zaH) M (by kernel_rfl!) rfl aH ⟨rfl, .inl rfl, rfl⟩) (show ev _ _ _ _ (.int ((nm n 13 : Int) % 4)) from tI M (kN 13 (by decide) M (by exact aA (by kernel_rfl!) (by kernel_rfl!))) (aE rfl) (by decide)) (by rw [List.getElem?_map, hes]; rfl)) (by kernel_rfl) (by kernel_rfl) ?_)
 have hpl : (zcA k e).length <= 4 := by
  have := (sP e hem).2.2.2.2
  unfold zcA
  repeat' split
  all_goals first | exact this | decide
 refine aB (aJ M (.str (zcA k e ++ uu.flatten)) (gZ M (eA (xs := [.str [], .str [], .str [64], .str [35], .str e.1]) (n := k) M rfl (i0 M rfl (aC M (aE rfl) (aC M (aE rfl) (aC M (aE rfl) (aC M (aE rfl) (aC M (by exact aA (by kernel_rfl!) (by kernel_rfl!)) aH)))))) (by exact aA (by kernel_rfl!) (by kernel_rfl!)) (zcz hk e)) (yV (a := ub) uu (by kernel_rfl) (by kernel_rfl!) hcu rfl (Nat.le_trans (Nat.le_trans (Nat.le_add_left _ 0) (q8 (p := 0) huul hn3 x4 (by decide))) (by decide))) (Nat.le_trans (q8 huul hn3 x4 hpl) (by decide))) (by kernel_rfl) ?_)
 obtain ⟨w, hw, hG, hc, ha, hz, hwl, hstop⟩ := yD hem hU hne hid h101 hk
 have hwt := S.wl
 have hfl : fr.length <= 1000 := by
  have : ∀ fr : Rows, fr.length <= (fr.map fun q => q.2.ts.length + 1).sum := fun fr => by
   induction fr with
   | nil => exact Nat.le_refl _
   | cons q fr ih => rw [List.map_cons, List.sum_cons, List.length_cons, Nat.add_comm fr.length]; exact Nat.add_le_add (Nat.succ_le_succ (Nat.zero_le _)) ih
  have h6 := this fr
  exact q11 h6 hwt hat
 refine aB (t14 (n := n) (k := k) (is := is) (T := T) (nv := nv) (w := zcA k e ++ uu.flatten) (lc := lc) (at_ := at_ + (2 + nm n 3)) (ub := ub) (e := e) (uu := uu) R2 (q3' hwt hat) hfl hk hU hne (Nat.le_trans (q7 huul hn3) (by decide)) hcu (by rw [List.length_append]; exact Nat.le_trans (q8 huul hn3 x4 hpl) (by decide)) (by (show _ = _; first | kernel_rfl! | (rw [<- Nat.add_assoc]; kernel_rfl!) | (rw [<- Nat.add_assoc, <- Nat.add_assoc]; kernel_rfl!))) fun ρ3 σ3 a' fr' us' R3 z1 z2 z3 h => ?_)
 rw [hw] at h
 refine cF h ?_
 clear h
 have tl := S.tl
 have el := S.el
 refine aB (aJ M (.bool (!decide (k = 1))) (tH (a := k) (b := 1) M (by exact aA (by kernel_rfl!) (by kernel_rfl!)) (aE rfl)) (by kernel_rfl) ?_)
 refine aB (eF M (.str T) (.str w) (by kernel_rfl!) (by exact aA (by kernel_rfl!) (by kernel_rfl!)) (by kernel_rfl) (of_eq oY ⟨Nat.le_trans (q10 hwl huul hn3 tl) (Nat.le_trans (Nat.mul_le_mul_left 20 (Nat.add_le_add hat (Nat.add_le_add_left (Nat.le_of_lt hn3) 2))) (by decide)), ?_⟩))
 refine aB (aJ M (eS (adv lc (bH w))) (bC (F := jC) M (by kernel_rfl!) rfl (aC M (v := eS lc) (by exact aA (by kernel_rfl!) (by kernel_rfl!)) (aC M (v := .str w) (by exact aA (by kernel_rfl!) (by kernel_rfl!)) aH)) ⟨lc, w, rfl, Nat.le_trans (q9 hwl huul hn3) (by decide), .inl rfl, rfl⟩) (by kernel_rfl) ?_)
 refine hQ _ _ a' fr' (T ++ w) (X ++ bH w) (adv lc (bH w)) (!decide (k = 1)) (E ++ [(lc, vU k nv e uu)]) us' (at_ + (2 + nm n 3)) (Nat.add_le_add_left (Nat.le_add_right 2 _) _) (Nat.add_le_add_left (Nat.add_le_add_left (Nat.le_of_lt_succ hn3) 2) _) ⟨R3.tree, R3.stk, R3.root, S.lay.add hG hc ha hz (fun q => hstop (hst q)) (fun q => ?_) z2 z1, ?_, ?_, ?_⟩ (by (show _ = _; first | kernel_rfl! | (rw [<- Nat.add_assoc]; kernel_rfl!) | (rw [<- Nat.add_assoc, <- Nat.add_assoc]; kernel_rfl!)))
 ·unfold vU at q
  repeat' split at q
  all_goals cases q
 ·rw [List.length_append]; exact q10 hwl huul hn3 tl
 ·rw [List.length_append]; show E.length + 1 <= _; exact q12 el
 ·exact q13 z3 hwt
end
noncomputable def uD (is : List Int) : List Int := is.take 18 ++ [(is.length : Int)]
theorem zaw {α : Type} (xs : List α) (k : Nat) : slc xs none (some (k : Int)) = xs.take k := by
 show xs.take ((if (k : Int) < 0 then ((k : Int) + xs.length).toNat else min k xs.length) - 0) = _
 rw [if_neg (Int.not_lt.mpr (Int.natCast_nonneg k)), Nat.sub_zero, <- List.take_eq_take_min]
theorem zcZ {κ : Kn} {st : St} {is : List Int} {p1 p2 p3 p4 p5 p6 p7 p8 p9 : Pos} {k : Nat} (k1 : κ "script" = some .local) (k2 : κ "len" = some .globalImplicit) (h : st.ρ "script" = some (.list (is.map .int))) (hm : cL.mutL p8.line = false) :
  ev cL κ (.BinOp (.Subscript (.Name (Str.ofString "script") p1) (.Slice none (some (.Constant (.int 18) k p2)) none p3) p4) .Add (.List [.Call (.Name (Str.ofString "len") p5) [.Name (Str.ofString "script") p6] [] p7] p8) p9) st (.list ((uD is).map .int)) := by
 have M := eR
 have h6 : slc (is.map PV.int) none (some 18) = (is.map PV.int).take 18 := zaw _ 18
 rw [uD, List.map_append, List.map_take, <- h6]
 refine zc7 M (zcY M (aA k1 h) (aE rfl) (by decide) (by decide)) (i0 M hm (aC M (i5 M k2 rfl rfl rfl (aC M (aA k1 h) aH) (of_eq (B := PV.int ((is.map PV.int).length : Nat) = PV.int is.length) (by kernel_rfl) (by rw [List.length_map]))) aH)) ?_
 rw [h6, List.length_take, List.length_map]
 exact Nat.le_trans (Nat.add_le_add (Nat.min_le_left _ _) (Nat.le_refl 1)) (by decide)
noncomputable def retS (P : Params) : Stmt := kB 7 (aQ (HK P) 753)
section
variable {P : Params} {K : PV -> Prop} {ρ : dG} {σ : Nat -> Option Cell} {tp : List Int} {T X : List Nat} {lc : Nat × Nat} {g : Bool} {E : List Ev} {us : List PV} {rb r0 at_ a : Nat} {fr : Rows}
theorem yZ (S : Sta σ rb r0 a fr T X lc g E us (20 * at_) (2 * at_)) (hat : at_ <= 22) {K : PV -> Prop} (hK : K (.list (dT tkP fnP E [] []))) : lA [.str T] K := by
 have tl := S.tl
 have hrd := S.lay.rd [] [] (fun _ => rfl) (.nil _ _)
 rw [List.append_nil, List.append_nil] at hrd
 refine ⟨T, X, E, rfl, by omega, S.lay.nz, (j9 _ T (Nat.lt_succ_self _) S.lay.cr).trans S.lay.md, ?_, S.lay.al, hrd, hK⟩
 rw [<- S.lay.md]
 exact Nat.le_trans (List.length_filter_le _ _) (by omega)
theorem tN (S : Sta σ rb r0 a fr T X lc g E us (20 * at_) (2 * at_)) (hat : at_ <= 22) : (dT tkP fnP E [] []).length <= 1000 /\ ToldL 60 (dT tkP fnP E [] []) (dT bN j3 E [] []) := by
 have el := S.el
 have l : 0 + E.length + 0 <= 60 := by rw [Nat.zero_add]; exact Nat.le_trans el (Nat.le_trans (Nat.mul_le_mul_left 2 hat) (by decide))
 have b := vQ 60 E 0 0 [] [] [] (.nil 0) (fun x hx => by cases hx) (Nat.le_refl 0) l (Nat.le_trans l (by decide))
 exact ⟨b.2, b.1⟩
open Classical in
theorem zd9 (S : Sta σ rb r0 a fr T X lc g E us (20 * at_) (2 * at_)) (hat : at_ <= 22) : eqW σ (.list (dT bN j3 E [] [])) (.ptr r0) fun c => c = true := by
 obtain ⟨f1, f2, f3⟩ := (tN S hat).2.plain
 obtain ⟨xs, x1, x2⟩ := Tree.root sG fr a us S.tree
 have hbl := S.lay.bl []
 rw [List.append_nil] at hbl
 have hbl : dT bN j3 E [] [] = jS j3 us (fr.map (·.2)) := hbl
 rw [S.root] at x1
 rw [<- hbl] at x2
 generalize dT bN j3 E [] [] = bs at *
 exact ⟨.list bs, .list bs, .inl ⟨_, rfl, d7 _ _ f3⟩, .inr ⟨r0, xs, rfl, x1, x2⟩, f1, f1, Nat.le_trans (Nat.succ_le_succ f2) (by decide), decide_eq_true rfl⟩
theorem zdG (S : Sta σ rb r0 a fr T X lc g E us (20 * at_) (2 * at_)) (hat : at_ <= 22) (hρ : dC (L0 tp T lc rb at_ g) ρ) (hK : K (.bool true)) : wS cL (knL P) (retS P) (lW K) ⟨ρ, σ⟩ := by
 have M := eR
 refine oX hρ ?_
 clear hρ
 conv in (retS _) => whnf
 unfold knL
 obtain ⟨S0, hS0⟩ := oH a fr
 rw [S.root] at hS0
 have hrb : σ rb = some (.lst (.ptr r0 :: S0)) := hS0 ▸ S.stk
 obtain ⟨t1, t2⟩ := tN S hat
 have he := zd9 S hat
 have hp := fun {K : PV -> Prop} => @yZ σ T X lc g E us rb r0 at_ a fr S hat K
 generalize dT bN j3 E [] [] = bs at t2 he
 generalize dT tkP fnP E [] [] = as at t1 t2 hp
 refine aT M (.bool true) (bL (a := .list bs) (b := .ptr r0) M (bC (F := pT 60) M (by kernel_rfl!) rfl (aC M (v := .list as) (bC (F := lA) M (by kernel_rfl!) rfl (aC M (v := .str T) (by exact aA (by kernel_rfl!) (by kernel_rfl!)) aH) (hp ⟨.inl rfl, rfl⟩)) aH) ⟨as, bs, rfl, t1, t2, .inl rfl, rfl⟩) (mA (a := .ptr rb) (b := .int ((0 : Nat) : Int)) M rfl (by exact aA (by kernel_rfl!) (by kernel_rfl!)) (aE rfl) ?_) he) ⟨_, cW _ _, hK⟩
 show zbP (der σ (.ptr rb)) _ _
 rw [y2 hrb]; rfl
end
noncomputable def LawJ (tp : List Int) (r0 rb at_ : Nat) (st : St) : Prop := ∃ (a : Nat) (fr : Rows) (T X : List Nat) (lc : Nat × Nat) (g : Bool) (E : List Ev) (us : List PV), at_ <= 22 /\ Sta st.σ rb r0 a fr T X lc g E us (20 * at_) (2 * at_) /\ dC (L0 tp T lc rb at_ g) st.ρ
noncomputable def LawI (tp : List Int) (r0 rb : Nat) (st : St) : Prop := ∃ at_, LawJ tp r0 rb at_ st
theorem iU {K : St -> Prop} {Q : Fl -> St -> Prop} {st : St} (h : K st) : eP K Q .next st := h
theorem zaV (P : Params) (is : List Int) (K : PV -> Prop) (hl : is.length <= 63) (hK : K (.bool true)) : wSs cL (cS (aN (HK P) 753)) (aQ (HK P) 753) (lW K) ⟨bG [("script", .list (is.map .int))] (fun _ => none), fun _ => none⟩ := by
 have M := eR
 have turn := @zaU P
 have fin := @zdG P K
 unfold knL at turn fin
 conv in (aQ _ _) => whnf
 have htl : (uD is).length <= 19 := by rw [uD, List.length_append, List.length_take]; show min 18 is.length + 1 <= 19; omega
 refine aB (aJ M (.list ((uD is).map .int)) (zcZ (by kernel_rfl!) (by kernel_rfl!) (by kernel_rfl!) (by kernel_rfl)) (by kernel_rfl) ?_)
 generalize uD is = tp at htl
 refine iU ?_
 refine aB (aJ M (.str []) (aE rfl) (by kernel_rfl) ?_)
 refine iU ?_
 refine aB (aJ M (.tup [.int 1, .int 1]) (a0 M (aC M (aE rfl) (aC M (aE rfl) aH))) (by kernel_rfl) ?_)
 refine iU ?_
 refine aB (zcu (by kernel_rfl) (by kernel_rfl) (by kernel_rfl) fun r0 _ rb hb => ?_)
 have hab : rb ≠ r0 := fun q => by
  subst q
  dsimp only at hb
  rw [aS] at hb; cases hb
 refine iU ?_
 refine aB (aJ M (.bool false) (aE rfl) (by kernel_rfl) ?_)
 refine iU ?_
 refine aB (aJ M (.int ((0 : Nat) : Int)) (aE rfl) (by kernel_rfl) ?_)
 refine iU ?_
 refine eJ M (LawI tp r0 rb)
  (iW M (fun m st => ∃ at_, m = tp.length - at_ /\ LawJ tp r0 rb at_ st) ?_ (tp.length - 0) _
   ⟨0, rfl, r0, [], [], [], (1, 1), false, [], [], by decide, ⟨⟨List.nodup_cons.mpr ⟨fun m => hab (List.mem_singleton.mp m), List.nodup_cons.mpr ⟨List.not_mem_nil, List.nodup_nil⟩⟩, ⟨[], ?_, rfl⟩, trivial, ?_⟩, ?_, rfl, zcN, Nat.le_refl _, Nat.le_refl _, Nat.le_refl _⟩, by (show _ = _; first | kernel_rfl! | (rw [<- Nat.add_assoc]; kernel_rfl!) | (rw [<- Nat.add_assoc, <- Nat.add_assoc]; kernel_rfl!))⟩) ?_
 ·rintro m ⟨ρ, σ⟩ ⟨at_, rfl, hJ⟩
  obtain ⟨a, fr, T, X, lc, g, E, us, h1, S, h2⟩ := id hJ
  refine ⟨decide (at_ < tp.length), ?_, fun hc => ?_, fun hc => ⟨at_, hJ⟩⟩
  ·rw [show ρ = bG _ ρ from bI _ h2]
   exact bQ M (kP M (by exact aA (by kernel_rfl!) (by kernel_rfl!)) (i5 M (by kernel_rfl!) rfl rfl (by kernel_rfl) (aC M (v := .list (tp.map .int)) (by exact aA (by kernel_rfl!) (by kernel_rfl!)) aH) (of_eq (B := PV.int ((tp.map PV.int).length : Nat) = PV.int tp.length) (by kernel_rfl) (by rw [List.length_map]))))
  ·have hc := of_decide_eq_true hc
   exact turn S (by omega) (List.getElem?_eq_getElem hc) h2 fun ρ' σ' a' fr' T' X' lc' g' E' us' at' b1 b2 S' h' => ⟨tp.length - at', by omega, at', rfl, a', fr', T', X', lc', g', E', us', by omega, S', h'⟩
 ·dsimp only
  rw [bK _ (Ne.symm hab), aS]
 ·dsimp only
  rw [aS]; rfl
 ·exact aS _ _ _
 ·rintro ⟨ρ, σ⟩ ⟨at_, a, fr, T, X, lc, g, E, us, h1, S, h2⟩
  exact aB (fin S h1 h2 hK)
theorem xJ {h : Heap} {a : Addr} {m m' : Str -> Option Value} (x : h.Ns a m) (y : h.Ns a m') : m = m' := by
 obtain ⟨o, es, ep, h1, h2, _, h4⟩ := x
 obtain ⟨o', es', ep', g1, g2, _, g4⟩ := y
 rw [h1] at g1; cases g1
 rw [h2] at g2; cases g2
 funext name
 rw [<- h4, <- g4]
theorem u7 (hB : BsOk (bs w.params h mb)) (hmb : HMb mb) :
  zca prog w (bs w.params h mb) 70 (.ref 753) (fun ps K => ∃ is : List Int, ps = [.list (is.map .int)] /\ is.length <= 63 /\ K (.bool true)) := by
 have hC : CtxOk prog w (bs w.params h mb) cL 69 := by
  refine eC hmb tT (by simp) (fun e he => ?_) (fun e he => ?_) (by simp) (by simp)
  ·simp only [List.mem_singleton] at he; subst he
   have hg : (match mgK w.params (Str.ofString "_law_GAPS") with
    | some u => qN (HK w.params) u zdY
    | none => false) = true := by kernel_rfl
   split at hg
   ·rename_i u e; exact ⟨u, e, m6 hB.kin _ hg⟩
   ·cases hg
  ·simp only [cLf, List.mem_cons, List.not_mem_nil, or_false] at he
   rcases he with rfl | rfl | rfl | rfl | rfl | rfl | rfl | rfl
   ·exact ⟨.ref 684, by kernel_rfl, (qX hB hmb).le (by decide)⟩
   ·exact ⟨.ref 691, by kernel_rfl, (q0 hB hmb).le (by decide)⟩
   ·exact ⟨.ref 698, by kernel_rfl, (u4 hB hmb).le (by decide)⟩
   ·exact ⟨.ref 720, by kernel_rfl, (nC hB hmb).le (by decide)⟩
   ·exact ⟨.ref 727, by kernel_rfl, (jN hB hmb).le (by decide)⟩
   ·exact ⟨.ref 734, by kernel_rfl, (qZ hB hmb).le (by decide)⟩
   ·exact ⟨.ref 748, by kernel_rfl, (l5 hB hmb 60).le (by decide)⟩
   ·exact ⟨.ref 628, by kernel_rfl, (qY hB hmb).le (by decide)⟩
 obtain ⟨fd, h1, h2, h3⟩ := pA (K := HK w.params) (a := 753) (by kernel_rfl)
 have hs1 : zbz prog w (bs w.params h mb) cL 69 (Str.ofString "script") (kB 0 (aQ (HK w.params) 753)) := by
  conv in (kB _ _) => whnf
  exact oC (zat (w2 (by decide +kernel)) (snd hB hC (by kernel_rfl))) rfl rfl
 have hm := vJ (loc := Str.ofString "script") (s1 := kB 0 (aQ (HK w.params) 753)) (ss := (aQ (HK w.params) 753).tail) (params := ["script"].map Str.ofString) (k := 1) (dv := []) (dp := []) hB hC h1 (by kernel_rfl) hs1 (by rw [h3]; kernel_rfl) (by kernel_rfl)
  (fun x hx => by
   simp only [List.map_cons, List.map_nil, List.mem_singleton] at hx; subst hx
   rw [h3]; left; kernel_rfl) rfl (fun _ => .nil) (fun s vals X hl => by
   refine kp_binds X fun S => ?_
   obtain ⟨a, rfl⟩ := List.length_eq_one_iff.mp hl
   have : (zbi (HK w.params) 753).map (fun fd => peek (HK w.params) S (bindArgs fd ⟨[a], []⟩)) = some (some ((["script"].map Str.ofString).zip ([a] ++ []))) := by kernel_rfl
   rw [h2] at this
   show peek (HK w.params) S _ = _
   simpa using this)
 refine ⟨hm.1, fun A E G s args ps K hA hi ho hv ⟨is, hps, hlen, hK⟩ => hm.2 A E G s args ps K hA hi ho hv ?_⟩
 subst hps
 refine ⟨rfl, ?_⟩
 rw [h3]
 exact zaV _ is K hlen hK
theorem n0 {P : Params} {h : Heap} : ∀ {nums : List Int} {vs : List Value}, WellAll P h vs (ofPys (nums.map PyData.int)) -> VRels P (fun a => h.get? a) vs (nums.map PV.int)
 | [], vs, x => by
  rw [show ofPys (([] : List Int).map PyData.int) = [] from rfl] at x
  cases x; exact .nil
 | i :: r, vs, x => by
  rw [show ofPys ((i :: r).map PyData.int) = WData.int i :: ofPys (r.map PyData.int) from rfl] at x
  cases x with
  | cons h1 h2 =>
   cases h1 with
   | int _ t => exact .cons (by simp [VRel]) (n0 h2)
theorem r3 {P : Params} {h : Heap} : ∀ {ds : List WData} {vs : List Value}, WellAll P h vs ds -> vs.length = ds.length
 | [], vs, x => by cases x; rfl
 | d :: ds, vs, x => by cases x with | cons h1 h2 => simp [r3 h2]
theorem zci {prog : Program} {w : World} {s₁ : Shared} {mg mb : Str -> Option Value} {fa l : Addr} {nums : List Int} {Q : Value -> Shared -> Prop} {E : Value -> Shared -> Prop} (KX : (HK w.params).In s₁.heap) (hT : s₁.heap.Ns mainGlobals mg) (hb : s₁.heap.Ns builtinsNs mb) (hl : s₁.heap.NoLimit)
  (hmb : HMb mb) (hmg : mg (Str.ofString "law") = some (.ref fa)) (hg : s₁.gens = #[]) (hw : Well w.params s₁.heap (.ref l) (ofPy (PyData.list (nums.map PyData.int)))) (hlen : nums.length <= 63)
  (hQ : ∀ s', (∀ b o, s₁.heap.get? b = some o -> s'.heap.get? b = some o) -> s'.os = s₁.os -> AllBare s'.gens -> Q (.bool true) s') : wpAny (model prog w) callerA (call (.ref fa) [.ref l]) Q E s₁ := by
 have hB : BsOk (bs w.params s₁.heap mb) := zeW KX hb hl
 have e1 : mg = mgK w.params := xJ hT hB.g
 have e2 : fa = 753 := by
  rw [e1] at hmg
  have h2 : mgK w.params (Str.ofString "law") = some (.ref 753) := by kernel_rfl
  rw [h2] at hmg
  cases hmg; rfl
 subst e2
 have hm := u7 (prog := prog) hB hmb
 have hv : VRels w.params (fun a => s₁.heap.get? a) [.ref l] [.list (nums.map PV.int)] := by
  refine .one ?_
  rw [show ofPy (PyData.list (nums.map PyData.int)) = WData.list (ofPys (nums.map PyData.int)) from rfl] at hw
  cases hw with
  | list h1 h2 =>
   rename_i vs
   have hln := r3 h2
   rw [ofPys_eq, List.length_map, List.length_map] at hln
   simp only [VRel]
   exact ⟨l, _, _, _, rfl, h1, rfl, rfl, rfl, by simp; unfold aP; omega, by simpa using n0 h2⟩
 have hA : Room 70 callerA := ⟨rfl, by decide +kernel, by decide +kernel⟩
 refine wpAny_mono (hm.2 callerA E (fun a => s₁.heap.get? a) s₁ [.ref l] [.list (nums.map PV.int)] (fun r => r = .bool true) hA (fun a o e => e) (fun a o e => e) hv ⟨nums, rfl, hlen, rfl⟩) (fun v s' ⟨r, G', hr, gs, hvr⟩ => ?_) fun _ _ e => e
 subst hr
 simp only [VRel] at hvr
 subst hvr
 exact hQ s' gs.keep gs.os (gs.gens (.of_eq hg))
theorem top1 : PySem.Challenge.rw_te0060_01.Holds := MH.hd (by
 intro w s₀ s₁ mg mb G Y fa o pm cd doc dV kV ho hd hcd hD hmg hg args vals as hpre hlay hrd hwl hlo
 have KX : (HK w.params).In s₁.heap := Y
 refine Ground.open G ?_
 intro T B D TE TW
 try (refine guard_noD D (by decide +kernel) ?_; clear D)
 wrow_args hpre hlay hrd hwl hlo
 rename_i nums hs hlay0 hL1 hr1 hl2 la1 la2 l vs la3 hL ra w1 r0 hI hr hc1 hc2
 refine zci (mg := mg) (mb := mb) KX T.g T.b T.nolimit T.builtins hmg hg w1 (by omega) fun s' h1 h2 h3 => ?_
 refine ⟨.inl ⟨.bool true, .bool true, [], rfl, fun _ => rfl, ReadsW.bool true, ?_, fun _ => ⟨List.nodup_nil, by simp⟩⟩, .of_keep h1, h2, h3⟩
 first | rfl | kernel_rfl | (trace_state; simp [PySem.Challenge.rw_te0060_01]))
end Mine
end
theorem PySem.Challenge.cw_te0060_01_holds : PySem.Challenge.rw_te0060_01.Holds := by
  exact Mine.top1
