import PyProof.Rows.All
import Wide.All
import OpenK.AllK
import Wide.FinOn
import PySem.Challenge.RW_te0060_05
set_option Elab.async false
section
open PySem PySem.W PyProof.Rows
set_option Elab.async false
set_option autoImplicit false
namespace Mine
/-! eliminations in one step:they keep the proofs' terms small -/
theorem x1 {A:Type} {P:A->Prop} {Q:Prop} (k:∀ a,P a->Q):(∃ a,P a)->Q:=fun ⟨a,h⟩=>k a h
theorem x2 {A B:Type} {P:A->B->Prop} {Q:Prop} (k:∀ a b,P a b->Q):(∃ a b,P a b)->Q:=fun ⟨a,b,h⟩=>k a b h
theorem x3 {A B C:Type} {P:A->B->C->Prop} {Q:Prop} (k:∀ a b c,P a b c->Q):(∃ a b c,P a b c)->Q:=fun ⟨a,b,c,h⟩=>k a b c h
theorem x4 {A B C D:Type} {P:A->B->C->D->Prop} {Q:Prop} (k:∀ a b c d,P a b c d->Q):(∃ a b c d,P a b c d)->Q:=fun ⟨a,b,c,d,h⟩=>k a b c d h
theorem x5 {A B C D E:Type} {P:A->B->C->D->E->Prop} {Q:Prop} (k:∀ a b c d e,P a b c d e->Q):(∃ a b c d e,P a b c d e)->Q:=fun ⟨a,b,c,d,e,h⟩=>k a b c d e h
theorem x7 {A B C D E F G:Type} {P:A->B->C->D->E->F->G->Prop} {Q:Prop} (k:∀ a b c d e f g,P a b c d e f g->Q):(∃ a b c d e f g,P a b c d e f g)->Q:=fun ⟨a,b,c,d,e,f,g,h⟩=>k a b c d e f g h
theorem a2 {A B Z:Prop} (k:A->B->Z):A /\ B->Z:=fun h=>k h.1 h.2
theorem a3 {A B C Z:Prop} (k:A->B->C->Z):A /\ B /\ C->Z:=fun h=>k h.1 h.2.1 h.2.2
theorem a4 {A B C D Z:Prop} (k:A->B->C->D->Z):A /\ B /\ C /\ D->Z:=fun h=>k h.1 h.2.1 h.2.2.1 h.2.2.2
theorem a5 {A B C D E Z:Prop} (k:A->B->C->D->E->Z):A /\ B /\ C /\ D /\ E->Z:=fun h=>k h.1 h.2.1 h.2.2.1 h.2.2.2.1 h.2.2.2.2
theorem a6 {A B C D E F Z:Prop} (k:A->B->C->D->E->F->Z):A /\ B /\ C /\ D /\ E /\ F->Z:=fun h=>k h.1 h.2.1 h.2.2.1 h.2.2.2.1 h.2.2.2.2.1 h.2.2.2.2.2
theorem a7 {A B C D E F G Z:Prop} (k:A->B->C->D->E->F->G->Z):A /\ B /\ C /\ D /\ E /\ F /\ G->Z:=fun h=>k h.1 h.2.1 h.2.2.1 h.2.2.2.1 h.2.2.2.2.1 h.2.2.2.2.2.1 h.2.2.2.2.2.2
theorem a8 {A B C D E F G H Z:Prop} (k:A->B->C->D->E->F->G->H->Z):A /\ B /\ C /\ D /\ E /\ F /\ G /\ H->Z:=fun h=>k h.1 h.2.1 h.2.2.1 h.2.2.2.1 h.2.2.2.2.1 h.2.2.2.2.2.1 h.2.2.2.2.2.2.1 h.2.2.2.2.2.2.2
theorem a9 {A B C D E F G H I Z:Prop} (k:A->B->C->D->E->F->G->H->I->Z):A /\ B /\ C /\ D /\ E /\ F /\ G /\ H /\ I->Z:=fun h=>k h.1 h.2.1 h.2.2.1 h.2.2.2.1 h.2.2.2.2.1 h.2.2.2.2.2.1 h.2.2.2.2.2.2.1 h.2.2.2.2.2.2.2.1 h.2.2.2.2.2.2.2.2
theorem e1 {A:Type} {P P':A->Prop} (k:∀ a,P a->P' a):(∃ a,P a)->∃ a,P' a:=fun ⟨a,h⟩=>⟨a,k a h⟩
theorem e2 {A B:Type} {P P':A->B->Prop} (k:∀ a b,P a b->P' a b):(∃ a b,P a b)->∃ a b,P' a b:=fun ⟨a,b,h⟩=>⟨a,b,k a b h⟩
theorem e3 {A B C:Type} {P P':A->B->C->Prop} (k:∀ a b c,P a b c->P' a b c):(∃ a b c,P a b c)->∃ a b c,P' a b c:=fun ⟨a,b,c,h⟩=>⟨a,b,c,k a b c h⟩
theorem e4 {A B C D:Type} {P P':A->B->C->D->Prop} (k:∀ a b c d,P a b c d->P' a b c d):(∃ a b c d,P a b c d)->∃ a b c d,P' a b c d:=fun ⟨a,b,c,d,h⟩=>⟨a,b,c,d,k a b c d h⟩
theorem e5 {A B C D E:Type} {P P':A->B->C->D->E->Prop} (k:∀ a b c d e,P a b c d e->P' a b c d e):(∃ a b c d e,P a b c d e)->∃ a b c d e,P' a b c d e:=fun ⟨a,b,c,d,e,h⟩=>⟨a,b,c,d,e,k a b c d e h⟩
theorem e7 {A B C D E F G:Type} {P P':A->B->C->D->E->F->G->Prop} (k:∀ a b c d e f g,P a b c d e f g->P' a b c d e f g):(∃ a b c d e f g,P a b c d e f g)->∃ a b c d e f g,P' a b c d e f g:=fun ⟨a,b,c,d,e,f,g,h⟩=>⟨a,b,c,d,e,f,g,k a b c d e f g h⟩
theorem c1 {A Z Z':Prop} (k:Z->Z') (h:A /\ Z):A /\ Z':=⟨h.1,k h.2⟩
theorem c2 {A B Z Z':Prop} (k:Z->Z') (h:A /\ B /\ Z):A /\ B /\ Z':=⟨h.1,h.2.1,k h.2.2⟩
theorem c3 {A B C Z Z':Prop} (k:Z->Z') (h:A /\ B /\ C /\ Z):A /\ B /\ C /\ Z':=⟨h.1,h.2.1,h.2.2.1,k h.2.2.2⟩
theorem c4 {A B C D Z Z':Prop} (k:Z->Z') (h:A /\ B /\ C /\ D /\ Z):A /\ B /\ C /\ D /\ Z':=⟨h.1,h.2.1,h.2.2.1,h.2.2.2.1,k h.2.2.2.2⟩
theorem c5 {A B C D E Z Z':Prop} (k:Z->Z') (h:A /\ B /\ C /\ D /\ E /\ Z):A /\ B /\ C /\ D /\ E /\ Z':=⟨h.1,h.2.1,h.2.2.1,h.2.2.2.1,h.2.2.2.2.1,k h.2.2.2.2.2⟩
theorem c6 {A B C D E F Z Z':Prop} (k:Z->Z') (h:A /\ B /\ C /\ D /\ E /\ F /\ Z):A /\ B /\ C /\ D /\ E /\ F /\ Z':=⟨h.1,h.2.1,h.2.2.1,h.2.2.2.1,h.2.2.2.2.1,h.2.2.2.2.2.1,k h.2.2.2.2.2.2⟩
theorem zaS {a b:Bool} (h:a = true) (k:b = true):(a && b) = true:=Bool.and_eq_true_iff.mpr ⟨h,k⟩
inductive PV where
 | none | bool (b:Bool) | int (i:Int) | str (x:List Nat)
 | tup (xs:List PV) | list (xs:List PV) | inst (c:Nat) (fs:List PV)
 | rng (lo hi:Int) | ptr (a:Nat) | dict (es:List (List Nat × List Nat))
 deriving Inhabited
inductive Fl where
 | next | brk | cont | ret (v:PV)
inductive Cell where
 | lst (xs:List PV) | ins (c:Nat) (fs:List (Option PV))
noncomputable abbrev f9:=Str->Option PV
noncomputable abbrev Kn:=Str->Option NameKind
structure St where
 ρ:f9
 σ:Nat->Option Cell
noncomputable section
noncomputable def upd (ρ:f9) (x:Str) (v:PV):f9:=fun y=>if y = x then some v else ρ y
noncomputable def aZ (σ:Nat->Option Cell) (a:Nat) (c:Cell):Nat->Option Cell:=fun b=>if b = a then some c else σ b
noncomputable abbrev Fn:=List PV->(PV->Prop)->Prop
structure Ctx where
 val:Str->Option PV
 fn:Str->Option Fn
 bi:Str->Bool
 slot:Nat->Str->Option Nat
 cval:Nat->Str->Option PV
 mutL:Nat->Bool
 cls:Str->Option Fn
 ini:Bool
/-! what a value is,as a step -/
noncomputable def mT {α:Type} (o:Option α) (d:Prop) (K:α->Prop):Prop:=Option.casesOn (motive:=fun _=>Prop) o d K
noncomputable def opt {α:Type} (o:Option α) (K:α->Prop):Prop:=mT o False K
noncomputable def pvc {α:Sort _} (d:α) (n:α) (b:Bool->α) (i:Int->α) (s:List Nat->α) (t l:List PV->α) (p:Nat->α) (v:PV):α:=PV.casesOn (motive_1:=fun _=>α) v n b i s t l (fun _ _=>d) (fun _ _=>d) p fun _=>d
noncomputable def asI (v:PV) (K:Int->Prop):Prop:=pvc False False (fun _=>False) K (fun _=>False) (fun _=>False) (fun _=>False) (fun _=>False) v
noncomputable def asS (v:PV) (K:List Nat->Prop):Prop:=pvc False False (fun _=>False) (fun _=>False) K (fun _=>False) (fun _=>False) (fun _=>False) v
noncomputable def asL (v:PV) (K:List PV->Prop):Prop:=pvc False False (fun _=>False) (fun _=>False) (fun _=>False) (fun _=>False) K (fun _=>False) v
noncomputable def asP (v:PV) (K:Nat->Prop):Prop:=pvc False False (fun _=>False) (fun _=>False) (fun _=>False) (fun _=>False) (fun _=>False) K v
noncomputable def one {α:Type} (xs:List α) (K:α->Prop):Prop:=List.casesOn (motive:=fun _=>Prop) xs False fun a r=>List.casesOn (motive:=fun _=>Prop) r (K a) fun _ _=>False
noncomputable def two {α:Type} (xs:List α) (K:α->α->Prop):Prop:=List.casesOn (motive:=fun _=>Prop) xs False fun a r=>one r (K a)
noncomputable def x6 {α:Type} (xs:List α) (K:α->α->α->Prop):Prop:=List.casesOn (motive:=fun _=>Prop) xs False fun a r=>two r (K a)
theorem gI {α:Type} {o:Option α} {A A':Prop} {K K':α->Prop} (h:A->A') (k:∀ a,K a->K' a) (x:mT o A K):mT o A' K':=by cases o; exact h x; exact k _ x
theorem gH {α:Type} {A:Prop} {K:α->Prop}:mT none A K = A:=rfl
theorem gW {α:Type} {a:α} {K:α->Prop}:opt (some a) K = K a:=rfl
theorem dG {α:Type} {o:Option α} {K:α->Prop} (h:opt o K):∃ a,o = some a /\ K a:=by cases o; exact h.elim; exact ⟨_,rfl,h⟩
theorem bT {α:Type} {o:Option α} {K K':α->Prop} (k:∀ a,K a->K' a) (h:opt o K):opt o K':=by cases o; exact h; exact k _ h
theorem dA {v:PV} {K:Int->Prop} (h:asI v K):∃ i,v = .int i /\ K i:=by cases v <;> first | exact ⟨_,rfl,h⟩ | exact False.elim h
theorem eN {v:PV} {K:List Nat->Prop} (h:asS v K):∃ i,v = .str i /\ K i:=by cases v <;> first | exact ⟨_,rfl,h⟩ | exact False.elim h
theorem u7 {v:PV} {K:List PV->Prop} (h:asL v K):∃ i,v = .list i /\ K i:=by cases v <;> first | exact ⟨_,rfl,h⟩ | exact False.elim h
theorem qP {v:PV} {K:Nat->Prop} (h:asP v K):∃ i,v = .ptr i /\ K i:=by cases v <;> first | exact ⟨_,rfl,h⟩ | exact False.elim h
theorem gJ {α:Type} {xs:List α} {K:α->Prop} (h:one xs K):∃ a,xs = [a] /\ K a:=by
 cases xs with
 | nil=>exact False.elim h
 | cons a r=>cases r; exact ⟨_,rfl,h⟩; exact False.elim h
theorem tS {α:Type} {xs:List α} {K:α->α->Prop} (h:two xs K):∃ a b,xs = [a,b] /\ K a b:=by
 cases xs with
 | nil=>exact False.elim h
 | cons a r=>obtain ⟨b,e,k⟩:=gJ h; exact ⟨a,b,by rw [e],k⟩
theorem nG {α:Type} {xs:List α} {K:α->α->α->Prop} (h:x6 xs K):∃ a b c,xs = [a,b,c] /\ K a b c:=by
 cases xs with
 | nil=>exact False.elim h
 | cons a r=>obtain ⟨b,c,e,k⟩:=tS h; exact ⟨a,b,c,by rw [e],k⟩
theorem bF {v:PV} {K K':Int->Prop} (k:∀ i,K i->K' i) (h:asI v K):asI v K':=by obtain ⟨i,rfl,h⟩:=dA h; exact k i h
theorem cS {v:PV} {K K':List Nat->Prop} (k:∀ i,K i->K' i) (h:asS v K):asS v K':=by obtain ⟨i,rfl,h⟩:=eN h; exact k i h
theorem oK {v:PV} {K K':List PV->Prop} (k:∀ i,K i->K' i) (h:asL v K):asL v K':=by obtain ⟨i,rfl,h⟩:=u7 h; exact k i h
theorem kM {v:PV} {K K':Nat->Prop} (k:∀ i,K i->K' i) (h:asP v K):asP v K':=by obtain ⟨i,rfl,h⟩:=qP h; exact k i h
theorem eR {α:Type} {xs:List α} {K K':α->Prop} (k:∀ a,K a->K' a) (h:one xs K):one xs K':=by obtain ⟨a,rfl,h⟩:=gJ h; exact k a h
theorem tR {α:Type} {xs:List α} {K K':α->α->Prop} (k:∀ a b,K a b->K' a b) (h:two xs K):two xs K':=by obtain ⟨a,b,rfl,h⟩:=tS h; exact k a b h
theorem mL {α:Type} {xs:List α} {K K':α->α->α->Prop} (k:∀ a b c,K a b c->K' a b c) (h:x6 xs K):x6 xs K':=by obtain ⟨a,b,c,rfl,h⟩:=nG h; exact k a b c h
noncomputable def fR (c:Option Cell):Option (List PV):=Option.casesOn (motive:=fun _=>Option (List PV)) c none fun c=>Cell.casesOn (motive:=fun _=>Option (List PV)) c some fun _ _=>none
noncomputable def der (σ:Nat->Option Cell) (v:PV):PV:=pvc v v (fun _=>v) (fun _=>v) (fun _=>v) (fun _=>v) (fun _=>v) (fun a=>Option.casesOn (motive:=fun _=>PV) (fR (σ a)) v .list) v
noncomputable def rA (v:PV):Option Bool:=pvc none (some false) some (fun i=>some (decide (i ≠ 0))) (fun x=>some (!x.isEmpty)) (fun xs=>some (!xs.isEmpty)) (fun xs=>some (!xs.isEmpty)) (fun _=>none) v
noncomputable def hV (n:Nat) (i:Int):Nat:=if i < 0 then (i + n).toNat else min i.toNat n
noncomputable def slc {α:Type} (xs:List α) (lo hi:Option Int):List α:=
 (xs.drop ((lo.map (hV xs.length)).getD 0)).take ((hi.map (hV xs.length)).getD xs.length - (lo.map (hV xs.length)).getD 0)
noncomputable def uK {α:Type} (xs:List α) (i:Int):Option α:=
 if i < 0 then (if 0 <= i + xs.length then xs[(i + xs.length).toNat]? else none) else xs[i.toNat]?
noncomputable def oX (x:List Nat):List Nat->Bool
 | []=>x.isEmpty
 | c :: y=>x.isPrefixOf (c :: y) || oX x y
noncomputable def strP (v:PV):Option (List Nat):=pvc none none (fun _=>none) (fun _=>none) some (fun _=>none) (fun _=>none) (fun _=>none) v
noncomputable def fN:List PV->Option (List (List Nat))
 | []=>some []
 | v :: r=>(strP v).bind fun x=>(fN r).map (x :: ·)
noncomputable def aO:Nat:=16777216
noncomputable def zgk (a b:PV) (K:PV->Prop):Prop:=
 pvc False False (fun _=>False) (fun x=>asI b fun y=>K (.int (x + y))) (fun x=>asS b fun y=>x.length + y.length <= aO /\ K (.str (x ++ y))) (fun _=>False) (fun _=>False) (fun _=>False) a
noncomputable def addL (a b:PV) (K:PV->Prop):Prop:=asL a fun x=>asL b fun y=>x.length + y.length <= aO /\ K (.list (x ++ y))
noncomputable def zgr (a b:PV) (K:PV->Prop):Prop:=asI a fun x=>asI b fun y=>K (.int (x - y))
noncomputable def mulI (a b:PV) (K:PV->Prop):Prop:=asI a fun x=>asI b fun y=>Builtin.Int.intBits y <= 64 /\ K (.int (x * y))
noncomputable def modP (a b:PV) (K:PV->Prop):Prop:=asI a fun x=>asI b fun y=>0 < y /\ K (.int (x % y))
noncomputable def fdvP (a b:PV) (K:PV->Prop):Prop:=asI a fun x=>asI b fun y=>0 < y /\ y < 4294967296 /\ K (.int (x / y))
noncomputable def opK {α:Sort _} (add sub mul mod pow fdv d:α) (op:Operator):α:=Operator.casesOn (motive:=fun _=>α) op add sub mul d d mod pow d d d d d fdv
noncomputable def isL (v:PV):Bool:=pvc false false (fun _=>false) (fun _=>false) (fun _=>false) (fun _=>false) (fun _=>true) (fun _=>false) v
noncomputable def ze6 (op:Operator) (a b:PV) (K:PV->Prop):Prop:=opK (if isL a = true then addL a b K else zgk a b K) (zgr a b K) (mulI a b K) (modP a b K) False (fdvP a b K) False op
noncomputable def inP (op:Operator) (a b:PV) (K:PV->Prop):Prop:=opK (zgk a b K) (zgr a b K) False False False False False op
mutual
noncomputable def Res (σ:Nat->Option Cell) (v:PV):PV->Prop
 | .tup ts=>∃ xs,v = .tup xs /\ kP σ xs ts
 | .list ts=>(∃ xs,v = .list xs /\ kP σ xs ts) \/ (∃ a xs,v = .ptr a /\ σ a = some (.lst xs) /\ kP σ xs ts)
 | .inst c ts=>∃ xs,v = .inst c xs /\ kP σ xs ts
 | .none=>v = .none
 | .bool b=>v = .bool b
 | .int i=>v = .int i
 | .str x=>v = .str x
 | .rng a b=>v = .rng a b
 | .dict es=>v = .dict es
 | .ptr _=>False
noncomputable def kP (σ:Nat->Option Cell) (xs:List PV):List PV->Prop
 | []=>xs = []
 | t :: ts=>∃ y ys,xs = y :: ys /\ Res σ y t /\ kP σ ys ts
end
mutual
noncomputable def plain:PV->Bool
 | .none=>true
 | .int _=>true
 | .str _=>true
 | .tup xs=>mS xs
 | .list xs=>mS xs
 | .bool _=>false
 | .inst _ _=>false
 | .rng _ _=>false
 | .ptr _=>false
 | .dict _=>false
noncomputable def mS:List PV->Bool
 | []=>true
 | x :: xs=>plain x && mS xs
end
mutual
noncomputable def dep:PV->Nat
 | .tup xs=>zf8 xs + 1
 | .list xs=>zf8 xs + 1
 | .none=>0
 | .int _=>0
 | .str _=>0
 | .bool _=>0
 | .inst _ _=>0
 | .rng _ _=>0
 | .ptr _=>0
 | .dict _=>0
noncomputable def zf8:List PV->Nat
 | []=>0
 | x :: xs=>max (dep x) (zf8 xs)
end
noncomputable def eqT (σ:Nat->Option Cell) (a b:PV) (K:Bool->Prop):Prop:=∃ t,Res σ a t /\ Res σ b t /\ plain t = true /\ dep t <= 4000 /\ K true
noncomputable def eqW (σ:Nat->Option Cell) (a b:PV) (K:Bool->Prop):Prop:=
 pvc (eqT σ a b K) (eqT σ a b K) (fun x=>pvc False False (fun y=>K (decide (x = y))) (fun _=>False) (fun _=>False) (fun _=>False) (fun _=>False) (fun _=>False) b)
  (fun x=>asI b fun y=>K (decide (x = y))) (fun x=>pvc False (K false) (fun _=>False) (fun _=>False) (fun y=>K (decide (x = y))) (fun _=>False) (fun _=>False) (fun _=>False) b) (fun _=>eqT σ a b K) (fun _=>eqT σ a b K) (fun _=>eqT σ a b K) a
noncomputable def leS:List Nat->List Nat->Bool
 | [],_=>true
 | a :: x,y=>List.casesOn (motive:=fun _=>Bool) y false fun b y=>if a = b then leS x y else decide (a < b)
noncomputable def isW (a b:PV) (K:Bool->Prop):Prop:=
 pvc False (pvc False (K true) (fun _=>False) (fun _=>K false) (fun _=>K false) (fun _=>K false) (fun _=>False) (fun _=>False) a)
  (fun y=>pvc False False (fun x=>K (decide (x = y))) (fun _=>False) (fun _=>False) (fun _=>False) (fun _=>False) (fun _=>False) a) (fun _=>False) (fun _=>False) (fun _=>False) (fun _=>False) (fun _=>False) b
noncomputable def inW (a b:PV) (K:Bool->Prop):Prop:=asS a fun x=>
 pvc False False (fun _=>False) (fun _=>False) (fun y=>K (oX x y)) (fun ys=>∃ zs,fN ys = some zs /\ K (decide (x ∈ zs))) (fun ys=>∃ zs,fN ys = some zs /\ K (decide (x ∈ zs))) (fun _=>False) b
noncomputable def ltP (a b:PV) (K:Bool->Prop):Prop:=asI a fun x=>asI b fun y=>K (decide (x < y))
noncomputable def gtP (a b:PV) (K:Bool->Prop):Prop:=asI a fun x=>asI b fun y=>K (decide (y < x))
noncomputable def geP (a b:PV) (K:Bool->Prop):Prop:=asI a fun x=>asI b fun y=>K (decide (y <= x))
noncomputable def leP (a b:PV) (K:Bool->Prop):Prop:=
 pvc False False (fun _=>False) (fun x=>asI b fun y=>K (decide (x <= y))) (fun x=>asS b fun y=>K (leS x y)) (fun _=>False) (fun _=>False) (fun _=>False) a
noncomputable def za1 (σ:Nat->Option Cell) (op:CmpOp) (a b:PV) (K:Bool->Prop):Prop:=
 CmpOp.casesOn (motive:=fun _=>Prop) op (eqW σ a b K) (eqW σ a b fun r=>K (!r)) (ltP a b K) (leP a b K) (gtP a b K) (geP a b K) (isW a b K) (isW a b fun r=>K (!r)) (inW a b K) (inW a b fun r=>K (!r))
noncomputable def j4 (v:PV):Option (List PV):=PV.casesOn (motive_1:=fun _=>Option (List PV)) v none (fun _=>none) (fun _=>none) (fun x=>some (x.map fun c=>.str [c])) (fun _=>none) some (fun _ _=>none)
 (fun lo hi=>some ((List.range (hi - lo).toNat).map fun (k:Nat)=>.int (lo + k))) (fun _=>none) (fun _=>none)
/-! what an expression is -/
noncomputable def exc {α:Sort _} (d:α) (c:Const->α) (nm:Str->α) (tup:List Expr->α) (att:Expr->Str->Pos->α) (sl:Option Expr->Option Expr->α) (lc:Expr->List Comprehension->α) (e:Expr):α:=
 Expr.casesOn (motive_1:=fun _=>α) e (fun _ _ _=>d) (fun _ _ _=>d) (fun _ _ _ _=>d) (fun _ _ _=>d) (fun _ _ _ _=>d) (fun _ _ _ _=>d) (fun _ _ _=>d) (fun _ _ _=>d) (fun e g _ _=>lc e g) (fun _ _ _ _=>d)
  (fun _ _ _ _ _=>d) (fun _ _ _ _=>d) (fun _ _=>d) (fun _ _=>d) (fun _ _=>d) (fun _ _ _ _=>d) (fun _ _ _ _=>d) (fun _ _ _ _=>d) (fun _ _=>d) (fun x _ _=>c x) (fun o n p=>att o n p) (fun _ _ _=>d) (fun _ _=>d) (fun x _=>nm x) (fun _ _=>d) (fun es _ _=>tup es) (fun l u _ _=>sl l u)
noncomputable def dH (e:Expr):Bool:=
 Expr.casesOn (motive_1:=fun _=>Bool) e (fun _ _ _=>true) (fun _ _ _=>true) (fun _ _ _ _=>true) (fun _ _ _=>true) (fun _ _ _ _=>true) (fun _ _ _ _=>true) (fun _ _ _=>true) (fun _ _ _=>true) (fun _ _ _ _=>true) (fun _ _ _ _=>true)
  (fun _ _ _ _ _=>true) (fun _ _ _ _=>true) (fun _ _=>true) (fun _ _=>true) (fun _ _=>true) (fun _ _ _ _=>true) (fun _ _ _ _=>true) (fun _ _ _ _=>true) (fun _ _=>true) (fun _ _ _=>true) (fun _ _ _=>true) (fun _ _ _=>true) (fun _ _=>false) (fun _ _=>true) (fun _ _=>true) (fun _ _ _=>true) (fun _ _ _ _=>true)
noncomputable def nmE (e:Expr):Option Str:=exc none (fun _=>none) some (fun _=>none) (fun _ _ _=>none) (fun _ _=>none) (fun _ _=>none) e
noncomputable def zaZ (e:Expr):Option (List Expr):=exc none (fun _=>none) (fun _=>none) some (fun _ _ _=>none) (fun _ _=>none) (fun _ _=>none) e
noncomputable def atN (e:Expr):Option Str:=exc none (fun _=>none) (fun _=>none) (fun _=>none) (fun _ n _=>some n) (fun _ _=>none) (fun _ _=>none) e
noncomputable def wY (e:Expr):Bool:=exc false (fun _=>false) (fun _=>false) (fun _=>false) (fun _ _ _=>false) (fun _ _=>true) (fun _ _=>false) e
noncomputable def strC (c:Const):Option Str:=match c with
 | .str p=>some p
 | _=>none
noncomputable def csE (e:Expr):Option Str:=exc none strC (fun _=>none) (fun _=>none) (fun _ _ _=>none) (fun _ _=>none) (fun _ _=>none) e
noncomputable def dE:List Expr->List PV->f9->Option f9
 | [],vs,ρ=>if vs.isEmpty = true then some ρ else none
 | e :: es,vs,ρ=>(nmE e).bind fun x=>vs.head?.bind fun v=>dE es vs.tail (upd ρ x v)
noncomputable def kD (e:Expr) (v:PV) (ρ:f9):Option f9:=match nmE e with
 | some x=>some (upd ρ x v)
 | none=>(zaZ e).bind fun es=>pvc none none (fun _=>none) (fun _=>none) (fun _=>none) (fun vs=>dE es vs ρ) (fun _=>none) (fun _=>none) v
noncomputable def iO:List Expr->PV->f9->Option f9
 | [],_,ρ=>some ρ
 | t :: ts,v,ρ=>(kD t v ρ).bind (iO ts v)
noncomputable def iM (b c:Nat):Option Nat:=
 if 48 <= c /\ c <= 57 /\ c - 48 < b then some (c - 48)
 else if 97 <= c /\ c <= 102 /\ c - 87 < b then some (c - 87)
 else if 65 <= c /\ c <= 70 /\ c - 55 < b then some (c - 55)
 else none
noncomputable def eE (b:Nat):Nat->List Nat->Option Nat
 | acc,[]=>some acc
 | acc,c :: r=>match iM b c with
  | some d=>eE b (acc * b + d) r
  | none=>none
noncomputable def zgs (v:PV) (K:PV->Prop):Prop:=pvc False False (fun _=>False) (fun _=>False) (fun x=>K (.int x.length)) (fun _=>False) (fun x=>K (.int x.length)) (fun _=>False) v
noncomputable def zb9 (x:List Nat) (K:PV->Prop):Prop:=List.casesOn (motive:=fun _=>Prop) x False fun c x=>
 x.length < 640 /\ ((c = 45 /\ x ≠ [] /\ ∃ n,eE 10 0 x = some n /\ K (.int (-(n:Int)))) \/
   (c = 43 /\ x ≠ [] /\ ∃ n,eE 10 0 x = some n /\ K (.int n)) \/
   (∃ n,eE 10 0 (c :: x) = some n /\ K (.int n)))
noncomputable def rngP (lo hi:Int) (K:PV->Prop):Prop:=0 <= lo /\ lo <= 16777216 /\ 0 <= hi /\ hi <= 16777216 /\ K (.rng lo hi)
noncomputable def biP (name:Str) (args:List PV) (K:PV->Prop):Prop:=
 if name = "len" then one args fun v=>zgs v K
 else if name = "ord" then one args fun v=>asS v fun x=>one x fun c=>K (.int c)
 else if name = "chr" then one args fun v=>asI v fun i=>0 <= i /\ i < 0x110000 /\ K (.str [i.toNat])
 else if name = "int" then List.casesOn (motive:=fun _=>Prop) args False fun v r=>asS v fun x=>List.casesOn (motive:=fun _=>Prop) r (zb9 x K) fun b r=>one (b :: r) fun b=>asI b fun b=>b = 16 /\ x ≠ [] /\ x.length <= 640 /\ ∃ n,eE 16 0 x = some n /\ K (.int n)
 else if name = "range" then one args fun a=>asI a fun lo=>rngP 0 lo K
 else False
noncomputable def qE (x p:List Nat):Nat->Nat->Int
 | _,0=>-1
 | i,n + 1=>if p.isPrefixOf (x.drop i) then i else qE x p (i + 1) n
noncomputable def sK (x p:List Nat) (i:Nat):Int:=qE x p i (x.length + 1 - i)
noncomputable def cJ:List Nat->List Nat->Nat->List Nat->List Nat
 | _,_,0,x=>x
 | _,_,_ + 1,[]=>[]
 | p,q,n + 1,c :: x=>if p.isPrefixOf (c :: x) then q ++ cJ p q n ((c :: x).drop p.length) else c :: cJ p q n x
noncomputable def k6 (p q x:List Nat):List Nat:=cJ p q (x.length + 1) x
noncomputable def pU (c:Nat) (x:List Nat):Nat->Nat->Option Nat->Option Nat
 | 0,_,st=>st
 | n + 1,i,st=>pU c x n (i + 1) (if x[i]? = some c then some i else st)
noncomputable def fA (c:Nat) (x:List Nat) (i j:Nat):Int:=(pU c x (min j x.length - i) i none).elim (-1) fun k=>(k:Int)
noncomputable def okI (i:Int) (K:Prop):Prop:=0 <= i /\ i < 4611686018427387904 /\ K
noncomputable def swP (x:List Nat) (p:PV) (i:Int) (K:Bool->Prop):Prop:=
 pvc False False (fun _=>False) (fun _=>False) (fun p=>K (decide (i <= x.length) && p.isPrefixOf (x.drop i.toNat)))
  (fun ps=>∃ zs,fN ps = some zs /\ K (decide (i <= x.length) && zs.any fun p=>p.isPrefixOf (x.drop i.toNat))) (fun _=>False) (fun _=>False) p
noncomputable def zdO (args:List PV) (K:Nat->Int->Int->Prop):Prop:=x6 args fun p i j=>asS p fun p=>one p fun c=>asI i fun i=>asI j fun j=>okI i (okI j (K c i j))
noncomputable def hW (σ:Nat->Option Cell) (name:Str) (o:PV) (args:List PV) (K:PV->(Nat->Option Cell)->Prop):Prop:=
 if name = "append" then asP o fun a=>one args fun v=>∃ xs,σ a = some (.lst xs) /\ xs.length < aO /\ K .none (aZ σ a (.lst (xs ++ [v])))
 else if name = "startswith" then asS o fun x=>two args fun p i=>asI i fun i=>okI i (swP x p i fun b=>K (.bool b) σ)
 else if name = "find" then asS o fun x=>two args fun p i=>asS p fun p=>asI i fun i=>okI i (K (.int (sK x p i.toNat)) σ)
 else if name = "rfind" then asS o fun x=>zdO args fun c i j=>K (.int (fA c x i.toNat j.toNat)) σ
 else if name = "count" then asS o fun x=>zdO args fun c i j=>K (.int ((((x.take j.toNat).drop i.toNat).count c:Nat):Int)) σ
 else if name = "join" then asS o fun x=>x = [] /\ one args fun l=>asL (der σ l) fun xs=>∃ zs,fN xs = some zs /\ zs.flatten.length <= aO /\ K (.str zs.flatten) σ
 else if name = "pop" then asP o fun a=>args = [] /\ ∃ xs v,σ a = some (.lst (xs ++ [v])) /\ K v (aZ σ a (.lst xs))
 else False
noncomputable def lX:Const->Option PV
 | .none=>some .none
 | .bool b=>some (.bool b)
 | .int i=>some (.int i)
 | .str s=>some (.str s.cps.toList)
 | _=>none
noncomputable def tst (K:Bool->St->Prop) (v:PV) (st:St):Prop:=opt (rA (der st.σ v)) fun b=>K b st
noncomputable def eA (ns:List (Str × NameKind)):Kn:=fun y=>List.lookup y ns
noncomputable def lK (v:PV):Bool:=pvc false false (fun _=>false) (fun _=>false) (fun _=>false) (fun _=>false) (fun _=>false) (fun _=>true) v
noncomputable def fX (v:PV):Bool:=pvc false true (fun _=>true) (fun _=>true) (fun _=>true) (fun _=>false) (fun _=>false) (fun _=>false) v
noncomputable def d4 (C:Ctx) (pos:Pos) (vs:List PV) (Q:PV->St->Prop) (st:St):Prop:=
 if C.mutL pos.line then ∀ a,st.σ a = none->Q (.ptr a) ⟨st.ρ,aZ st.σ a (.lst vs)⟩ else Q (.list vs) st
noncomputable def unP (op:UnaryOp) (v:PV) (K:PV->Prop):Prop:=
 UnaryOp.casesOn (motive:=fun _=>Prop) op False (opt (rA v) fun b=>K (.bool (!b))) False (asI v fun i=>K (.int (-i)))
noncomputable def c8 (as:List Expr):Option (Str × Str):=match as with
 | [a,b]=>(csE a).bind fun p=>(csE b).map fun q=>(p,q)
 | _=>none
noncomputable def yZ (name p q:Str) (o:PV) (K:PV->Prop):Prop:=
 asS o fun x=>name = "replace" /\ x.length <= 1000000 /\ p.cps.toList ≠ [] /\ q.cps.toList.length = 1 /\ p ≠ q /\ K (.str (k6 p.cps.toList q.cps.toList x))
noncomputable def zaQ (C:Ctx) (name:Str) (o:PV) (K:PV->Prop):Prop:=
 PV.casesOn (motive_1:=fun _=>Prop) o False (fun _=>False) (fun _=>False) (fun _=>False) (fun _=>False) (fun _=>False)
  (fun c fs=>mT (C.slot c name) (opt (C.cval c name) K) fun i=>opt fs[i]? K) (fun _ _=>False) (fun _=>False) (fun _=>False)
noncomputable def zc2 (o:PV) (lo hi:Option Int) (K:PV->Prop):Prop:=
 pvc False False (fun _=>False) (fun _=>False) (fun x=>K (.str (slc x lo hi))) (fun _=>False) (fun xs=>K (.list (slc xs lo hi))) (fun _=>False) o
noncomputable def zem (o i:PV) (K:PV->Prop):Prop:=asI i fun k=>
 pvc False False (fun _=>False) (fun _=>False) (fun x=>opt (uK x k) fun c=>K (.str [c])) (fun xs=>opt (uK xs k) K) (fun xs=>opt (uK xs k) K) (fun _=>False) o
noncomputable def nX (C:Ctx) (f:Str):Bool:=(C.fn f).isSome || (C.cls f).isSome || C.bi f
noncomputable def f7 (C:Ctx) (f:Str) (vs:List PV) (st:St) (K:PV->Prop):Prop:=
 mT (C.fn f) (mT (C.cls f) (C.bi f = true /\ biP f (vs.map (der st.σ)) K) fun F=>F vs K)
  fun F=>F (vs.map (der st.σ)) fun r=>(vs.any lK = false \/ fX r = true) /\ K r
noncomputable def cO (e:Expr):List Str:=match nmE e with
 | some x=>[x]
 | none=>((zaZ e).getD []).filterMap nmE
noncomputable def setCell (C:Ctx) (a:Nat) (name:Str) (v:PV) (st:St) (K:St->Prop):Prop:=
 ∃ c fs i,st.σ a = some (.ins c fs) /\ C.slot c name = some i /\ i < fs.length /\ K ⟨st.ρ,aZ st.σ a (.ins c (fs.set i (some v)))⟩
noncomputable def mOk (σ:Nat->Option Cell) (name:Str) (v:PV):Bool:=
 pvc false false (fun _=>false) (fun _=>false) (fun _=>name == "startswith" || name == "find" || name == "rfind" || name == "count" || name == "join") (fun _=>false) (fun _=>false)
  (fun a=>(name == "append" || name == "pop") && (fR (σ a)).isSome) v
mutual
noncomputable def wE (C:Ctx):Expr->Kn->(PV->St->Prop)->St->Prop
 | .Constant c _ _,_,Q,st=>opt (lX c) fun v=>Q v st
 | .Name id _,κ,Q,st=>if κ id = some .globalImplicit then opt (C.val id) (fun v=>Q v st) else opt (st.ρ id) fun v=>Q v st
 | .BoolOp op vs _,κ,Q,st=>wBo C op vs κ Q st
 | .BinOp l op r _,κ,Q,st=>wE C l κ (fun a st1=>wE C r κ (fun b st2=>ze6 op (der st2.σ a) (der st2.σ b) fun v=>Q v st2) st1) st
 | .UnaryOp op x _,κ,Q,st=>wE C x κ (fun v st1=>unP op (der st1.σ v) fun r=>Q r st1) st
 | .IfExp t b o _,κ,Q,st=>wE C t κ (tst fun c st1=>if c = true then wE C b κ Q st1 else wE C o κ Q st1) st
 | .Compare l ops cs _,κ,Q,st=>wE C l κ (fun a st1=>wCh C cs ops κ a Q st1) st
 | .Call f args kws _,κ,Q,st=>kws.isEmpty = true /\ mT (atN f)
   (opt (nmE f) fun id=>κ id = some .globalImplicit /\ nX C id = true /\ wEs C args κ (fun vs st2=>f7 C id vs st2 fun r=>Q r st2) st)
   fun name=>mT (c8 args) (wA C f κ (fun ov st1=>mOk st1.σ name ov = true /\ wEs C args κ (fun vs st2=>hW st2.σ name ov vs fun r σ'=>Q r ⟨st2.ρ,σ'⟩) st1) st)
    fun pq=>wA C f κ (fun ov st1=>yZ name pq.1 pq.2 ov fun r=>Q r st1) st
 | .Attribute o name _,κ,Q,st=>wE C o κ (fun ov st1=>zaQ C name ov fun r=>Q r st1) st
 | .Subscript o i _,κ,Q,st=>wE C o κ (fun ov st1=>if wY i = true then wSl C i κ (fun lo hi st3=>zc2 (der st3.σ ov) lo hi fun r=>Q r st3) st1 else wE C i κ (fun iv st2=>zem (der st2.σ ov) iv fun r=>Q r st2) st1) st
 | .List es pos,κ,Q,st=>wEs C es κ (fun vs st1=>d4 C pos vs Q st1) st
 | .Tuple es _ _,κ,Q,st=>wEs C es κ (fun vs st1=>Q (.tup vs) st1) st
 | .FormattedValue e conv sp _,κ,Q,st=>conv = -1 /\ sp.isNone = true /\ wE C e κ (fun v st1=>asS v fun y=>Q (.str y) st1) st
 | .JoinedStr vs _,κ,Q,st=>2 <= vs.length /\ wJ C vs κ [] Q st
 | .NamedExpr _ _ _,_,_,_=>False
 | .Lambda _ _ _ _,_,_,_=>False
 | .Dict _ _ _,_,_,_=>False
 | .Set _ _ _,_,_,_=>False
 | .ListComp _ _ _ _,_,_,_=>False
 | .SetComp _ _ _ _,_,_,_=>False
 | .DictComp _ _ _ _ _,_,_,_=>False
 | .GeneratorExp _ _ _ _,_,_,_=>False
 | .Await _ _,_,_,_=>False
 | .Yield _ _,_,_,_=>False
 | .YieldFrom _ _,_,_,_=>False
 | .Starred _ _,_,_,_=>False
 | .Slice _ _ _ _,_,_,_=>False
noncomputable def wEs (C:Ctx):List Expr->Kn->(List PV->St->Prop)->St->Prop
 | [],_,Q,st=>Q [] st
 | e :: es,κ,Q,st=>wE C e κ (fun v st1=>wEs C es κ (fun vs st2=>Q (v :: vs) st2) st1) st
noncomputable def wJ (C:Ctx):List Expr->Kn->List Nat->(PV->St->Prop)->St->Prop
 | [],_,acc,Q,st=>Q (.str acc) st
 | e :: es,κ,acc,Q,st=>wE C e κ (fun v st1=>asS v fun y=>(acc ++ y).length <= aO /\ wJ C es κ (acc ++ y) Q st1) st
noncomputable def wOp (C:Ctx):Option Expr->Kn->(Option Int->St->Prop)->St->Prop
 | none,_,Q,st=>Q none st
 | some e,κ,Q,st=>wE C e κ (fun v st1=>asI v fun i=>-4611686018427387904 < i /\ i < 4611686018427387904 /\ Q (some i) st1) st
noncomputable def wA (C:Ctx):Expr->Kn->(PV->St->Prop)->St->Prop
 | .Attribute o _ _,κ,Q,st=>wE C o κ Q st
 | .BoolOp _ _ _,_,_,_=>False
 | .NamedExpr _ _ _,_,_,_=>False
 | .BinOp _ _ _ _,_,_,_=>False
 | .UnaryOp _ _ _,_,_,_=>False
 | .Lambda _ _ _ _,_,_,_=>False
 | .IfExp _ _ _ _,_,_,_=>False
 | .Dict _ _ _,_,_,_=>False
 | .Set _ _ _,_,_,_=>False
 | .ListComp _ _ _ _,_,_,_=>False
 | .SetComp _ _ _ _,_,_,_=>False
 | .DictComp _ _ _ _ _,_,_,_=>False
 | .GeneratorExp _ _ _ _,_,_,_=>False
 | .Await _ _,_,_,_=>False
 | .Yield _ _,_,_,_=>False
 | .YieldFrom _ _,_,_,_=>False
 | .Compare _ _ _ _,_,_,_=>False
 | .Call _ _ _ _,_,_,_=>False
 | .FormattedValue _ _ _ _,_,_,_=>False
 | .JoinedStr _ _,_,_,_=>False
 | .Constant _ _ _,_,_,_=>False
 | .Subscript _ _ _,_,_,_=>False
 | .Starred _ _,_,_,_=>False
 | .Name _ _,_,_,_=>False
 | .List _ _,_,_,_=>False
 | .Tuple _ _ _,_,_,_=>False
 | .Slice _ _ _ _,_,_,_=>False
noncomputable def wSl (C:Ctx):Expr->Kn->(Option Int->Option Int->St->Prop)->St->Prop
 | .Slice l u sp _,κ,Q,st=>sp.isNone = true /\ wOp C l κ (fun lo st1=>wOp C u κ (fun hi st2=>Q lo hi st2) st1) st
 | .BoolOp _ _ _,_,_,_=>False
 | .NamedExpr _ _ _,_,_,_=>False
 | .BinOp _ _ _ _,_,_,_=>False
 | .UnaryOp _ _ _,_,_,_=>False
 | .Lambda _ _ _ _,_,_,_=>False
 | .IfExp _ _ _ _,_,_,_=>False
 | .Dict _ _ _,_,_,_=>False
 | .Set _ _ _,_,_,_=>False
 | .ListComp _ _ _ _,_,_,_=>False
 | .SetComp _ _ _ _,_,_,_=>False
 | .DictComp _ _ _ _ _,_,_,_=>False
 | .GeneratorExp _ _ _ _,_,_,_=>False
 | .Await _ _,_,_,_=>False
 | .Yield _ _,_,_,_=>False
 | .YieldFrom _ _,_,_,_=>False
 | .Compare _ _ _ _,_,_,_=>False
 | .Call _ _ _ _,_,_,_=>False
 | .FormattedValue _ _ _ _,_,_,_=>False
 | .JoinedStr _ _,_,_,_=>False
 | .Constant _ _ _,_,_,_=>False
 | .Attribute _ _ _,_,_,_=>False
 | .Subscript _ _ _,_,_,_=>False
 | .Starred _ _,_,_,_=>False
 | .Name _ _,_,_,_=>False
 | .List _ _,_,_,_=>False
 | .Tuple _ _ _,_,_,_=>False
noncomputable def wBo (C:Ctx) (op:BoolOp):List Expr->Kn->(PV->St->Prop)->St->Prop
 | [],_,_,_=>False
 | e :: es,κ,Q,st=>if es.isEmpty = true then wE C e κ Q st else wE C e κ (fun v st1=>opt (rA (der st1.σ v)) fun b=>if b = (op == .Or) then Q v st1 else wBo C op es κ Q st1) st
noncomputable def wCh (C:Ctx):List Expr->List CmpOp->Kn->PV->(PV->St->Prop)->St->Prop
 | [],_,_,_,_,_=>False
 | r :: rs,ops,κ,a,Q,st=>opt ops.head? fun op=>wE C r κ (fun b st1=>za1 st1.σ op a b fun c=>if rs.isEmpty = true then ops.tail.isEmpty = true /\ Q (.bool c) st1 else if c = true then wCh C rs ops.tail κ b Q st1 else Q (.bool false) st1) st
end
end
section
variable {C:Ctx} {κ:Kn} {Q:PV->St->Prop} {st:St} {p q:Pos} {e l r t b o i elt iter:Expr} {es:List Expr}
theorem za6 {c:Const} {k:Nat}:wE C (.Constant c k p) κ Q st = opt (lX c) fun v=>Q v st:=rfl
theorem iJ {x:Str}:wE C (.Name x p) κ Q st = if κ x = some .globalImplicit then opt (C.val x) (fun v=>Q v st) else opt (st.ρ x) fun v=>Q v st:=rfl
theorem zfi {op:Operator}:wE C (.BinOp l op r p) κ Q st = wE C l κ (fun a st1=>wE C r κ (fun b st2=>ze6 op (der st2.σ a) (der st2.σ b) fun v=>Q v st2) st1) st:=rfl
theorem zfh {ops:List CmpOp}:wE C (.Compare l ops es p) κ Q st = wE C l κ (fun a st1=>wCh C es ops κ a Q st1) st:=rfl
theorem jH {name:Str} {kws:List Keyword}:wE C (.Call (.Attribute o name q) es kws p) κ Q st = (kws.isEmpty = true /\ mT (c8 es) (wE C o κ (fun ov st1=>mOk st1.σ name ov = true /\ wEs C es κ (fun vs st2=>hW st2.σ name ov vs fun r σ'=>Q r ⟨st2.ρ,σ'⟩) st1) st)
    fun pq=>wE C o κ (fun ov st1=>yZ name pq.1 pq.2 ov fun r=>Q r st1) st):=rfl
theorem nE {x:Str} {kws:List Keyword}:wE C (.Call (.Name x q) es kws p) κ Q st = (kws.isEmpty = true /\ κ x = some .globalImplicit /\ nX C x = true /\ wEs C es κ (fun vs st2=>f7 C x vs st2 fun r=>Q r st2) st):=rfl
theorem zfg {l u sp:Option Expr}:wE C (.Subscript o (.Slice l u sp q) p) κ Q st = wE C o κ (fun ov st1=>sp.isNone = true /\ wOp C l κ (fun lo st2=>wOp C u κ (fun hi st3=>zc2 (der st3.σ ov) lo hi fun r=>Q r st3) st2) st1) st:=rfl
theorem zff:wE C (.Subscript o i p) κ Q st = wE C o κ (fun ov st1=>if wY i = true then wSl C i κ (fun lo hi st3=>zc2 (der st3.σ ov) lo hi fun r=>Q r st3) st1 else wE C i κ (fun iv st2=>zem (der st2.σ ov) iv fun r=>Q r st2) st1) st:=rfl
theorem zfe {k:Nat}:wE C (.Tuple es k p) κ Q st = wEs C es κ (fun vs st1=>Q (.tup vs) st1) st:=rfl
theorem jG {Q:List PV->St->Prop}:wEs C [] κ Q st = Q [] st:=rfl
theorem iS {Q:List PV->St->Prop}:wEs C (e :: es) κ Q st = wE C e κ (fun v st1=>wEs C es κ (fun vs st2=>Q (v :: vs) st2) st1) st:=rfl
theorem zdC {op:CmpOp} {a:PV}:wCh C [r] [op] κ a Q st = wE C r κ (fun b st1=>za1 st1.σ op a b fun c=>true = true /\ Q (.bool c) st1) st:=rfl
variable {K:PV->Prop} {J:Bool->Prop} {R:PV->(Nat->Option Cell)->Prop} {σ:Nat->Option Cell} {x y:Int} {u v:List Nat} {s t:List PV} {a:Nat} {bo:Bool} {α:Type} {z z' z'':α}
theorem y2 {A:Prop} {F:α->Prop}:mT (some z) A F = F z:=rfl
theorem cF:inP .Add (.int x) (.int y) K = K (.int (x + y)):=rfl
theorem zc8:inP .Add (.str u) (.str v) K = (u.length + v.length <= aO /\ K (.str (u ++ v))):=rfl
end
noncomputable def zaI {α:Sort _} (d:α) (k:Expr->List Expr->List Keyword->α) (b:α) (e:Expr):α:=
 Expr.casesOn (motive_1:=fun _=>α) e (fun _ _ _=>d) (fun _ _ _=>d) (fun _ _ _ _=>d) (fun _ _ _=>d) (fun _ _ _ _=>d) (fun _ _ _ _=>d) (fun _ _ _=>d) (fun _ _ _=>d) (fun _ _ _ _=>d) (fun _ _ _ _=>d)
  (fun _ _ _ _ _=>d) (fun _ _ _ _=>d) (fun _ _=>d) (fun _ _=>d) (fun _ _=>d) (fun _ _ _ _=>d) (fun f as ks _=>k f as ks) (fun _ _ _ _=>d) (fun _ _=>d) (fun _ _ _=>d) (fun _ _ _=>d) (fun _ _ _=>b) (fun _ _=>d) (fun _ _=>d) (fun _ _=>d) (fun _ _ _=>d) (fun _ _ _ _=>d)
theorem eM {P:Expr->Prop} (hc:∀ c k p,P (.Constant c k p)) (hn:∀ x p,P (.Name x p)) (ht:∀ es k p,P (.Tuple es k p)) (ha:∀ o n p,P (.Attribute o n p)) (hs:∀ l u s p,P (.Slice l u s p)) (hl:∀ e g sc p,P (.ListComp e g sc p)) (hk:∀ f as ks p,P (.Call f as ks p)) (hb:∀ o i p,P (.Subscript o i p))
  (hd:∀ e,(∀ (α:Type) (d:α) c n t a s l,exc d c n t a s l e = d)->(∀ (α:Type) (d:α) k b,zaI d k b e = d)->P e):∀ e,P e:=by
 intro e
 cases e <;> first | exact hc _ _ _ | exact hn _ _ | exact ht _ _ _ | exact ha _ _ _ | exact hs _ _ _ _ | exact hl _ _ _ _ | exact hk _ _ _ _ | exact hb _ _ _ | exact hd _ (fun _ _ _ _ _ _ _ _=>rfl) (fun _ _ _ _=>rfl)
theorem gX {e:Expr} {x:Str}:nmE e = some x->∃ p,e = .Name x p:=by
 refine eM (P:=fun e=>nmE e = some x->∃ p,e = .Name x p) ?_ ?_ ?_ ?_ ?_ ?_ ?_ ?_ (fun e he _ h=>by rw [nmE,he] at h; cases h) e
 ·intro c k p h; cases h
 ·intro y p h; cases h; exact ⟨p,rfl⟩
 all_goals (intros; rename_i h; cases h)
theorem xS {e:Expr} {es:List Expr}:zaZ e = some es->∃ k p,e = .Tuple es k p:=by
 refine eM (P:=fun e=>zaZ e = some es->∃ k p,e = .Tuple es k p) ?_ ?_ ?_ ?_ ?_ ?_ ?_ ?_ (fun e he _ h=>by rw [zaZ,he] at h; cases h) e
 ·intro c k p h; cases h
 ·intro y p h; cases h
 ·intro es k p h; cases h; exact ⟨k,p,rfl⟩
 all_goals (intros; rename_i h; cases h)
theorem uT {e:Expr} {x:Str}:csE e = some x->∃ k p,e = .Constant (.str x) k p:=by
 refine eM (P:=fun e=>csE e = some x->∃ k p,e = .Constant (.str x) k p) ?_ ?_ ?_ ?_ ?_ ?_ ?_ ?_ (fun e he _ h=>by rw [csE,he] at h; cases h) e
 ·intro c k p h
  have h:strC c = some x:=h
  cases c <;> cases h
  exact ⟨k,p,rfl⟩
 all_goals (intros; rename_i h; cases h)
theorem oJ {e:Expr} {n:Str}:atN e = some n->∃ o p,e = .Attribute o n p:=by
 refine eM (P:=fun e=>atN e = some n->∃ o p,e = .Attribute o n p) ?_ ?_ ?_ ?_ ?_ ?_ ?_ ?_ (fun e he _ h=>by rw [atN,he] at h; cases h) e
 ·intro c k p h; cases h
 ·intro y p h; cases h
 ·intro es k p h; cases h
 ·intro o n p h; cases h; exact ⟨o,p,rfl⟩
 all_goals (intros; rename_i h; cases h)
noncomputable abbrev GM:=Nat->Option Obj
noncomputable def okStr (x:List Nat):Prop:=(∀ c ∈ x,c < 1114112) /\ x.length <= aO
noncomputable def InstRel (G:GM) (v:Value) (c:Nat) (vs:List Value):Prop:=
 ∃ x dx,v = .ref x /\ G x = some { cls:=.ref c,dict:=some dx,data:=.plain,slots:=(vs.map some).toArray } /\ G dx = some { cls:=.type "dict",data:=.dict #[] }
noncomputable def tL (P:Params) (vs:List DictEntry):List (List Nat × List Nat)->Prop
 | []=>vs = []
 | (k,x) :: xs=>∃ e r t t',vs = e :: r /\ e.key = .str ⟨k.toArray⟩ t /\ e.hash = PyData.keyHash P ⟨k.toArray⟩ /\ e.val = .str ⟨x.toArray⟩ t' /\ okStr x /\ tL P r xs
mutual
noncomputable def VRel (P:Params) (G:GM) (v:Value):PV->Prop
 | .none=>v = .none
 | .bool b=>v = .bool b
 | .int i=>∃ t,v = .int i t
 | .str x=>∃ t,v = .str ⟨x.toArray⟩ t /\ okStr x
 | .tup xs=>∃ a o vs n,v = .ref a /\ G a = some o /\ o.cls = .type "tuple" /\ o.data = .seq vs n /\ vs.size <= aO /\ VRels P G vs.toList xs
 | .list xs=>∃ a o vs n,v = .ref a /\ G a = some o /\ o.cls = .type "list" /\ o.dict = none /\ o.data = .seq vs n /\ vs.size <= aO /\ VRels P G vs.toList xs
 | .inst c fs=>∃ vs,InstRel G v c vs /\ VRels P G vs fs
 | .rng lo hi=>∃ a t u w,v = .ref a /\ G a = some { cls:=.type "range",data:=.fields #[.int lo t,.int hi u,.int 1 w] } /\ 0 <= lo /\ lo <= 16777216 /\ 0 <= hi /\ hi <= 16777216
 | .dict es=>∃ a es' n,v = .ref a /\ a ≠ sysModules /\ G a = some { cls:=.type "dict",data:=.dict es' n } /\ tL P es'.toList es
 | .ptr a=>v = .ref a
noncomputable def VRels (P:Params) (G:GM) (vs:List Value):List PV->Prop
 | []=>vs = []
 | x :: xs=>∃ v r,vs = v :: r /\ VRel P G v x /\ VRels P G r xs
end
noncomputable def Sub (G G':GM):Prop:=∀ a o,G a = some o->G' a = some o
noncomputable def XS (a:Nat):Prop:=a = 29 \/ a = 36
theorem zdB {a P:Nat} (n:¬ XS a) (p:XS P):P ≠ a:=fun q=>n (q ▸ p)
noncomputable def TabX (h:Heap):Prop:=∀ P,XS P->∃ o ps,h.get? P = some o /\ o.data = .fields ps /\ TriplesOk ps.toList /\ o = { cls:=.none,data:=.fields ps }
theorem Heap.none_size (h:Heap):h.get? h.objs.size = none:=by
 cases e:h.get? h.objs.size with
 | none=>rfl
 | some o=>exact absurd (Heap.lt_size e) (Nat.lt_irrefl _)
theorem TabX.keeps {h h':Heap} (x:TabX h) (k:∀ P o,XS P->h.get? P = some o->h'.get? P = some o):TabX h':=fun P p=>let ⟨o,ps,e,r⟩:=x P p; ⟨o,ps,k P o p e,r⟩
structure InH (G:GM) (h:Heap):Prop where
 at_:∀ a o,G a = some o->h.get? a = some o
 px:∀ P,XS P->G P = none
 tab:TabX h
theorem TabX.ne {h:Heap} (x:TabX h) {a:Nat} (e:h.get? a = none):¬ XS a:=fun q=>by obtain ⟨o,ps,h1,_⟩:=x a q; rw [h1] at e; cases e
theorem InH.keeps {G:GM} {h h':Heap} (x:InH G h) (k:∀ a o,h.get? a = some o->h'.get? a = some o):InH G h':=⟨fun a o e=>k a o (x.at_ a o e),x.px,x.tab.keeps fun P o _=>k P o⟩
theorem InH.but {G:GM} {h h':Heap} {a:Nat} (x:InH G h) (k:∀ b o,b ≠ a->h.get? b = some o->h'.get? b = some o) (ha:G a = none) (hx:¬ XS a):InH G h':=
 ⟨fun b o e=>k b o (fun q=>by rw [q,ha] at e; cases e) (x.at_ b o e),x.px,x.tab.keeps fun P o p=>k P o (zdB hx p)⟩
theorem Sub.refl (G:GM):Sub G G:=fun _ _ e=>e
theorem Sub.trans {G G' G'':GM} (h:Sub G G') (h':Sub G' G''):Sub G G'':=fun a o e=>h' a o (h a o e)
theorem InH.sub {G G':GM} {h:Heap} (x:InH G' h) (s:Sub G G'):InH G h:=
 ⟨fun a o e=>x.at_ a o (s a o e),(fun P p=>Option.eq_none_iff_forall_ne_some.mpr fun o e=>by have:=s P o e; rw [x.px P p] at this; cases this),x.tab⟩
theorem InstRel.mono {G G':GM} (h:Sub G G') {v c vs} (r:InstRel G v c vs):InstRel G' v c vs:=by
 obtain ⟨x,dx,h1,h2,h3⟩:=r; exact ⟨x,dx,h1,h _ _ h2,h _ _ h3⟩
mutual
theorem VRel.mono {P:Params} {G G':GM} (h:Sub G G') {v:Value}:∀ {p:PV},VRel P G v p->VRel P G' v p
 | .none,r=>r
 | .bool _,r=>r
 | .int _,r=>r
 | .str _,r=>r
 | .tup xs,r=>by
  simp only [VRel] at r ⊢
  obtain ⟨a,o,vs,n,h1,h2,h3,h4,h5,h6⟩:=r
  exact ⟨a,o,vs,n,h1,h _ _ h2,h3,h4,h5,VRels.mono h h6⟩
 | .list xs,r=>by
  simp only [VRel] at r ⊢
  obtain ⟨a,o,vs,n,h1,h2,h3,h3',h4,h5,h6⟩:=r
  exact ⟨a,o,vs,n,h1,h _ _ h2,h3,h3',h4,h5,VRels.mono h h6⟩
 | .inst c fs,r=>by
  simp only [VRel] at r ⊢
  obtain ⟨vs,h1,h2⟩:=r
  exact ⟨vs,h1.mono h,VRels.mono h h2⟩
 | .rng lo hi,r=>by
  simp only [VRel] at r ⊢
  obtain ⟨a,t,u,w,h1,h2,h3⟩:=r
  exact ⟨a,t,u,w,h1,h _ _ h2,h3⟩
 | .dict es,r=>by
  simp only [VRel] at r ⊢
  obtain ⟨a,es',n,h1,h2,h3,h4⟩:=r
  exact ⟨a,es',n,h1,h2,h _ _ h3,h4⟩
 | .ptr _,r=>r
theorem VRels.mono {P:Params} {G G':GM} (h:Sub G G'):∀ {ps:List PV} {vs:List Value},VRels P G vs ps->VRels P G' vs ps
 | [],_,r=>r
 | p :: ps,_,r=>by
  simp only [VRels] at r ⊢
  obtain ⟨v,s,h1,h2,h3⟩:=r
  exact ⟨v,s,h1,VRel.mono h h2,VRels.mono h h3⟩
end
theorem VRels.length {P:Params} {G:GM}:∀ {ps:List PV} {vs:List Value},VRels P G vs ps->vs.length = ps.length
 | [],_,r=>by simp only [VRels] at r; simp [r]
 | p :: ps,_,r=>by
  simp only [VRels] at r
  obtain ⟨v,s,rfl,_,h3⟩:=r
  simp [h3.length]
theorem VRels.get {P:Params} {G:GM}:∀ {ps:List PV} {vs:List Value} {i:Nat} {p:PV},VRels P G vs ps->ps[i]? = some p->∃ v,vs[i]? = some v /\ VRel P G v p
 | [],_,_,_,_,e=>by simp at e
 | p :: ps,_,0,_,r,e=>by
  simp only [VRels] at r
  obtain ⟨v,s,rfl,h2,_⟩:=r
  simp at e; subst e
  exact ⟨v,by simp,h2⟩
 | p :: ps,_,i + 1,q,r,e=>by
  simp only [VRels] at r
  obtain ⟨v,s,rfl,_,h3⟩:=r
  obtain ⟨u,hu,hr⟩:=h3.get (i:=i) (p:=q) (by simpa using e)
  exact ⟨u,by simpa using hu,hr⟩
theorem VRels.get' {P:Params} {G:GM}:∀ {ps:List PV} {vs:List Value} {i:Nat} {v:Value},VRels P G vs ps->vs[i]? = some v->∃ p,ps[i]? = some p /\ VRel P G v p:=by
 intro ps vs i v r e
 have hlen:=r.length
 have hi:i < ps.length:=by
  have:=(List.getElem?_eq_some_iff.mp e).1
  omega
 obtain ⟨u,hu,hr⟩:=r.get (i:=i) (p:=ps[i]) (by simp [hi])
 rw [e] at hu; cases hu
 exact ⟨_,by simp [hi],hr⟩
theorem VRels.append {P:Params} {G:GM}:∀ {ps qs:List PV} {vs us:List Value},VRels P G vs ps->VRels P G us qs->VRels P G (vs ++ us) (ps ++ qs)
 | [],_,_,_,r,s=>by simp only [VRels] at r; subst r; simpa using s
 | p :: ps,qs,_,us,r,s=>by
  simp only [VRels] at r
  obtain ⟨v,w,rfl,h2,h3⟩:=r
  simp only [List.cons_append,VRels]
  exact ⟨v,w ++ us,rfl,h2,h3.append s⟩
theorem VRels.nil {P:Params} {G:GM}:VRels P G [] []:=by simp [VRels]
theorem VRels.cons {P:Params} {G:GM} {v:Value} {vs:List Value} {p:PV} {ps:List PV} (h:VRel P G v p) (hs:VRels P G vs ps):VRels P G (v :: vs) (p :: ps):=by
 simp only [VRels]; exact ⟨v,vs,rfl,h,hs⟩
theorem VRels.one {P:Params} {G:GM} {v:Value} {p:PV} (h:VRel P G v p):VRels P G [v] [p]:=.cons h .nil
theorem VRels.drop {P:Params} {G:GM}:∀ (n:Nat) {ps:List PV} {vs:List Value},VRels P G vs ps->VRels P G (vs.drop n) (ps.drop n)
 | 0,_,_,r=>by simpa using r
 | n + 1,[],_,r=>by simp only [VRels] at r; subst r; simp [VRels]
 | n + 1,p :: ps,_,r=>by
  simp only [VRels] at r
  obtain ⟨v,w,rfl,h2,h3⟩:=r
  simpa using h3.drop n
theorem VRels.take {P:Params} {G:GM}:∀ (n:Nat) {ps:List PV} {vs:List Value},VRels P G vs ps->VRels P G (vs.take n) (ps.take n)
 | 0,_,_,r=>by simp [VRels]
 | n + 1,[],_,r=>by simp only [VRels] at r; subst r; simp [VRels]
 | n + 1,p :: ps,_,r=>by
  simp only [VRels] at r
  obtain ⟨v,w,rfl,h2,h3⟩:=r
  simpa using VRels.cons h2 (h3.take n)
theorem VRels.set {P:Params} {G:GM}:∀ {ps:List PV} {vs:List Value} (i:Nat) {v:Value} {p:PV},VRels P G vs ps->VRel P G v p->VRels P G (vs.set i v) (ps.set i p)
 | [],_,_,_,_,r,_=>by simp only [VRels] at r; subst r; simp [VRels]
 | q :: ps,_,0,v,p,r,h=>by
  simp only [VRels] at r
  obtain ⟨u,w,rfl,h2,h3⟩:=r
  simpa using VRels.cons h h3
 | q :: ps,_,i + 1,v,p,r,h=>by
  simp only [VRels] at r
  obtain ⟨u,w,rfl,h2,h3⟩:=r
  simpa using VRels.cons h2 (h3.set i h)
structure GS (G:GM) (s:Shared) (G':GM) (s':Shared):Prop where
 ext:Sub G G'
 inh:InH G' s'.heap
 new:∀ a o,G' a = some o->G a = some o \/ s.heap.get? a = none
 keep:∀ a o,¬ XS a->s.heap.get? a = some o->s'.heap.get? a = some o
 os:s'.os = s.os
 gens:AllBare s.gens->AllBare s'.gens
theorem GS.refl {G:GM} {s:Shared} (h:InH G s.heap):GS G s G s:=⟨.refl _,h,fun _ _ e=>.inl e,fun _ _ _ e=>e,rfl,fun e=>e⟩
theorem GS.trans {G G' G'':GM} {s s' s'':Shared} (h:GS G s G' s') (h':GS G' s' G'' s''):GS G s G'' s'' where
 ext:=h.ext.trans h'.ext
 inh:=h'.inh
 new:=fun a o e=>by
  rcases h'.new a o e with q | q
  ·exact h.new a o q
  ·right
   cases e':s.heap.get? a with
   | none=>rfl
   | some o'=>rw [h.keep a o' (fun q=>by rw [h'.inh.px a q] at e; cases e) e'] at q; cases q
 keep:=fun a o n e=>h'.keep a o n (h.keep a o n e)
 os:=h'.os.trans h.os
 gens:=fun e=>h'.gens (h.gens e)
theorem GS.toks {G:GM} {s:Shared} (h:InH G s.heap) (k:Nat):GS G s G { s with toks:=k }:=⟨.refl _,h,fun _ _ e=>.inl e,fun _ _ _ e=>e,rfl,fun e=>e⟩
noncomputable def oN (G:GM) (a:Nat) (o:Obj):GM:=fun b=>if b = a then some o else G b
theorem InH.add {G:GM} {h:Heap} {a:Nat} {o:Obj} (x:InH G h) (e:h.get? a = some o) (n:¬ XS a):InH (oN G a o) h:=
 ⟨fun b o' q=>by
  unfold oN at q
  split at q
  ·rename_i r; subst r; cases q; exact e
  ·exact x.at_ _ _ q,fun P p=>by unfold oN; rw [if_neg (zdB n p)]; exact x.px P p,x.tab⟩
theorem GS.made {G:GM} {s:Shared} {h₁:Heap} {a:Nat} {o:Obj} (h:InH G s.heap) (ha:s.heap.get? a = none) (hg:h₁.get? a = some o) (kp:∀ b o,s.heap.get? b = some o->h₁.get? b = some o) (k:Nat):
  GS G s (oN G a o) { s with heap:=h₁,toks:=k } where
 ext:=fun b o' e=>by
  unfold oN
  rw [if_neg fun q=>by have:=h.at_ _ _ e; rw [q,ha] at this; cases this]; exact e
 inh:=⟨fun b o' e=>by
  unfold oN at e
  split at e
  ·rename_i q; subst q; cases e; exact hg
  ·exact kp _ _ (h.at_ _ _ e),fun P p=>by
  unfold oN
  rw [if_neg (zdB (h.tab.ne ha) p)]; exact h.px P p,h.tab.keeps fun _ _ _ e=>kp _ _ e⟩
 new:=fun b o' e=>by
  unfold oN at e
  split at e
  ·rename_i q; subst q; exact .inr ha
  ·exact .inl e
 keep:=fun b o' _ e=>kp _ _ e
 os:=rfl
 gens:=fun e=>e
theorem GS.push {G:GM} {s:Shared} (h:InH G s.heap) (o:Obj) (hf:o.isFreed = false) (k:Nat):GS G s (oN G s.heap.objs.size o) { s with heap:=s.heap.push o,toks:=k }:=
 .made h (Heap.none_size _) (Heap.get?_push_size _ hf) (fun _ _ e=>Heap.get?_push_of_some _ e) k
theorem e8 {G:GM} {a:Nat} {o:Obj}:oN G a o a = some o:=by simp [oN]
noncomputable def GW (M:Model) (A:Around) (P:Params) (E:Value->Shared->Prop) (G:GM) (s:Shared) (t:Sem Value) (K:PV->Prop):Prop:=
 wpAny M A t (fun v s'=>∃ r G',K r /\ GS G s G' s' /\ VRel P G' v r) E s
theorem GW.mono {M:Model} {A:Around} {P:Params} {E:Value->Shared->Prop} {G:GM} {s:Shared} {t:Sem Value} {K K':PV->Prop} (h:GW M A P E G s t K) (hk:∀ r,K r->K' r):GW M A P E G s t K':=
 wpAny_mono h (fun _ _ ⟨r,G',h1,h2,h3⟩=>⟨r,G',hk r h1,h2,h3⟩) fun _ _ e=>e
noncomputable def LView (P:Params) (G:GM) (h:Heap) (v:Value) (xs:List PV):Prop:=
 ∃ a o vs n,v = .ref a /\ h.get? a = some o /\ o.cls = .type "list" /\ o.dict = none /\ o.data = .seq vs n /\ vs.size <= aO /\ VRels P G vs.toList xs
noncomputable def kN (P:Params) (G:GM) (h:Heap) (v:Value):PV->Prop
 | .list xs=>LView P G h v xs
 | p=>VRel P G v p
theorem VRel.view {P:Params} {G:GM} {h:Heap} (hi:InH G h) {v:Value} {p:PV} (r:VRel P G v p):kN P G h v p:=by
 cases p <;> try exact r
 simp only [VRel] at r
 obtain ⟨a,o,vs,n,h1,h2,h3,h3',h4,h5,h6⟩:=r
 exact ⟨a,o,vs,n,h1,hi.at_ _ _ h2,h3,h3',h4,h5,h6⟩
section
variable {prog:Program} {w:World} {A:Around} {E:Value->Shared->Prop} {s:Shared} {G:GM} {P:Params} {a b:Value} {K:PV->Prop}
theorem mY {t:Sem Value} {i:Int} (hi:InH G s.heap) (hk:K (.int i)) (h:∀ Q:Value->Shared->Prop,Q (.int i s.toks) { s with toks:=s.toks + 1 }->wpAny (model prog w) A t Q E s):GW (model prog w) A P E G s t K:=
 h _ ⟨.int i,G,hk,GS.toks hi _,by simp [VRel]⟩
theorem jZ {x y:List Nat} (hx:okStr x) (hy:okStr y) (h:x.length + y.length <= aO):okStr (x ++ y):=
 ⟨fun c hc=>(List.mem_append.mp hc).elim (hx.1 c) (hy.1 c),by simpa using h⟩
theorem mN (x y:List Nat):(⟨x.toArray⟩:Str) ++ ⟨y.toArray⟩ = ⟨(x ++ y).toArray⟩:=by
 show Str.append _ _ = _
 simp [Str.append]
theorem dC (x:List Nat):(⟨x.toArray⟩:Str).length = x.length:=by simp [Str.length]
theorem zB {vs:List Value} {xs:List PV} (hi:InH G s.heap) (hr:VRels P G vs xs) (hz:vs.length <= aO) (hk:K (.list xs)):GW (model prog w) A P E G s (newList vs) K:=by
 refine wpAny_newObj_type ?_ (by show vs.toArray.size <= sizeLine; rw [List.size_toArray]; exact hz)
 have g:=GS.push hi { cls:=.type "list",data:=.seq vs.toArray } rfl s.toks
 refine ⟨.list xs,_,hk,g,?_⟩
 simp only [VRel]
 exact ⟨_,_,_,_,rfl,e8,rfl,rfl,rfl,by simpa using hz,by simpa using hr.mono g.ext⟩
theorem v5 {vs:List Value} {xs:List PV} (hi:InH G s.heap) (hr:VRels P G vs xs) (hz:vs.length <= aO) (hk:K (.tup xs)):GW (model prog w) A P E G s (newTuple vs) K:=by
 refine wpAny_newObj_type ?_ (by show vs.toArray.size <= sizeLine; rw [List.size_toArray]; exact hz)
 have g:=GS.push hi { cls:=.type "tuple",data:=.seq vs.toArray } rfl s.toks
 refine ⟨.tup xs,_,hk,g,?_⟩
 simp only [VRel]
 exact ⟨_,_,_,_,rfl,e8,rfl,rfl,by simpa using hz,by simpa using hr.mono g.ext⟩
theorem LView.isList {h:Heap} {v:Value} {xs:List PV} (r:LView P G h v xs):∃ a vs,v = .ref a /\ h.IsList a vs /\ vs.size <= aO /\ VRels P G vs.toList xs:=by
 obtain ⟨a,o,vs,n,h1,h2,h3,h3',h4,h5,h6⟩:=r
 exact ⟨a,vs,h1,⟨o,h2,h3,n,h4⟩,h5,h6⟩
theorem lZ {a b:Value} {i j:Int} (op:Operator) (r:Int) (ha:VRel P G a (.int i)) (hb:VRel P G b (.int j)) (hi:InH G s.heap) (hk:K (.int r))
  (h:∀ (t u:Tok) (Q:Value->Shared->Prop),Q (.int r s.toks) { s with toks:=s.toks + 1 }->wpAny (model prog w) A (binaryOp op (.int i t) (.int j u)) Q E s):
  GW (model prog w) A P E G s (binaryOp op a b) K:=by
 simp only [VRel] at ha hb
 obtain ⟨t,rfl⟩:=ha
 obtain ⟨u,rfl⟩:=hb
 exact mY hi hk fun Q q=>h t u Q q
theorem zg7 {op:Operator} {a b:Value} {p q:PV} (hi:InH G s.heap) (ha:kN P G s.heap a p) (hb:kN P G s.heap b q) (h:ze6 op p q K):
  GW (model prog w) A P E G s (binaryOp op a b) K:=by
 cases op <;> first | exact False.elim h | skip
 ·have h:(if isL p = true then addL p q K else zgk p q K):=h
  by_cases hl:isL p = true
  ·rw [if_pos hl] at h
   obtain ⟨x,rfl,h⟩:=u7 h
   obtain ⟨y,rfl,hz,hk⟩:=u7 (v:=q) h
   obtain ⟨l,⟨c1,d1,dt1,sl1⟩,vs,n1,rfl,ho1,hc1,hd1,hdt1,hs1,hr1⟩:=ha
   obtain ⟨m,⟨c2,d2,dt2,sl2⟩,ws,n2,rfl,ho2,hc2,hd2,hdt2,hs2,hr2⟩:=hb
   simp only at hc1 hd1 hdt1 hc2 hd2 hdt2
   subst hc1 hd1 hdt1 hc2 hd2 hdt2
   have hz':vs.size + ws.size <= aO:=by rw [<- Array.length_toList,<- Array.length_toList,hr1.length,hr2.length]; exact hz
   refine concat_meets ⟨_,ho1,rfl⟩ ⟨_,ho2,rfl⟩ noFill_list_add seq_list_add PySem.F.slot_list_add PySem.F.entry_list_add (PySem.F.args_list_add_2 _ _) (list_addW l m vs ws n1 n2 none none sl1 sl2 hz') ⟨ho1,ho2,?_⟩
   have g:=GS.push hi { cls:=.type "list",data:=.seq (vs ++ ws) } rfl s.toks
   refine ⟨_,_,hk,g,?_⟩
   simp only [VRel]
   exact ⟨_,_,_,_,rfl,e8,rfl,rfl,rfl,by rw [Array.size_append]; exact hz',by rw [Array.toList_append]; exact (hr1.append hr2).mono g.ext⟩
  ·rw [if_neg hl] at h
   cases p <;> first | exact False.elim h | skip
   ·obtain ⟨y,rfl,h⟩:=dA (v:=q) h
    exact lZ _ _ ha hb hi h fun _ _ _ q=>add_int q
   ·obtain ⟨y,rfl,hz,hk⟩:=eN (v:=q) h
    simp only [kN,VRel] at ha hb
    obtain ⟨t,rfl,hx⟩:=ha
    obtain ⟨u,rfl,hy⟩:=hb
    refine KOpn.add (by rw [dC,dC]; exact hz) fun t' k _=>?_
    refine ⟨_,G,hk,GS.toks hi _,?_⟩
    simp only [VRel]
    exact ⟨t',by rw [mN],jZ hx hy hz⟩
 ·obtain ⟨x,rfl,h⟩:=dA h
  obtain ⟨y,rfl,h⟩:=dA (v:=q) h
  exact lZ _ _ ha hb hi h fun _ _ _ q=>sub_int q
 ·obtain ⟨x,rfl,h⟩:=dA h
  obtain ⟨y,rfl,h0,h⟩:=dA (v:=q) h
  exact lZ _ _ ha hb hi h fun _ _ _ q=>mul_int q (.of_right h0)
 ·obtain ⟨x,rfl,h⟩:=dA h
  obtain ⟨y,rfl,h0,h⟩:=dA (v:=q) h
  refine lZ _ _ ha hb hi h fun _ _ _ q=>mod_int' (Int.ne_of_gt h0) ?_
  rw [Int.fmod_eq_emod_of_nonneg _ (Int.le_of_lt h0)]; exact q
 ·obtain ⟨x,rfl,h⟩:=dA h
  obtain ⟨y,rfl,h1,h2,h3⟩:=dA (v:=q) h
  refine lZ _ _ ha hb hi h3 fun _ _ _ q=>floordiv_int (by omega) ?_ (.inl (PyProof.noPylong_of_log2 ?_))
  ·rw [Int.fdiv_eq_ediv_of_nonneg _ (by omega)]; exact q
  ·have:y.natAbs.log2 < 32:=(Nat.log2_lt (by omega)).mpr (by omega)
   omega
end
mutual
noncomputable def zgq:PV->PyData
 | .none=>.none
 | .int i=>.int i
 | .str x=>.str ⟨x.toArray⟩
 | .tup xs=>.tuple (vL xs)
 | .list xs=>.list (vL xs)
 | .bool b=>.bool b
 | .inst _ _=>.none
 | .rng _ _=>.none
 | .ptr _=>.none
 | .dict _=>.none
noncomputable def vL:List PV->List PyData
 | []=>[]
 | x :: xs=>zgq x :: vL xs
end
noncomputable def mB (P:Params) (G:GM) (h:Heap) (σ:Nat->Option Cell):Prop:=∀ a xs,σ a = some (.lst xs)->LView P G h (.ref a) xs
theorem okStr.strOk {x:List Nat} (h:okStr x):PyData.strOk ⟨x.toArray⟩ = true:=by
 simp only [PyData.strOk]
 rw [Array.all_eq_true]
 intro i hi
 simp only [decide_eq_true_eq]
 exact h.1 _ (by simp)
section
variable {P:Params} {G:GM} {h:Heap} {σ:Nat->Option Cell}
mutual
theorem nP (hi:InH G h) (hc:mB P G h σ):∀ {t:PV} {p:PV} {v:Value},VRel P G v p->Res σ p t->plain t = true->∃ as,Reads h v (zgq t) as /\ (zgq t).canLay0 = true /\ (zgq t).depth <= dep t
 | .none,p,v,r,q,_=>by
  have q:p = .none:=q
  subst q
  have r:v = .none:=r
  subst r
  exact ⟨_,.none,rfl,Nat.le_refl 0⟩
 | .int i,p,v,r,q,_=>by
  have q:p = .int i:=q
  subst q
  refine x1 (fun t e=>?_) (show ∃ t,v = .int i t from r)
  subst e; exact ⟨_,.int i t,rfl,Nat.le_refl 0⟩
 | .str x,p,v,r,q,_=>by
  have q:p = .str x:=q
  subst q
  refine x1 (fun t=>a2 fun e ok=>?_) (show ∃ t,v = .str ⟨x.toArray⟩ t /\ okStr x from r)
  subst e; exact ⟨_,.str _ t,ok.strOk,Nat.le_refl 0⟩
 | .tup ts,p,v,r,q,hp=>by
  refine x1 (fun xs=>a2 fun e q'=>?_) (show ∃ xs,p = .tup xs /\ kP σ xs ts from q)
  subst e
  refine x4 (fun a o vs n=>a6 fun e h2 h3 h4 _ h5=>?_) r
  refine x1 (fun as=>a3 fun ra cl d=>?_) (iX hi hc h5 q' hp)
  exact e ▸ ⟨_,reads_tuple_at (hi.at_ _ _ h2) h3 h4 ra,cl,Nat.succ_le_succ d⟩
 | .list ts,p,v,r,q,hp=>by
  refine Or.elim (show (∃ xs,p = .list xs /\ kP σ xs ts) \/ (∃ a xs,p = .ptr a /\ σ a = some (.lst xs) /\ kP σ xs ts) from q) (x1 fun xs=>a2 fun e q'=>?_) (x2 fun a xs=>a3 fun e hσ q'=>?_)
  ·subst e
   refine x4 (fun a o vs n=>a7 fun e h2 h3 _ h4 _ h5=>?_) r
   refine x1 (fun as=>a3 fun ra cl d=>?_) (iX hi hc h5 q' hp)
   exact e ▸ ⟨_,reads_list_at (hi.at_ _ _ h2) h3 h4 ra,cl,Nat.succ_le_succ d⟩
  ·subst e
   refine x4 (fun a' o vs n=>a7 fun e h2 h3 _ h4 _ h5=>?_) (hc a xs hσ)
   refine x1 (fun as=>a3 fun ra cl d=>?_) (iX hi hc h5 q' hp)
   cases e
   exact (show v = .ref a from r) ▸ ⟨_,reads_list_at h2 h3 h4 ra,cl,Nat.succ_le_succ d⟩
 | .bool b,p,v,r,q,hp=>Bool.noConfusion hp
 | .inst _ _,p,v,r,q,hp=>Bool.noConfusion hp
 | .rng _ _,p,v,r,q,hp=>Bool.noConfusion hp
 | .ptr _,p,v,r,q,hp=>Bool.noConfusion hp
 | .dict _,p,v,r,q,hp=>Bool.noConfusion hp
theorem iX (hi:InH G h) (hc:mB P G h σ):∀ {ts:List PV} {ps:List PV} {vs:List Value},VRels P G vs ps->kP σ ps ts->mS ts = true->∃ as,ReadsAll h vs (vL ts) as /\ PyData.canLayAll0 (vL ts) = true /\ PyData.depthAll (vL ts) <= zf8 ts
 | [],ps,vs,r,q,_=>by
  have q:ps = []:=q
  subst q
  have r:vs = []:=r
  subst r
  exact ⟨_,.nil,rfl,Nat.le_refl 0⟩
 | t :: ts,ps,vs,r,q,hp=>by
  refine x2 (fun y ys=>a3 fun e q1 q2=>?_) (show ∃ y ys,ps = y :: ys /\ Res σ y t /\ kP σ ys ts from q)
  subst e
  refine x2 (fun v w=>a3 fun e r1 r2=>?_) (show ∃ v w,vs = v :: w /\ VRel P G v y /\ VRels P G w ys from r)
  have hp:=Bool.and_eq_true_iff.mp hp
  refine x1 (fun as=>a3 fun ra c1 d1=>?_) (nP hi hc r1 q1 hp.1)
  refine x1 (fun bs=>a3 fun rb c2 d2=>?_) (iX hi hc r2 q2 hp.2)
  exact e ▸ ⟨_,.cons ra rb,zaS c1 c2,Nat.max_le.mpr ⟨Nat.le_trans d1 (Nat.le_max_left _ _),Nat.le_trans d2 (Nat.le_max_right _ _)⟩⟩
end
end
section
variable {prog:Program} {w:World} {A:Around} {E:Value->Shared->Prop} {s:Shared} {G:GM} {P:Params} {a b:Value} {K:PV->Prop} {σ:Nat->Option Cell}
theorem d5 {t:Sem Value} {i:Bool} (hi:InH G s.heap) (hk:K (.bool i)) (h:∀ Q:Value->Shared->Prop,Q (.bool i) s->wpAny (model prog w) A t Q E s):GW (model prog w) A P E G s t K:=
 h _ ⟨.bool i,G,hk,GS.refl hi,by simp [VRel]⟩
structure Room (n:Nat) (A:Around):Prop where
 handled:A.handled = none
 depth:A.depth + n <= 900
 units:A.units + 20 * n <= 5000
theorem Room.le {n m:Nat} {A:Around} (h:Room n A) (hm:m <= n):Room m A:=⟨h.handled,Nat.le_trans (Nat.add_le_add_left hm _) h.depth,Nat.le_trans (Nat.add_le_add_left (Nat.mul_le_mul_left 20 hm) _) h.units⟩
theorem Room.deeper {n:Nat} {A:Around} {env:Env} (h:Room (n + 1) A):Room n (A.deeper env):=⟨h.handled,by have:=h.depth; simp only [Around.deeper]; omega,by have:=h.units; simp only [Around.deeper]; omega⟩
theorem eq_G {n:Nat} (hA:Room n A) (ne:Bool) (hi:InH G s.heap) (hc:mB P G s.heap σ) {p q:PV} (ha:VRel P G a p) (hb:VRel P G b q) (h:eqW σ p q fun r=>K (.bool (if ne then !r else r))):
  GW (model prog w) A P E G s (compareOp (if ne then .NotEq else .Eq) a b) K:=by
 have main:∀ {da db:PyData} {as bs:List Addr} {r:Bool},Reads s.heap a da as->Reads s.heap b db bs->da.canLay0 = true->db.canLay0 = true->da.depth <= 4001->PyData.eqv da db = r->K (.bool (if ne then !r else r))->
   GW (model prog w) A P E G s (compareOp (if ne then .NotEq else .Eq) a b) K:=by
  intro da db as bs r ra rb ca cb hd e hk
  have hu:A.units + min da.depth db.depth < cLine:=by
   have:=hA.units
   have:min da.depth db.depth <= da.depth:=Nat.min_le_left _ _
   show _ < 9900
   omega
  subst e
  cases ne
  ·exact d5 hi hk fun Q q=>SeqAt.compareEq_reads ra rb ca cb hu q
  ·exact d5 hi hk fun Q q=>SeqAt.compareNe_reads ra rb ca cb hu q
 have gen:eqT σ p q (fun r=>K (.bool (if ne then !r else r)))->GW (model prog w) A P E G s (compareOp (if ne then .NotEq else .Eq) a b) K:=by
  refine x1 fun t=>a5 fun ra rb pl hd hk=>?_
  refine x1 (fun as=>a3 fun ra ca da=>?_) (nP hi hc ha ra pl)
  refine x1 (fun bs=>a3 fun rb _ _=>?_) (nP hi hc hb rb pl)
  exact main ra rb ca ca (Nat.le_trans da (Nat.le_trans hd (Nat.le_succ _))) (SeqAt.eqv_refl _ ca) hk
 cases p <;> first | exact gen h | skip
 ·rename_i x
  cases q <;> first | exact False.elim h | skip
  rename_i y
  have ha:a = .bool x:=ha
  have hb:b = .bool y:=hb
  subst ha; subst hb; exact main (r:=decide (x = y)) (.bool _) (.bool _) rfl rfl (Nat.le_add_left _ _) rfl h
 ·rename_i x
  cases q <;> first | exact False.elim h | skip
  rename_i y
  refine x1 (fun t ea=>?_) ha
  refine x1 (fun u eb=>?_) hb
  subst ea; subst eb; exact main (r:=decide (x = y)) (.int _ t) (.int _ u) rfl rfl (Nat.le_add_left _ _) rfl h
 ·rename_i x
  refine x1 (fun t=>a2 fun ea ok=>?_) ha
  subst ea
  cases q <;> first | exact False.elim h | skip
  ·have hb:b = .none:=hb
   subst hb; exact main (r:=false) (.str _ t) .none ok.strOk rfl (Nat.le_add_left _ _) rfl h
  ·rename_i y
   refine x1 (fun u=>a2 fun eb ok'=>?_) hb
   subst eb
   exact main (r:=decide (x = y)) (.str _ t) (.str _ u) ok.strOk ok'.strOk (Nat.le_add_left _ _) (decide_eq_decide.mpr ⟨fun e=>congrArg (fun s:Str=>s.cps.toList) e,fun e=>congrArg (fun x:List Nat=>(⟨x.toArray⟩:Str)) e⟩) h
end
end Mine
end
section
open PySem PySem.W PyProof.Rows
open Builtin Builtin.Str
set_option Elab.async false
set_option autoImplicit false
namespace Mine
noncomputable def j0 (x p:List Nat) (hi:Nat):Nat->Nat->Nat->Nat->List Nat
 | 0,_,_,_=>[]
 | n + 1,i,lim,free=>if 0 < lim /\ free <= i /\ i + p.length <= hi /\ (x.drop i).take p.length = p then i :: j0 x p hi n (i + 1) (lim - 1) (i + p.length) else j0 x p hi n (i + 1) lim free
theorem v4 (s sub:Str) (hi limit i:Nat) (acc:Array Nat) (free:Nat):
  StrLaws.occBody s sub hi limit i (acc,free) = pure (.yield (if acc.size < limit /\ free <= i /\ i + sub.cps.toList.length <= hi /\ (s.cps.toList.drop i).take sub.cps.toList.length = sub.cps.toList then (acc.push i,i + sub.cps.toList.length) else (acc,free))):=by
 have e:sub.length = sub.cps.toList.length:=by simp [Str.length]
 have e2:(subAt s sub i = true) ↔ (s.cps.toList.drop i).take sub.cps.toList.length = sub.cps.toList:=by
  rw [StrLaws.subAt_eq,beq_iff_eq,e]
 unfold StrLaws.occBody
 simp only [Bool.and_eq_true]
 by_cases c:acc.size < limit /\ free <= i /\ i + sub.cps.toList.length <= hi /\ (s.cps.toList.drop i).take sub.cps.toList.length = sub.cps.toList
 ·rw [if_pos c,if_pos ⟨⟨⟨c.1,c.2.1⟩,by rw [e]; exact c.2.2.1⟩,e2.mpr c.2.2.2⟩,e]
 ·rw [if_neg c,if_neg (fun h=>c ⟨h.1.1.1,h.1.1.2,by rw [<- e]; exact h.1.2,e2.mp h.2⟩)]
theorem zd3 (s sub:Str) (hi limit:Nat):∀ (n i:Nat) (acc:Array Nat) (free:Nat),acc.size <= limit->
  (forIn (List.range' i n) (acc,free) (StrLaws.occBody s sub hi limit)).run.fst.toList = acc.toList ++ j0 s.cps.toList sub.cps.toList hi n i (limit - acc.size) free:=by
 intro n
 induction n with
 | zero=>intro i acc free _; simp [j0]
 | succ n ih=>
  intro i acc free hz
  rw [List.range'_succ,List.forIn_cons,v4]
  unfold j0
  by_cases c:acc.size < limit /\ free <= i /\ i + sub.cps.toList.length <= hi /\ (s.cps.toList.drop i).take sub.cps.toList.length = sub.cps.toList
  ·rw [if_pos c,if_pos ⟨by omega,c.2⟩]
   show (forIn _ (acc.push i,i + sub.cps.toList.length) _:Id _).run.fst.toList = _
   rw [ih _ _ _ (by simp; omega)]
   simp only [Array.toList_push,List.append_assoc,List.singleton_append,Array.size_push]
   congr 3
  ·rw [if_neg c,if_neg (fun h=>c ⟨by omega,h.2⟩)]
   show (forIn _ (acc,free) _:Id _).run.fst.toList = _
   exact ih _ _ _ hz
theorem t8 (s sub:Str) (lo hi limit:Nat):occurrences s sub lo hi limit = j0 s.cps.toList sub.cps.toList hi (hi + 1 - lo) lo limit lo:=by
 rw [StrLaws.occ_eq,zd3 _ _ _ _ _ _ _ _ (by simp)]
 simp
theorem gG (p x:List Nat):p.isPrefixOf x = true ↔ x.take p.length = p:=by
 rw [List.isPrefixOf_iff_prefix]
 constructor
 ·rintro ⟨r,rfl⟩; simp
 ·intro h; exact ⟨x.drop p.length,by conv=>rhs; rw [<- List.take_append_drop p.length x,h]⟩
theorem nQ {p x:List Nat} (h:p.isPrefixOf x = true):p.length <= x.length:=by
 rw [List.isPrefixOf_iff_prefix] at h; exact h.length_le
theorem rO {p n i:Nat} (hi:i <= n) (h:p <= n - i):i + p <= n:=Nat.add_sub_cancel' hi ▸ Nat.add_le_add_left h i
theorem zeq (x p:List Nat):∀ (n i f:Nat),f <= i->i + n = x.length + 1->(match j0 x p x.length n i 1 f with | k :: _=>(k:Int) | []=>-1) = qE x p i n:=by
 intro n
 induction n with
 | zero=>intro i f _ _; rfl
 | succ n ih=>
  intro i f hf hn
  unfold j0 qE
  by_cases c:p.isPrefixOf (x.drop i) = true
  ·have hl:=nQ c
   rw [List.length_drop] at hl
   rw [if_pos c,if_pos ⟨by decide,hf,rO (Nat.le_of_lt_succ (Nat.lt_of_lt_of_eq (Nat.lt_add_of_pos_right (Nat.succ_pos n)) hn)) hl,(gG _ _).mp c⟩]
  ·rw [if_neg c,if_neg (fun h=>c ((gG _ _).mpr h.2.2.2))]
   exact ih (i + 1) f (Nat.le_succ_of_le hf) (by rw [<- hn,Nat.add_assoc,Nat.add_comm 1])
theorem dR (n:Nat) (i:Int) (h:0 <= i):fromIndex n i = i.toNat:=by unfold fromIndex; rw [if_neg (Int.not_lt.mpr h),Int.max_eq_right h]
theorem zcj (x p:List Nat) (i:Int) (h0:0 <= i):Txt.find3 ⟨x.toArray⟩ ⟨p.toArray⟩ i = sK x p i.toNat:=by
 unfold Txt.find3 sK
 rw [dR _ _ h0,t8,dC]
 by_cases hi:i.toNat <= x.length
 ·exact zeq x p _ _ _ (Nat.le_refl _) (Nat.add_sub_cancel' (Nat.le_succ_of_le hi))
 ·have:x.length + 1 - i.toNat = 0:=Nat.sub_eq_zero_of_le (Nat.lt_of_not_le hi)
  simp only [this]; rfl
theorem zd4 (x p:List Nat) (f:Nat):∀ (n i:Nat),f <= i->i + n = x.length + 1->i <= x.length->(j0 x p x.length n i 1 f ≠ [] ↔ oX p (x.drop i) = true):=by
 intro n
 induction n generalizing f with
 | zero=>
  intro i hf hn hx
  exact absurd hx (Nat.not_le_of_lt (Nat.lt_of_lt_of_eq (Nat.lt_succ_self _) (Eq.symm hn)))
 | succ n ih=>
  intro i hf hn hx
  unfold j0
  by_cases hl:i = x.length
  ·subst hl
   have:n = 0:=Nat.succ.inj (Nat.add_left_cancel hn)
   subst this
   rw [List.drop_length]
   by_cases hp:p = []
   ·subst hp; simp [oX,hf]
   ·have:p.length ≠ 0:=by simpa using hp
    rw [if_neg (fun h=>this (Nat.eq_zero_of_le_zero (Nat.le_of_add_le_add_left (show x.length + p.length <= x.length + 0 from h.2.2.1))))]
    simp [j0,oX,hp]
  ·have hl':i < x.length:=Nat.lt_of_le_of_ne hx hl
   rw [List.drop_eq_getElem_cons hl']
   simp only [oX,Bool.or_eq_true]
   rw [<- List.drop_eq_getElem_cons hl']
   by_cases c:p.isPrefixOf (x.drop i) = true
   ·have hl:=nQ c
    rw [List.length_drop] at hl
    rw [if_pos ⟨by decide,hf,rO (Nat.le_of_lt hl') hl,(gG _ _).mp c⟩]
    simp [c]
   ·rw [if_neg (fun h=>c ((gG _ _).mpr h.2.2.2)),ih f (i + 1) (Nat.le_succ_of_le hf) (by rw [<- hn,Nat.add_assoc,Nat.add_comm 1]) hl']
    simp [c]
theorem lW (x p:List Nat):(!(occurrences ⟨x.toArray⟩ ⟨p.toArray⟩ 0 (Str.length ⟨x.toArray⟩) 1).isEmpty) = oX p x:=by
 rw [t8,dC]
 have:=zd4 x p 0 (x.length + 1 - 0) 0 (Nat.le_refl _) (Nat.zero_add _) (Nat.zero_le _)
 simp only [List.drop_zero] at this
 by_cases c:oX p x = true
 ·rw [c]; simpa using this.mpr c
 ·have h:j0 x p x.length (x.length + 1 - 0) 0 1 0 = []:=by
   by_cases h:j0 x p x.length (x.length + 1 - 0) 0 1 0 = []
   ·exact h
   ·exact absurd (this.mp h) c
  simp only [Bool.not_eq_true] at c
  rw [c]
  show (!(j0 x p x.length (x.length + 1 - 0) 0 1 0).isEmpty) = false
  rw [h]; rfl
noncomputable def ze5 (c:Nat) (x:List Nat):Nat->Nat->Nat
 | 0,_=>0
 | n + 1,i=>if x[i]? = some c then ze5 c x n (i + 1) + 1 else ze5 c x n (i + 1)
theorem qK (c:Nat) (x:List Nat):∀ (n i:Nat),ze5 c x n i = ((x.drop i).take n).count c
 | 0,i=>by rw [List.take_zero]; rfl
 | n + 1,i=>by
  unfold ze5
  rw [qK c x n (i + 1)]
  by_cases h:i < x.length
  ·rw [List.drop_eq_getElem_cons h,List.take_succ_cons,List.count_cons,List.getElem?_eq_getElem h]
   by_cases e:x[i] = c
   ·rw [if_pos (congrArg some e),if_pos (beq_iff_eq.mpr e)]
   ·rw [if_neg (fun q=>e (Option.some.inj q)),if_neg (fun q=>e (beq_iff_eq.mp q))]; rfl
  ·rw [List.getElem?_eq_none (Nat.le_of_not_lt h),if_neg (fun q=>by cases q),List.drop_of_length_le (Nat.le_of_not_lt h),List.drop_of_length_le (Nat.le_succ_of_le (Nat.le_of_not_lt h))]
   rw [List.take_nil,List.take_nil]
theorem zc5 (x:List Nat) (c i:Nat):(x.drop i).take 1 = [c] ↔ x[i]? = some c:=by
 by_cases h:i < x.length
 ·rw [List.drop_eq_getElem_cons h,List.getElem?_eq_getElem h]
  exact ⟨fun q=>congrArg some (List.cons.inj q).1,fun q=>congrArg (fun d=>[d]) (Option.some.inj q)⟩
 ·rw [List.drop_of_length_le (Nat.le_of_not_lt h),List.getElem?_eq_none (Nat.le_of_not_lt h)]
  exact ⟨fun q=>(by cases q),fun q=>(by cases q)⟩
theorem zaD (x:List Nat) (c hi:Nat):∀ (n i lim f:Nat),f <= i->n <= lim->i + n = hi->(j0 x [c] hi (n + 1) i lim f).length = ze5 c x n i:=by
 intro n
 induction n with
 | zero=>
  intro i lim f _ _ hn
  have hn:i = hi:=hn
  subst hn
  unfold j0
  rw [if_neg (fun h=>Nat.not_succ_le_self i h.2.2.1)]; rfl
 | succ n ih=>
  intro i lim f hf hl hn
  have h1:i + 1 + n = hi:=by rw [<- hn,Nat.add_assoc,Nat.add_comm 1]
  unfold j0 ze5
  by_cases c':x[i]? = some c
  ·rw [if_pos ⟨Nat.lt_of_lt_of_le (Nat.succ_pos n) hl,hf,h1 ▸ Nat.le_add_right _ n,(zc5 x c i).mpr c'⟩,if_pos c',List.length_cons,ih (i + 1) (lim - 1) (i + [c].length) (Nat.le_refl _) (Nat.le_sub_one_of_lt hl) h1]
  ·rw [if_neg (fun h=>c' ((zc5 x c i).mp h.2.2.2)),if_neg c']
   exact ih (i + 1) lim f (Nat.le_succ_of_le hf) (Nat.le_of_succ_le hl) h1
theorem zcr (x:List Nat) (c i j:Nat):(occurrences ⟨x.toArray⟩ ⟨#[c]⟩ i (min j x.length) (x.length + 1)).length = ((x.take j).drop i).count c:=by
 rw [t8,List.drop_take,List.take_eq_take_min,List.length_drop]
 by_cases hi:i <= min j x.length
 ·rw [Nat.succ_sub hi]
  refine (zaD x c _ _ _ _ _ (Nat.le_refl _) ?_ (Nat.add_sub_cancel' hi)).trans ((qK c x _ i).trans ?_)
  ·exact Nat.le_trans (Nat.sub_le _ _) (Nat.le_trans (Nat.min_le_right _ _) (Nat.le_succ _))
  ·rw [Nat.sub_min_sub_right]
 ·have h:min j x.length <= i:=Nat.le_of_not_le hi
  rw [Nat.sub_eq_zero_of_le (Nat.lt_of_not_le hi),Nat.sub_min_sub_right,Nat.sub_eq_zero_of_le h]
  rfl
theorem lJ (s:Str) (c hi i:Nat) (st:Option Nat) (hh:hi <= s.cps.toList.length):
  StrLaws.lastBody s ⟨#[c]⟩ hi i st = pure (.yield (if i < hi /\ s.cps.toList[i]? = some c then some i else st)):=by
 have e2:i < hi->((subAt s ⟨#[c]⟩ i = true) ↔ s.cps.toList[i]? = some c):=by
  intro hl
  have hlt:i < s.cps.toList.length:=by omega
  rw [StrLaws.subAt_eq,beq_iff_eq]
  show (s.cps.toList.drop i).take 1 = [c] ↔ _
  rw [List.drop_eq_getElem_cons hlt,List.getElem?_eq_getElem hlt]
  simp
 unfold StrLaws.lastBody
 by_cases q:i < hi /\ s.cps.toList[i]? = some c
 ·rw [if_pos q,if_pos ⟨q.1,(e2 q.1).mpr q.2⟩]
 ·rw [if_neg q,if_neg (fun h=>q ⟨h.1,(e2 h.1).mp h.2⟩)]
theorem zW (s:Str) (c hi:Nat) (hh:hi <= s.cps.toList.length):∀ (n i:Nat) (st:Option Nat),i + n = hi->
  (forIn (List.range' i (n + 1)) st (StrLaws.lastBody s ⟨#[c]⟩ hi)).run = pU c s.cps.toList n i st:=by
 intro n
 induction n with
 | zero=>
  intro i st hn
  have hn:i = hi:=hn
  subst hn
  rw [List.range'_succ,List.forIn_cons,lJ _ _ _ _ _ hh,if_neg (fun h=>Nat.lt_irrefl _ h.1)]
  rfl
 | succ n ih=>
  intro i st hn
  have h1:i + 1 + n = hi:=by rw [<- hn,Nat.add_assoc,Nat.add_comm 1]
  rw [List.range'_succ,List.forIn_cons,lJ _ _ _ _ _ hh]
  show (forIn (List.range' (i + 1) (n + 1)) (if i < hi /\ s.cps.toList[i]? = some c then some i else st) _:Id _).run = pU c _ n (i + 1) (if s.cps.toList[i]? = some c then some i else st)
  rw [ih (i + 1) _ h1]
  by_cases q:s.cps.toList[i]? = some c
  ·rw [if_pos q,if_pos ⟨h1 ▸ Nat.lt_of_lt_of_le (Nat.lt_succ_self i) (Nat.le_add_right _ n),q⟩]
  ·rw [if_neg q,if_neg fun h=>q h.2]
theorem zbM (x:List Nat) (c i j:Nat):(match lastOccurrence ⟨x.toArray⟩ ⟨#[c]⟩ i (min j x.length) with | some k=>(k:Int) | none=>-1) = fA c x i j:=by
 rw [StrLaws.last_eq]
 unfold fA
 by_cases hi:i <= min j x.length
 ·rw [Nat.succ_sub hi,zW ⟨x.toArray⟩ c _ (Nat.min_le_right _ _) _ _ _ (Nat.add_sub_cancel' hi)]
  show (match pU c x (min j x.length - i) i none with | some k=>(k:Int) | none=>-1) = _
  cases pU c x (min j x.length - i) i none <;> rfl
 ·rw [Nat.sub_eq_zero_of_le (Nat.lt_of_not_le hi),Nat.sub_eq_zero_of_le (Nat.le_of_not_le hi)]
  rfl
noncomputable def zbK (x z:List Nat) (w:Nat):Nat->List Nat->List Nat
 | st,[]=>x.drop st
 | st,c :: cs=>(x.drop st).take (c - st) ++ z ++ zbK x z w (c + w) cs
theorem pD (x:Str) (z:Str) (w:Nat):∀ (cuts:List Nat) (st:Nat),
  (Str.join z (((st :: cuts.map (· + w)).zip (cuts ++ [x.length])).map fun (i,j)=>strSub x i j)).cps.toList = zbK x.cps.toList z.cps.toList w st cuts
 | [],st=>by
  simp only [List.map_nil,List.nil_append,List.zip_cons_cons,List.zip_nil_left,List.map_cons,Str.join,zbK]
  rw [StrLaws.strSub_toList]
  apply List.take_of_length_le
  simp [Str.length]
 | c :: cs,st=>by
  have ih:=pD x z w cs (c + w)
  have e:(((st :: (c :: cs).map (· + w)).zip (c :: cs ++ [x.length])).map fun (i,j)=>strSub x i j) = strSub x st c :: ((((c + w) :: cs.map (· + w)).zip (cs ++ [x.length])).map fun (i,j)=>strSub x i j):=by simp
  rw [e]
  cases hq:((((c + w) :: cs.map (· + w)).zip (cs ++ [x.length])).map fun (i,j)=>strSub x i j) with
  | nil=>
   exfalso
   have:=congrArg List.length hq
   simp at this
  | cons y ys=>
   rw [hq] at ih
   simp only [Str.join,zbK]
   rw [Str.cps_append,Str.cps_append,Array.toList_append,Array.toList_append,ih,StrLaws.strSub_toList]
theorem zbJ (x p z:List Nat) (hp:0 < p.length):∀ (n i lim f m:Nat),i + n = x.length + 1->n <= lim->
  (∀ st,f <= i->st <= i->i <= x.length->x.length < m + i->zbK x z p.length st (j0 x p x.length n i lim f) = (x.drop st).take (i - st) ++ cJ p z m (x.drop i)) /\
  (i <= f->f <= x.length->x.length < m + f->zbK x z p.length f (j0 x p x.length n i lim f) = cJ p z m (x.drop f)):=by
 intro n
 induction n with
 | zero=>
  intro i lim f m hn _
  exact ⟨fun st _ _ hi _=>absurd hi (by omega),fun hi hf _=>absurd (Nat.le_trans hi hf) (by omega)⟩
 | succ n ih=>
  intro i lim f m hn hl
  have h1:i + 1 + n = x.length + 1:=by rw [<- hn,Nat.add_assoc,Nat.add_comm 1]
  have A:∀ st,f <= i->st <= i->i <= x.length->x.length < m + i->zbK x z p.length st (j0 x p x.length (n + 1) i lim f) = (x.drop st).take (i - st) ++ cJ p z m (x.drop i):=by
   intro st hf hst hi hm
   unfold j0
   by_cases hlt:i < x.length
   ·obtain ⟨m,rfl⟩:∃ k,m = k + 1:=⟨m - 1,by omega⟩
    have hm1:x.length < m + (i + 1):=by rw [Nat.add_comm i,<- Nat.add_assoc]; exact hm
    have hr:cJ p z (m + 1) (x.drop i) = if p.isPrefixOf (x.drop i) = true then z ++ cJ p z m ((x.drop i).drop p.length) else x[i] :: cJ p z m (x.drop (i + 1)):=by
     rw [List.drop_eq_getElem_cons hlt]; rfl
    rw [hr]
    by_cases c:p.isPrefixOf (x.drop i) = true
    ·have hlen:=nQ c
     rw [List.length_drop] at hlen
     rw [if_pos c,if_pos ⟨Nat.lt_of_lt_of_le (Nat.succ_pos n) hl,hf,by omega,(gG _ _).mp c⟩,zbK,(ih (i + 1) (lim - 1) (i + p.length) m h1 (Nat.le_sub_one_of_lt hl)).2 (Nat.add_le_add_left hp i) (by omega) (Nat.lt_of_lt_of_le hm1 (Nat.add_le_add_left (Nat.add_le_add_left hp i) m)),List.drop_drop,List.append_assoc]
    ·rw [if_neg c,if_neg (fun h=>c ((gG _ _).mpr h.2.2.2)),(ih (i + 1) lim f m h1 (Nat.le_of_succ_le hl)).1 st (Nat.le_succ_of_le hf) (Nat.le_succ_of_le hst) hlt hm1]
     have hls:i - st < (x.drop st).length:=by rw [List.length_drop]; omega
     have h2:(x.drop st)[i - st] = x[i]:=by rw [List.getElem_drop]; congr 1; exact Nat.add_sub_cancel' hst
     rw [Nat.succ_sub hst,List.take_succ_eq_append_getElem hls,h2,List.append_assoc]; rfl
   ·have hi:i = x.length:=Nat.le_antisymm hi (Nat.le_of_not_lt hlt)
    subst hi
    obtain rfl:n = 0:=by omega
    rw [List.drop_length,if_neg]
    ·show x.drop st = _ ++ cJ p z m []
     rw [show cJ p z m [] = [] by cases m <;> rfl,List.append_nil,List.take_of_length_le (Nat.le_of_eq List.length_drop)]
    ·intro h; have:=h.2.2.1; omega
  refine ⟨A,fun hi hf hm=>?_⟩
  rcases Nat.eq_or_lt_of_le hi with rfl | hlt
  ·rw [A i (Nat.le_refl _) (Nat.le_refl _) hf hm,Nat.sub_self]; rfl
  ·unfold j0
   rw [if_neg (fun h=>absurd h.2.1 (Nat.not_le_of_lt hlt))]
   exact (ih (i + 1) lim f m h1 (Nat.le_of_succ_le hl)).2 hlt hf hm
theorem vY (x p z:List Nat) (hp:p ≠ []):Txt.replace ⟨x.toArray⟩ ⟨p.toArray⟩ ⟨z.toArray⟩ = ⟨(k6 p z x).toArray⟩:=by
 apply Str.ext'
 apply Array.toList_inj.mp
 have hp':0 < p.length:=by cases p with | nil=>exact absurd rfl hp | cons _ _=>simp
 have main:=(zbJ x p z hp' (x.length + 1) 0 (x.length + 1) 0 (x.length + 1) (Nat.zero_add _) (Nat.le_refl _)).1 0 (Nat.le_refl _) (Nat.le_refl _) (Nat.zero_le _) (Nat.lt_succ_self _)
 simp only [List.drop_zero,Nat.sub_self,List.take_zero,List.nil_append] at main
 show (Txt.replace _ _ _).cps.toList = k6 p z x
 unfold k6
 rw [<- main]
 have ho:occurrences ⟨x.toArray⟩ ⟨p.toArray⟩ 0 (Str.length ⟨x.toArray⟩) (Str.length ⟨x.toArray⟩ + 1) = j0 x p x.length (x.length + 1) 0 (x.length + 1) 0:=by
  rw [t8,dC]; rfl
 unfold Txt.replace
 rw [ho]
 by_cases hc:(j0 x p x.length (x.length + 1) 0 (x.length + 1) 0).isEmpty = true
 ·have:j0 x p x.length (x.length + 1) 0 (x.length + 1) 0 = []:=List.isEmpty_iff.mp hc
  rw [this]
  simp [zbK]
 ·have h0:(p.length == 0) = false:=beq_eq_false_iff_ne.mpr (by omega)
  rw [if_neg (by simp only [Bool.not_eq_true] at hc; rw [hc,dC,h0]; simp)]
  rw [StrLaws.glued_eq_join]
  have:=pD ⟨x.toArray⟩ ⟨z.toArray⟩ p.length (j0 x p x.length (x.length + 1) 0 (x.length + 1) 0) 0
  rw [dC]
  exact this
theorem mD (a b:Nat):sliceRange (a:Int) (b:Int) 1 = (List.range (b - a)).map (fun k=>a + k):=by
 unfold sliceRange
 by_cases h:(a:Int) < b
 ·have e:(((b:Int) - a + 1 - 1) / 1).toNat = b - a:=by rw [Int.add_sub_cancel,Int.ediv_one,Int.toNat_sub]
  simp only [show ((1:Int) > 0) = True from by simp,if_true,h,e]
  apply List.map_congr_left; intro k _; rw [Int.one_mul]; rfl
 ·have:b - a = 0:=Nat.sub_eq_zero_of_le (Nat.le_of_not_lt fun q=>h (Int.ofNat_lt.mpr q))
  rw [this]
  simp [h]
theorem y8 {n:Nat} {i:Int} (h:i < 0):i + (n:Int) <= n:=by
 have:=Int.add_le_add_right (Int.le_of_lt h) (n:Int)
 rwa [Int.zero_add] at this
theorem zaG (n:Nat) (i:Int):max 0 (min (if i < 0 then i + (n:Int) else i) (n:Int)) = (hV n i:Int):=by
 unfold hV
 by_cases h:i < 0
 ·rw [if_pos h,if_pos h,Int.min_eq_left (y8 h),Int.max_comm,Int.ofNat_toNat]
 ·have h:=Int.not_lt.mp h
  rw [if_neg (Int.not_lt.mpr h),if_neg (Int.not_lt.mpr h),Int.max_eq_right (Int.le_min.mpr ⟨h,Int.natCast_nonneg n⟩)]
  by_cases k:i.toNat <= n
  ·rw [Nat.min_eq_left k,Int.min_eq_left (Int.toNat_le.mp k),Int.toNat_of_nonneg h]
  ·rw [Nat.min_eq_right (Nat.le_of_not_le k),Int.min_eq_right (Int.le_of_lt (Int.lt_of_not_ge fun q=>k (Int.toNat_le.mpr q)))]
theorem zbS (n:Nat) (i:Int):hV n i <= n:=by
 unfold hV
 by_cases h:i < 0
 ·rw [if_pos h]; exact Int.toNat_le.mpr (y8 h)
 ·rw [if_neg h]; exact Nat.min_le_right _ _
theorem zcY (lo hi:Option Int) (n:Nat):strSliceIndices lo hi 1 n = (List.range ((hi.map (hV n)).getD n - (lo.map (hV n)).getD 0)).map (fun k=>(lo.map (hV n)).getD 0 + k):=by
 rw [<- mD]
 unfold strSliceIndices
 simp only [show ((1:Int) > 0) = True from by simp,if_true]
 cases lo <;> cases hi <;> simp only [zaG,Option.map_none,Option.map_some,Option.getD_none,Option.getD_some] <;> rfl
theorem zfR (hi:Option Int) (n:Nat):(hi.map (hV n)).getD n <= n:=by
 cases hi with
 | none=>simp
 | some i=>simpa using zbS _ _
theorem mP {α:Type} (l:List α) (lo hi:Option Int):(strSliceIndices lo hi 1 l.length).filterMap (l[·]?) = slc l lo hi:=by
 rw [zcY]
 unfold slc
 by_cases h:(lo.map (hV l.length)).getD 0 <= (hi.map (hV l.length)).getD l.length
 ·exact StrLaws.picks l _ _ (by rw [Nat.add_sub_cancel' h]; exact zfR hi l.length)
 ·have:(hi.map (hV l.length)).getD l.length - (lo.map (hV l.length)).getD 0 = 0:=Nat.sub_eq_zero_of_le (Nat.le_of_not_le h)
  rw [this]; simp
theorem vO (lo hi:Option Int) {α:Type} (l:List α):(strSliceIndices lo hi 1 l.length).length = (slc l lo hi).length:=by
 rw [zcY]
 unfold slc
 rw [List.length_map,List.length_range,List.length_take,List.length_drop]
 exact (Nat.min_eq_left (Nat.sub_le_sub_right (zfR hi l.length) _)).symm
theorem zbH (l:Array Value) (lo hi:Option Int):(slicePick l lo hi none).toList = slc l.toList lo hi:=by
 rw [<- mP]
 unfold slicePick sliceBounds strSliceIndices
 simp only [Option.getD_none,Array.length_toList,Array.getElem?_toList]
 rfl
theorem mQ {α:Type} (l:List α) (lo hi:Option Int):(slc l lo hi).length <= l.length:=by
 unfold slc; rw [List.length_take,List.length_drop]; exact Nat.le_trans (Nat.min_le_right _ _) (Nat.sub_le _ _)
theorem zbI {α:Type} {l:List α} {lo hi:Option Int} (h:(slc l lo hi).length = l.length):slc l lo hi = l:=((List.take_sublist _ _).trans (List.drop_sublist _ _)).eq_of_length h
theorem zdW {α:Type} {l:List α} {lo hi:Option Int} {c:α} (h:c ∈ slc l lo hi):c ∈ l:=List.mem_of_mem_drop (List.mem_of_mem_take h)
section
variable {prog:Program} {w:World} {A:Around} {E:Value->Shared->Prop} {s:Shared} {G:GM} {P:Params} {a b:Value} {K:PV->Prop} {σ:Nat->Option Cell}
theorem okStr.slc {x:List Nat} (h:okStr x) (lo hi:Option Int):okStr (slc x lo hi):=
 ⟨fun c hc=>h.1 c (zdW hc),Nat.le_trans (mQ _ _ _) h.2⟩
theorem VRels.slc {vs:List Value} {ps:List PV} (h:VRels P G vs ps) (lo hi:Option Int):VRels P G (slc vs lo hi) (slc ps lo hi):=by
 have e:=h.length
 unfold Mine.slc
 rw [e]
 exact (h.drop _).take _
theorem gM {v sl:Value} {p r:PV} {lo hi:Option Int} {q:Addr} {vl vu:Value} (hi':InH G s.heap) (hv:kN P G s.heap v p)
  (hs:s.heap.get? q = some { cls:=.type "slice",data:=.fields #[vl,vu,.none] }) (hl:∃ t,vl = partValue (lo.map (·,t))) (hu:∃ t,vu = partValue (hi.map (·,t)))
  (hr:(match p with | .str x=>r = .str (Mine.slc x lo hi) | .list xs=>r = .list (Mine.slc xs lo hi) | _=>False)) (hk:K r):
  GW (model prog w) A P E G s (getItem v (.ref q)) K:=by
 obtain ⟨t1,rfl⟩:=hl
 obtain ⟨t2,rfl⟩:=hu
 cases p <;> simp only at hr
 ·subst hr
  rename_i x
  simp only [kN,VRel] at hv
  obtain ⟨t,rfl,ok⟩:=hv
  refine wpAny_getItem_str_slice (l:=lo.map (·,t1)) (u:=hi.map (·,t2)) (st:=none) ⟨_,hs,rfl,rfl⟩ rfl ?_
  have e1:(lo.map (·,t1)).map (·.1) = lo:=by cases lo <;> rfl
  have e2:(hi.map (·,t2)).map (·.1) = hi:=by cases hi <;> rfl
  have e3:(slicePicked ⟨x.toArray⟩ (lo.map (·,t1)) (hi.map (·,t2)) none).filterMap ((⟨x.toArray⟩:Str).cps[·]?) = slc x lo hi:=by
   unfold slicePicked
   rw [e1,e2,dC]
   rw [<- mP]
   simp
  unfold sliceMade
  have ok':=ok.slc lo hi
  split
  ·rename_i hc
   simp only [Bool.and_eq_true,beq_iff_eq] at hc
   have hlen:=hc.2
   have:slc x lo hi = x:=zbI (by
    rw [dC] at hlen
    rw [<- vO]
    unfold slicePicked at hlen
    rw [e1,e2,dC] at hlen
    exact hlen)
   refine ⟨.str x,G,by rw [<- this]; rw [this] at hk ⊢; exact hk,GS.refl hi',?_⟩
   simp only [VRel]
   exact ⟨t,rfl,ok⟩
  ·rw [e3]
   refine ⟨by rw [dC]; exact ok'.2,_,G,hk,GS.toks hi' _,?_⟩
   simp only [VRel]
   exact ⟨_,rfl,ok'⟩
 ·subst hr
  rename_i xs
  obtain ⟨a,o,vs,n,rfl,h2,h3,h3',h4,h5,h6⟩:=hv
  refine wpAny_getItem_list_slice (lo:=lo) (hi:=hi) (st:=none) (vs:=.none) ⟨o,h2,h3,n,h4⟩ ⟨_,hs,rfl,rfl⟩ ?_ ?_ IsPart.none (by simp) ?_ h5
  ·cases lo with
   | none=>exact IsPart.none
   | some i=>exact IsPart.int _ _
  ·cases hi with
   | none=>exact IsPart.none
   | some i=>exact IsPart.int _ _
  ·have g:=GS.push hi' { cls:=.type "list",data:=.seq (slicePick vs lo hi none) } rfl s.toks
   refine ⟨_,_,hk,g,?_⟩
   simp only [VRel]
   have el:(slicePick vs lo hi none).toList = slc vs.toList lo hi:=zbH _ _ _
   refine ⟨_,_,_,_,rfl,e8,rfl,rfl,rfl,?_,by rw [el]; exact (h6.slc lo hi).mono g.ext⟩
   rw [<- Array.length_toList,el]
   exact Nat.le_trans (mQ _ _ _) (by simpa using h5)
end
open PySem.NumText
theorem zam {b c d:Nat} (h:iM b c = some d):c < 103:=by
 unfold iM at h
 split at h
 ·rename_i q; exact Nat.lt_of_le_of_lt q.2.1 (by decide)
 ·split at h
  ·rename_i q; exact Nat.lt_succ_of_le q.2.1
  ·split at h
   ·rename_i q; exact Nat.lt_of_le_of_lt q.2.1 (by decide)
   ·cases h
theorem zes:((List.range 103).all fun c=>(iM 16 c).all fun d=>(digit? c == some d) && (decide (d < 16) && (c != 95 && (decide (33 <= c) && (c != 45 && (c != 43 && (c != 120 && c != 88))))))) = true:=by decide +kernel
theorem zal:((List.range 103).all fun c=>(iM 10 c).all fun d=>iM 16 c == some d && decide (d < 10)) = true:=by decide +kernel
theorem y3 {α:Type} {o:Option α} {f:α->Bool} {d:α} (h:o.all f = true) (e:o = some d):f d = true:=by subst e; exact h
theorem lP {b c d:Nat} (hb:b = 10 \/ b = 16) (h:iM b c = some d):digit? c = some d /\ d < b /\ c ≠ 95 /\ 33 <= c /\ c < 128 /\ c ≠ 45 /\ c ≠ 43 /\ c ≠ 120 /\ c ≠ 88:=by
 have hc:=zam h
 have g:∀ d,iM 16 c = some d->digit? c = some d /\ d < 16 /\ c ≠ 95 /\ 33 <= c /\ c < 128 /\ c ≠ 45 /\ c ≠ 43 /\ c ≠ 120 /\ c ≠ 88:=fun d h=>by
  have q:=y3 (List.all_eq_true.mp zes c (List.mem_range.mpr hc)) h
  have q:=Bool.and_eq_true_iff.mp q
  have q1:=Bool.and_eq_true_iff.mp q.2
  have q2:=Bool.and_eq_true_iff.mp q1.2
  have q3:=Bool.and_eq_true_iff.mp q2.2
  have q4:=Bool.and_eq_true_iff.mp q3.2
  have q5:=Bool.and_eq_true_iff.mp q4.2
  have q6:=Bool.and_eq_true_iff.mp q5.2
  exact ⟨eq_of_beq q.1,of_decide_eq_true q1.1,bne_iff_ne.mp q2.1,of_decide_eq_true q3.1,Nat.lt_trans hc (by decide),bne_iff_ne.mp q4.1,bne_iff_ne.mp q5.1,bne_iff_ne.mp q6.1,bne_iff_ne.mp q6.2⟩
 rcases hb with rfl | rfl
 ·have q:=Bool.and_eq_true_iff.mp (y3 (f:=fun d=>iM 16 c == some d && decide (d < 10)) (List.all_eq_true.mp zal c (List.mem_range.mpr hc)) h)
  have g:=g d (eq_of_beq q.1)
  exact ⟨g.1,of_decide_eq_true q.2,g.2.2⟩
 ·exact g d h
theorem t9 {b:Nat} (hb:b = 10 \/ b = 16):∀ (cs:List Nat) (acc n:Nat) (ds:Array Nat) (fl:Bool),eE b acc cs = some n->ds.foldl (fun a d=>a * b + d) 0 = acc->
  ∃ ds',cs.foldlM (NumText.step b) (ds,fl) = some (ds',if cs = [] then fl else true) /\ ds'.foldl (fun a d=>a * b + d) 0 = n /\ ds'.size = ds.size + cs.length
 | [],acc,n,ds,fl,h,e=>by
  simp only [eE,Option.some.injEq] at h
  exact ⟨ds,rfl,by rw [e,h],rfl⟩
 | c :: cs,acc,n,ds,fl,h,e=>by
  unfold eE at h
  split at h
  ·rename_i d hd
   obtain ⟨h1,h2,h3,_⟩:=lP hb hd
   have hs:NumText.step b (ds,fl) c = some (ds.push d,true):=by
    unfold NumText.step
    have:(c == 95) = false:=beq_eq_false_iff_ne.mpr h3
    rw [this,h1]
    simp [h2]
   obtain ⟨ds',q1,q2,q3⟩:=t9 hb cs (acc * b + d) n (ds.push d) true h (by rw [Array.foldl_push,e])
   refine ⟨ds',?_,q2,by simp at q3 ⊢; omega⟩
   rw [List.foldlM_cons,hs]
   simp only [Option.bind_eq_bind,Option.bind_some]
   rw [q1]; simp
  ·cases h
theorem y4 {b:Nat}:∀ (cs:List Nat) (acc n:Nat),eE b acc cs = some n->∀ c ∈ cs,∃ d,iM b c = some d
 | [],_,_,_,_,h=>by simp at h
 | c :: cs,acc,n,h,x,hx=>by
  unfold eE at h
  split at h
  ·rename_i d hd
   rcases List.mem_cons.mp hx with rfl | hx
   ·exact ⟨d,hd⟩
   ·exact y4 cs _ _ h x hx
  ·cases h
theorem mU {b n:Nat} {cs:List Nat} (hb:b = 10 \/ b = 16) (h:eE b 0 cs = some n) (hne:cs ≠ []):∃ ds,digits? b cs = some ds /\ ds.foldl (fun a d=>a * b + d) 0 = n /\ ds.size = cs.length:=by
 obtain ⟨ds,h1,h2,h3⟩:=t9 hb cs 0 n #[] false h rfl
 refine ⟨ds,?_,h2,by simpa using h3⟩
 unfold digits?
 rw [h1,if_neg hne]; rfl
theorem zaM {b c d:Nat} (hb:b = 10 \/ b = 16) (h:iM b c = some d):blank c = false:=by
 obtain ⟨_,_,_,h1,h2,_⟩:=lP hb h
 have:=(show ((List.range 128).all fun c=>decide (c < 33) || !blank c) = true by decide +kernel)
 have:=List.all_eq_true.mp this c (List.mem_range.mpr h2)
 rw [decide_eq_false (Nat.not_lt.mpr h1),Bool.false_or] at this
 exact Bool.not_eq_true' _ ▸ this
theorem rR {b n:Nat} {cs:List Nat} (hb:b = 10 \/ b = 16) (h:eE b 0 cs = some n):∀ c ∈ cs,blank c = false /\ (c < 128 /\ c ≠ 0) /\ c ≠ 45 /\ c ≠ 43 /\ c ≠ 120 /\ c ≠ 88:=fun c hc=>by
 obtain ⟨d,hd⟩:=y4 cs 0 n h c hc
 have q:=lP hb hd
 exact ⟨zaM hb hd,⟨q.2.2.2.2.1,Nat.ne_of_gt (Nat.lt_of_lt_of_le (by decide) q.2.2.2.1)⟩,q.2.2.2.2.2⟩
theorem pA {x:List Nat} (h:∀ c ∈ x,c ≠ 45 /\ c ≠ 43):sign x = (false,x):=by
 match x,h with
 | [],_=>rfl
 | c :: r,h=>
  have:=h c List.mem_cons_self
  unfold sign
  split
  ·rename_i q; cases q; exact absurd rfl this.1
  ·rename_i q; cases q; exact absurd rfl this.2
  ·rfl
theorem g8 {cs:List Nat} (h:∀ c ∈ cs,blank c = false):cs.dropWhile blank = cs:=by
 cases cs with
 | nil=>rfl
 | cons c cs=>rw [List.dropWhile_cons,h c (by simp)]; rfl
theorem take_zero {cs:List Nat} (h:∀ c ∈ cs,c ≠ 0):cs.takeWhile (· != 0) = cs:=by
 induction cs with
 | nil=>rfl
 | cons c cs ih=>
  have:(c != 0) = true:=by have:=h c (by simp); simpa using this
  rw [List.takeWhile_cons,if_pos this,ih fun d hd=>h d (by simp [hd])]
theorem nC {x:List Nat} (h:∀ c ∈ x,c < 128) (h0:∀ c ∈ x,c ≠ 0):numTextOf ⟨x.toArray⟩ = x /\ numSeenOf ⟨x.toArray⟩ = x:=by
 have e:numTextOf ⟨x.toArray⟩ = x:=by
  unfold numTextOf
  rw [if_pos]
  rw [Array.all_eq_true]
  intro i hi
  simp only [decide_eq_true_eq]
  exact h _ (by simp)
 refine ⟨e,?_⟩
 unfold numSeenOf
 rw [e]; exact take_zero h0
theorem za4 (neg:Bool) (ds:Array Nat) (n:Nat) (h:ds.foldl (fun a d=>a * 10 + d) 0 = n):worth neg ds = if neg then -(n:Int) else n:=by
 unfold worth; rw [h]
theorem iL {x:List Nat} {neg:Bool} {cs:List Nat} {n:Nat} (hx:(neg = true /\ x = 45 :: cs) \/ (neg = false /\ x = 43 :: cs) \/ (neg = false /\ x = cs)) (hne:cs ≠ []) (hn:eE 10 0 cs = some n) (hl:cs.length <= 4300):
  PySem.intText? ⟨x.toArray⟩ = some (if neg then -(n:Int) else n):=by
 have hm:=rR (.inl rfl) hn
 have hasc:∀ c ∈ x,c < 128 /\ c ≠ 0:=fun c hc'=>by
  rcases hx with ⟨_,rfl⟩ | ⟨_,rfl⟩ | ⟨_,rfl⟩
  ·exact (List.mem_cons.mp hc').elim (fun e=>e ▸ by decide) fun h=>(hm c h).2.1
  ·exact (List.mem_cons.mp hc').elim (fun e=>e ▸ by decide) fun h=>(hm c h).2.1
  ·exact (hm c hc').2.1
 obtain ⟨e1,e2⟩:=nC (fun c hc=>(hasc c hc).1) fun c hc=>(hasc c hc).2
 have hb:∀ c ∈ cs,blank c = false:=fun c hc=>(hm c hc).1
 have hbr:∀ c ∈ cs.reverse,blank c = false:=fun c hc=>hb c (List.mem_reverse.mp hc)
 have hsign:sign (x.dropWhile blank) = (neg,cs):=by
  rcases hx with ⟨rfl,rfl⟩ | ⟨rfl,rfl⟩ | ⟨rfl,rfl⟩
  ·rfl
  ·rfl
  ·rw [g8 hb]; exact pA fun c hc=>⟨(hm c hc).2.2.1,(hm c hc).2.2.2.1⟩
 obtain ⟨ds,d1,d2,d3⟩:=mU (.inl rfl) hn hne
 have hcore:core x = cs:=by
  unfold core
  rw [hsign]
  simp only
  rw [g8 hbr,List.reverse_reverse]
 unfold PySem.intText?
 rw [e1,e2]
 simp only [beq_self_eq_true,if_true]
 rw [hcore,d1]
 simp only
 rw [if_pos (by omega),hsign,za4 _ _ n d2]
section
variable {prog:Program} {w:World} {A:Around} {E:Value->Shared->Prop} {s:Shared}
theorem zfb {M:Model} {A:Around} {E:Value->Shared->Prop} {s:Shared} {Q:Value->Shared->Prop} {v:Value} {text:List Nat} {n:Int}
  (hs:(text.takeWhile (· != 0)).length <= 640) (hr:(int_private% "readNumeral") 0 16 (text.takeWhile (· != 0)) = (int_private% "Numeral.value") n)
  (ha:((text.takeWhile (· != 0)).length == text.length) = true) (h:Q (.int n s.toks) { s with toks:=s.toks + 1 }):
  wpAny M A ((int_private% "intFromText") v text 16) Q E s:=by
 obtain ⟨hp,g,d,tk,os⟩:=s
 repeat (any_goals (first
  | assumption
  | (with_reducible refine wpAny_ite_true (decide_eq_true hs) ?_)
  | (with_reducible refine wpAny_ite_true (decide_eq_true ha) ?_)
  | wp_step))
 all_goals (try rw [hr])
 all_goals (try dsimp only)
 repeat (any_goals (first
  | assumption
  | (with_reducible refine wpAny_ite_true (decide_eq_true hs) ?_)
  | (with_reducible refine wpAny_ite_true (decide_eq_true ha) ?_)
  | wp_step))
theorem zbN {cs:List Nat} {n:Nat} (hn:eE 16 0 cs = some n) (hne:cs ≠ []):(int_private% "readNumeral") 0 16 cs = (int_private% "Numeral.value") (n:Int):=by
 have hm:=rR (.inr rfl) hn
 have hb:∀ c ∈ cs,blank c = false:=fun c hc=>(hm c hc).1
 have hbr:∀ c ∈ cs.reverse,blank c = false:=fun c hc=>hb c (List.mem_reverse.mp hc)
 obtain ⟨ds,d1,d2,d3⟩:=mU (.inr rfl) hn hne
 rw [readNumeral_eq,g8 hb]
 have hsign:sign cs = (false,cs):=pA fun c hc=>⟨(hm c hc).2.2.1,(hm c hc).2.2.2.1⟩
 have hbased:based 16 cs = (16,false,cs):=by
  unfold based
  split
  ·rename_i p hp
   have:p ≠ 16:=by
    rintro rfl
    unfold prefix? at hp
    split at hp
    ·rename_i c r
     have hd:=(hm c (List.mem_cons_of_mem _ List.mem_cons_self)).2.2.2.2
     split at hp
     ·rename_i q
      exact (Bool.or_eq_true_iff.mp q).elim (fun q=>absurd (eq_of_beq q) hd.1) fun q=>absurd (eq_of_beq q) hd.2
     ·split at hp
      ·cases hp
      ·split at hp <;> cases hp
    ·cases hp
   rw [if_neg]
   simp; omega
  ·rfl
 rw [hsign]
 simp only [hbased]
 rw [g8 hbr,List.reverse_reverse,d1]
 unfold judge
 simp only [bne_self_eq_false,Bool.and_false,Bool.false_and,Bool.false_eq_true,if_false]
 rw [d2]
 rfl
set_option maxHeartbeats 4000000 in
theorem zac {x:List Nat} {u v:Tok} {n:Nat} (hl:x.length <= 640) (hne:x ≠ []) (hn:eE 16 0 x = some n):Gives (Builtin.«int.__new__» ⟨[.type "int",.str ⟨x.toArray⟩ u,.int 16 v],[]⟩) (.int n):=
 .of_wp fun M A E s Q h=>by
  obtain ⟨hp,g,d,tk,os⟩:=s
  have f1:=F.conv_sub_int
  have f2:=F.madeHere_int
  have f6:typeOf (.str ⟨x.toArray⟩ u) = pure (.type "str"):=rfl
  have hm:=rR (.inr rfl) hn
  have hasc:∀ c ∈ x,c < 128 /\ c ≠ 0:=fun c hc=>(hm c hc).2.1
  obtain ⟨e1,e2⟩:=nC (fun c hc=>(hasc c hc).1) fun c hc=>(hasc c hc).2
  have hs:(numSeenOf ⟨x.toArray⟩).length <= 640:=by rw [e2]; exact hl
  have hr:(int_private% "readNumeral") 0 16 (numSeenOf ⟨x.toArray⟩) = (int_private% "Numeral.value") (n:Int) /\ ((numSeenOf ⟨x.toArray⟩).length == (numTextOf ⟨x.toArray⟩).length) = true:=by
   rw [e1,e2]; exact ⟨zbN hn hne,by simp⟩
  have hk:=PySem.W.KIN.Hid.mk (And.intro hs hr)
  clear hs hr hl hn hm hasc e1 e2 hne
  repeat (any_goals (first
   | assumption
   | ((with_reducible show wpAny _ _ ((int_private% "intFromText") _ _ _) _ _ _); refine zfb hk.out.1 hk.out.2.1 hk.out.2.2 ?_)
   | wp_step))
  all_goals first | exact ⟨_,rfl,h⟩ | skip
end
theorem kX {P:Params} {G:GM}:∀ {ps:List PV} {vs:List Value} {zs:List (List Nat)},VRels P G vs ps->fN ps = some zs->StrsAre vs (zs.map fun z=>⟨z.toArray⟩) /\ ∀ z ∈ zs,okStr z
 | [],vs,zs,r,h=>by
  simp only [VRels] at r; subst r
  simp only [fN,Option.some.injEq] at h; subst h
  exact ⟨.nil,by simp⟩
 | p :: ps,vs,zs,r,h=>by
  simp only [VRels] at r
  obtain ⟨v,w,rfl,r1,r2⟩:=r
  obtain ⟨x,hx,h⟩:=Option.bind_eq_some_iff.mp h
  obtain ⟨ys,hy,rfl⟩:=Option.map_eq_some_iff.mp h
  cases p <;> first | (cases hx; done) | skip
  cases hx
  simp only [VRel] at r1
  obtain ⟨t,rfl,ok⟩:=r1
  obtain ⟨q1,q2⟩:=kX r2 hy
  refine ⟨.cons _ t q1,?_⟩
  intro z hz
  rcases List.mem_cons.mp hz with rfl | hz
  ·exact ok
  ·exact q2 z hz
theorem oL (zs:List (List Nat)) (x:List Nat):((zs.map fun z=>(⟨z.toArray⟩:Str)).any fun y=>y == ⟨x.toArray⟩) = decide (x ∈ zs):=by
 rw [List.any_map]
 by_cases h:x ∈ zs
 ·rw [decide_eq_true h,List.any_eq_true]
  exact ⟨x,h,by simp⟩
 ·rw [decide_eq_false h,List.any_eq_false]
  intro z hz
  simp only [Function.comp]
  intro e
  have e:=eq_of_beq e
  have:z = x:=by simpa using congrArg (fun s:Str=>s.cps.toList) e
  exact h (this ▸ hz)
theorem zV:∀ (x y:List Nat),(!(decide (y < x))) = leS x y
 | [],y=>by cases y <;> rfl
 | a :: x,[]=>rfl
 | a :: x,b :: y=>by
  have ih:=zV x y
  rw [StrLaws.lt_cons_cons]
  show _ = if a = b then leS x y else decide (a < b)
  by_cases h:a = b
  ·subst h; simp only [Nat.lt_irrefl,decide_false,Bool.false_or,beq_self_eq_true,Bool.true_and,if_true]; exact ih
  ·rw [if_neg h]
   have:(b == a) = false:=by simp; omega
   rw [this,Bool.false_and,Bool.or_false]
   by_cases h':a < b
   ·rw [decide_eq_true h',decide_eq_false (by omega)]; rfl
   ·rw [decide_eq_false h',decide_eq_true (by omega)]; rfl
section
variable {prog:Program} {w:World} {A:Around} {E:Value->Shared->Prop} {s:Shared} {G:GM} {a b:Value} {K:PV->Prop} {σ:Nat->Option Cell}
theorem in_G (neg:Bool) {p q:PV} (hi:InH G s.heap) (ha:VRel w.params G a p) (hb:VRel w.params G b q) (h:inW p q fun r=>K (.bool (if neg then !r else r))):
  GW (model prog w) A w.params E G s (compareOp (if neg then .NotIn else .In) a b) K:=by
 obtain ⟨x,rfl,h⟩:=eN h
 simp only [VRel] at ha
 obtain ⟨t,rfl,_⟩:=ha
 cases q <;> first | exact False.elim h | skip
 ·simp only [VRel] at hb
  obtain ⟨u,rfl,_⟩:=hb
  cases neg
  ·exact d5 hi h fun Q q=>P.in_str (by rw [lW]; exact q)
  ·exact d5 hi h fun Q q=>P.notIn_str (by rw [lW]; exact q)
 ·obtain ⟨zs,hz,h⟩:=h
  simp only [VRel] at hb
  obtain ⟨x,o,vs,n,rfl,h2,h3,h4,h5,h6⟩:=hb
  obtain ⟨q1,_⟩:=kX h6 hz
  have ht:IsTup s.heap x vs:=⟨o,hi.at_ _ _ h2,h3,n,h4⟩
  cases neg
  ·exact d5 hi h fun Q q=>in_tuple_strs ht q1 (by rw [oL]; exact q)
  ·exact d5 hi h fun Q q=>notin_tuple_strs ht q1 (by rw [oL]; exact q)
 ·obtain ⟨zs,hz,h⟩:=h
  obtain ⟨x,vs,rfl,h2,h5,h6⟩:=LView.isList (show LView w.params G s.heap b _ from VRel.view hi hb)
  obtain ⟨q1,_⟩:=kX h6 hz
  cases neg
  ·exact d5 hi h fun Q q=>in_list_strs (vs:=vs.toList) h2 q1 (by rw [oL]; exact q)
  ·exact d5 hi h fun Q q=>notin_list_strs (vs:=vs.toList) h2 q1 (by rw [oL]; exact q)
theorem is_G (neg:Bool) {p q:PV} (hi:InH G s.heap) (ha:VRel w.params G a p) (hb:VRel w.params G b q) (h:isW p q fun r=>K (.bool (if neg then !r else r))):
  GW (model prog w) A w.params E G s (compareOp (if neg then .IsNot else .Is) a b) K:=by
 have main:∀ {a b:Value} {r:Bool},plainIs a b = true->(a == b) = r->K (.bool (if neg then !r else r))->GW (model prog w) A w.params E G s (compareOp (if neg then .IsNot else .Is) a b) K:=by
  intro a b r h1 h2 hk
  subst h2
  cases neg
  ·exact d5 hi hk fun Q q=>wpAny_is_plain h1 q
  ·exact d5 hi hk fun Q q=>wpAny_isNot_plain h1 q
 cases q <;> first | exact False.elim h | skip
 ·simp only [VRel] at hb
  subst hb
  cases p <;> first | exact False.elim h | skip
  ·simp only [VRel] at ha
   subst ha; exact main rfl rfl h
  ·simp only [VRel] at ha
   obtain ⟨t,rfl⟩:=ha; exact main rfl rfl h
  ·simp only [VRel] at ha
   obtain ⟨t,rfl,_⟩:=ha; exact main rfl rfl h
  ·simp only [VRel] at ha
   obtain ⟨a,o,vs,m,rfl,_⟩:=ha; exact main rfl rfl h
 ·rename_i y
  cases p <;> first | exact False.elim h | skip
  rename_i x
  simp only [VRel] at ha hb
  subst ha hb; exact main rfl (by cases x <;> cases y <;> rfl) h
theorem zg0 {n:Nat} (hA:Room n A) {op:CmpOp} {p q:PV} (hi:InH G s.heap) (hc:mB w.params G s.heap σ) (ha:VRel w.params G a p) (hb:VRel w.params G b q)
  (h:za1 σ op p q fun r=>K (.bool r)):GW (model prog w) A w.params E G s (compareOp op a b) K:=by
 have twoI:∀ {c:Int->Int->Bool} {op:CmpOp},(asI p fun x=>asI q fun y=>K (.bool (c x y)))->(∀ x t y u (Q:Value->Shared->Prop),Q (.bool (c x y)) s->wpAny (model prog w) A (compareOp op (.int x t) (.int y u)) Q E s)->GW (model prog w) A w.params E G s (compareOp op a b) K:=by
  intro c op h k
  obtain ⟨x,rfl,h⟩:=dA h
  obtain ⟨y,rfl,h⟩:=dA (v:=q) h
  simp only [VRel] at ha hb
  obtain ⟨t,rfl⟩:=ha; obtain ⟨u,rfl⟩:=hb
  exact d5 hi h fun Q q=>k x t y u Q q
 cases op
 ·exact eq_G hA false hi hc ha hb h
 ·exact eq_G hA true hi hc ha hb h
 ·exact twoI h fun _ _ _ _ Q q=>lt_int q
 ·have h:leP p q fun r=>K (.bool r):=h
  cases p <;> first | exact False.elim h | skip
  ·exact twoI (c:=fun x y=>decide (x <= y)) h fun _ _ _ _ Q q=>le_int q
  ·obtain ⟨y,rfl,h⟩:=eN (v:=q) h
   simp only [VRel] at ha hb
   obtain ⟨t,rfl,_⟩:=ha; obtain ⟨u,rfl,_⟩:=hb
   exact d5 hi h fun Q q=>P.le_str (by simpa [zV] using q)
 ·exact twoI h fun _ _ _ _ Q q=>gt_int q
 ·exact twoI (c:=fun x y=>decide (y <= x)) h fun _ _ _ _ Q q=>PyProof.Rows.ge_int q
 ·exact is_G false hi ha hb h
 ·exact is_G true hi ha hb h
 ·exact in_G false hi ha hb h
 ·exact in_G true hi ha hb h
theorem zdF {v:Value} {p:PV} {b:Bool} (hi:InH G s.heap) (hv:kN w.params G s.heap v p) (h:rA p = some b):
  wpAny (model prog w) A (truthy v) (fun c s'=>c = b /\ GS G s G s') E s:=by
 have ze2:∀ n:Nat,n <= aO->(n:Int) < 2 ^ 63:=by intro n hn; unfold aO at hn; omega
 cases p <;> first | (cases h; done) | skip
 all_goals cases h
 ·simp only [kN,VRel] at hv; subst hv; exact truthy_none ⟨rfl,GS.refl hi⟩
 ·simp only [kN,VRel] at hv; subst hv; exact wpAny_truthy_bool ⟨rfl,GS.refl hi⟩
 ·simp only [kN,VRel] at hv; obtain ⟨t,rfl⟩:=hv
  rename_i i
  exact truthy_int ⟨by by_cases e:i = 0 <;> simp [e],GS.refl hi⟩
 ·simp only [kN,VRel] at hv; obtain ⟨t,rfl,ok⟩:=hv
  rename_i x
  refine P.truthy_str (by rw [dC]; exact Int.not_le.mpr (ze2 _ ok.2)) ⟨?_,GS.toks hi _⟩
  rw [dC]
  cases x <;> rfl
 ·simp only [kN,VRel] at hv
  obtain ⟨x,o,vs,n,rfl,h2,h3,h4,h5,h6⟩:=hv
  rename_i xs
  refine truthy_tuple (items:=vs) ⟨o,hi.at_ _ _ h2,h3,n,h4⟩ (ze2 _ h5) ⟨?_,GS.toks hi _⟩
  have e:=h6.length
  cases xs <;> simp at e <;> simp [Array.isEmpty,e]
 ·obtain ⟨x,vs,rfl,h2,h5,h6⟩:=LView.isList hv
  rename_i xs
  refine wpAny_truthy_list h2 (ze2 _ h5) ⟨?_,GS.toks hi _⟩
  have e:=h6.length
  cases xs <;> simp at e <;> simp [Array.isEmpty,e]
end
theorem oF {P:Params}:∀ {es:List (List Nat × List Nat)} {vs:List DictEntry},tL P vs es->
  (∀ e ∈ vs,∃ k:List Nat,(∃ t,e.key = .str ⟨k.toArray⟩ t) /\ e.hash = PyData.keyHash P ⟨k.toArray⟩) /\
  (∀ k:List Nat,(∃ p t,es.lookup k = some p /\ (vs.find? fun d=>Value.isStrOf ⟨k.toArray⟩ d.key).map (·.val) = some (.str ⟨p.toArray⟩ t) /\ okStr p) \/ (es.lookup k = none /\ (vs.find? fun d=>Value.isStrOf ⟨k.toArray⟩ d.key).map (·.val) = none))
 | [],vs,r=>by
  have r:vs = []:=r
  subst r
  exact ⟨fun e h=>(nomatch h),fun k=>.inr ⟨rfl,rfl⟩⟩
 | (k₀,p) :: es,vs,r=>by
  obtain ⟨e,w,t,t',rfl,h1,h2,h3,h5,h4⟩:=(show ∃ e r t t',vs = e :: r /\ e.key = .str ⟨k₀.toArray⟩ t /\ e.hash = PyData.keyHash P ⟨k₀.toArray⟩ /\ e.val = .str ⟨p.toArray⟩ t' /\ okStr p /\ tL P r es from r)
  obtain ⟨q1,q2⟩:=oF h4
  refine ⟨fun d hd=>?_,fun k=>?_⟩
  ·rcases List.mem_cons.mp hd with rfl | hd
   ·exact ⟨k₀,⟨t,h1⟩,h2⟩
   ·exact q1 d hd
  ·rw [List.find?_cons,List.lookup_cons]
   by_cases hk:k = k₀
   ·subst hk
    have:Value.isStrOf ⟨k.toArray⟩ e.key = true:=by rw [h1]; simp [Value.isStrOf]
    rw [this,beq_self_eq_true]
    exact .inl ⟨p,t',rfl,congrArg some h3,h5⟩
   ·have a:Value.isStrOf ⟨k.toArray⟩ e.key = false:=by
     rw [h1]
     simp only [Value.isStrOf]
     apply Bool.eq_false_iff.mpr
     intro h
     have h:=eq_of_beq h
     have:k₀ = k:=by simpa using congrArg (fun s:Str=>s.cps.toList) h
     exact hk this.symm
    have b:(k == k₀) = false:=beq_eq_false_iff_ne.mpr hk
    rw [a,b]
    exact q2 k
section
variable {prog:Program} {w:World} {G:GM}
theorem zci {es':Array DictEntry} {es:List (List Nat × List Nat)} (hr:tL w.params es'.toList es) (k:List Nat):
  (∃ p t,es.lookup k = some p /\ findBy Value.isStrOf es' ⟨k.toArray⟩ = some (.str ⟨p.toArray⟩ t) /\ okStr p) \/ (es.lookup k = none /\ findBy Value.isStrOf es' ⟨k.toArray⟩ = none):=by
 obtain ⟨l⟩:=es'
 unfold findBy
 rw [List.find?_toArray]
 rcases (oF hr).2 k with ⟨p,t,h1,h2,h3⟩ | ⟨h1,h2⟩
 ·exact .inl ⟨p,t,h1,h2,h3⟩
 ·exact .inr ⟨h1,h2⟩
end
noncomputable def iG:Obj:={ cls:=.type "dict",data:=.dict #[] }
noncomputable def zcK (P:Params) (G:GM) (sl:Array (Option Value)) (fs:List (Option PV)):Prop:=
 sl.size <= fs.length /\ ∀ (i:Nat) (p:PV),fs[i]? = some (some p)->∃ v,sl[i]? = some (some v) /\ VRel P G v p
noncomputable def CellRel (P:Params) (G:GM) (h:Heap) (a:Nat):Cell->Prop
 | .lst xs=>∃ vs n,h.get? a = some { cls:=.type "list",data:=.seq vs n } /\ vs.size <= aO /\ VRels P G vs.toList xs
 | .ins c fs=>∃ dx sl,h.get? a = some { cls:=.ref c,dict:=some dx,data:=.plain,slots:=sl } /\ G dx = some iG /\ zcK P G sl fs
theorem CellRel.mono {P:Params} {G G':GM} {h h':Heap} {a:Nat} {c:Cell} (r:CellRel P G h a c) (hs:Sub G G') (hk:∀ o,h.get? a = some o->h'.get? a = some o):CellRel P G' h' a c:=by
 cases c with
 | lst xs=>obtain ⟨vs,n,h1,h2,h3⟩:=r; exact ⟨vs,n,hk _ h1,h2,h3.mono hs⟩
 | ins c fs=>
  obtain ⟨dx,sl,h1,h2,h3,h4⟩:=r
  exact ⟨dx,sl,hk _ h1,hs _ _ h2,h3,fun i p e=>let ⟨v,e1,e2⟩:=h4 i p e; ⟨v,e1,e2.mono hs⟩⟩
structure Rep (P:Params) (G:GM) (env:Env) (st:St) (s:Shared):Prop where
 inh:InH G s.heap
 tk:1 <= s.toks
 ns:∃ m,s.heap.Ns env.locals m /\ ∀ x p,st.ρ x = some p->env.kindOf x = some .local->∃ v,m x = some v /\ VRel P G v p
 kind:∀ x p,st.ρ x = some p->env.kindOf x = some .local \/ env.kindOf x = some .cell \/ env.kindOf x = some .free
 cel:∀ x p,st.ρ x = some p->env.kindOf x ≠ some .local->∃ c v,env.cells.lookup x = some c /\ s.heap.IsCell c (some v) /\ VRel P G v p
 cell0:∀ x,env.kindOf x = some .cell->∃ c v,env.cells.lookup x = some c /\ s.heap.IsCell c v
 gl:G env.locals = none
 gc:∀ x c,env.cells.lookup x = some c->G c = none /\ c ≠ env.locals
 cinj:∀ x y c,env.cells.lookup x = some c->env.cells.lookup y = some c->x = y
 cells:∀ a c,st.σ a = some c->CellRel P G s.heap a c /\ G a = none /\ a ≠ env.locals /\ ∀ x,env.cells.lookup x ≠ some a
structure Tr (cw:Bool) (env:Env) (G:GM) (st:St) (s:Shared) (G':GM) (st':St) (s':Shared):Prop where
 ext:Sub G G'
 new:∀ a o,G' a = some o->G a = some o \/ s.heap.get? a = none
 keep:∀ a o,¬ XS a->s.heap.get? a = some o->a ≠ env.locals->(cw = true->∀ x,env.cells.lookup x ≠ some a)->st.σ a = none->s'.heap.get? a = some o
 alive:∀ a,(s.heap.get? a).isSome = true->(s'.heap.get? a).isSome = true
 dom:∀ a,(st.σ a).isSome = true->(st'.σ a).isSome = true
 fresh:∀ a,(st'.σ a).isSome = true->(st.σ a).isSome = true \/ s.heap.get? a = none
 os:s'.os = s.os
 gens:AllBare s.gens->AllBare s'.gens
section
variable {P:Params} {G G' G'':GM} {env:Env} {st st' st'':St} {s s' s'':Shared} {cw:Bool}
theorem Tr.refl:Tr cw env G st s G st s:=⟨.refl _,fun _ _ e=>.inl e,fun _ _ _ e _ _ _=>e,fun _ e=>e,fun _ e=>e,fun _ e=>.inl e,rfl,fun e=>e⟩
theorem Tr.trans (h:Tr cw env G st s G' st' s') (h':Tr cw env G' st' s' G'' st'' s''):Tr cw env G st s G'' st'' s'' where
 ext:=h.ext.trans h'.ext
 new:=fun a o e=>by
  rcases h'.new a o e with q | q
  ·exact h.new a o q
  ·right
   cases e':s.heap.get? a with
   | none=>rfl
   | some o'=>have:=h.alive a (by rw [e']; rfl); rw [q] at this; cases this
 keep:=fun a o n e h1 h2 h3=>h'.keep a o n (h.keep a o n e h1 h2 h3) h1 h2 (by
  cases q:st'.σ a with
  | none=>rfl
  | some c=>
   rcases h.fresh a (by rw [q]; rfl) with r | r
   ·rw [h3] at r; cases r
   ·rw [e] at r; cases r)
 alive:=fun a e=>h'.alive a (h.alive a e)
 dom:=fun a e=>h'.dom a (h.dom a e)
 fresh:=fun a e=>by
  rcases h'.fresh a e with q | q
  ·exact h.fresh a q
  ·right
   cases e':s.heap.get? a with
   | none=>rfl
   | some o'=>have:=h.alive a (by rw [e']; rfl); rw [q] at this; cases this
 os:=h'.os.trans h.os
 gens:=fun e=>h'.gens (h.gens e)
theorem TabX.nd {h:Heap} (x:TabX h) {a:Nat} {o:Obj} (e:h.get? a = some o) (hd:∀ ps,o.data ≠ .fields ps):¬ XS a:=fun q=>by
 obtain ⟨o',ps,h1,h2,_⟩:=x a q
 rw [h1] at e; cases e; exact hd ps h2
theorem TabX.ns {h:Heap} (x:TabX h) {a:Nat} {m:Str->Option Value} (n:h.Ns a m):¬ XS a:=by
 obtain ⟨o,es,ep,h1,h2,_⟩:=n
 exact x.nd h1 fun ps q=>by rw [h2] at q; cases q
theorem TabX.cell {h:Heap} (x:TabX h) {a:Nat} {v:Option Value} (n:h.IsCell a v):¬ XS a:=by
 obtain ⟨o,h1,h2⟩:=n
 exact x.nd h1 fun ps q=>by rw [h2] at q; cases q
theorem CellRel.nx {h:Heap} (x:TabX h) {a:Nat} {c:Cell} (r:CellRel P G h a c):¬ XS a:=by
 cases c with
 | lst xs=>obtain ⟨vs,n,h1,_⟩:=r; exact x.nd h1 fun ps q=>by cases q
 | ins c fs=>obtain ⟨dx,sl,h1,_⟩:=r; exact x.nd h1 fun ps q=>by cases q
theorem zeW {h h':Heap} (t:TabX h') (k:∀ a o,¬ XS a->h.get? a = some o->h'.get? a = some o) (a:Nat) (e:(h.get? a).isSome = true):(h'.get? a).isSome = true:=by
 by_cases q:XS a
 ·obtain ⟨o,ps,h1,_⟩:=t a q; rw [h1]; rfl
 ·obtain ⟨o,ho⟩:=Option.isSome_iff_exists.mp e
  rw [k a o q ho]; rfl
theorem GS.alive (g:GS G s G' s') (a:Nat) (e:(s.heap.get? a).isSome = true):(s'.heap.get? a).isSome = true:=zeW g.inh.tab g.keep a e
theorem GS.tr (g:GS G s G' s'):Tr cw env G st s G' st s':=
 ⟨g.ext,g.new,fun a o n e _ _ _=>g.keep a o n e,g.alive,fun _ e=>e,fun _ e=>.inl e,g.os,g.gens⟩
theorem GS.none_stays (g:GS G s G' s') {a:Nat} {o:Obj} (ha:s.heap.get? a = some o) (h:G a = none):G' a = none:=by
 cases e:G' a with
 | none=>rfl
 | some o'=>
  rcases g.new a o' e with q | q
  ·rw [h] at q; cases q
  ·rw [ha] at q; cases q
theorem dJ {h h':Heap} {c:Addr} {v:Option Value} (x:h.IsCell c v) (k:∀ o,h.get? c = some o->h'.get? c = some o):h'.IsCell c v:=let ⟨o,e,d⟩:=x; ⟨o,k o e,d⟩
theorem CellRel.alive {h:Heap} {a:Nat} {c:Cell} (r:CellRel P G h a c):∃ o,h.get? a = some o:=by
 cases c with
 | lst xs=>obtain ⟨vs,n,h1,_⟩:=r; exact ⟨_,h1⟩
 | ins c fs=>obtain ⟨dx,sl,h1,_⟩:=r; exact ⟨_,h1⟩
theorem Rep.lx (R:Rep P G env st s):¬ XS env.locals:=by obtain ⟨m,h1,_⟩:=R.ns; exact R.inh.tab.ns h1
theorem Rep.cx {x:Str} {c:Addr} (R:Rep P G env st s) (hk:env.kindOf x = some .cell) (h:env.cells.lookup x = some c):¬ XS c:=by
 obtain ⟨c',v,h1,h2⟩:=R.cell0 x hk
 rw [h] at h1; cases h1; exact R.inh.tab.cell h2
noncomputable def CellsThere (env:Env) (h:Heap):Prop:=∀ x c,env.cells.lookup x = some c->∃ o,h.get? c = some o
theorem Rep.grow (R:Rep P G env st s) (hct:CellsThere env s.heap) (g:GS G s G' s') (tk:1 <= s'.toks):Rep P G' env st s' where
 inh:=g.inh
 tk:=tk
 ns:=by
  obtain ⟨m,h1,h2⟩:=R.ns
  exact ⟨m,h1.at' fun o=>g.keep _ o (R.inh.tab.ns h1),fun x p e k=>let ⟨v,a,b⟩:=h2 x p e k; ⟨v,a,b.mono g.ext⟩⟩
 kind:=R.kind
 cel:=fun x p e k=>let ⟨c,v,h1,h2,h3⟩:=R.cel x p e k; ⟨c,v,h1,dJ h2 (fun o=>g.keep c o (R.inh.tab.cell h2)),h3.mono g.ext⟩
 cell0:=fun x e=>let ⟨c,v,h1,h2⟩:=R.cell0 x e; ⟨c,v,h1,dJ h2 (fun o=>g.keep c o (R.inh.tab.cell h2))⟩
 gl:=by
  obtain ⟨m,⟨o,es,ep,h1,_⟩,h2⟩:=R.ns
  exact g.none_stays h1 R.gl
 gc:=fun x c e=>by
  obtain ⟨o,ho⟩:=hct x c e
  exact ⟨g.none_stays ho (R.gc x c e).1,(R.gc x c e).2⟩
 cinj:=R.cinj
 cells:=fun a c e=>by
  obtain ⟨h1,h2,h3⟩:=R.cells a c e
  obtain ⟨o,ho⟩:=h1.alive
  exact ⟨h1.mono g.ext (fun o=>g.keep a o (h1.nx R.inh.tab)),g.none_stays ho h2,h3⟩
theorem CellsThere.grow (h:CellsThere env s.heap) (hk:∀ a,(s.heap.get? a).isSome = true->(s'.heap.get? a).isSome = true):CellsThere env s'.heap:=fun x c e=>by
 obtain ⟨o,ho⟩:=h x c e
 exact Option.isSome_iff_exists.mp (hk c (by rw [ho]; rfl))
theorem Rep.cellsOk (R:Rep P G env st s):mB P G s.heap st.σ:=fun a xs e=>by
 obtain ⟨⟨vs,n,h1,h2,h3⟩,_⟩:=R.cells a _ e
 exact ⟨a,_,vs,n,rfl,h1,rfl,rfl,rfl,h2,h3⟩
theorem Rep.view (R:Rep P G env st s) {v:Value} {p:PV} (h:VRel P G v p):kN P G s.heap v (der st.σ p):=by
 cases p with
 | ptr a=>
  show kN P G s.heap v (Option.casesOn (motive:=fun _=>PV) (fR (st.σ a)) (.ptr a) .list)
  cases e:st.σ a with
  | none=>exact h
  | some c=>cases c with
   | lst xs=>simp only [VRel] at h; subst h; exact R.cellsOk a xs e
   | ins c fs=>exact h
 | _=>exact h.view R.inh
end
section
variable {prog:Program} {w:World} {A:Around} {E:Value->Shared->Prop} {s:Shared} {G:GM} {env:Env} {st:St} {cw:Bool} {K:PV->Prop}
noncomputable def za3 (P:Params) (cw:Bool) (env:Env) (G:GM) (st:St) (s:Shared) (Q:PV->St->Prop) (v:Value) (s':Shared):Prop:=
 ∃ p G' st',Q p st' /\ Rep P G' env st' s' /\ CellsThere env s'.heap /\ Tr cw env G st s G' st' s' /\ VRel P G' v p
theorem jM {t:Sem Value} {Q:PV->St->Prop} (R:Rep w.params G env st s) (hct:CellsThere env s.heap) (h:GW (model prog w) A w.params E G s t fun p=>Q p st):
  wpAny (model prog w) A t (za3 w.params cw env G st s Q) E s:=by
 refine wpAny_mono (wpAny_toks_of R.tk h) (fun v s' ⟨tk,p,G',hq,g,r⟩=>?_) fun _ _ e=>e.2
 exact ⟨p,G',st,hq,R.grow hct g tk,hct.grow g.alive,g.tr,r⟩
end
noncomputable def l5 (P:Params) (G:GM) (h:Heap) (vs:List Value):List PV->Prop
 | []=>vs = []
 | x :: xs=>∃ v r,vs = v :: r /\ kN P G h v x /\ l5 P G h r xs
noncomputable def gQ (name:Str):Value:=
 if name = "int" then .type "int" else if name = "range" then .type "range" else if name = "len" then .builtin "len" else if name = "ord" then .builtin "ord"
 else if name = "chr" then .builtin "chr" else .builtin "sum"
section
variable {prog:Program} {w:World} {A:Around} {E:Value->Shared->Prop} {s:Shared} {G:GM} {K:PV->Prop}
theorem GS.heap {G:GM} {s:Shared} (hi:InH G s.heap) {h':Heap} (k:Nat) (hk:∀ a o,s.heap.get? a = some o->h'.get? a = some o):GS G s G { s with heap:=h',toks:=k }:=
 ⟨.refl _,hi.keeps hk,fun _ _ e=>.inl e,fun a o _=>hk a o,rfl,fun e=>e⟩
theorem k9 {c:Nat} (h:c < 1114112):okStr [c]:=⟨by simpa using h,by simp [aO]⟩
theorem mC (a b:Value):checkTypeCall "int" ⟨[a,b],[]⟩ = pure ():=by kernel_rfl
theorem nT (a b:Value):checkBuiltinCall "int.__new__" ⟨[.type "int",a,b],[]⟩ = pure ():=by kernel_rfl
theorem iY {P:Params} {h:Heap} {vs:List Value} {p:PV} (hv:l5 P G h vs [p]):∃ v,vs = [v] /\ kN P G h v p:=by
 obtain ⟨v,r,rfl,h1,rfl⟩:=hv; exact ⟨v,rfl,h1⟩
theorem za8 {P:Params} {h:Heap} {v:Value} {i:Int} (hv:kN P G h v (.int i)):∃ t,v = .int i t:=by simpa only [kN,VRel] using hv
theorem za7 {P:Params} {h:Heap} {v:Value} {x:List Nat} (hv:kN P G h v (.str x)):∃ t,v = .str ⟨x.toArray⟩ t /\ okStr x:=by simpa only [kN,VRel] using hv
theorem gA {a:Prop} [Decidable a] {P Q R:Prop} (h:if a then P else Q) (hp:a->P->R) (hq:Q->R):R:=by
 by_cases q:a
 ·exact hp q ((if_pos q).mp h)
 ·exact hq ((if_neg q).mp h)
theorem sG {k:Nat} (hi:InH G s.heap) {i:Int} {t:Tok} (hk:K (.int i)):∃ r G',K r /\ GS G s G' { s with toks:=k } /\ VRel w.params G' (.int i t) r:=⟨_,G,hk,GS.toks hi _,t,rfl⟩
theorem ze2 {n:Nat} (hn:n <= aO):(n:Int) < 2 ^ 63:=Int.lt_of_le_of_lt (Int.ofNat_le.mpr hn) (by decide)
theorem zgg {vs:List Value} {ps:List PV} (hi:InH G s.heap) (hv:l5 w.params G s.heap vs ps) (h:one ps fun v=>zgs v K):GW (model prog w) A w.params E G s (call (gQ "len") vs) K:=by
 rw [show gQ "len" = .builtin "len" by decide +kernel]
 obtain ⟨p,rfl,ha⟩:=gJ h
 obtain ⟨v,rfl,hw⟩:=iY hv
 cases p <;> first | exact False.elim ha | skip
 ·obtain ⟨t,rfl,ok⟩:=za7 hw
  exact P.len_str (by rw [dC]; exact Int.not_le.mpr (ze2 ok.2)) (by rw [dC]; exact sG hi ha)
 ·obtain ⟨a,its,rfl,h1,h2,h3⟩:=LView.isList hw
  exact len_list h1 (ze2 h2) (by rw [<- Array.length_toList,h3.length]; exact sG hi ha)
theorem zgf {vs:List Value} {ps:List PV} (hi:InH G s.heap) (hv:l5 w.params G s.heap vs ps) (h:one ps fun v=>asS v fun x=>one x fun c=>K (.int c)):GW (model prog w) A w.params E G s (call (gQ "ord") vs) K:=by
 rw [show gQ "ord" = .builtin "ord" by decide +kernel]
 obtain ⟨p,rfl,ha⟩:=gJ h
 obtain ⟨x,rfl,hb⟩:=eN ha
 obtain ⟨c,rfl,hc⟩:=gJ hb
 obtain ⟨v,rfl,hw⟩:=iY hv
 obtain ⟨t,rfl,ok⟩:=za7 hw
 exact P.ord_of_char (sG hi hc)
theorem zgi {vs:List Value} {ps:List PV} (hi:InH G s.heap) (hv:l5 w.params G s.heap vs ps) (h:one ps fun v=>asI v fun i=>0 <= i /\ i < 0x110000 /\ K (.str [i.toNat])):GW (model prog w) A w.params E G s (call (gQ "chr") vs) K:=by
 rw [show gQ "chr" = .builtin "chr" by decide +kernel]
 obtain ⟨p,rfl,ha⟩:=gJ h
 obtain ⟨i,rfl,h0,h1,hk⟩:=dA ha
 obtain ⟨v,rfl,hw⟩:=iY hv
 obtain ⟨t,rfl⟩:=za8 hw
 exact P.chr_of_int (Bool.or_eq_false_iff.mpr ⟨decide_eq_false (Int.not_lt.mpr h0),decide_eq_false (Int.not_lt.mpr (Int.le_of_lt_add_one h1))⟩) ⟨_,G,hk,GS.toks hi _,_,rfl,k9 ((Int.toNat_lt h0).mpr h1)⟩
theorem zcF {v:Value} {x:List Nat} (hi:InH G s.heap) (hv:kN w.params G s.heap v (.str x)) (h:zb9 x K):GW (model prog w) A w.params E G s (call (.type "int") [v]) K:=by
 obtain ⟨t,rfl,ok⟩:=za7 hv
 cases x with
 | nil=>exact False.elim h
 | cons c x=>
  obtain ⟨hl,h⟩:=h
  have hlen:Str.length ⟨(c :: x).toArray⟩ <= 640:=hl
  rcases h with ⟨rfl,hne,m,hm,hk⟩ | ⟨rfl,hne,m,hm,hk⟩ | ⟨m,hm,hk⟩
  ·exact PySem.W.KIN.call_text (iL (neg:=true) (.inl ⟨rfl,rfl⟩) hne hm (Nat.le_trans (Nat.le_of_lt hl) (by decide))) hlen (sG hi hk)
  ·exact PySem.W.KIN.call_text (iL (neg:=false) (.inr (.inl ⟨rfl,rfl⟩)) hne hm (Nat.le_trans (Nat.le_of_lt hl) (by decide))) hlen (sG hi hk)
  ·exact PySem.W.KIN.call_text (iL (neg:=false) (.inr (.inr ⟨rfl,rfl⟩)) (List.cons_ne_nil c x) hm (Nat.le_trans hlen (by decide))) hlen (sG hi hk)
theorem zgh {vs:List Value} {ps:List PV} (hi:InH G s.heap) (hv:l5 w.params G s.heap vs ps) (h:List.casesOn (motive:=fun _=>Prop) ps False fun v r=>asS v fun x=>List.casesOn (motive:=fun _=>Prop) r (zb9 x K) fun b r=>one (b :: r) fun b=>asI b fun b=>b = 16 /\ x ≠ [] /\ x.length <= 640 /\ ∃ n,eE 16 0 x = some n /\ K (.int n)):GW (model prog w) A w.params E G s (call (gQ "int") vs) K:=by
 rw [show gQ "int" = .type "int" by decide +kernel]
 cases ps with
 | nil=>exact False.elim h
 | cons p ps=>
  obtain ⟨x,rfl,hb⟩:=eN (v:=p) h
  cases ps with
  | nil=>
   obtain ⟨v,rfl,hw⟩:=iY hv
   exact zcF hi hw hb
  | cons q ps=>
   obtain ⟨b,e,hc⟩:=gJ hb
   cases e
   obtain ⟨i,rfl,rfl,hne,hl,m,hm,hk⟩:=dA hc
   obtain ⟨v,r,rfl,hv1,v',r',rfl,hv2,rfl⟩:=hv
   obtain ⟨t,rfl,ok⟩:=za7 hv1
   obtain ⟨u,rfl⟩:=za8 hv2
   refine callType_new F.called_int F.newNe_int (mC _ _) (nT _ _) (fun obj=>F.initArgs_range_2 obj _ _) F.entry_int_new (zac (v:=u) hl hne hm).meets ?_
   exact (show (Made.int (m:Int)).post _ s from ⟨rfl,sG hi hk⟩)
theorem zcE {vs:List Value} {ps:List PV} (hi:InH G s.heap) (hv:l5 w.params G s.heap vs ps) (h:one ps fun a=>asI a fun lo=>rngP 0 lo K):GW (model prog w) A w.params E G s (call (gQ "range") vs) K:=by
 rw [show gQ "range" = .type "range" by decide +kernel]
 obtain ⟨p,rfl,ha⟩:=gJ h
 obtain ⟨lo,rfl,_,_,h0,h1,hk⟩:=dA ha
 obtain ⟨v,rfl,hw⟩:=iY hv
 obtain ⟨t,rfl⟩:=za8 hw
 exact call_range_1 ⟨_,_,hk,GS.push hi { cls:=.type "range",data:=.fields #[.int 0 s.toks,.int lo t,.int 1 (s.toks + 1)] } rfl (s.toks + 1 + 1),_,_,_,_,rfl,e8,Int.le_refl _,by decide,h0,h1⟩
theorem bi_G {n:Nat} (hA:Room n A) {name:Str} {vs:List Value} {ps:List PV} (hi:InH G s.heap) (hv:l5 w.params G s.heap vs ps) (h:biP name ps K):
  GW (model prog w) A w.params E G s (call (gQ name) vs) K:=
 gA h (fun q h=>q ▸ zgg hi hv h) fun h=>gA h (fun q h=>q ▸ zgf hi hv h) fun h=>gA h (fun q h=>q ▸ zgi hi hv h) fun h=>gA h (fun q h=>q ▸ zgh hi hv h) fun h=>gA h (fun q h=>q ▸ zcE hi hv h) False.elim
theorem lN {α:Type} {xs:List α} {k:Int} {c:α} (h:uK xs k = some c):seqIndex? k xs.length = some (if k < 0 then k + xs.length else k).toNat /\ xs[(if k < 0 then k + xs.length else k).toNat]? = some c /\ -(xs.length:Int) <= k /\ k < xs.length:=by
 unfold uK at h
 unfold seqIndex?
 by_cases h1:k < 0
 ·rw [if_pos h1] at h
  simp only [if_pos h1]
  split at h
  ·rename_i h2
   have h3:=(List.getElem?_eq_some_iff.mp h).1
   exact ⟨by rw [if_pos (by simp; omega)],h,by omega,by omega⟩
  ·cases h
 ·rw [if_neg h1] at h
  simp only [if_neg h1]
  have h3:=(List.getElem?_eq_some_iff.mp h).1
  exact ⟨by rw [if_pos (by simp; omega)],h,by omega,by omega⟩
theorem zel {v iv:Value} {x:List Nat} {k:Int} {c:Nat} (hi:InH G s.heap) (hv:VRel w.params G v (.str x)) (hk:VRel w.params G iv (.int k)) (h:uK x k = some c) (hK:K (.str [c])):
  GW (model prog w) A w.params E G s (getItem v iv) K:=by
 simp only [VRel] at hv hk
 obtain ⟨t,rfl,ok⟩:=hv
 obtain ⟨u,rfl⟩:=hk
 obtain ⟨h1,h2,h3,h4⟩:=lN h
 have hz:=ok.2
 unfold aO at hz
 refine P.getItem_str (c:=c) (by simp only [Bool.or_eq_false_iff,decide_eq_false_iff_not]; omega) ?_ ⟨_,G,hK,GS.toks hi _,?_⟩
 ·rw [dC,h1]; simpa using h2
 ·simp only [VRel]
  exact ⟨_,rfl,k9 (ok.1 c (List.mem_of_getElem? h2))⟩
theorem zcb {v iv:Value} {xs:List PV} {k:Int} {p:PV} (hi:InH G s.heap) (hv:LView w.params G s.heap v xs) (hk:VRel w.params G iv (.int k)) (h:uK xs k = some p) (hK:K p):
  GW (model prog w) A w.params E G s (getItem v iv) K:=by
 simp only [VRel] at hk
 obtain ⟨u,rfl⟩:=hk
 obtain ⟨a,vs,rfl,g1,g2,g3⟩:=hv.isList
 obtain ⟨h1,h2,h3,h4⟩:=lN h
 have hl:=g3.length
 simp only [Array.length_toList] at hl
 unfold aO at g2
 obtain ⟨v,e1,e2⟩:=g3.get h2
 have e1':vs[(if k < 0 then k + xs.length else k).toNat]? = some v:=by simpa using e1
 by_cases h0:k < 0
 ·rw [if_pos h0] at e1'
  exact wpAny_getItem_list_neg g1 h0 (by omega) (by omega) (by rw [hl]; exact e1') ⟨p,G,hK,GS.refl hi,e2⟩
 ·rw [if_neg h0] at e1'
  exact wpAny_getItem_list g1 (by omega) (by omega) e1' ⟨p,G,hK,GS.refl hi,e2⟩
theorem zek {v iv:Value} {xs:List PV} {k:Int} {p:PV} (hi:InH G s.heap) (hv:VRel w.params G v (.tup xs)) (hk:VRel w.params G iv (.int k)) (h:uK xs k = some p) (hK:K p):
  GW (model prog w) A w.params E G s (getItem v iv) K:=by
 simp only [VRel] at hk hv
 obtain ⟨u,rfl⟩:=hk
 obtain ⟨a,o,vs,n,rfl,g2,g3,g4,g5,g6⟩:=hv
 obtain ⟨h1,h2,h3,h4⟩:=lN h
 have hl:=g6.length
 simp only [Array.length_toList] at hl
 unfold aO at g5
 obtain ⟨v,e1,e2⟩:=g6.get h2
 exact getItem_tuple (items:=vs) ⟨o,hi.at_ _ _ g2,g3,n,g4⟩ (by omega) (by omega) (by rw [hl]; exact h1) (by simpa using e1) ⟨p,G,hK,GS.refl hi,e2⟩
end
theorem pZ (x y:Str) (i j:Int) (t u v z:Tok):Gives («str.rfind» ⟨[.str x t,.str y u,.int i v,.int j z],[]⟩) (.int (match lastOccurrence x y (fromIndex x.length i) (min (fromIndex x.length j) x.length) with | some k=>(k:Int) | none=>-1)):=by
 show Gives (match lastOccurrence x y (fromIndex x.length i) (min (fromIndex x.length j) x.length) with | some k=>retInt k | none=>(do rule "str.rfind.not-found"; retInt (-1))) _
 cases lastOccurrence x y (fromIndex x.length i) (min (fromIndex x.length j) x.length) with
 | none=>exact .rule (.of_eq rfl)
 | some k=>exact .of_eq rfl
theorem qA (x y:Str) (i j:Int) (t u v z:Tok):Gives («str.count» ⟨[.str x t,.str y u,.int i v,.int j z],[]⟩) (.int (occurrences x y (fromIndex x.length i) (min (fromIndex x.length j) x.length) (x.length + 1)).length):=by
 show Gives (retInt (occurrences x y (fromIndex x.length i) (min (fromIndex x.length j) x.length) (x.length + 1)).length) _
 exact .of_eq rfl
theorem zfs (x p:List Nat) (i:Nat):(decide (i + Str.length ⟨p.toArray⟩ <= Str.length ⟨x.toArray⟩) && subAt ⟨x.toArray⟩ ⟨p.toArray⟩ i) = (decide (i <= x.length) && p.isPrefixOf (x.drop i)):=by
 rw [StrLaws.subAt_eq,dC,dC]
 show (decide (i + p.length <= x.length) && ((x.drop i).take p.length == p)) = _
 by_cases c:p.isPrefixOf (x.drop i) = true
 ·have h1:=nQ c
  rw [List.length_drop] at h1
  have h2:=(gG _ _).mp c
  rw [c,h2,beq_self_eq_true,Bool.and_true,Bool.and_true]
  exact decide_eq_decide.mpr ⟨fun q=>Nat.le_trans (Nat.le_add_right _ _) q,fun q=>rO q h1⟩
 ·have h2:¬ (x.drop i).take p.length = p:=fun h=>c ((gG _ _).mpr h)
  have h3:((x.drop i).take p.length == p) = false:=beq_eq_false_iff_ne.mpr h2
  simp only [Bool.not_eq_true] at c
  rw [h3,c,Bool.and_false,Bool.and_false]
section
variable {prog:Program} {w:World} {A:Around} {E:Value->Shared->Prop} {s:Shared} {G:GM} {K:PV->Prop}
theorem zfr {M:Model} {x:Str} {t v:Tok} {a:Addr} {i:Int} {items:Array Value} {ys:List Str} {Q:Value->Shared->Prop} (ht:IsTup s.heap a items) (hs:StrsAre items.toList ys)
  (h:Q (.bool (ys.any fun p=>decide (fromIndex x.length i + p.length <= x.length) && subAt x p (fromIndex x.length i))) s):
  wpAny M A (Builtin.«str.startswith» ⟨[.str x t,.ref a,.int i v],[]⟩) (fun fin s'=>∃ v,fin = Fin.done (Flow.ret v) /\ Q v s') E s:=by
 obtain ⟨o,ho,hc,n,hd⟩:=ht
 unfold Builtin.«str.startswith» affixEntry
 dsimp only [Nat.reduceAdd]
 have e1:strSomeArgs "startswith" 1 3 ⟨[.str x t,.ref a,.int i v],[]⟩ = pure (.str x t,x,[.ref a,.int i v]):=rfl
 have e2:searchRange x.length [.int i v] = pure (fromIndex x.length i,min x.length x.length):=rfl
 rw [e1]
 refine wpAny_bind (wpAny_pure ?_)
 dsimp only [List.drop,List.headD]
 rw [e2]
 refine wpAny_bind (wpAny_pure ?_)
 dsimp only
 refine wpAny_bind (PySem.W.KPt.asStr_ref ho hd ?_)
 dsimp only
 refine wpAny_bind (wpAny_isInstance (T:= "tuple") ⟨o,ho,hc⟩ isSubtype_tuple_tuple ?_)
 simp only [if_true]
 refine wpAny_bind (wpAny_rule (wpAny_bind (wpAny_seqItems ho hd ?_)))
 dsimp only
 rw [Nat.min_self]
 refine wpAny_bind ?_
 refine wpAny_forIn_array' _ (fun rest (b:Option Fin × Unit) s'=>s' = s /\ b = (none,()) /\ ∃ pre post,ys = pre ++ post /\ StrsAre rest post /\ (pre.any fun p=>decide (fromIndex x.length i + p.length <= x.length) && subAt x p (fromIndex x.length i)) = false) _ ?_ ?_ items _ ⟨rfl,rfl,[],ys,rfl,hs,rfl⟩
 ·rintro y rest b s' ⟨rfl,rfl,pre,post,hy,hr,hp⟩
  cases hr with
  | cons z u hr=>
  rename_i post
  refine wpAny_bind (wpAny_pure ?_)
  dsimp only
  split
  ·rename_i hc'
   refine wpAny_bind (wpAny_pure (wpAny_pure ?_))
   refine wpAny_pure ⟨_,rfl,?_⟩
   have:(ys.any fun p=>decide (fromIndex x.length i + p.length <= x.length) && subAt x p (fromIndex x.length i)) = true:=by
    rw [hy,List.any_append,List.any_cons,hc']; simp
   rw [this] at h; exact h
  ·rename_i hc'
   refine wpAny_pure ⟨rfl,rfl,pre ++ [z],post,by rw [hy]; simp,hr,?_⟩
   rw [List.any_append,hp]
   simp only [Bool.not_eq_true] at hc'
   simp [hc']
 ·rintro b s' ⟨rfl,rfl,pre,post,hy,hr,hp⟩
  cases hr
  rw [List.append_nil] at hy; subst hy
  rw [hp] at h
  exact wpAny_pure ⟨_,rfl,h⟩
theorem SW {x:Str} {t v:Tok} {a:Addr} {i:Int} {items:Array Value} {ys:List Str} {Q:Value->Shared->Prop} (ht:IsTup s.heap a items) (hs:StrsAre items.toList ys)
  (h:Q (.bool (ys.any fun p=>decide (fromIndex x.length i + p.length <= x.length) && subAt x p (fromIndex x.length i))) s):
  wpAny (model prog w) A (call (.builtin "str.startswith") [.str x t,.ref a,.int i v]) Q E s:=
 wpAny_call_entry F.slot_str_startswith (typeIs_str _ _ _) F.entry_str_startswith (zfr ht hs h) (F.args_str_startswith_3 _ _ _)
theorem kH:∀ zs:List (List Nat),(Str.join ⟨#[]⟩ (zs.map fun z=>⟨z.toArray⟩)) = ⟨zs.flatten.toArray⟩
 | []=>rfl
 | [x]=>by simp [Str.join]
 | x :: y :: r=>by
  have ih:=kH (y :: r)
  simp only [List.map_cons] at ih ⊢
  simp only [Str.join,ih]
  apply Str.ext'
  simp [Str.cps_append]
theorem yB {vs:List Value} {ys:List Str} (h:StrsAre vs ys):∃ l:List (Str × Tok),vs = strValues l /\ l.map (·.1) = ys:=by
 induction h with
 | nil=>exact ⟨[],rfl,rfl⟩
 | cons y t _ ih=>
  obtain ⟨l,h1,h2⟩:=ih
  exact ⟨(y,t) :: l,by rw [h1]; rfl,by rw [<- h2]; rfl⟩
theorem zfM {v l:Value} {xs:List PV} {zs:List (List Nat)} (hi:InH G s.heap) (hv:VRel w.params G v (.str [])) (hl:LView w.params G s.heap l xs) (hz:fN xs = some zs) (hs:zs.flatten.length <= aO) (hK:K (.str zs.flatten)):
  GW (model prog w) A w.params E G s (call (.builtin "str.join") [v,l]) K:=by
 simp only [VRel] at hv
 obtain ⟨t,rfl,_⟩:=hv
 obtain ⟨a,vs,rfl,g1,g2,g3⟩:=hl.isList
 obtain ⟨q1,q2⟩:=kX g3 hz
 obtain ⟨ls,e1,e2⟩:=yB q1
 have hl':s.heap.IsList a (strValues ls).toArray:=by rw [<- e1]; simpa using g1
 refine SC.join hl' e2 ?_ fun t' k=>⟨_,G,hK,GS.toks hi _,?_⟩
 ·unfold JoinOk tooLong
  rw [StrLaws.joinTotal]
  simp only [Bool.not_eq_true',decide_eq_false_iff_not,gt_iff_lt,Nat.not_lt]
  have:((zs.map fun z=>(⟨z.toArray⟩:Str)).map (·.length)).sum = zs.flatten.length:=by
   rw [List.length_flatten,List.map_map]
   exact congrArg List.sum (List.map_congr_left fun z _=>by simp [Str.length])
  rw [this]
  have h0:(⟨([]:List Nat).toArray⟩:Str).length = 0:=rfl
  rw [h0,Nat.mul_zero,Nat.add_zero]
  exact hs
 ·simp only [VRel]
  refine ⟨t',?_,?_,hs⟩
  ·unfold Txt.join
   rw [StrLaws.glued_eq_join]
   exact congrArg (fun x=>Value.str x t') (kH zs)
  ·intro c hc
   obtain ⟨z,hz1,hz2⟩:=List.mem_flatten.mp hc
   exact (q2 z hz1).1 c hz2
noncomputable def eC (name:Str):String:=if name = "startswith" then "str.startswith" else if name = "find" then "str.find" else if name = "rfind" then "str.rfind" else if name = "count" then "str.count" else "str.join"
noncomputable def cY (name:Str) (o:PV):String:=if lK o = true then (if name = "append" then "list.append" else "list.pop") else eC name
end
section
variable {P:Params} {G:GM} {env:Env} {st:St} {s:Shared} {cw:Bool}
theorem Rep.setCell (R:Rep P G env st s) {a:Nat} {c c':Cell} (hσ:st.σ a = some c) {h':Heap} (hs:Heap.SameBut a s.heap h') (hr:CellRel P G h' a c') {k:Nat} (hk:1 <= k):
  Rep P G env ⟨st.ρ,aZ st.σ a c'⟩ { s with heap:=h',toks:=k } /\ Tr cw env G st s G ⟨st.ρ,aZ st.σ a c'⟩ { s with heap:=h',toks:=k }:=by
 obtain ⟨h1,h2,h3,h4⟩:=R.cells a c hσ
 have other:∀ b o,b ≠ a->s.heap.get? b = some o->h'.get? b = some o:=fun b o hb e=>(hs.2 b hb).trans e
 refine ⟨⟨?_,hk,?_,R.kind,?_,?_,R.gl,R.gc,R.cinj,?_⟩,⟨.refl _,fun _ _ e=>.inl e,?_,?_,?_,?_,rfl,fun e=>e⟩⟩
 ·exact R.inh.but other h2 (h1.nx R.inh.tab)
 ·obtain ⟨m,g1,g2⟩:=R.ns
  exact ⟨m,g1.at' fun o e=>other _ o (Ne.symm h3) e,g2⟩
 ·intro x p e kk
  obtain ⟨c,v,g1,g2,g3⟩:=R.cel x p e kk
  exact ⟨c,v,g1,dJ g2 fun o e=>other _ o (by rintro rfl; exact h4 x g1) e,g3⟩
 ·intro x e
  obtain ⟨c,v,g1,g2⟩:=R.cell0 x e
  exact ⟨c,v,g1,dJ g2 fun o e=>other _ o (by rintro rfl; exact h4 x g1) e⟩
 ·intro b d e
  simp only [aZ] at e
  split at e
  ·rename_i q; subst q; cases e; exact ⟨hr,h2,h3,h4⟩
  ·rename_i q
   obtain ⟨g1,g2⟩:=R.cells b d e
   exact ⟨g1.mono (.refl _) fun o e=>other b o q e,g2⟩
 ·intro b o _ e _ _ hb
  refine other b o ?_ e
  rintro rfl; rw [hσ] at hb; cases hb
 ·intro b e
  by_cases q:b = a
  ·subst q; obtain ⟨o,ho⟩:=hr.alive; show (h'.get? b).isSome = true; rw [ho]; rfl
  ·show (h'.get? b).isSome = true; rw [hs.2 b q]; exact e
 ·intro b e; show (aZ st.σ a c' b).isSome = true; unfold aZ; split; rfl; exact e
 ·intro b e
  left
  simp only [aZ] at e
  split at e
  ·rename_i q; subst q; rw [hσ]; rfl
  ·exact e
theorem CellsThere.same {h h':Heap} (hc:CellsThere env h) {a:Nat} (hs:Heap.SameBut a h h') (ha:(h'.get? a).isSome = true):CellsThere env h':=fun x c e=>by
 obtain ⟨o,ho⟩:=hc x c e
 by_cases q:c = a
 ·subst q; exact Option.isSome_iff_exists.mp ha
 ·exact ⟨o,(hs.2 c q).trans ho⟩
theorem Rep.newCell (R:Rep P G env st s) (hct:CellsThere env s.heap) {vs:List Value} {xs:List PV} (hr:VRels P G vs xs) (hz:vs.length <= aO) {k:Nat} (hk:1 <= k):
  st.σ s.heap.objs.size = none /\ Rep P G env ⟨st.ρ,aZ st.σ s.heap.objs.size (.lst xs)⟩ { s with heap:=s.heap.push { cls:=.type "list",data:=.seq vs.toArray },toks:=k } /\
   CellsThere env (s.heap.push { cls:=.type "list",data:=.seq vs.toArray }) /\
   Tr cw env G st s G ⟨st.ρ,aZ st.σ s.heap.objs.size (.lst xs)⟩ { s with heap:=s.heap.push { cls:=.type "list",data:=.seq vs.toArray },toks:=k }:=by
 have nw:∀ o,s.heap.get? s.heap.objs.size ≠ some o:=fun o e=>absurd (Heap.lt_size e) (Nat.lt_irrefl _)
 have nw':s.heap.get? s.heap.objs.size = none:=by
  cases e:s.heap.get? s.heap.objs.size with
  | none=>rfl
  | some o=>exact absurd e (nw o)
 have hσ:st.σ s.heap.objs.size = none:=by
  cases e:st.σ s.heap.objs.size with
  | none=>rfl
  | some c=>obtain ⟨h1,_⟩:=R.cells _ c e; obtain ⟨o,ho⟩:=h1.alive; exact absurd ho (nw o)
 have kp:∀ b o,s.heap.get? b = some o->(s.heap.push { cls:=.type "list",data:=.seq vs.toArray }).get? b = some o:=fun b o e=>Heap.get?_push_of_some _ e
 refine ⟨hσ,⟨R.inh.keeps kp,hk,?_,R.kind,?_,?_,R.gl,R.gc,R.cinj,?_⟩,?_,⟨.refl _,fun _ _ e=>.inl e,fun b o _ e _ _ _=>kp b o e,?_,?_,?_,rfl,fun e=>e⟩⟩
 ·obtain ⟨m,g1,g2⟩:=R.ns
  exact ⟨m,g1.at' fun o e=>kp _ o e,g2⟩
 ·intro x p e kk
  obtain ⟨c,v,g1,g2,g3⟩:=R.cel x p e kk
  exact ⟨c,v,g1,dJ g2 fun o e=>kp _ o e,g3⟩
 ·intro x e
  obtain ⟨c,v,g1,g2⟩:=R.cell0 x e
  exact ⟨c,v,g1,dJ g2 fun o e=>kp _ o e⟩
 ·intro b d e
  simp only [aZ] at e
  split at e
  ·rename_i q; subst q; cases e
   refine ⟨⟨vs.toArray,0,Heap.get?_push_size _ rfl,by simpa using hz,by simpa using hr⟩,?_,?_,?_⟩
   ·cases e:G s.heap.objs.size with
    | none=>rfl
    | some o=>exact absurd (R.inh.at_ _ _ e) (nw o)
   ·obtain ⟨m,⟨o,_,_,g1,_⟩,_⟩:=R.ns
    intro q; rw [<- q] at g1; exact nw o g1
   ·intro x e
    obtain ⟨o,ho⟩:=hct x _ e
    exact nw o ho
  ·obtain ⟨g1,g2⟩:=R.cells b d e
   exact ⟨g1.mono (.refl _) fun o e=>kp b o e,g2⟩
 ·intro x c e
  obtain ⟨o,ho⟩:=hct x c e
  exact ⟨o,kp c o ho⟩
 ·intro b e
  obtain ⟨o,ho⟩:=Option.isSome_iff_exists.mp e
  show ((s.heap.push _).get? b).isSome = true
  rw [kp b o ho]; rfl
 ·intro b e; show (aZ st.σ _ _ b).isSome = true; unfold aZ; split; rfl; exact e
 ·intro b e
  simp only [aZ] at e
  split at e
  ·rename_i q; subst q; exact .inr nw'
  ·exact .inl e
end
section
variable {prog:Program} {w:World} {A:Around} {E:Value->Shared->Prop} {s:Shared} {G:GM} {env:Env} {st:St} {cw:Bool} {Q:PV->St->Prop}
theorem zaz (R:Rep w.params G env st s):∀ {vs:List Value} {ps:List PV},VRels w.params G vs ps->l5 w.params G s.heap vs (ps.map (der st.σ))
 | vs,[],h=>by simp only [VRels] at h; subst h; simp [l5]
 | vs,p :: ps,h=>by
  simp only [VRels] at h
  obtain ⟨v,r,rfl,h1,h2⟩:=h
  simp only [List.map_cons,l5]
  exact ⟨v,r,rfl,R.view h1,zaz R h2⟩
theorem vS {P:Params} {v:Value} {x:List Nat} (h:VRel P G v (.str x)):∃ t,v = .str ⟨x.toArray⟩ t:=e1 (fun _ h=>h.1) (show ∃ t,v = .str ⟨x.toArray⟩ t /\ okStr x from h)
theorem vI {P:Params} {v:Value} {i:Int} (h:VRel P G v (.int i)):∃ t,v = .int i t:=h
theorem dec0 (i:Int) (n:Nat) (h:0 <= i):decide (i.toNat <= n) = decide (i <= n):=decide_eq_decide.mpr Int.toNat_le
theorem yA {K:Nat->Int->Int->Prop} {vs:List Value} {ps:List PV} (hs:VRels w.params G vs ps) (h:zdO ps K):∃ c i j t u z,vs = [.str ⟨#[c]⟩ t,.int i u,.int j z] /\ 0 <= i /\ 0 <= j /\ K c i j:=by
 refine x3 (fun p a b=>a2 fun e ha=>?_) (nG h)
 refine x1 (fun p'=>a2 fun e1 hb=>?_) (eN ha)
 refine x1 (fun c=>a2 fun e2 hc=>?_) (gJ hb)
 refine x1 (fun i=>a2 fun e3 hd=>?_) (dA hc)
 refine x1 (fun j=>a6 fun e4 h0 _ h1 _ hq=>?_) (dA hd)
 subst e3; subst e4; subst e2; subst e1; subst e
 refine x2 (fun u r=>a3 fun e k1=>x2 fun u' r'=>a3 fun e' k2=>x2 fun u'' r''=>a3 fun e'' k3 e3=>?_) hs
 refine x1 (fun t f=>?_) (vS k1)
 refine x1 (fun t' f'=>?_) (vI k2)
 refine x1 (fun t'' f''=>?_) (vI k3)
 exact ⟨c,i,j,t,t',t'',by rw [e,e',e'',e3,f,f',f''],h0,h1,hq⟩
theorem rS (R:Rep w.params G env st s) (hct:CellsThere env s.heap) {v:Value} {o:PV} {vs:List Value} {ps:List PV} (hv:VRel w.params G v o) (hs:VRels w.params G vs ps) (h:asP o fun a=>one ps fun v=>∃ xs,st.σ a = some (.lst xs) /\ xs.length < aO /\ Q .none ⟨st.ρ,aZ st.σ a (.lst (xs ++ [v]))⟩):
  wpAny (model prog w) A (call (.builtin (cY "append" o)) (v :: vs)) (za3 w.params cw env G st s Q) E s:=by
 obtain ⟨a,rfl,ha⟩:=qP h
 obtain ⟨p,rfl,xs,h1,h2,hq⟩:=gJ ha
 simp only [VRel] at hv; subst hv
 obtain ⟨u,r,rfl,hu,rfl⟩:=hs
 obtain ⟨⟨its,m,g1,g2,g3⟩,g4,g5,g6⟩:=R.cells a _ h1
 have hl:=g3.length
 rw [Array.length_toList] at hl
 rw [show cY "append" (.ptr a) = "list.append" from (if_pos rfl).trans (if_pos rfl)]
 refine wpAny_list_append_plain ⟨m,g1⟩ (fun h' hp hsb=>?_) g2
 obtain ⟨m',hp⟩:=hp
 have cr:CellRel w.params G h' a (.lst (xs ++ [p])):=⟨_,m',hp,by rw [Array.size_push,hl]; exact h2,by rw [Array.toList_push]; exact g3.append (VRels.one hu)⟩
 obtain ⟨R',T'⟩:=R.setCell (cw:=cw) h1 hsb cr R.tk
 exact ⟨.none,G,_,hq,R',hct.same hsb (by obtain ⟨o,ho⟩:=cr.alive; rw [ho]; rfl),T',by simp only [VRel]⟩
theorem lC (R:Rep w.params G env st s) (hct:CellsThere env s.heap) {v:Value} {o:PV} {vs:List Value} {ps:List PV} (hv:VRel w.params G v o) (hs:VRels w.params G vs ps) (h:asS o fun x=>two ps fun p i=>asI i fun i=>okI i (swP x p i fun b=>Q (.bool b) ⟨st.ρ,st.σ⟩)):
  wpAny (model prog w) A (call (.builtin (cY "startswith" o)) (v :: vs)) (za3 w.params cw env G st s Q) E s:=by
 obtain ⟨x,rfl,ha⟩:=eN h
 obtain ⟨p,j,rfl,hb⟩:=tS ha
 obtain ⟨i,rfl,h0,h1,hq⟩:=dA hb
 rw [show cY "startswith" (.str x) = "str.startswith" from (by decide +kernel:eC "startswith" = "str.startswith")]
 obtain ⟨t,rfl⟩:=vS hv
 obtain ⟨u,r,rfl,hu,u',r',rfl,hi,rfl⟩:=hs
 obtain ⟨t',rfl⟩:=vI hi
 cases p <;> first | exact False.elim hq | skip
 ·rename_i p
  obtain ⟨t'',rfl⟩:=vS hu
  refine jM R hct (d5 R.inh hq fun Q q=>SC.startswith3 ?_)
  unfold Txt.startswith3
  rw [dR _ _ h0,zfs,dec0 _ _ h0]; exact q
 ·obtain ⟨zs,hz,hq⟩:=hq
  simp only [VRel] at hu
  obtain ⟨a,ob,its,m,rfl,g2,g3,g4,g5,g6⟩:=hu
  obtain ⟨q1,_⟩:=kX g6 hz
  refine jM R hct (d5 R.inh hq fun Q q=>SW (items:=its) ⟨ob,R.inh.at_ _ _ g2,g3,m,g4⟩ q1 ?_)
  rw [dR _ _ h0,List.any_map]
  have e:((fun p=>decide (i.toNat + Str.length p <= Str.length ⟨x.toArray⟩) && subAt ⟨x.toArray⟩ p i.toNat) ∘ fun z:List Nat=>(⟨z.toArray⟩:Str)) = fun p=>decide (i <= x.length) && p.isPrefixOf (x.drop i.toNat):=by
   funext p
   show (decide (i.toNat + Str.length ⟨p.toArray⟩ <= Str.length ⟨x.toArray⟩) && subAt ⟨x.toArray⟩ ⟨p.toArray⟩ i.toNat) = _
   rw [zfs,dec0 _ _ h0]
  rw [e,<- List.and_any_distrib_left]; exact q
theorem zF (R:Rep w.params G env st s) (hct:CellsThere env s.heap) {v:Value} {o:PV} {vs:List Value} {ps:List PV} (hv:VRel w.params G v o) (hs:VRels w.params G vs ps) (h:asS o fun x=>two ps fun p i=>asS p fun p=>asI i fun i=>okI i (Q (.int (sK x p i.toNat)) ⟨st.ρ,st.σ⟩)):
  wpAny (model prog w) A (call (.builtin (cY "find" o)) (v :: vs)) (za3 w.params cw env G st s Q) E s:=by
 obtain ⟨x,rfl,ha⟩:=eN h
 obtain ⟨p,j,rfl,hb⟩:=tS ha
 obtain ⟨p,rfl,hc⟩:=eN hb
 obtain ⟨i,rfl,h0,h1,hq⟩:=dA hc
 rw [show cY "find" (.str x) = "str.find" from (by decide +kernel:eC "find" = "str.find")]
 obtain ⟨t,rfl⟩:=vS hv
 obtain ⟨u,r,rfl,hu,u',r',rfl,hi,rfl⟩:=hs
 obtain ⟨t',rfl⟩:=vI hi
 obtain ⟨t'',rfl⟩:=vS hu
 exact jM R hct (mY R.inh hq fun Q q=>SC.find3 (by rw [zcj _ _ _ h0]; exact q))
theorem v7 (R:Rep w.params G env st s) (hct:CellsThere env s.heap) {v:Value} {o:PV} {vs:List Value} {ps:List PV} (hv:VRel w.params G v o) (hs:VRels w.params G vs ps) (h:asS o fun x=>zdO ps fun c i j=>Q (.int (fA c x i.toNat j.toNat)) ⟨st.ρ,st.σ⟩):
  wpAny (model prog w) A (call (.builtin (cY "rfind" o)) (v :: vs)) (za3 w.params cw env G st s Q) E s:=by
 obtain ⟨x,rfl,ha⟩:=eN h
 obtain ⟨c,i,j,_,_,_,rfl,h0,h1,hq⟩:=yA hs ha
 rw [show cY "rfind" (.str x) = "str.rfind" from (by decide +kernel:eC "rfind" = "str.rfind")]
 obtain ⟨t,rfl⟩:=vS hv
 refine jM R hct (mY R.inh hq fun Q q=>call_gives F.slot_str_rfind (typeIs_str _ _ _) F.entry_str_rfind (F.args_str_rfind_4 _ _ _ _) (pZ _ _ _ _ _ _ _ _) ?_)
 rw [dR _ _ h0,dR _ _ h1,dC]
 rw [<- zbM x c i.toNat j.toNat] at q
 exact q
theorem v8 (R:Rep w.params G env st s) (hct:CellsThere env s.heap) {v:Value} {o:PV} {vs:List Value} {ps:List PV} (hv:VRel w.params G v o) (hs:VRels w.params G vs ps) (h:asS o fun x=>zdO ps fun c i j=>Q (.int ((((x.take j.toNat).drop i.toNat).count c:Nat):Int)) ⟨st.ρ,st.σ⟩):
  wpAny (model prog w) A (call (.builtin (cY "count" o)) (v :: vs)) (za3 w.params cw env G st s Q) E s:=by
 obtain ⟨x,rfl,ha⟩:=eN h
 obtain ⟨c,i,j,_,_,_,rfl,h0,h1,hq⟩:=yA hs ha
 rw [show cY "count" (.str x) = "str.count" from (by decide +kernel:eC "count" = "str.count")]
 obtain ⟨t,rfl⟩:=vS hv
 refine jM R hct (mY R.inh hq fun Q q=>call_gives F.slot_str_count (typeIs_str _ _ _) F.entry_str_count (F.args_str_count_4 _ _ _ _) (qA _ _ _ _ _ _ _ _) ?_)
 rw [dR _ _ h0,dR _ _ h1,dC]
 rw [zcr x c i.toNat j.toNat]
 exact q
theorem zE (R:Rep w.params G env st s) (hct:CellsThere env s.heap) {v:Value} {o:PV} {vs:List Value} {ps:List PV} (hv:VRel w.params G v o) (hs:VRels w.params G vs ps) (h:asS o fun x=>x = [] /\ one ps fun l=>asL (der st.σ l) fun xs=>∃ zs,fN xs = some zs /\ zs.flatten.length <= aO /\ Q (.str zs.flatten) ⟨st.ρ,st.σ⟩):
  wpAny (model prog w) A (call (.builtin (cY "join" o)) (v :: vs)) (za3 w.params cw env G st s Q) E s:=by
 obtain ⟨x,rfl,rfl,ha⟩:=eN h
 obtain ⟨l,rfl,hb⟩:=gJ ha
 obtain ⟨xs,e,zs,hz,hl,hq⟩:=u7 hb
 rw [show cY "join" (.str []) = "str.join" from (by decide +kernel:eC "join" = "str.join")]
 obtain ⟨u,r,rfl,hl',rfl⟩:=hs
 have hl':=R.view hl'
 rw [e] at hl'
 exact jM R hct (zfM R.inh hv hl' hz hl hq)
theorem zbV (R:Rep w.params G env st s) (hct:CellsThere env s.heap) {v:Value} {o:PV} {vs:List Value} {ps:List PV} (hv:VRel w.params G v o) (hs:VRels w.params G vs ps) (h:asP o fun a=>ps = [] /\ ∃ xs v,st.σ a = some (.lst (xs ++ [v])) /\ Q v ⟨st.ρ,aZ st.σ a (.lst xs)⟩):
  wpAny (model prog w) A (call (.builtin (cY "pop" o)) (v :: vs)) (za3 w.params cw env G st s Q) E s:=by
 obtain ⟨a,rfl,rfl,xs,p,h1,hq⟩:=qP h
 simp only [VRel] at hv; subst hv
 have hs:vs = []:=hs
 subst hs
 rw [show cY "pop" (.ptr a) = "list.pop" from (by decide +kernel:(if Str.ofString "pop" = Str.ofString "append" then "list.append" else "list.pop") = "list.pop")]
 obtain ⟨⟨its,m,g1,g2,g3⟩,g4,g5,g6⟩:=R.cells a _ h1
 have hl:=g3.length
 simp only [Array.length_toList,List.length_append,List.length_cons,List.length_nil] at hl
 obtain ⟨y,hy,ry⟩:=g3.get (i:=xs.length) (p:=p) (by simp)
 have hy':its[its.size - 1]? = some y:=by
  rw [show its.size - 1 = xs.length by omega]; simpa using hy
 refine call_meets F.slot_list_pop ⟨_,g1,rfl⟩ F.entry_list_pop (F.args_list_pop_1 _) (MeetsSeq.list_pop_last a its m y hy' g2) ⟨g1,?_⟩
 have hsz:its.eraseIdxIfInBounds (its.size - 1) = its.pop:=by
  unfold Array.eraseIdxIfInBounds
  rw [dif_pos (by omega)]
  apply Array.toList_inj.mp
  rw [Array.toList_eraseIdx,Array.toList_pop,List.dropLast_eq_take]
  simp only [Array.length_toList]
  rw [List.eraseIdx_eq_take_drop_succ]
  rw [List.drop_eq_nil_of_le (by simp; omega),List.append_nil]
 have hsb:Heap.SameBut a s.heap (s.heap.update a (Obj.mapSeq fun xs=>xs.eraseIdxIfInBounds (its.size - 1))):=Heap.SameBut.update ..
 have cr:CellRel w.params G (s.heap.update a (Obj.mapSeq fun xs=>xs.eraseIdxIfInBounds (its.size - 1))) a (.lst xs):=by
  refine ⟨its.pop,(if its.pop.size == its.size then m else m + 1),?_,?_,?_⟩
  ·rw [Heap.get?_update_self _ g1 (by simp only [Obj.mapSeq]; rfl)]
   simp only [Obj.mapSeq,hsz]
  ·simp only [Array.size_pop]; unfold aO at *; omega
  ·have:=g3.take xs.length
   rw [List.take_left'] at this
   ·rw [Array.toList_pop,List.dropLast_eq_take]
    simp only [Array.length_toList]
    rw [show its.size - 1 = xs.length by omega]; exact this
   ·rfl
 obtain ⟨R',T'⟩:=R.setCell (cw:=cw) h1 hsb cr R.tk
 exact ⟨p,G,_,hq,R',hct.same hsb (by obtain ⟨o,ho⟩:=cr.alive; rw [ho]; rfl),T',ry⟩
theorem zea {n:Nat} (hA:Room n A) (R:Rep w.params G env st s) (hct:CellsThere env s.heap) {name:Str} {v:Value} {o:PV} {vs:List Value} {ps:List PV}
  (hv:VRel w.params G v o) (hs:VRels w.params G vs ps) (h:hW st.σ name o ps fun r σ'=>Q r ⟨st.ρ,σ'⟩):
  wpAny (model prog w) A (call (.builtin (cY name o)) (v :: vs)) (za3 w.params cw env G st s Q) E s:=
 gA h (fun q h=>q ▸ rS R hct hv hs h) fun h=>gA h (fun q h=>q ▸ lC R hct hv hs h) fun h=>gA h (fun q h=>q ▸ zF R hct hv hs h) fun h=>gA h (fun q h=>q ▸ v7 R hct hv hs h) fun h=>
 gA h (fun q h=>q ▸ v8 R hct hv hs h) fun h=>gA h (fun q h=>q ▸ zE R hct hv hs h) fun h=>gA h (fun q h=>q ▸ zbV R hct hv hs h) False.elim
end
noncomputable def bD (F:Fn):Prop:=∀ ps (K K':PV->Prop),(∀ p,K p->K' p)->F ps K->F ps K'
structure CtxMono (C:Ctx):Prop where
 fn:∀ x F,C.fn x = some F->bD F
 cls:∀ x F,C.cls x = some F->bD F
theorem dF {d n:Prop} {b:Bool->Prop} {i:Int->Prop} {s:List Nat->Prop} {t l:List PV->Prop} {p:Nat->Prop} {d' n':Prop} {b':Bool->Prop} {i':Int->Prop} {s':List Nat->Prop} {t' l':List PV->Prop} {p':Nat->Prop}
  (hd:d->d') (hn:n->n') (hb:∀ x,b x->b' x) (hi:∀ x,i x->i' x) (hs:∀ x,s x->s' x) (ht:∀ x,t x->t' x) (hl:∀ x,l x->l' x) (hp:∀ x,p x->p' x) {v:PV} (x:pvc d n b i s t l p v):pvc d' n' b' i' s' t' l' p' v:=by
 cases v
 ·exact hn x
 ·exact hb _ x
 ·exact hi _ x
 ·exact hs _ x
 ·exact ht _ x
 ·exact hl _ x
 ·exact hd x
 ·exact hd x
 ·exact hp _ x
 ·exact hd x
theorem qR {a b:PV} {K K':PV->Prop} (h:∀ p,K p->K' p):zgk a b K->zgk a b K':=
 dF id id (fun _=>id) (fun _=>bF fun _=>h _) (fun _=>cS fun _ x=>⟨x.1,h _ x.2⟩) (fun _=>id) (fun _=>id) fun _=>id
theorem o5 {a b:PV} {K K':PV->Prop} (h:∀ p,K p->K' p):zgr a b K->zgr a b K':=bF fun _=>bF fun _=>h _
theorem bJ {c:Prop} [Decidable c] {A B A' B':Prop} (h:A->A') (k:B->B') (x:if c then A else B):if c then A' else B':=by
 by_cases q:c
 ·rw [if_pos q] at x ⊢; exact h x
 ·rw [if_neg q] at x ⊢; exact k x
theorem zaO {op:Operator} {a b:PV} {K K':PV->Prop} (h:∀ p,K p->K' p) (x:ze6 op a b K):ze6 op a b K':=by
 cases op <;> first | exact False.elim x | skip
 ·exact bJ (oK fun _=>oK fun _ y=>⟨y.1,h _ y.2⟩) (qR h) x
 ·exact o5 h x
 ·exact bF (fun _=>bF fun _ y=>⟨y.1,h _ y.2⟩) x
 ·exact bF (fun _=>bF fun _ y=>⟨y.1,h _ y.2⟩) x
 ·exact bF (fun _=>bF fun _ y=>⟨y.1,y.2.1,h _ y.2.2⟩) x
theorem zca {op:Operator} {a b:PV} {K K':PV->Prop} (h:∀ p,K p->K' p) (x:inP op a b K):inP op a b K':=by
 cases op <;> first | exact False.elim x | skip
 ·exact qR h x
 ·exact o5 h x
theorem uR {σ:Nat->Option Cell} {a b:PV} {K K':Bool->Prop} (h:∀ p,K p->K' p) (x:eqW σ a b K):eqW σ a b K':=by
 have g:eqT σ a b K->eqT σ a b K':=e1 fun _=>c4 (h _)
 exact dF g g (fun _=>dF id id (fun _=>h _) (fun _=>id) (fun _=>id) (fun _=>id) (fun _=>id) fun _=>id) (fun _=>bF fun _=>h _)
  (fun _=>dF id (h _) (fun _=>id) (fun _=>id) (fun _=>h _) (fun _=>id) (fun _=>id) fun _=>id) (fun _=>g) (fun _=>g) (fun _=>g) x
theorem uF {a b:PV} {K K':Bool->Prop} (h:∀ p,K p->K' p):isW a b K->isW a b K':=
 dF id (dF id (h _) (fun _=>id) (fun _=>h _) (fun _=>h _) (fun _=>h _) (fun _=>id) fun _=>id) (fun _=>dF id id (fun _=>h _) (fun _=>id) (fun _=>id) (fun _=>id) (fun _=>id) fun _=>id)
  (fun _=>id) (fun _=>id) (fun _=>id) (fun _=>id) fun _=>id
theorem uG {a b:PV} {K K':Bool->Prop} (h:∀ p,K p->K' p):inW a b K->inW a b K':=
 cS fun _=>dF id id (fun _=>id) (fun _=>id) (fun _=>h _) (fun _ ⟨z,h1,h2⟩=>⟨z,h1,h _ h2⟩) (fun _ ⟨z,h1,h2⟩=>⟨z,h1,h _ h2⟩) fun _=>id
theorem lY {σ:Nat->Option Cell} {op:CmpOp} {a b:PV} {K K':Bool->Prop} (h:∀ p,K p->K' p) (x:za1 σ op a b K):za1 σ op a b K':=by
 cases op
 ·exact uR h x
 ·exact uR (fun _=>h _) x
 ·exact bF (fun _=>bF fun _=>h _) x
 ·exact dF id id (fun _=>id) (fun _=>bF fun _=>h _) (fun _=>cS fun _=>h _) (fun _=>id) (fun _=>id) (fun _=>id) x
 ·exact bF (fun _=>bF fun _=>h _) x
 ·exact bF (fun _=>bF fun _=>h _) x
 ·exact uF h x
 ·exact uF (fun _=>h _) x
 ·exact uG h x
 ·exact uG (fun _=>h _) x
theorem zU {v:PV} {K K':PV->Prop} (h:∀ p,K p->K' p):zgs v K->zgs v K':=dF id id (fun _=>id) (fun _=>id) (fun _=>h _) (fun _=>id) (fun _=>h _) fun _=>id
theorem z8 {x:List Nat} {K K':PV->Prop} (h:∀ p,K p->K' p) (y:zb9 x K):zb9 x K':=by
 cases x with
 | nil=>exact y
 | cons c x=>exact c1 (Or.imp (c2 (e1 fun _=>c1 (h _))) (Or.imp (c2 (e1 fun _=>c1 (h _))) (e1 fun _=>c1 (h _)))) y
theorem u5 {name:Str} {ps:List PV} {K K':PV->Prop} (h:∀ p,K p->K' p):biP name ps K->biP name ps K':=
 bJ (eR fun _=>zU h) (bJ (eR fun _=>cS fun _=>eR fun _=>h _) (bJ (eR fun _=>bF fun _=>c2 (h _)) (bJ (fun x=>by
  cases ps with
  | nil=>exact x
  | cons a r=>exact cS (fun _ x=>by
    cases r with
    | nil=>exact z8 h x
    | cons b r=>exact eR (fun _=>bF fun _=>c3 (e1 fun _=>c1 (h _))) x) x) (bJ (eR fun _=>bF fun _=>c4 (h _)) id))))
theorem mW {σ:Nat->Option Cell} {name:Str} {o:PV} {ps:List PV} {K K':PV->(Nat->Option Cell)->Prop} (h:∀ p s,K p s->K' p s):hW σ name o ps K->hW σ name o ps K':=by
 have s3:∀ {K K':Nat->Int->Int->Prop},(∀ c i j,K c i j->K' c i j)->zdO ps K->zdO ps K':=fun k=>mL fun _ _ _=>cS fun _=>eR fun _=>bF fun _=>bF fun _ ⟨a,b,c,d,e⟩=>⟨a,b,c,d,k _ _ _ e⟩
 exact bJ (kM fun _=>eR fun _ ⟨xs,h1,h2,h3⟩=>⟨xs,h1,h2,h _ _ h3⟩)
  (bJ (cS fun _=>tR fun _ _=>bF fun _ ⟨a,b,c⟩=>⟨a,b,dF id id (fun _=>id) (fun _=>id) (fun _=>h _ _) (fun _ ⟨z,h1,h2⟩=>⟨z,h1,h _ _ h2⟩) (fun _=>id) (fun _=>id) c⟩)
  (bJ (cS fun _=>tR fun _ _=>cS fun _=>bF fun _ ⟨a,b,c⟩=>⟨a,b,h _ _ c⟩)
  (bJ (cS fun _=>s3 fun _ _ _=>h _ _) (bJ (cS fun _=>s3 fun _ _ _=>h _ _) (bJ (cS fun _ ⟨e,x⟩=>⟨e,eR (fun _=>oK fun _ ⟨z,h1,h2,h3⟩=>⟨z,h1,h2,h _ _ h3⟩) x⟩) (bJ (kM fun _ ⟨e,xs,v,h1,h2⟩=>⟨e,xs,v,h1,h _ _ h2⟩) id))))))
theorem nR {C:Ctx} {pos:Pos} {vs:List PV} {Q Q':PV->St->Prop} {st:St} (h:∀ p s,Q p s->Q' p s):d4 C pos vs Q st->d4 C pos vs Q' st:=
 bJ (fun x a e=>h _ _ (x a e)) (h _ _)
theorem gT {K K':Bool->St->Prop} (h:∀ b s,K b s->K' b s) (v:PV) (st:St):tst K v st->tst K' v st:=bT fun _=>h _ _
theorem zbc {op:UnaryOp} {v:PV} {K K':PV->Prop} (h:∀ p,K p->K' p) (x:unP op v K):unP op v K':=by
 cases op
 ·exact x
 ·exact bT (fun _=>h _) x
 ·exact x
 ·exact bF (fun _=>h _) x
theorem vZ {name p q:Str} {v:PV} {K K':PV->Prop} (h:∀ p,K p->K' p):yZ name p q v K->yZ name p q v K':=
 cS fun _ x=>⟨x.1,x.2.1,x.2.2.1,x.2.2.2.1,x.2.2.2.2.1,h _ x.2.2.2.2.2⟩
theorem w7 {C:Ctx} {n:Str} {v:PV} {K K':PV->Prop} (h:∀ p,K p->K' p) (x:zaQ C n v K):zaQ C n v K':=by
 cases v <;> first | exact False.elim x | skip
 exact gI (bT h) (fun _=>bT h) x
theorem yU {v:PV} {lo hi:Option Int} {K K':PV->Prop} (h:∀ p,K p->K' p):zc2 v lo hi K->zc2 v lo hi K':=
 dF id id (fun _=>id) (fun _=>id) (fun _=>h _) (fun _=>id) (fun _=>h _) fun _=>id
theorem pW {v i:PV} {K K':PV->Prop} (h:∀ p,K p->K' p):zem v i K->zem v i K':=
 bF fun _=>dF id id (fun _=>id) (fun _=>id) (fun _=>bT fun _=>h _) (fun _=>bT h) (fun _=>bT h) fun _=>id
theorem w6 {C:Ctx} (M:CtxMono C) {f:Str} {vs:List PV} {st:St} {K K':PV->Prop} (h:∀ p,K p->K' p) (x:f7 C f vs st K):f7 C f vs st K':=by
 unfold f7 at x ⊢
 cases e:C.fn f with
 | some F=>rw [e] at x; exact M.fn _ _ e _ _ _ (fun p q=>⟨q.1,h _ q.2⟩) x
 | none=>
  rw [e] at x
  cases e:C.cls f with
  | some F=>rw [e] at x; exact M.cls _ _ e _ _ _ h x
  | none=>rw [e] at x; exact ⟨x.1,u5 h x.2⟩
mutual
theorem bB {C:Ctx} (M:CtxMono C):∀ (e:Expr) {κ:Kn} {Q Q':PV->St->Prop} {st:St},(∀ p s,Q p s->Q' p s)->wE C e κ Q st->wE C e κ Q' st
 | .Constant _ _ _,_,_,_,_,h,x=>bT (fun _=>h _ _) x
 | .Name _ _,_,_,_,_,h,x=>bJ (bT fun _=>h _ _) (bT fun _=>h _ _) x
 | .BoolOp _ vs _,_,_,_,_,h,x=>tP M vs h x
 | .BinOp l _ r _,_,_,_,_,h,x=>bB M l (fun _ _=>bB M r fun _ _=>zaO fun _=>h _ _) x
 | .UnaryOp _ y _,_,_,_,_,h,x=>bB M y (fun _ _=>zbc fun _=>h _ _) x
 | .IfExp t b o _,_,_,_,_,h,x=>bB M t (gT fun _ _=>bJ (bB M b h) (bB M o h)) x
 | .Compare l _ cs _,_,_,_,_,h,x=>bB M l (fun _ _=>tO M cs h) x
 | .Call f args _ _,κ,Q,Q',st,h,x=>⟨x.1,gI (bT fun _ ⟨a,b,c⟩=>⟨a,b,cM M args (fun _ _=>w6 M fun _=>h _ _) c⟩)
   (fun _=>gI (xN M f fun _ _ ⟨a,b⟩=>⟨a,cM M args (fun _ _=>mW fun _ _=>h _ _) b⟩) fun _=>xN M f fun _ _=>vZ fun _=>h _ _) x.2⟩
 | .Attribute o _ _,_,_,_,_,h,x=>bB M o (fun _ _=>w7 fun _=>h _ _) x
 | .Subscript o i _,_,_,_,_,h,x=>bB M o (fun _ _=>bJ (za5 M i fun _ _ _=>yU fun _=>h _ _) (bB M i fun _ _=>pW fun _=>h _ _)) x
 | .List es _,_,_,_,_,h,x=>cM M es (fun _ _=>nR h) x
 | .Tuple es _ _,_,_,_,_,h,x=>cM M es (fun _ _=>h _ _) x
 | .Dict _ _ _,_,_,_,_,_,x=>x
 | .ListComp _ _ _ _,_,_,_,_,_,x=>x
 | .NamedExpr _ _ _,_,_,_,_,_,x=>x
 | .Lambda _ _ _ _,_,_,_,_,_,x=>x
 | .Set _ _ _,_,_,_,_,_,x=>x
 | .SetComp _ _ _ _,_,_,_,_,_,x=>x
 | .DictComp _ _ _ _ _,_,_,_,_,_,x=>x
 | .GeneratorExp _ _ _ _,_,_,_,_,_,x=>x
 | .Await _ _,_,_,_,_,_,x=>x
 | .Yield _ _,_,_,_,_,_,x=>x
 | .YieldFrom _ _,_,_,_,_,_,x=>x
 | .FormattedValue e _ _ _,_,_,_,_,h,x=>⟨x.1,x.2.1,bB M e (fun _ _=>cS fun _=>h _ _) x.2.2⟩
 | .JoinedStr vs _,_,_,_,_,h,x=>⟨x.1,xL M vs h x.2⟩
 | .Starred _ _,_,_,_,_,_,x=>x
 | .Slice _ _ _ _,_,_,_,_,_,x=>x
theorem xL {C:Ctx} (M:CtxMono C):∀ (es:List Expr) {κ:Kn} {acc:List Nat} {Q Q':PV->St->Prop} {st:St},(∀ p s,Q p s->Q' p s)->wJ C es κ acc Q st->wJ C es κ acc Q' st
 | [],_,_,_,_,_,h,x=>h _ _ x
 | e :: es,_,_,_,_,_,h,x=>bB M e (fun _ _=>cS fun _ y=>⟨y.1,xL M es h y.2⟩) x
theorem cM {C:Ctx} (M:CtxMono C):∀ (es:List Expr) {κ:Kn} {Q Q':List PV->St->Prop} {st:St},(∀ p s,Q p s->Q' p s)->wEs C es κ Q st->wEs C es κ Q' st
 | [],_,_,_,_,h,x=>h _ _ x
 | e :: es,_,_,_,_,h,x=>bB M e (fun _ _=>cM M es fun _ _=>h _ _) x
theorem tN {C:Ctx} (M:CtxMono C):∀ (e:Option Expr) {κ:Kn} {Q Q':Option Int->St->Prop} {st:St},(∀ p s,Q p s->Q' p s)->wOp C e κ Q st->wOp C e κ Q' st
 | none,_,_,_,_,h,x=>h _ _ x
 | some e,_,_,_,_,h,x=>bB M e (fun _ _=>bF fun _ y=>⟨y.1,y.2.1,h _ _ y.2.2⟩) x
theorem xN {C:Ctx} (M:CtxMono C):∀ (e:Expr) {κ:Kn} {Q Q':PV->St->Prop} {st:St},(∀ p s,Q p s->Q' p s)->wA C e κ Q st->wA C e κ Q' st
 | .Attribute o _ _,_,_,_,_,h,x=>bB M o h x
 | .BoolOp _ _ _,_,_,_,_,_,x=>x
 | .NamedExpr _ _ _,_,_,_,_,_,x=>x
 | .BinOp _ _ _ _,_,_,_,_,_,x=>x
 | .UnaryOp _ _ _,_,_,_,_,_,x=>x
 | .Lambda _ _ _ _,_,_,_,_,_,x=>x
 | .IfExp _ _ _ _,_,_,_,_,_,x=>x
 | .Dict _ _ _,_,_,_,_,_,x=>x
 | .Set _ _ _,_,_,_,_,_,x=>x
 | .ListComp _ _ _ _,_,_,_,_,_,x=>x
 | .SetComp _ _ _ _,_,_,_,_,_,x=>x
 | .DictComp _ _ _ _ _,_,_,_,_,_,x=>x
 | .GeneratorExp _ _ _ _,_,_,_,_,_,x=>x
 | .Await _ _,_,_,_,_,_,x=>x
 | .Yield _ _,_,_,_,_,_,x=>x
 | .YieldFrom _ _,_,_,_,_,_,x=>x
 | .Compare _ _ _ _,_,_,_,_,_,x=>x
 | .Call _ _ _ _,_,_,_,_,_,x=>x
 | .FormattedValue _ _ _ _,_,_,_,_,_,x=>x
 | .JoinedStr _ _,_,_,_,_,_,x=>x
 | .Constant _ _ _,_,_,_,_,_,x=>x
 | .Subscript _ _ _,_,_,_,_,_,x=>x
 | .Starred _ _,_,_,_,_,_,x=>x
 | .Name _ _,_,_,_,_,_,x=>x
 | .List _ _,_,_,_,_,_,x=>x
 | .Tuple _ _ _,_,_,_,_,_,x=>x
 | .Slice _ _ _ _,_,_,_,_,_,x=>x
theorem za5 {C:Ctx} (M:CtxMono C):∀ (e:Expr) {κ:Kn} {Q Q':Option Int->Option Int->St->Prop} {st:St},(∀ p q s,Q p q s->Q' p q s)->wSl C e κ Q st->wSl C e κ Q' st
 | .Slice l u _ _,_,_,_,_,h,x=>⟨x.1,tN M l (fun _ _=>tN M u fun _ _=>h _ _ _) x.2⟩
 | .BoolOp _ _ _,_,_,_,_,_,x=>x
 | .NamedExpr _ _ _,_,_,_,_,_,x=>x
 | .BinOp _ _ _ _,_,_,_,_,_,x=>x
 | .UnaryOp _ _ _,_,_,_,_,_,x=>x
 | .Lambda _ _ _ _,_,_,_,_,_,x=>x
 | .IfExp _ _ _ _,_,_,_,_,_,x=>x
 | .Dict _ _ _,_,_,_,_,_,x=>x
 | .Set _ _ _,_,_,_,_,_,x=>x
 | .ListComp _ _ _ _,_,_,_,_,_,x=>x
 | .SetComp _ _ _ _,_,_,_,_,_,x=>x
 | .DictComp _ _ _ _ _,_,_,_,_,_,x=>x
 | .GeneratorExp _ _ _ _,_,_,_,_,_,x=>x
 | .Await _ _,_,_,_,_,_,x=>x
 | .Yield _ _,_,_,_,_,_,x=>x
 | .YieldFrom _ _,_,_,_,_,_,x=>x
 | .Compare _ _ _ _,_,_,_,_,_,x=>x
 | .Call _ _ _ _,_,_,_,_,_,x=>x
 | .FormattedValue _ _ _ _,_,_,_,_,_,x=>x
 | .JoinedStr _ _,_,_,_,_,_,x=>x
 | .Constant _ _ _,_,_,_,_,_,x=>x
 | .Attribute _ _ _,_,_,_,_,_,x=>x
 | .Subscript _ _ _,_,_,_,_,_,x=>x
 | .Starred _ _,_,_,_,_,_,x=>x
 | .Name _ _,_,_,_,_,_,x=>x
 | .List _ _,_,_,_,_,_,x=>x
 | .Tuple _ _ _,_,_,_,_,_,x=>x
theorem tP {C:Ctx} (M:CtxMono C) {op:BoolOp}:∀ (es:List Expr) {κ:Kn} {Q Q':PV->St->Prop} {st:St},(∀ p s,Q p s->Q' p s)->wBo C op es κ Q st->wBo C op es κ Q' st
 | [],_,_,_,_,_,x=>x
 | e :: es,_,_,_,_,h,x=>bJ (bB M e h) (bB M e fun _ _=>bT fun _=>bJ (h _ _) (tP M es h)) x
theorem tO {C:Ctx} (M:CtxMono C):∀ (es:List Expr) {ops:List CmpOp} {κ:Kn} {a:PV} {Q Q':PV->St->Prop} {st:St},(∀ p s,Q p s->Q' p s)->wCh C es ops κ a Q st->wCh C es ops κ a Q' st
 | [],_,_,_,_,_,_,_,x=>x
 | r :: rs,_,_,_,_,_,_,h,x=>bT (fun _=>bB M r fun _ _=>lY fun _=>bJ (fun y=>⟨y.1,h _ _ y.2⟩) (bJ (tO M rs h) (h _ _))) x
end
end Mine
end
section
open PySem PySem.W PyProof.Rows
open Builtin Builtin.Str
set_option Elab.async false
set_option autoImplicit false
set_option linter.unusedVariables false
namespace Mine
theorem fU {K:Bool->St->Prop} {v:PV} {st:St} {b:Bool} (e:rA (der st.σ v) = some b):tst K v st = K b st:=by unfold tst; rw [e]; rfl
structure Bs where
 K:Frag
 h₀:Heap
 mg:Str->Option Value
 mb:Str->Option Value
structure BsOk (B:Bs):Prop where
 kin:B.K.In B.h₀
 g:B.h₀.Ns mainGlobals B.mg
 b:B.h₀.Ns builtinsNs B.mb
 lim:B.h₀.NoLimit
noncomputable def Over (B:Bs) (G:GM):Prop:=∀ a o,B.h₀.get? a = some o->G a = some o
theorem Over.ext {B:Bs} {G G':GM} (h:Over B G) (e:Sub G G'):Over B G':=fun a o x=>e _ _ (h a o x)
structure EnvOk (env:Env):Prop where
 kind:env.scope.kind = .function
 glob:env.globals = mainGlobals
 bi:env.builtins = builtinsNs
noncomputable def KOk (κ:Kn) (env:Env):Prop:=∀ x,env.kindOf x = if κ x = some .free then some .cell else κ x
theorem KOk.glob {κ:Kn} {env:Env} (h:KOk κ env) {x:Str} (e:κ x = some .globalImplicit):env.kindOf x = some .globalImplicit:=by rw [h x,e]; rfl
theorem KOk.loc {κ:Kn} {env:Env} (h:KOk κ env) {x:Str} (e:κ x = some .local):env.kindOf x = some .local:=by rw [h x,e]; rfl
theorem KOk.cell {κ:Kn} {env:Env} (h:KOk κ env) {x:Str} (e:κ x = some .cell \/ κ x = some .free):env.kindOf x = some .cell:=by rw [h x]; rcases e with e | e <;> rw [e] <;> rfl
structure Ok (B:Bs) (P:Params) (G:GM) (env:Env) (st:St) (s:Shared):Prop where
 over:Over B G
 rep:Rep P G env st s
 ct:CellsThere env s.heap
noncomputable def Lands {α:Type} (B:Bs) (P:Params) (cw:Bool) (env:Env) (G:GM) (st:St) (s:Shared) (X:GM->St->α->Prop) (a:α) (s':Shared):Prop:=
 ∃ G' st',X G' st' a /\ Ok B P G' env st' s' /\ Tr cw env G st s G' st' s'
noncomputable def VX (P:Params) (Q:PV->St->Prop):GM->St->Value->Prop:=fun G' st' v=>∃ p,Q p st' /\ VRel P G' v p
noncomputable def VsX (P:Params) (Q:List PV->St->Prop):GM->St->List Value->Prop:=fun G' st' vs=>∃ ps,Q ps st' /\ VRels P G' vs ps
noncomputable def BX (K:Bool->St->Prop):GM->St->Bool->Prop:=fun _ st' b=>K b st'
section
variable {prog:Program} {w:World} {A:Around} {E:Value->Shared->Prop} {s:Shared} {G:GM} {env:Env} {st:St} {cw:Bool} {B:Bs} {P:Params} {α β:Type}
theorem Lands.after {G₁:GM} {st₁:St} {s₁:Shared} {X:GM->St->α->Prop} {a:α} {s':Shared} (T:Tr cw env G st s G₁ st₁ s₁) (h:Lands B P cw env G₁ st₁ s₁ X a s'):Lands B P cw env G st s X a s':=
 let ⟨G',st',h1,h2,h3⟩:=h; ⟨G',st',h1,h2,T.trans h3⟩
theorem zY {X:GM->St->α->Prop} {Y:GM->St->β->Prop} {m:Sem α} {f:α->Sem β}
  (h:wpAny (model prog w) A m (Lands B P cw env G st s X) E s)
  (k:∀ a G' st' s',X G' st' a->Ok B P G' env st' s'->Sub G G'->wpAny (model prog w) A (f a) (Lands B P cw env G' st' s' Y) E s'):
  wpAny (model prog w) A m (fun a s'=>wpAny (model prog w) A (f a) (Lands B P cw env G st s Y) E s') E s:=
 wpAny_mono h (fun a s' ⟨G',st',h1,h2,h3⟩=>wpAny_mono (k a G' st' s' h1 h2 h3.ext) (fun _ _ x=>x.after h3) fun _ _ e=>e) fun _ _ e=>e
theorem aH {X:GM->St->α->Prop} {R:α->Shared->Prop} {m:Sem α} (h:wpAny (model prog w) A m (Lands B P cw env G st s X) E s)
  (k:∀ a G' st' s',X G' st' a->Ok B P G' env st' s'->Tr cw env G st s G' st' s'->R a s'):wpAny (model prog w) A m R E s:=
 wpAny_mono h (fun a s' ⟨G',st',h1,h2,h3⟩=>k a G' st' s' h1 h2 h3) fun _ _ e=>e
theorem aN {X:GM->St->α->Prop} {m:Sem α} {G₁:GM} {st₁:St} {s₁:Shared} (T:Tr cw env G st s G₁ st₁ s₁)
  (h:wpAny (model prog w) A m (Lands B P cw env G₁ st₁ s₁ X) E s₁):wpAny (model prog w) A m (Lands B P cw env G st s X) E s₁:=
 wpAny_mono h (fun _ _ x=>x.after T) fun _ _ e=>e
theorem zZ {X:GM->St->α->Prop} {Y:GM->St->α->Prop} {m:Sem α}
  (h:wpAny (model prog w) A m (Lands B P cw env G st s X) E s) (k:∀ a G' st',X G' st' a->Y G' st' a):wpAny (model prog w) A m (Lands B P cw env G st s Y) E s:=
 wpAny_mono h (fun a s' ⟨G',st',h1,h2,h3⟩=>⟨G',st',k a G' st' h1,h2,h3⟩) fun _ _ e=>e
theorem aK {X:GM->St->α->Prop} {a:α} (O:Ok B P G env st s) (h:X G st a):Lands B P cw env G st s X a s:=⟨G,st,h,O,.refl⟩
theorem Ok.grow (O:Ok B P G env st s) {G':GM} {s':Shared} (g:GS G s G' s') (tk:1 <= s'.toks):Ok B P G' env st s':=
 ⟨O.over.ext g.ext,O.rep.grow O.ct g tk,O.ct.grow g.alive⟩
theorem eU {X:GM->St->α->Prop} {a:α} {s':Shared} {G':GM} (O:Ok B P G env st s) (g:GS G s G' s') (tk:1 <= s'.toks) (h:X G' st a):Lands B P cw env G st s X a s':=
 ⟨G',st,h,O.grow g tk,g.tr⟩
theorem cA {t:Sem Value} {Q:PV->St->Prop} (O:Ok B P G env st s) (h:GW (model prog w) A P E G s t fun p=>Q p st):
  wpAny (model prog w) A t (Lands B P cw env G st s (VX P Q)) E s:=
 wpAny_mono (wpAny_toks_of O.rep.tk h) (fun v s' ⟨tk,p,G',hq,g,r⟩=>eU O g tk ⟨p,hq,r⟩) fun _ _ e=>e.2
theorem wV {t:Sem Value} {Q:PV->St->Prop} (O:Ok B w.params G env st s) (h:wpAny (model prog w) A t (za3 w.params cw env G st s Q) E s):
  wpAny (model prog w) A t (Lands B w.params cw env G st s (VX w.params Q)) E s:=
 wpAny_mono h (fun v s' ⟨p,G',st',hq,h1,h2,h3,h4⟩=>⟨G',st',⟨p,hq,h4⟩,⟨O.over.ext h3.ext,h1,h2⟩,h3⟩) fun _ _ e=>e
theorem zX {v:Value} {p:PV} {K:Bool->St->Prop} (O:Ok B w.params G env st s) (hv:VRel w.params G v p) (h:tst K p st):
  wpAny (model prog w) A (truthy v) (Lands B w.params cw env G st s (BX K)) E s:=by
 obtain ⟨b,e,h⟩:=dG h
 refine wpAny_mono (wpAny_toks_of O.rep.tk (zdF O.rep.inh (O.rep.view hv) e)) (fun c s' ⟨tk,hc,g⟩=>?_) fun _ _ e=>e.2
 subst hc
 exact eU O g tk h
end
noncomputable def KeepsAt (prog:Program) (w:World) (h:Heap) (f:Value):Prop:=∃ k,Looks (model prog w) h (keeperOf f) k
noncomputable def Meets (prog:Program) (w:World) (B:Bs) (n:Nat) (v:Value) (F:Fn):Prop:=
 KeepsAt prog w B.h₀ v /\ ∀ (A:Around) (E:Value->Shared->Prop) (G:GM) (s:Shared) (args:List Value) (ps:List PV) (K:PV->Prop),
  Room n A->InH G s.heap->1 <= s.toks->Over B G->VRels w.params G args ps->F ps K->GW (model prog w) A w.params E G s (call v args) K
theorem Meets.le {prog:Program} {w:World} {B:Bs} {n m:Nat} {v:Value} {F:Fn} (h:Meets prog w B n v F) (hm:n <= m):Meets prog w B m v F:=
 ⟨h.1,fun A E G s args ps K hA=>h.2 A E G s args ps K (hA.le hm)⟩
noncomputable def zdA (K:Frag) (c:Nat) (name:Str) (i:Nat):Prop:=
 findIn K (.ref c) "__getattribute__" = some (some (.builtin "object.__getattribute__")) /\ findIn K (.ref c) "__getattr__" = some none /\
 ∃ p,findObj K c (some iG) name = some (.bind (.builtin "member_descriptor.__get__") (.ref p)) /\ slotIn K p c = some i /\
  findIn K (.ref c) "__setattr__" = some (some (.builtin "object.__setattr__")) /\ plainOver K c = true /\ takerIn K c name = some (some (.ref p)) /\ typeIn K (.ref p) = some (.type "member_descriptor") /\ i < 1000
noncomputable def zgp (P:Params) (B:Bs) (c:Nat) (name:Str) (v:PV):Prop:=
 findIn B.K (.ref c) "__getattribute__" = some (some (.builtin "object.__getattribute__")) /\
 ∃ u,findObj B.K c (some iG) name = some (.value u) /\ handedIn u = true /\ VRel P (fun a=>B.h₀.get? a) u v
noncomputable def u9 (prog:Program) (w:World) (B:Bs) (C:Ctx) (n:Nat):Prop:=
 ∃ nodeV fV,B.mg "Node" = some nodeV /\ KeepsAt prog w B.h₀ fV /\
  (∀ (A:Around) (E:Value->Shared->Prop) (s:Shared) (Q:Value × List Value->Shared->Prop) (pl:Sem Bool) (b:Bool),(∀ a o,B.h₀.get? a = some o->s.heap.get? a = some o)->Looks (model prog w) B.h₀ pl b->
   (∀ k,s.toks <= k->Q (fV,[]) { s with toks:=k })->wpAny (model prog w) A (getMethod nodeV "__init__" pl) Q E s) /\
  (∀ (A:Around) (E:Value->Shared->Prop) (cw:Bool) (env:Env) (G:GM) (st:St) (s:Shared) (ad:Nat) (va vb:Value) (pa pb:PV) (K:St->Prop),Room n A->Ok B w.params G env st s->VRel w.params G va pa->VRel w.params G vb pb->
   (setCell C ad "source_line" pa st fun st1=>setCell C ad "source_column" pb st1 K)->
   wpAny (model prog w) A (call fV [.ref ad,va,vb]) (Lands B w.params cw env G st s (fun _ st' _=>K st')) E s)
structure CtxOk (prog:Program) (w:World) (B:Bs) (C:Ctx) (n:Nat):Prop where
 mono:CtxMono C
 val:∀ x v,C.val x = some v->∃ u,B.mg x = some u /\ VRel w.params (fun a=>B.h₀.get? a) u v
 fn:∀ x F,C.fn x = some F->∃ u,B.mg x = some u /\ Meets prog w B n u F
 cls:∀ x F,C.cls x = some F->∃ u,B.mg x = some u /\ Meets prog w B n u F
 bi:∀ x,C.bi x = true->B.mg x = none /\ B.mb x = some (gQ x)
 slot:∀ c x i,C.slot c x = some i->zdA B.K c x i
 cval:∀ c x v,C.cval c x = some v->zgp w.params B c x v
 ini:C.ini = true->u9 prog w B C n
noncomputable def dN (prog:Program) (w:World) (B:Bs) (C:Ctx) (n:Nat) (e:Expr):Prop:=
 ∀ (A:Around) (E:Value->Shared->Prop) (cw:Bool) (env:Env) (κ:Kn) (G:GM) (st:St) (s:Shared) (Q:PV->St->Prop),Room n A->EnvOk env->KOk κ env->Ok B w.params G env st s->
  wE C e κ Q st->wpAny (model prog w) A (eval e env) (Lands B w.params cw env G st s (VX w.params Q)) E s
noncomputable def q7 (prog:Program) (w:World) (B:Bs) (C:Ctx) (n:Nat) (e:Expr):Prop:=
 ∀ (A:Around) (E:Value->Shared->Prop) (cw:Bool) (env:Env) (κ:Kn) (G:GM) (st:St) (s:Shared) (K:Bool->St->Prop),Room n A->EnvOk env->KOk κ env->Ok B w.params G env st s->
  wE C e κ (tst K) st->
  wpAny (model prog w) A (isTrue e env (eval e env)) (Lands B w.params cw env G st s (BX K)) E s
section
variable {prog:Program} {w:World} {B:Bs} {C:Ctx} {n:Nat}
theorem mO {e:Expr} (h:dN prog w B C n e) (he:∀ env whole,isTrue e env whole = (do let v <- whole; standAt e.pos; holding [v] (truthy v))):q7 prog w B C n e:=by
 intro A E cw env κ G st s K hA hE hκ O hw
 refine isTrue_plain (zY (h A E cw env κ G st s _ hA hE hκ O hw) fun v G' st' s' ⟨p,hq,hv⟩ O' _=>?_) (he env _)
 exact zX O' hv hq
noncomputable def okC:Const->Bool
 | .str s=>s.cps.toList.all (· < 1114112) && decide (s.cps.toList.length <= 16777216)
 | _=>true
theorem yL {c:Const} {k:Nat} {p:Pos} (ok:okC c = true):dN prog w B C n (.Constant c k p):=by
 intro A E cw env κ G st s Q hA hE hκ O hw
 obtain ⟨v,hv,hw⟩:=dG hw
 refine cA O ?_
 cases c <;> first | (cases hv; done) | skip
 all_goals cases hv
 ·exact Constant_none ⟨.none,G,hw,GS.refl O.rep.inh,by simp [VRel]⟩
 ·exact Constant_bool ⟨.bool _,G,hw,GS.refl O.rep.inh,by simp [VRel]⟩
 ·rw [arm_eval_Constant]
  exact wpAny_mkInt ⟨.int _,G,hw,GS.toks O.rep.inh _,by simp [VRel]⟩
 ·rename_i x
  refine Calls.Constant_str ⟨.str _,G,hw,GS.toks O.rep.inh _,?_⟩
  simp only [okC,Bool.and_eq_true,List.all_eq_true,decide_eq_true_eq] at ok
  simp only [VRel]
  exact ⟨_,rfl,ok.1,ok.2⟩
theorem dI {A:Around} {E:Value->Shared->Prop} {env:Env} {G:GM} {s:Shared} {x:Str} {u:Value} {Q:Value->Shared->Prop} (hB:BsOk B) (hE:EnvOk env) (hi:InH G s.heap) (ho:Over B G) (hv:B.mg x = some u) (h:Q u s):
  wpAny (model prog w) A (loadGlobal env x) Q E s:=
 Calls.loadGlobal_global (mg:=B.mg) (by rw [hE.glob]; exact hB.g.keeps fun b o e=>hi.at_ _ _ (ho _ _ e)) hv h
theorem nW {A:Around} {E:Value->Shared->Prop} {env:Env} {G:GM} {s:Shared} {x:Str} {u:Value} {Q:Value->Shared->Prop} (hB:BsOk B) (hE:EnvOk env) (hi:InH G s.heap) (ho:Over B G) (hn:B.mg x = none) (hv:B.mb x = some u) (h:Q u s):
  wpAny (model prog w) A (loadGlobal env x) Q E s:=
 Calls.loadGlobal_builtin (mg:=B.mg) (mb:=B.mb) (by rw [hE.glob]; exact hB.g.keeps fun b o e=>hi.at_ _ _ (ho _ _ e)) hn (by rw [hE.bi]; exact hB.b.keeps fun b o e=>hi.at_ _ _ (ho _ _ e)) hv h
end
section
variable {prog:Program} {w:World} {B:Bs} {C:Ctx} {n:Nat}
theorem sF {x:Str} {p:Pos} (hB:BsOk B) (hC:CtxOk prog w B C n) (ok2:(x == ("__classdict__" : Str)) = false) (A:Around) (E:Value->Shared->Prop) (cw:Bool) (env:Env) (κ:Kn) (G:GM) (st:St) (s:Shared) (Q:PV->St->Prop)
  (hE:EnvOk env) (hκ:KOk κ env) (O:Ok B w.params G env st s) (hw:wE C (.Name x p) κ Q st):wpAny (model prog w) A (loadName env x) (Lands B w.params cw env G st s (VX w.params Q)) E s:=by
 have R:=O.rep
 rw [iJ] at hw
 by_cases hk:κ x = some .globalImplicit
 ·rw [if_pos hk] at hw
  obtain ⟨v,hv,hq⟩:=dG hw
  obtain ⟨u,h1,h2⟩:=hC.val x v hv
  rw [loadName_read hE.kind (hκ.glob hk)]
  exact dI hB hE R.inh O.over h1 (aK O ⟨v,hq,h2.mono fun a o e=>O.over a o e⟩)
 ·rw [if_neg hk] at hw
  obtain ⟨v,e,hw⟩:=dG hw
  ·by_cases hl:env.kindOf x = some .local
   ·obtain ⟨m,hm,hx⟩:=R.ns
    obtain ⟨u,h1,h2⟩:=hx x v e hl
    exact wpAny_loadName_local hE.kind hl hm h1 (aK O ⟨v,hw,h2⟩)
   ·obtain ⟨c,u,h1,h2,h3⟩:=R.cel x v e hl
    rcases R.kind x v e with h | h | h
    ·exact absurd h hl
    ·exact wpAny_loadName_cell hE.kind h h1 h2 (aK O ⟨v,hw,h3⟩)
    ·exact wpAny_loadName_free hE.kind h h1 h2 (aK O ⟨v,hw,h3⟩) ok2
theorem zbx {x:Str} {p:Pos} (hB:BsOk B) (hC:CtxOk prog w B C n) (ok:(x == ("__debug__" : Str)) = false) (ok2:(x == ("__classdict__" : Str)) = false):dN prog w B C n (.Name x p):=by
 intro A E cw env κ G st s Q hA hE hκ O hw
 exact wpAny_Name (sF hB hC ok2 A E cw env κ G st s Q hE hκ O hw) ok
theorem zdV {l r:Expr} {op:Operator} {p:Pos} (hl:dN prog w B C n l) (hr:dN prog w B C n r):dN prog w B C n (.BinOp l op r p):=by
 intro A E cw env κ G st s Q hA hE hκ O hw
 exact wpAny_BinOp (aH (hl A E cw env κ G st s _ hA hE hκ O hw) fun a G1 st1 s1 ⟨u,hq,hv⟩ O1 T1=>
  aH (hr A E cw env κ G1 st1 s1 _ hA hE hκ O1 hq) fun b G2 st2 s2 ⟨u2,hq2,hv2⟩ O2 T2=>
   aN (T1.trans T2) (cA O2 (zg7 O2.rep.inh (O2.rep.view (hv.mono T2.ext)) (O2.rep.view hv2) hq2)))
theorem zcZ {x:Expr} {op:UnaryOp} {p:Pos} (hx:dN prog w B C n x):dN prog w B C n (.UnaryOp op x p):=by
 intro A E cw env κ G st s Q hA hE hκ O hw
 refine wpAny_UnaryOp (aH (hx A E cw env κ G st s _ hA hE hκ O hw) fun a G1 st1 s1 ⟨u,hq,hv⟩ O1 T1=>aN T1 ?_)
 cases op <;> first | exact False.elim hq | skip
 ·obtain ⟨b,hb,hq⟩:=dG hq
  refine not_of (wpAny_mono (wpAny_toks_of O1.rep.tk (zdF O1.rep.inh (O1.rep.view hv) hb)) (fun c s' ⟨tk,hc,g⟩=>?_) fun _ _ e=>e.2)
  subst hc
  exact eU O1 g tk ⟨_,hq,by simp only [VRel]⟩
 ·obtain ⟨i,hi,hq⟩:=dA hq
  have hv':=O1.rep.view hv
  rw [hi] at hv'
  obtain ⟨t,rfl⟩:=za8 hv'
  exact cA O1 (mY O1.rep.inh hq fun Q q=>neg_int q)
theorem yK {t b o:Expr} {p:Pos} (ht:q7 prog w B C n t) (hb:dN prog w B C n b) (ho:dN prog w B C n o):dN prog w B C n (.IfExp t b o p):=by
 intro A E cw env κ G st s Q hA hE hκ O hw
 refine IfExp_ (aH (ht A E cw env κ G st s _ hA hE hκ O hw) fun c G1 st1 s1 hq O1 T1=>?_)
 simp only [BX] at hq
 cases c
 ·exact aN T1 (ho A E cw env κ G1 st1 s1 _ hA hE hκ O1 (by simpa using hq))
 ·exact aN T1 (hb A E cw env κ G1 st1 s1 _ hA hE hκ O1 (by simpa using hq))
theorem zbD {x:Expr} {p:Pos} (hM:CtxMono C) (hx:q7 prog w B C n x):q7 prog w B C n (.UnaryOp .Not x p):=by
 intro A E cw env κ G st s K hA hE hκ O hw
 refine isTrue_not (wpAny_mono (hx A E cw env κ G st s (fun b st1=>K (!b) st1) hA hE hκ O (bB hM x (fun u st1 h=>?_) hw)) (fun c s1 x=>x) fun _ _ e=>e)
 obtain ⟨b,e,h⟩:=dG h
 rw [fU e]
 have h':tst K (.bool (!b)) st1:=h
 rwa [fU (b:=!b) rfl] at h'
theorem vV {t b o:Expr} {p:Pos} (ht:q7 prog w B C n t) (hb:q7 prog w B C n b) (ho:q7 prog w B C n o):q7 prog w B C n (.IfExp t b o p):=by
 intro A E cw env κ G st s K hA hE hκ O hw
 refine isTrue_IfExp (aH (ht A E cw env κ G st s _ hA hE hκ O hw) fun c G1 st1 s1 hq O1 T1=>?_)
 simp only [BX] at hq
 cases c
 ·exact aN T1 (ho A E cw env κ G1 st1 s1 K hA hE hκ O1 (by simpa using hq))
 ·exact aN T1 (hb A E cw env κ G1 st1 s1 K hA hE hκ O1 (by simpa using hq))
theorem zc1 {op:BoolOp} {p:Pos}:∀ (es:List Expr),(∀ e ∈ es,dN prog w B C n e)->dN prog w B C n (.BoolOp op es p)
 | [],_=>fun A E cw env κ G st s Q hA hE hκ O hw=>False.elim hw
 | [e],h=>fun A E cw env κ G st s Q hA hE hκ O hw=>BoolOp_one (h e (by simp) A E cw env κ G st s Q hA hE hκ O hw)
 | e :: e' :: es,h=>by
  intro A E cw env κ G st s Q hA hE hκ O hw
  have ih:=zc1 (p:=p) (op:=op) (e' :: es) fun x hx=>h x (List.mem_cons_of_mem _ hx)
  have he:=h e (by simp) A E cw env κ G st s _ hA hE hκ O (show wE C e κ (fun v st1=>opt (rA (der st1.σ v)) fun b=>if b = (op == .Or) then Q v st1 else wBo C op (e' :: es) κ Q st1) st from hw)
  have main:∀ {G1:GM} {st1:St} {s1:Shared} {a:Value} {u:PV} {R:Bool->Shared->Prop},Tr cw env G st s G1 st1 s1->(opt (rA (der st1.σ u)) fun b=>if b = (op == .Or) then Q u st1 else wBo C op (e' :: es) κ Q st1)->VRel w.params G1 a u->Ok B w.params G1 env st1 s1->
    (∀ s',Lands B w.params cw env G st s (VX w.params Q) a s'->R (op == .Or) s')->(∀ b s',b ≠ (op == .Or)->wpAny (model prog w) A (eval (.BoolOp op (e' :: es) p) env) (Lands B w.params cw env G st s (VX w.params Q)) E s'->R b s')->wpAny (model prog w) A (truthy a) R E s1:=by
   intro G1 st1 s1 a u R T1 hq hv O1 k1 k2
   obtain ⟨b,e1,hq⟩:=dG hq
   refine wpAny_mono (wpAny_toks_of O1.rep.tk (zdF O1.rep.inh (O1.rep.view hv) e1)) (fun c s' ⟨tk,hc,g⟩=>?_) fun _ _ e=>e.2
   subst hc
   by_cases hb:c = (op == .Or)
   ·rw [if_pos hb] at hq; rw [hb]
    exact k1 s' ((eU (X:=VX w.params Q) O1 g tk ⟨u,hq,hv.mono g.ext⟩).after T1)
   ·rw [if_neg hb] at hq
    exact k2 c s' hb (aN (T1.trans g.tr) (ih A E cw env κ G1 st1 s' Q hA hE hκ (O1.grow g tk) hq))
  cases op
  ·refine BoolOp_and (aH he fun a G1 st1 s1 ⟨u,hq,hv⟩ O1 T1=>main T1 hq hv O1 (fun s' h=>h) fun b s' hb h=>?_)
   cases b
   ·exact absurd rfl hb
   ·exact h
  ·refine BoolOp_or (aH he fun a G1 st1 s1 ⟨u,hq,hv⟩ O1 T1=>main T1 hq hv O1 (fun s' h=>h) fun b s' hb h=>?_)
   cases b
   ·exact h
   ·exact absurd rfl hb
theorem yO {op:BoolOp} {p:Pos}:∀ (es:List Expr),(∀ e ∈ es,q7 prog w B C n e)->es ≠ []->q7 prog w B C n (.BoolOp op es p)
 | [],_,ne=>absurd rfl ne
 | [e],h,_=>by
  intro A E cw env κ G st s K hA hE hκ O hw
  have he:=h e (by simp) A E cw env κ G st s K hA hE hκ O hw
  cases op
  ·refine isTrue_and (aH he fun c G1 st1 s1 hq O1 T1=>?_)
   cases c
   ·exact (aK (X:=BX K) O1 hq).after T1
   ·exact isTrue_and_nil ((aK (X:=BX K) O1 hq).after T1)
  ·refine isTrue_or (aH he fun c G1 st1 s1 hq O1 T1=>?_)
   cases c
   ·exact isTrue_or_nil ((aK (X:=BX K) O1 hq).after T1)
   ·exact (aK (X:=BX K) O1 hq).after T1
 | e :: e' :: es,h,_=>by
  intro A E cw env κ G st s K hA hE hκ O hw
  have ih:=yO (p:=p) (op:=op) (e' :: es) (fun x hx=>h x (List.mem_cons_of_mem _ hx)) (by simp)
  have he:=h e (by simp) A E cw env κ G st s (fun b st1=>if b = (op == .Or) then K b st1 else wBo C op (e' :: es) κ (tst K) st1) hA hE hκ O (by
   refine cast (congrArg (fun q=>wE C e κ q st) ?_) hw
   funext v st1
   show (opt (rA (der st1.σ v)) fun b=>if b = (op == .Or) then tst K v st1 else _) = opt (rA (der st1.σ v)) fun b=>if b = (op == .Or) then K b st1 else _
   cases e1:rA (der st1.σ v) with
   | none=>rfl
   | some b=>show (if b = (op == .Or) then tst K v st1 else _) = _; rw [fU e1]; rfl)
  have go:∀ {G1:GM} {st1:St} {s1:Shared} (c:Bool),c ≠ (op == .Or)->(if c = (op == .Or) then K c st1 else wBo C op (e' :: es) κ (tst K) st1)->Ok B w.params G1 env st1 s1->wpAny (model prog w) A (isTrue (.BoolOp op (e' :: es) p) env (eval (.BoolOp op (e' :: es) p) env)) (Lands B w.params cw env G1 st1 s1 (BX K)) E s1:=
   fun c hc hq O1=>ih A E cw env κ _ _ _ K hA hE hκ O1 (by rw [if_neg hc] at hq; exact hq)
  cases op
  ·refine isTrue_and (aH he fun c G1 st1 s1 hq O1 T1=>?_)
   cases c
   ·exact (aK (X:=BX K) O1 hq).after T1
   ·exact aN T1 (go true (by decide) hq O1)
  ·refine isTrue_or (aH he fun c G1 st1 s1 hq O1 T1=>?_)
   cases c
   ·exact aN T1 (go false (by decide) hq O1)
   ·exact (aK (X:=BX K) O1 hq).after T1
end
section
variable {prog:Program} {w:World} {B:Bs} {C:Ctx} {n:Nat}
theorem kL {A:Around} {E:Value->Shared->Prop} {cw:Bool} {env:Env} {G:GM} {st:St} {s:Shared} {a b:Value} {pa pb:PV} {op:CmpOp} {K:Bool->St->Prop} {R:Value->Shared->Prop}
  (hA:Room n A) (O:Ok B w.params G env st s) (ha:VRel w.params G a pa) (hb:VRel w.params G b pb) (h:za1 st.σ op pa pb fun c=>K c st)
  (k:∀ (c:Bool) (G':GM) (st':St) (s':Shared),K c st'->Ok B w.params G' env st' s'->Tr cw env G st s G' st' s'->R (.bool c) s'):wpAny (model prog w) A (compareOp op a b) R E s:=by
 refine aH (cw:=cw) (cA (Q:=fun v st'=>∃ c,v = .bool c /\ K c st') O
   (zg0 hA O.rep.inh O.rep.cellsOk ha hb (lY (fun c hc=>⟨c,rfl,hc⟩) h))) fun cv G2 st2 s2 ⟨v,⟨c,hc,hq2⟩,hv2⟩ O2 T2=>?_
 subst hc
 simp only [VRel] at hv2; subst hv2
 exact k c G2 st2 s2 hq2 O2 T2
theorem zc0 {p:Pos}:∀ (cs:List Expr) (ops:List CmpOp),(∀ e ∈ cs,dN prog w B C n e)->cs.length = ops.length->
  ∀ (A:Around) (E:Value->Shared->Prop) (cw:Bool) (env:Env) (κ:Kn) (G:GM) (st:St) (s:Shared) (Q:PV->St->Prop) (a:Value) (pa:PV),Room n A->EnvOk env->KOk κ env->Ok B w.params G env st s->
   VRel w.params G a pa->wCh C cs ops κ pa Q st->wpAny (model prog w) A (compareChain p a ops (evalEach cs env)) (Lands B w.params cw env G st s (VX w.params Q)) E s
 | [],ops,_,_=>by
  intro A E cw env κ G st s Q a pa hA hE hκ O ha hw
  exact False.elim hw
 | [r],[op],h,_=>by
  intro A E cw env κ G st s Q a pa hA hE hκ O ha hw
  exact chain_last (aH (h r (by simp) A E cw env κ G st s _ hA hE hκ O hw) fun b G1 st1 s1 ⟨u,hq,hv⟩ O1 T1=>
   aN T1 (kL (K:=fun c st'=>([]:List CmpOp).isEmpty = true /\ Q (.bool c) st') hA O1 (ha.mono T1.ext) hv hq fun c G2 st2 s2 hq2 O2 T2=>(aK (X:=VX w.params Q) O2 ⟨_,hq2.2,by simp only [VRel]⟩).after T2))
 | r :: r' :: rs,op :: op' :: ops,h,hl=>by
  intro A E cw env κ G st s Q a pa hA hE hκ O ha hw
  have ih:=zc0 (p:=p) (r' :: rs) (op' :: ops) (fun x hx=>h x (List.mem_cons_of_mem _ hx)) (by simpa using hl)
  refine chain_link (aH (h r (by simp) A E cw env κ G st s _ hA hE hκ O hw) fun b G1 st1 s1 ⟨u,hq,hv⟩ O1 T1=>?_)
  refine kL (cw:=cw) (K:=fun c st'=>if c = true then wCh C (r' :: rs) (op' :: ops) κ u Q st' else Q (.bool false) st') hA O1 (ha.mono T1.ext) hv hq fun c G2 st2 s2 hq2 O2 T2=>?_
  refine wpAny_truthy_bool ?_
  cases c
  ·exact (aK (X:=VX w.params Q) O2 ⟨.bool false,hq2,by simp only [VRel]⟩).after (T1.trans T2)
  ·exact aN (T1.trans T2) (ih A E cw env κ G2 st2 s2 Q b u hA hE hκ O2 (hv.mono T2.ext) hq2)
theorem yN {p:Pos}:∀ (cs:List Expr) (ops:List CmpOp),(∀ e ∈ cs,dN prog w B C n e)->cs.length = ops.length->
  ∀ (A:Around) (E:Value->Shared->Prop) (cw:Bool) (env:Env) (κ:Kn) (G:GM) (st:St) (s:Shared) (K:Bool->St->Prop) (a:Value) (pa:PV),Room n A->EnvOk env->KOk κ env->Ok B w.params G env st s->
   VRel w.params G a pa->wCh C cs ops κ pa (tst K) st->wpAny (model prog w) A (testChain p a ops (evalEach cs env)) (Lands B w.params cw env G st s (BX K)) E s
 | [],ops,_,_=>by
  intro A E cw env κ G st s Q a pa hA hE hκ O ha hw
  exact False.elim hw
 | [r],[op],h,_=>by
  intro A E cw env κ G st s K a pa hA hE hκ O ha hw
  exact test_last (aH (h r (by simp) A E cw env κ G st s _ hA hE hκ O hw) fun b G1 st1 s1 ⟨u,hq,hv⟩ O1 T1=>
   kL (cw:=cw) (K:=fun c st'=>([]:List CmpOp).isEmpty = true /\ tst K (.bool c) st') hA O1 (ha.mono T1.ext) hv hq fun c G2 st2 s2 hq2 O2 T2=>
    wpAny_truthy_bool ((aK (X:=BX K) O2 (by have hq2:=hq2.2; rwa [fU (b:=c) rfl] at hq2)).after (T1.trans T2)))
 | r :: r' :: rs,op :: op' :: ops,h,hl=>by
  intro A E cw env κ G st s K a pa hA hE hκ O ha hw
  have ih:=yN (p:=p) (r' :: rs) (op' :: ops) (fun x hx=>h x (List.mem_cons_of_mem _ hx)) (by simpa using hl)
  refine test_link (aH (h r (by simp) A E cw env κ G st s _ hA hE hκ O hw) fun b G1 st1 s1 ⟨u,hq,hv⟩ O1 T1=>?_)
  refine kL (cw:=cw) (K:=fun c st'=>if c = true then wCh C (r' :: rs) (op' :: ops) κ u (tst K) st' else tst K (.bool false) st') hA O1 (ha.mono T1.ext) hv hq fun c G2 st2 s2 hq2 O2 T2=>?_
  refine wpAny_truthy_bool ?_
  cases c
  ·exact (aK (X:=BX K) O2 hq2).after (T1.trans T2)
  ·exact aN (T1.trans T2) (ih A E cw env κ G2 st2 s2 K b u hA hE hκ O2 (hv.mono T2.ext) hq2)
theorem zdU {l:Expr} {ops:List CmpOp} {cs:List Expr} {p:Pos} (hl:dN prog w B C n l) (h:∀ e ∈ cs,dN prog w B C n e) (hlen:cs.length = ops.length) (hm:lastMarks ops cs = false):
  dN prog w B C n (.Compare l ops cs p):=by
 intro A E cw env κ G st s Q hA hE hκ O hw
 rw [arm_eval_Compare,markedEach_of_false _ _ _ hm]
 exact wpAny_bind (aH (hl A E cw env κ G st s _ hA hE hκ O hw) fun a G1 st1 s1 ⟨u,hq,hv⟩ O1 T1=>
  aN T1 (zc0 cs ops h hlen A E cw env κ G1 st1 s1 Q a u hA hE hκ O1 hv hq))
theorem zbE {l:Expr} {ops:List CmpOp} {cs:List Expr} {p:Pos} (hl:dN prog w B C n l) (h:∀ e ∈ cs,dN prog w B C n e) (hlen:cs.length = ops.length) (hm:lastMarks ops cs = false):
  q7 prog w B C n (.Compare l ops cs p):=by
 intro A E cw env κ G st s K hA hE hκ O hw
 show wpAny _ _ (do testChain p (<- PySem.eval l env) ops (markedEach ops cs (evalEach cs env))) _ _ _
 rw [markedEach_of_false _ _ _ hm]
 exact wpAny_bind (aH (hl A E cw env κ G st s _ hA hE hκ O hw) fun a G1 st1 s1 ⟨u,hq,hv⟩ O1 T1=>
  aN T1 (yN cs ops h hlen A E cw env κ G1 st1 s1 K a u hA hE hκ O1 hv hq))
theorem zdT {e:Expr} {conv:Int} {sp:Option Expr} {p:Pos} (he:dN prog w B C n e):dN prog w B C n (.FormattedValue e conv sp p):=by
 intro A E cw env κ G st s Q hA hE hκ O hw
 obtain ⟨rfl,h2,hw⟩:=hw
 cases Option.isNone_iff_eq_none.mp h2
 refine FormattedValue_plain (aH (he A E cw env κ G st s _ hA hE hκ O hw) fun v G1 st1 s1 ⟨u,hq,hv⟩ O1 T1=>?_)
 obtain ⟨y,rfl,hq⟩:=eN hq
 obtain ⟨t,rfl,oky⟩:=(show ∃ t,v = .str ⟨y.toArray⟩ t /\ okStr y from hv)
 have tk:=O1.rep.tk
 refine wpAny_formatField_str ?_ ?_ (show y.length <= sizeLine from oky.2)
 ·exact (aK (X:=VX w.params Q) O1 ⟨.str y,hq,t,rfl,oky⟩).after T1
 ·exact (eU (X:=VX w.params Q) O1 (GS.toks O1.rep.inh (s1.toks + 1)) (Nat.le_succ_of_le tk) ⟨.str y,hq,_,rfl,oky⟩).after T1
theorem o8:∀ (es:List Expr),(∀ e ∈ es,dN prog w B C n e)->∀ (A:Around) (E:Value->Shared->Prop) (cw:Bool) (env:Env) (κ:Kn) (G:GM) (st:St) (s:Shared) (acc:List Nat) (Q:PV->St->Prop),Room n A->EnvOk env->KOk κ env->Ok B w.params G env st s->okStr acc->
  wJ C es κ acc Q st->wpAny (model prog w) A (joinParts ⟨acc.toArray⟩ (evalEach es env)) (Lands B w.params cw env G st s (VX w.params Q)) E s
 | [],_=>by
  intro A E cw env κ G st s acc Q hA hE hκ O ha hw
  exact joinParts_nil (eU (X:=VX w.params Q) O (GS.toks O.rep.inh (s.toks + 1)) (Nat.le_succ_of_le O.rep.tk) ⟨.str acc,hw,_,rfl,ha⟩) (show acc.length <= sizeLine from ha.2)
 | e :: es,h=>by
  intro A E cw env κ G st s acc Q hA hE hκ O ha hw
  refine joinParts_cons (aH (h e List.mem_cons_self A E cw env κ G st s _ hA hE hκ O hw) fun v G1 st1 s1 ⟨u,hq,hv⟩ O1 T1=>?_)
  obtain ⟨y,rfl,hl,hq⟩:=eN hq
  obtain ⟨t,rfl,oky⟩:=(show ∃ t,v = .str ⟨y.toArray⟩ t /\ okStr y from hv)
  have e:(⟨acc.toArray⟩:Str) ++ ⟨y.toArray⟩ = ⟨(acc ++ y).toArray⟩:=by apply Str.ext'; simp [Str.cps_append]
  show ((⟨acc.toArray⟩:Str) ++ ⟨y.toArray⟩).length <= sizeLine /\ _
  rw [e]
  refine ⟨hl,aN T1 (o8 es (fun x hx=>h x (List.mem_cons_of_mem _ hx)) A E cw env κ G1 st1 s1 (acc ++ y) Q hA hE hκ O1 ⟨fun c hc=>(List.mem_append.mp hc).elim (ha.1 c) (oky.1 c),hl⟩ hq)⟩
theorem zbA {es:List Expr} {p:Pos} (h:∀ e ∈ es,dN prog w B C n e):dN prog w B C n (.JoinedStr es p):=by
 intro A E cw env κ G st s Q hA hE hκ O hw
 obtain ⟨h2,hw⟩:=hw
 match es,h2,hw,h with
 | e1 :: e2 :: es,_,hw,h=>exact JoinedStr_many (o8 _ h A E cw env κ G st s [] Q hA hE hκ O ⟨fun c h=>(by cases h),Nat.zero_le _⟩ hw)
theorem gE {e:Expr} (h:dH e = true) (es:List Expr) (env:Env):starEach (e :: es) env = (false,PySem.eval e env) :: starEach es env:=by
 cases e <;> first | rfl | cases h
theorem fW {p:Pos}:∀ (es:List Expr),(∀ e ∈ es,dN prog w B C n e)->es.all dH = true->
  ∀ (A:Around) (E:Value->Shared->Prop) (cw:Bool) (env:Env) (κ:Kn) (G:GM) (st:St) (s:Shared) (Q:List PV->St->Prop),Room n A->EnvOk env->KOk κ env->Ok B w.params G env st s->
   wEs C es κ Q st->wpAny (model prog w) A (spliced (backTo p (starEach es env))) (Lands B w.params cw env G st s (VsX w.params Q)) E s
 | [],_,_=>by
  intro A E cw env κ G st s Q hA hE hκ O hw
  exact Calls.spliced_nil (aK O ⟨[],hw,.nil⟩)
 | e :: es,h,hs=>by
  intro A E cw env κ G st s Q hA hE hκ O hw
  simp only [List.all_cons,Bool.and_eq_true] at hs
  rw [gE hs.1]
  show wpAny _ _ (spliced ((false,PySem.eval e env) :: backTo p (starEach es env))) _ _ _
  exact Calls.spliced_cons (aH (h e (by simp) A E cw env κ G st s _ hA hE hκ O hw) fun a G1 st1 s1 ⟨u,hq,hv⟩ O1 T1=>
   aH (fW es (fun x hx=>h x (List.mem_cons_of_mem _ hx)) hs.2 A E cw env κ G1 st1 s1 _ hA hE hκ O1 hq) fun vs G2 st2 s2 ⟨us,hq2,hv2⟩ O2 T2=>
    (aK (X:=VsX w.params Q) O2 ⟨u :: us,hq2,.cons (hv.mono T2.ext) hv2⟩).after (T1.trans T2))
theorem nK {p:Pos} {f:Value} (es:List Expr) (h:∀ e ∈ es,dN prog w B C n e) (hs:es.all dH = true)
  (A:Around) (E:Value->Shared->Prop) (cw:Bool) (env:Env) (κ:Kn) (G:GM) (st:St) (s:Shared) (Q:List PV->St->Prop) (hA:Room n A) (hE:EnvOk env) (hκ:KOk κ env) (O:Ok B w.params G env st s)
  (hw:wEs C es κ Q st):wpAny (model prog w) A (evalArgs f true (backTo p (starEach es env)) []) (fun a s'=>∃ vs,a = ⟨vs,[]⟩ /\ Lands B w.params cw env G st s (VsX w.params Q) vs s') E s:=by
 have hh:=fW (p:=p) es h hs A E cw env κ G st s Q hA hE hκ O hw
 cases es with
 | nil=>
  exact PySem.evalArgs_none ⟨[],rfl,aK O ⟨[],hw,.nil⟩⟩
 | cons e es=>
  simp only [List.all_cons,Bool.and_eq_true] at hs
  rw [gE hs.1] at hh ⊢
  exact Calls.evalArgs_plain (wpAny_mono hh (fun vs s' x=>⟨vs,rfl,x⟩) fun _ _ e=>e)
theorem jE {p:Pos}:∀ (es:List Expr) (env:Env),es.all dH = true->(backTo p (starEach es env)).any (·.1) = false
 | [],_,_=>rfl
 | e :: es,env,h=>by
  simp only [List.all_cons,Bool.and_eq_true] at h
  rw [gE h.1]
  exact jE es env h.2
theorem iK {p:Pos}:∀ (es:List Expr) (env:Env),es.all dH = true->(backTo p (starEach es env)).all (fun x=>!x.1) = true
 | [],_,_=>rfl
 | e :: es,env,h=>by
  simp only [List.all_cons,Bool.and_eq_true] at h
  rw [gE h.1]
  exact iK es env h.2
theorem bY {A:Around} {E:Value->Shared->Prop} {s:Shared} {pos:Pos} {f:Value} {first:List Value} {args:List (Bool × Sem Value)} {Q:Value->Shared->Prop} (hst:args.any (·.1) = false)
  (h:wpAny (model prog w) A (evalArgs f true args []) (fun a s₁=>KeepsAt prog w s₁.heap f /\ wpAny (model prog w) A (call f (first ++ a.pos) a.kw) Q E s₁) E s):
  wpAny (model prog w) A (callWith pos f first args []) Q E s:=by
 unfold callWith
 refine wpAny_bind (wpAny_holding (wpAny_mono h (fun a s₁ h₁=>wpAny_bind (wpAny_standAt ?_)) fun _ _ x=>x))
 obtain ⟨⟨k,hk⟩,hc⟩:=h₁
 rw [show (args.any (·.1) || ([]:List (Option Str × Sem Value)).any (·.1.isNone)) = false from (Bool.or_false _).trans hst]
 have fin:∀ t:Sem Value,wpAny (model prog w) A t Q E s₁->wpAny (model prog w) A (t >>= fun r=>holding [r] point >>= fun _=>pure r) Q E s₁:=
  fun t ht=>wpAny_bind (wpAny_mono ht (fun r s₂ hr=>wpAny_bind (wpAny_holding (wpAny_point (wpAny_pure hr)))) fun _ _ x=>x)
 refine wpAny_bind (hk.here ?_)
 cases k <;> dsimp only
 ·refine wpAny_ite ?_
  split
  ·exact fin _ hc
  ·exact fin _ (by unfold callMarked; exact Calls.wpAny_keep hc)
 ·refine wpAny_ite ?_
  split
  ·exact fin _ hc
  ·exact fin _ (by unfold callMarked; exact Calls.wpAny_keep hc)
 ·exact fin _ hc
 ·exact fin _ (wpAny_operate' hc)
theorem cC (h:Heap) (id:String):KeepsAt prog w h (.builtin id):=⟨.machine,Looks.of_pure rfl⟩
theorem wW (h:Heap) (id:String):KeepsAt prog w h (.type id):=⟨.machine,Looks.of_pure rfl⟩
theorem KeepsAt.keeps {h h':Heap} {f:Value} (x:KeepsAt prog w h f) (k:∀ b o,h.get? b = some o->h'.get? b = some o):KeepsAt prog w h' f:=let ⟨r,hr⟩:=x; ⟨r,hr.keeps k⟩
theorem zb6 (h:Heap) (x:Str):KeepsAt prog w h (gQ x):=by
 unfold gQ
 (repeat' split) <;> first | exact wW _ _ | exact cC _ _
end
theorem qJ {σ:Nat->Option Cell}:∀ {ps:List PV},ps.any lK = false->ps.map (der σ) = ps
 | [],_=>rfl
 | p :: ps,h=>by
  simp only [List.any_cons,Bool.or_eq_false_iff] at h
  rw [List.map_cons,qJ h.2]
  cases p <;> first | rfl | cases h.1
theorem VRel.scalar {P:Params} {G G':GM} {v:Value} {p:PV} (h:VRel P G v p) (hs:fX p = true):VRel P G' v p:=by
 cases p <;> first | (cases hs; done) | (simp only [VRel] at h ⊢; exact h)
noncomputable def frz (G:GM) (σ:Nat->Option Cell) (h:Heap):GM:=fun a=>if (fR (σ a)).isSome = true then h.get? a else G a
noncomputable def xO (G:GM) (σ:Nat->Option Cell):GM:=fun a=>if (fR (σ a)).isSome = true then none else G a
theorem g9 {c:Option Cell} (h:(fR c).isSome = true):∃ xs,c = some (.lst xs):=by
 cases c with
 | none=>cases h
 | some c=>cases c with
  | lst xs=>exact ⟨xs,rfl⟩
  | ins c fs=>cases h
section
variable {prog:Program} {w:World} {B:Bs} {C:Ctx} {n:Nat} {P:Params} {G G':GM} {env:Env} {st:St} {s s':Shared}
theorem uL {σ:Nat->Option Cell} {h:Heap} (hc:∀ a c,σ a = some c->G a = none):Sub G (frz G σ h):=fun a o e=>by
 unfold frz
 by_cases q:(fR (σ a)).isSome = true
 ·obtain ⟨xs,q⟩:=g9 q
  rw [hc a _ q] at e; cases e
 ·rw [if_neg q]; exact e
theorem lO (R:Rep P G env st s):Sub G (frz G st.σ s.heap):=uL fun a c e=>(R.cells a c e).2.1
theorem zc9 (R:Rep P G env st s):InH (frz G st.σ s.heap) s.heap where
 at_:=fun a o e=>by
  unfold frz at e
  by_cases q:(fR (st.σ a)).isSome = true
  ·rw [if_pos q] at e; exact e
  ·rw [if_neg q] at e; exact R.inh.at_ a o e
 px:=fun P p=>by
  unfold frz
  rw [if_neg fun q=>by
   obtain ⟨xs,q⟩:=g9 q
   exact (R.cells _ _ q).1.nx R.inh.tab p]
  exact R.inh.px P p
 tab:=R.inh.tab
theorem zeo (R:Rep P G env st s) {v:Value} {p:PV} (h:VRel P G v p):VRel P (frz G st.σ s.heap) v (der st.σ p):=by
 cases p with
 | ptr a=>
  show VRel P (frz G st.σ s.heap) v (Option.casesOn (motive:=fun _=>PV) (fR (st.σ a)) (.ptr a) .list)
  by_cases q:(fR (st.σ a)).isSome = true
  ·obtain ⟨xs,e⟩:=g9 q
   simp only [VRel] at h; subst h
   obtain ⟨⟨vs,m,h1,h2,h3⟩,_⟩:=R.cells a _ e
   have hf:frz G st.σ s.heap a = s.heap.get? a:=if_pos q
   rw [e]
   simp only [fR,VRel]
   exact ⟨a,_,vs,m,rfl,hf.trans h1,rfl,rfl,rfl,h2,h3.mono (lO R)⟩
  ·cases e:fR (st.σ a) with
   | none=>exact h.mono (lO R)
   | some xs=>rw [e] at q; exact absurd rfl q
 | _=>exact h.mono (lO R)
theorem uM (R:Rep P G env st s):∀ {vs:List Value} {ps:List PV},VRels P G vs ps->VRels P (frz G st.σ s.heap) vs (ps.map (der st.σ))
 | vs,[],h=>h
 | vs,p :: ps,h=>let ⟨v,r,e,h1,h2⟩:=h; e ▸ .cons (zeo R h1) (uM R h2)
theorem zbb (R:Rep P G env st s) (g:GS (frz G st.σ s.heap) s G' s'):GS G s (xO G' st.σ) s' where
 ext:=fun a o e=>by
  unfold xO
  by_cases q:(fR (st.σ a)).isSome = true
  ·obtain ⟨xs,q⟩:=g9 q
   rw [(R.cells a _ q).2.1] at e; cases e
  ·rw [if_neg q]; exact g.ext a o (lO R a o e)
 inh:=⟨fun a o e=>by
  unfold xO at e
  by_cases q:(fR (st.σ a)).isSome = true
  ·rw [if_pos q] at e; cases e
  ·rw [if_neg q] at e; exact g.inh.at_ a o e,fun P p=>by
  unfold xO
  split
  ·rfl
  ·exact g.inh.px P p,g.inh.tab⟩
 new:=fun a o e=>by
  unfold xO at e
  by_cases q:(fR (st.σ a)).isSome = true
  ·rw [if_pos q] at e; cases e
  ·rw [if_neg q] at e
   rcases g.new a o e with h | h
   ·unfold frz at h
    rw [if_neg q] at h; exact .inl h
   ·exact .inr h
 keep:=g.keep
 os:=g.os
 gens:=g.gens
theorem zaH {A:Around} {E:Value->Shared->Prop} {cw:Bool} {f:Value} {F:Fn} {vs:List Value} {ps:List PV} {Q:PV->St->Prop} (hA:Room n A) (hF:Meets prog w B n f F) (O:Ok B w.params G env st s)
  (hv:VRels w.params G vs ps) (h:F (ps.map (der st.σ)) fun r=>(ps.any lK = false \/ fX r = true) /\ Q r st):
  wpAny (model prog w) A (call f vs) (Lands B w.params cw env G st s (VX w.params Q)) E s:=by
 refine cA O ?_
 by_cases hp:ps.any lK = false
 ·rw [qJ hp] at h
  exact (hF.2 A E G s vs ps _ hA O.rep.inh O.rep.tk O.over hv h).mono fun r x=>x.2
 ·have hg:=hF.2 A E (frz G st.σ s.heap) s vs _ _ hA (zc9 O.rep) O.rep.tk (O.over.ext (lO O.rep)) (uM O.rep hv) h
  exact wpAny_mono hg (fun v s' ⟨r,G',⟨h1,h2⟩,h3,h4⟩=>⟨r,_,h2,zbb O.rep h3,h4.scalar (h1.resolve_left hp)⟩) fun _ _ e=>e
theorem zcv {A:Around} {E:Value->Shared->Prop} {cw:Bool} {f:Value} {F:Fn} {vs:List Value} {ps:List PV} {Q:PV->St->Prop} (hA:Room n A) (hF:Meets prog w B n f F) (O:Ok B w.params G env st s)
  (hv:VRels w.params G vs ps) (h:F ps fun r=>Q r st):wpAny (model prog w) A (call f vs) (Lands B w.params cw env G st s (VX w.params Q)) E s:=
 cA O (hF.2 A E G s vs ps _ hA O.rep.inh O.rep.tk O.over hv h)
theorem zeN {A:Around} {E:Value->Shared->Prop} {cw:Bool} {x:Str} {vs:List Value} {ps:List PV} {Q:PV->St->Prop} (hA:Room n A) (O:Ok B w.params G env st s)
  (hv:VRels w.params G vs ps) (h:biP x (ps.map (der st.σ)) fun r=>Q r st):wpAny (model prog w) A (call (gQ x) vs) (Lands B w.params cw env G st s (VX w.params Q)) E s:=
 cA O (bi_G hA O.rep.inh (zaz O.rep hv) h)
theorem Ok.keepsAt {f:Value} (O:Ok B P G env st s) (h:KeepsAt prog w B.h₀ f):KeepsAt prog w s.heap f:=h.keeps fun a o e=>O.rep.inh.at_ a o (O.over a o e)
theorem zbB {x:Str} {np p:Pos} {args:List Expr} (hB:BsOk B) (hC:CtxOk prog w B C n) (h:∀ e ∈ args,dN prog w B C n e) (hs:args.all dH = true) (ok:(x == ("__debug__" : Str)) = false):
  dN prog w B C n (.Call (.Name x np) args [] p):=by
 intro A E cw env κ G st s Q hA hE hκ O hw
 rw [nE] at hw
 obtain ⟨_,hk,hn,hw⟩:=hw
 have go:∀ (f:Value),KeepsAt prog w B.h₀ f->(∀ G' st' s' vs ps,Ok B w.params G' env st' s'->VRels w.params G' vs ps->f7 C x ps st' (fun r=>Q r st')->wpAny (model prog w) A (call f vs) (Lands B w.params cw env G' st' s' (VX w.params Q)) E s')->
   wpAny (model prog w) A (loadGlobal env x) (fun v s'=>v = f /\ s' = s) E s->wpAny (model prog w) A (PySem.eval (.Call (.Name x np) args [] p) env) (Lands B w.params cw env G st s (VX w.params Q)) E s:=by
  intro f hf k hl
  refine wpAny_Call_NameR (wpAny_Name ?_ ok)
  rw [loadName_read hE.kind (hκ.glob hk)]
  refine wpAny_mono hl (fun v s' ⟨e1,e2⟩=>?_) fun _ _ e=>e
  subst e1 e2
  refine bY (jE args env hs) (wpAny_mono (nK args h hs A E cw env κ G st s' _ hA hE hκ O hw) (fun a s1 ⟨vs,ha,G1,st1,⟨ps,hq,hv⟩,O1,T1⟩=>?_) fun _ _ e=>e)
  subst ha
  exact ⟨O1.keepsAt hf,aN T1 (k G1 st1 s1 vs ps O1 hv hq)⟩
 cases e1:C.fn x with
 | some F=>
  obtain ⟨u,h1,h2⟩:=hC.fn x F e1
  exact go u h2.1 (fun G' st' s' vs ps O' hv hq=>zaH hA h2 O' hv (by unfold f7 at hq; rw [e1] at hq; exact hq)) (dI hB hE O.rep.inh O.over h1 ⟨rfl,rfl⟩)
 | none=>
  cases e2:C.cls x with
  | some F=>
   obtain ⟨u,h1,h2⟩:=hC.cls x F e2
   exact go u h2.1 (fun G' st' s' vs ps O' hv hq=>zcv hA h2 O' hv (by unfold f7 at hq; rw [e1,e2] at hq; exact hq)) (dI hB hE O.rep.inh O.over h1 ⟨rfl,rfl⟩)
  | none=>
   by_cases e3:C.bi x = true
   ·obtain ⟨h1,h2⟩:=hC.bi x e3
    exact go (gQ x) (zb6 _ x) (fun G' st' s' vs ps O' hv hq=>zeN hA O' hv (by unfold f7 at hq; rw [e1,e2] at hq; exact hq.2)) (nW hB hE O.rep.inh O.over h1 h2 ⟨rfl,rfl⟩)
   ·unfold nX at hn
    rw [e1,e2] at hn
    exact absurd (by simpa using hn) e3
end
noncomputable def iZ (o:Expr):Bool:=zaI (exc false (fun _=>true) (fun _=>true) (fun _=>false) (fun _ _ _=>true) (fun _ _=>false) (fun _ _=>false) o) (fun f _ _=>(atN f).isSome || (nmE f).any fun x=>x != ("super" : Str)) true o
theorem zaP {id:Str} {q pos:Pos} {args:List Expr} {kws:List Keyword} (h:(id != ("super" : Str)) = true) (attr:Str) (env:Env) (t:Sem Value):attributeBase (.Call (.Name id q) args kws pos) attr env t = t:=by
 cases args with
 | cons=>rfl
 | nil=>
  cases kws with
  | cons=>rfl
  | nil=>
   unfold attributeBase
   dsimp only
   rw [h,Bool.true_or,Bool.true_or,Bool.true_or,if_pos rfl]
theorem sW {o:Expr}:iZ o = true->∀ (attr:Str) (env:Env) (t:Sem Value),attributeBase o attr env t = t:=by
 refine eM (P:=fun o=>iZ o = true->∀ (attr:Str) (env:Env) (t:Sem Value),attributeBase o attr env t = t) (fun _ _ _ _ _ _ _=>rfl) (fun _ _ _ _ _ _=>rfl) (fun _ _ _ _ _ _ _=>rfl) (fun _ _ _ _ _ _ _=>rfl) (fun _ _ _ _ _ _ _ _=>rfl) (fun _ _ _ _ _ _ _ _=>rfl) (fun f as ks p h attr env t=>?_) (fun _ _ _ _ _ _ _=>rfl) (fun e h1 h2 h=>?_) o
 ·have h:((atN f).isSome || (nmE f).any fun x=>x != ("super" : Str)) = true:=h
  cases hf:atN f with
  | some n=>
   obtain ⟨o,p,rfl⟩:=oJ hf
   rfl
  | none=>
   rw [hf] at h
   cases hn:nmE f with
   | none=>rw [hn] at h; cases h
   | some id=>
    obtain ⟨q,rfl⟩:=gX hn
    exact zaP h attr env t
 ·rw [iZ,h2,h1] at h
  cases h
section
variable {prog:Program} {w:World} {B:Bs} {C:Ctx} {n:Nat}
theorem gP {A:Around} {E:Value->Shared->Prop} {s:Shared} {env:Env} {o:Expr} {name:Str} {apos pos:Pos} {args:List Expr} {Q:Value->Shared->Prop}
  (hb:iZ o = true) (hs:args.all dH = true) (hlen:args.length < 30) (hline:(apos.endLine == pos.line) = true)
  (h:wpAny (model prog w) A (PySem.eval o env) (fun ov s₁=>∃ T mid,PlainAttrs T /\ Slot T name mid /\ typeOf (.builtin mid) = pure (.type "method_descriptor") /\ s₁.TypeIs ov T /\ (∀ a,ov = .ref a->∃ ob,s₁.heap.get? a = some ob /\ ob.dict = none) /\
   wpAny (model prog w) A (callWith pos (.builtin mid) [ov] (backTo pos (starEach args env)) []) Q E s₁) E s):
  wpAny (model prog w) A (PySem.eval (.Call (.Attribute o name apos) args [] pos) env) Q E s:=by
 have hform:methodCallForm (args.length + ([]:List Keyword).length) (backTo pos (starEach args env)) (backToKw pos (keywordEach [] env)) = true:=by
  unfold methodCallForm
  rw [iK args env hs]
  exact zaS rfl (decide_eq_true hlen)
 have hpos:methodCallPos true o env apos pos = pure pos:=by unfold methodCallPos; simp [hline]
 rw [arm_eval_Call,sW hb]
 refine wpAny_bind (wpAny_mono h (fun ov s₁ ⟨T,mid,h1,h2,h3,h4,h5,h6⟩=>?_) fun _ _ e=>e)
 refine wpAny_bind (wpAny_standAt ?_)
 unfold methodCall
 rw [hform]
 refine wpAny_bind (wpAny_holding (getMethod_builtin h4 h1 h2 h3 h5 ?_))
 exact wpAny_bind (wpAny_of_eq hpos h6)
theorem nF {s:Shared} {v:Value} {x:List Nat} {P:Params} {G:GM} (h:VRel P G v (.str x)):s.TypeIs v "str" /\ ∀ a,v = .ref a->∃ ob,s.heap.get? a = some ob /\ ob.dict = none:=by
 simp only [VRel] at h
 obtain ⟨t,rfl,_⟩:=h
 exact ⟨typeIs_str _ _ _,fun a e=>by cases e⟩
theorem zD {G:GM} {env:Env} {st:St} {s:Shared} {name:Str} {o:PV} {v:Value} (O:Ok B w.params G env st s) (hv:VRel w.params G v o) (h:mOk st.σ name o = true):
  ∃ T,PlainAttrs T /\ Slot T name (cY name o) /\ typeOf (.builtin (cY name o)) = pure (.type "method_descriptor") /\ s.TypeIs v T /\ (∀ a,v = .ref a->∃ ob,s.heap.get? a = some ob /\ ob.dict = none):=by
 cases o <;> first | (cases h; done) | skip
 ·rename_i x
  obtain ⟨t1,t2⟩:=nF (s:=s) hv
  refine ⟨"str",PySem.F.plainAttrs_str,?_⟩
  show Slot "str" name (eC name) /\ typeOf (.builtin (eC name)) = _ /\ _
  have h:(name == "startswith" || name == "find" || name == "rfind" || name == "count" || name == "join") = true:=h
  rw [Bool.or_eq_true,Bool.or_eq_true,Bool.or_eq_true,Bool.or_eq_true,beq_iff_eq,beq_iff_eq,beq_iff_eq,beq_iff_eq,beq_iff_eq] at h
  rcases h with (((h | h) | h) | h) | h <;> subst h
  ·rw [show eC "startswith" = "str.startswith" by decide +kernel]; exact ⟨PySem.F.slot_str_startswith,PySem.F.type_str_startswith,t1,t2⟩
  ·rw [show eC "find" = "str.find" by decide +kernel]; exact ⟨PySem.F.slot_str_find,PySem.F.type_str_find,t1,t2⟩
  ·rw [show eC "rfind" = "str.rfind" by decide +kernel]; exact ⟨PySem.F.slot_str_rfind,PySem.F.type_str_rfind,t1,t2⟩
  ·rw [show eC "count" = "str.count" by decide +kernel]; exact ⟨PySem.F.slot_str_count,PySem.F.type_str_count,t1,t2⟩
  ·rw [show eC "join" = "str.join" by decide +kernel]; exact ⟨PySem.F.slot_str_join,PySem.F.type_str_join,t1,t2⟩
 ·rename_i a
  have h:((name == "append" || name == "pop") && (fR (st.σ a)).isSome) = true:=h
  rw [Bool.and_eq_true,Bool.or_eq_true,beq_iff_eq,beq_iff_eq] at h
  obtain ⟨hn,h2⟩:=h
  obtain ⟨xs,e⟩:=g9 h2
  simp only [VRel] at hv; subst hv
  obtain ⟨⟨vs,m,g1,g2,g3⟩,_⟩:=O.rep.cells a _ e
  have t2:∀ b,Value.ref a = .ref b->∃ ob,s.heap.get? b = some ob /\ ob.dict = none:=fun b e=>by cases e; exact ⟨_,g1,rfl⟩
  refine ⟨"list",PySem.F.plainAttrs_list,?_⟩
  show Slot "list" name (if name = "append" then "list.append" else "list.pop") /\ typeOf (.builtin (if name = "append" then "list.append" else "list.pop")) = _ /\ _
  rcases hn with hn | hn <;> subst hn
  ·rw [if_pos rfl]; exact ⟨PySem.F.slot_list_append,PySem.F.type_list_append,⟨_,g1,rfl⟩,t2⟩
  ·rw [if_neg (by decide +kernel)]; exact ⟨PySem.F.slot_list_pop,PySem.F.type_list_pop,⟨_,g1,rfl⟩,t2⟩
theorem zby {o:Expr} {name:Str} {apos p:Pos} {args:List Expr} (ho:dN prog w B C n o) (h:∀ e ∈ args,dN prog w B C n e) (hs:args.all dH = true) (hb:iZ o = true) (hlen:args.length < 30)
  (hline:(apos.endLine == p.line) = true) (hr:c8 args = none):dN prog w B C n (.Call (.Attribute o name apos) args [] p):=by
 intro A E cw env κ G st s Q hA hE hκ O hw
 rw [jH,hr] at hw
 refine gP hb hs hlen hline (aH (ho A E cw env κ G st s _ hA hE hκ O hw.2) fun ov G1 st1 s1 ⟨u,⟨hm,hq⟩,hv⟩ O1 T1=>?_)
 obtain ⟨T,h1,h2,h3,h4,h5⟩:=zD O1 hv hm
 refine ⟨T,cY name u,h1,h2,h3,h4,h5,?_⟩
 refine bY (jE args env hs) (wpAny_mono (nK args h hs A E cw env κ G1 st1 s1 _ hA hE hκ O1 hq) (fun a s2 ⟨vs,ha,G2,st2,⟨ps,hq2,hv2⟩,O2,T2⟩=>?_) fun _ _ e=>e)
 subst ha
 exact ⟨cC _ _,aN (T1.trans T2) (wV O2 (zea hA O2.rep O2.ct (hv.mono T2.ext) hv2 hq2))⟩
theorem pE {as:List Expr} {x y:Str} (h:c8 as = some (x,y)):∃ k1 p1 k2 p2,as = [.Constant (.str x) k1 p1,.Constant (.str y) k2 p2]:=by
 match as,h with
 | [a,b],h=>
  obtain ⟨p,h1,h⟩:=Option.bind_eq_some_iff.mp h
  obtain ⟨q,h2,e⟩:=Option.map_eq_some_iff.mp h
  cases e
  obtain ⟨k1,p1,rfl⟩:=uT h1
  obtain ⟨k2,p2,rfl⟩:=uT h2
  exact ⟨_,_,_,_,rfl⟩
theorem nO {p q:List Nat} (hp:p ≠ []) (hq:q.length = 1):∀ (n:Nat) (x:List Nat),(cJ p q n x).length <= x.length
 | 0,x=>by simp [cJ]
 | n + 1,[]=>by simp [cJ]
 | n + 1,c :: x=>by
  unfold cJ
  have h1:0 < p.length:=List.length_pos_iff.mpr hp
  split
  ·have:=nO hp hq n ((c :: x).drop p.length)
   simp only [List.length_append,hq,List.length_drop,List.length_cons] at *
   by_cases h2:p.length <= x.length + 1
   ·omega
   ·rename_i hpre
    have:=(List.isPrefixOf_iff_prefix.mp hpre).length_le
    simp only [List.length_cons] at this
    omega
  ·have:=nO hp hq n x
   simp only [List.length_cons] at *
   omega
theorem nN {p q:List Nat}:∀ (n:Nat) (x:List Nat) (c:Nat),c ∈ cJ p q n x->c ∈ x \/ c ∈ q
 | 0,x,c,h=>.inl (by simpa [cJ] using h)
 | n + 1,[],c,h=>by simp [cJ] at h
 | n + 1,d :: x,c,h=>by
  unfold cJ at h
  split at h
  ·rcases List.mem_append.mp h with h | h
   ·exact .inr h
   ·rcases nN n _ c h with h | h
    ·exact .inl (List.mem_of_mem_drop h)
    ·exact .inr h
  ·rcases List.mem_cons.mp h with h | h
   ·subst h; exact .inl (by simp)
   ·rcases nN n _ c h with h | h
    ·exact .inl (List.mem_cons_of_mem _ h)
    ·exact .inr h
theorem zbw {o:Expr} {name:Str} {apos p:Pos} {args:List Expr} {x y:Str} (ho:dN prog w B C n o) (hb:iZ o = true)
  (hline:(apos.endLine == p.line) = true) (hr:c8 args = some (x,y)) (hoy:okC (.str y) = true):dN prog w B C n (.Call (.Attribute o name apos) args [] p):=by
 intro A E cw env κ G st s Q hA hE hκ O hw
 rw [jH,hr] at hw
 obtain ⟨k1,p1,k2,p2,rfl⟩:=pE hr
 refine gP hb rfl (show 2 < 30 by decide) hline (aH (ho A E cw env κ G st s _ hA hE hκ O hw.2) fun ov G1 st1 s1 ⟨u,hq,hv⟩ O1 T1=>?_)
 obtain ⟨z,rfl,rfl,hz,hx,hy,hxy,hq⟩:=eN hq
 obtain ⟨t1,t2⟩:=nF (s:=s1) hv
 refine ⟨"str", "str.replace",PySem.F.plainAttrs_str,PySem.F.slot_str_replace,PySem.F.type_str_replace,t1,t2,?_⟩
 refine bY rfl (Calls.evalArgs_plain (Calls.spliced_cons (Calls.Constant_str (k:=k1) (pos:=p1) (Calls.spliced_cons (Calls.Constant_str (k:=k2) (pos:=p2) (Calls.spliced_nil ?_))))))
 have g:=GS.toks O1.rep.inh (s1.toks + 1 + 1)
 have O2:=O1.grow g (Nat.le_add_left 1 _)
 refine ⟨cC _ _,aN (T1.trans g.tr) (cA O2 ?_)⟩
 simp only [VRel] at hv
 obtain ⟨t,rfl,okz⟩:=hv
 have tk:=O1.rep.tk
 simp only [okC,Bool.and_eq_true,List.all_eq_true,decide_eq_true_eq] at hoy
 have okr:okStr (k6 x.cps.toList y.cps.toList z):=by
  refine ⟨fun c hc=>?_,Nat.le_trans (nO hx hy _ _) okz.2⟩
  rcases nN _ _ c hc with h | h
  ·exact okz.1 c h
  ·exact hoy.1 c h
 have ly:y.length = 1:=by rw [<- hy]; exact (Array.length_toList).symm
 refine SC.replace (Nat.ne_of_gt tk) (Nat.succ_ne_zero _) (Nat.ne_of_lt (Nat.lt_succ_self _)) (beq_eq_false_iff_ne.mpr hxy) (by rw [dC,ly]; omega) fun t' k=>⟨_,G1,hq,GS.toks O2.rep.inh k,?_⟩
 have main:=vY z x.cps.toList y.cps.toList hx
 rw [show (⟨x.cps.toList.toArray⟩:Str) = x by simp,show (⟨y.cps.toList.toArray⟩:Str) = y by simp] at main
 rw [main]
 simp only [VRel]
 exact ⟨t',rfl,okr⟩
end
section
variable {prog:Program} {w:World} {B:Bs} {C:Ctx} {n:Nat}
theorem w4 {P:Params} {G:GM} {v:Value} {p:PV} (h:VRel P G v p):handedIn v = true:=by
 cases p <;> simp only [VRel] at h
 ·subst h; rfl
 ·subst h; rfl
 ·obtain ⟨t,rfl⟩:=h; rfl
 ·obtain ⟨t,rfl,_⟩:=h; rfl
 ·obtain ⟨a,_,_,_,rfl,_⟩:=h; rfl
 ·obtain ⟨a,_,_,_,rfl,_⟩:=h; rfl
 ·obtain ⟨vs,⟨x,dx,rfl,_⟩,_⟩:=h; rfl
 ·obtain ⟨a,_,_,_,rfl,_⟩:=h; rfl
 ·subst h; rfl
 ·obtain ⟨a,_,_,rfl,_⟩:=h; rfl
theorem zgj {A:Around} {E:Value->Shared->Prop} {G:GM} {s:Shared} {name:Str} {v:Value} {p:PV} {K:PV->Prop} {x:Bool} (hB:BsOk B) (hC:CtxOk prog w B C n) (hi:InH G s.heap) (ho:Over B G)
  (hv:VRel w.params G v p) (h:zaQ C name p K):GW (model prog w) A w.params E G s (getAttr v name x) K:=by
 cases p <;> first | exact False.elim h | skip
 rename_i c fs
 simp only [VRel] at hv
 obtain ⟨vs,⟨a,dx,rfl,h1,h2⟩,h3⟩:=hv
 have I:PySem.W.InstAt s.heap a _ c (some iG):=⟨hi.at_ _ _ h1,rfl,rfl,hi.at_ _ _ h2⟩
 have X:B.K.In s.heap:=hB.kin.keeps fun b o e=>hi.at_ _ _ (ho _ _ e)
 have h:mT (C.slot c name) (opt (C.cval c name) K) fun i=>opt fs[i]? K:=h
 cases hs:C.slot c name with
 | some i=>
  rw [hs] at h
  obtain ⟨s1,s2,q,s3,s4,_⟩:=hC.slot c name i hs
  obtain ⟨u,hu,h⟩:=dG h
  obtain ⟨uv,e1,e2⟩:=h3.get hu
  refine get_bind X I s1 s3 s2 ?_
  refine wpAny_call (slot_get (v:=uv) (od:=some iG) (X.keeps fun _ _ e=>e) ⟨I.at_,I.cls,I.no,hi.at_ _ _ h2⟩ s4 ?_ ?_)
  ·show ((vs.map some).toArray[i]?).join = _
   rw [List.getElem?_toArray,List.getElem?_map,e1]; rfl
  ·dsimp only
   rw [handedOut_of (w4 e2)]
   exact wpAny_pure ⟨u,G,h,GS.toks hi _,e2⟩
 | none=>
  rw [hs] at h
  obtain ⟨u,hu,h⟩:=dG h
  obtain ⟨s1,uv,s2,s3,s4⟩:=hC.cval c name u hu
  exact get_value X I s1 s2 s3 ⟨u,G,h,GS.toks hi _,s4.mono ho⟩
theorem zbC {o:Expr} {name:Str} {p:Pos} (hB:BsOk B) (hC:CtxOk prog w B C n) (ho:dN prog w B C n o) (hb:iZ o = true):dN prog w B C n (.Attribute o name p):=by
 intro A E cw env κ G st s Q hA hE hκ O hw
 rw [arm_eval_Attribute,sW hb]
 refine wpAny_bind (aH (ho A E cw env κ G st s _ hA hE hκ O hw) fun ov G1 st1 s1 ⟨u,hq,hv⟩ O1 T1=>?_)
 refine wpAny_bind (wpAny_standAt (wpAny_bind (wpAny_holding ?_)))
 refine aH (cw:=cw) (cA (Q:=Q) O1 (zgj hB hC O1.rep.inh O1.over hv hq)) fun r G2 st2 s2 hr O2 T2=>?_
 exact wpAny_bind (wpAny_letTemporaryGo (wpAny_pure ((aK (X:=VX w.params Q) O2 hr).after (T1.trans T2))))
theorem zgS {A:Around} {E:Value->Shared->Prop} {G:GM} {s:Shared} {v iv:Value} {p i:PV} {K:PV->Prop} (hi:InH G s.heap) (hv:kN w.params G s.heap v p) (hiv:VRel w.params G iv i) (h:zem p i K):
  GW (model prog w) A w.params E G s (getItem v iv) K /\ ∃ T id,s.TypeIs v T /\ typeLookup (.type T) "__getitem__" = pure (some (.builtin id)):=by
 obtain ⟨k,rfl,h⟩:=dA h
 cases p <;> first | exact False.elim h | skip
 ·obtain ⟨c,hc,h⟩:=dG h
  exact ⟨zel hi hv hiv hc h, "str",_,(nF (P:=w.params) (G:=G) hv).1,PySem.F.slot_str_getitem.lookup⟩
 ·obtain ⟨c,hc,h⟩:=dG h
  refine ⟨zek hi hv hiv hc h, "tuple",_,?_,PySem.F.slot_tuple_getitem.lookup⟩
  simp only [kN,VRel] at hv
  obtain ⟨a,o,vs,m,rfl,h1,h2,_⟩:=hv
  exact ⟨o,hi.at_ _ _ h1,h2⟩
 ·obtain ⟨c,hc,h⟩:=dG h
  refine ⟨zcb hi hv hiv hc h, "list",_,?_,PySem.F.slot_list_getitem.lookup⟩
  obtain ⟨a,o,vs,m,rfl,h1,h2,_⟩:=hv
  exact ⟨o,h1,h2⟩
theorem zdS {o i:Expr} {p:Pos} (ho:dN prog w B C n o) (hi:dN prog w B C n i) (hs:∀ a b,subscripted i false a b = operate [a,b] (getItem a b)) (hu:wY i = false):dN prog w B C n (.Subscript o i p):=by
 intro A E cw env κ G st s Q hA hE hκ O hw
 rw [zff,hu] at hw
 refine Subscript_ (aH (ho A E cw env κ G st s _ hA hE hκ O hw) fun ov G1 st1 s1 ⟨u,hq,hv⟩ O1 T1=>?_)
 refine aH (hi A E cw env κ G1 st1 s1 _ hA hE hκ O1 hq) fun iv G2 st2 s2 ⟨u2,hq2,hv2⟩ O2 T2=>?_
 obtain ⟨g,T,id,t1,t2⟩:=zgS (prog:=prog) (A:=A) (E:=E) O2.rep.inh (O2.rep.view (hv.mono T2.ext)) hv2 hq2
 exact tail_any t1 t2 (aN (T1.trans T2) (cA O2 g)) (hs ov iv)
theorem t6 {l:Option Expr} (h:∀ e,l = some e->dN prog w B C n e) (A:Around) (E:Value->Shared->Prop) (cw:Bool) (env:Env) (κ:Kn) (G:GM) (st:St) (s:Shared) (Q:Option Int->St->Prop) (hA:Room n A) (hE:EnvOk env) (hκ:KOk κ env) (O:Ok B w.params G env st s)
  (hw:wOp C l κ Q st):wpAny (model prog w) A (PySem.evalPart l env) (Lands B w.params cw env G st s (fun _ st' v=>∃ i,Q i st' /\ ∃ t,v = partValue (i.map (·,t)))) E s:=by
 cases l with
 | none=>
  rw [evalPart_none]
  exact wpAny_pure (aK O ⟨none,hw,s.toks,rfl⟩)
 | some e=>
  rw [evalPart_some]
  refine zZ (h e rfl A E cw env κ G st s _ hA hE hκ O hw) fun v G' st' ⟨p,hq,hv⟩=>?_
  obtain ⟨i,rfl,hq⟩:=dA hq
  simp only [VRel] at hv
  obtain ⟨t,rfl⟩:=hv
  exact ⟨some i,hq.2.2,t,rfl⟩
theorem yS {A:Around} {E:Value->Shared->Prop} {G:GM} {s:Shared} {v vl vu:Value} {y:PV} {q:Addr} {lo hi:Option Int} {K:PV->Prop} (hi':InH G s.heap) (hv:kN w.params G s.heap v y)
  (hs:s.heap.get? q = some { cls:=.type "slice",data:=.fields #[vl,vu,.none] }) (hl:∃ t,vl = partValue (lo.map (·,t))) (hu:∃ t,vu = partValue (hi.map (·,t))) (h:zc2 y lo hi K):
  ∃ T ci,s.TypeIs v T /\ typeLookup (.type T) "__getitem__" = pure (some (.builtin ci)) /\ GW (model prog w) A w.params E G s (getItem v (.ref q)) K:=by
 cases y <;> first | exact False.elim h | skip
 ·rename_i y
  exact ⟨"str",_,(nF (P:=w.params) (G:=G) hv).1,PySem.F.slot_str_getitem.lookup,gM (sl:=.none) (lo:=lo) (hi:=hi) (r:=.str (slc y lo hi)) hi' hv hs hl hu rfl h⟩
 ·rename_i y
  have t3:=gM (prog:=prog) (w:=w) (A:=A) (E:=E) (K:=K) (sl:=.none) (lo:=lo) (hi:=hi) (r:=.list (slc y lo hi)) hi' hv hs hl hu rfl h
  obtain ⟨a,ob,vs,m,rfl,h1,h2,_⟩:=hv
  exact ⟨"list",_,⟨ob,h1,h2⟩,PySem.F.slot_list_getitem.lookup,t3⟩
theorem yJ {o:Expr} {l u:Option Expr} {sp p:Pos} (ho:dN prog w B C n o) (hl:∀ e,l = some e->dN prog w B C n e) (hu:∀ e,u = some e->dN prog w B C n e):
  dN prog w B C n (.Subscript o (.Slice l u none sp) p):=by
 intro A E cw env κ G st s Q hA hE hκ O hw
 rw [zfg] at hw
 refine Subscript_ (aH (ho A E cw env κ G st s _ hA hE hκ O hw) fun ov G1 st1 s1 ⟨x,hq,hv⟩ O1 T1=>?_)
 refine PySem.wpAny_Slice (aH (t6 hl A E cw env κ G1 st1 s1 _ hA hE hκ O1 hq.2) fun lv G2 st2 s2 ⟨lo,hq2,hlv⟩ O2 T2=>?_)
 refine aH (t6 hu A E cw env κ G2 st2 s2 _ hA hE hκ O2 hq2) fun uv G3 st3 s3 ⟨hi,hq3,huv⟩ O3 T3=>?_
 refine wpAny_pure ?_
 have g:GS G3 s3 G3 { s3 with heap:=s3.heap.push { cls:=.type "slice",data:=.fields #[lv,uv,.none] } }:=GS.heap O3.rep.inh s3.toks fun a o e=>Heap.get?_push_of_some _ e
 have O4:=O3.grow g O3.rep.tk
 have hv4:=O4.rep.view (hv.mono (T2.ext.trans T3.ext))
 have hat:(s3.heap.push { cls:=.type "slice",data:=.fields #[lv,uv,.none] }).get? s3.heap.objs.size = some { cls:=.type "slice",data:=.fields #[lv,uv,.none] }:=Heap.get?_push_size _ rfl
 obtain ⟨T,ci,t1,t2,t3⟩:=yS (prog:=prog) (A:=A) (E:=E) O4.rep.inh hv4 hat hlv huv hq3
 exact tail_any (ops:=[.ref s3.heap.objs.size,ov]) t1 t2 (aN (T1.trans (T2.trans (T3.trans g.tr))) (cA O4 t3)) rfl
theorem v6 {A:Around} {E:Value->Shared->Prop} {cw:Bool} {env:Env} {G:GM} {st:St} {s:Shared} {pos:Pos} {vs:List Value} {ps:List PV} {Q:PV->St->Prop} (O:Ok B w.params G env st s) (hv:VRels w.params G vs ps) (hz:vs.length <= aO)
  (h:d4 C pos ps Q st):wpAny (model prog w) A (newList vs) (Lands B w.params cw env G st s (VX w.params Q)) E s:=by
 unfold d4 at h
 by_cases q:C.mutL pos.line = true
 ·rw [if_pos q] at h
  obtain ⟨h1,h2,h3,h4⟩:=O.rep.newCell (cw:=cw) O.ct hv hz (k:=s.toks) O.rep.tk
  refine wpAny_newObj_type ⟨G,_,⟨.ptr s.heap.objs.size,h _ h1,by simp [VRel]⟩,⟨O.over,h2,h3⟩,h4⟩ (by show vs.toArray.size <= sizeLine; rw [List.size_toArray]; exact hz)
 ·rw [if_neg q] at h
  exact cA O (zB O.rep.inh hv hz h)
theorem q8:∀ (es:List Expr) {κ:Kn} {Q:List PV->St->Prop} {st:St},CtxMono C->wEs C es κ Q st->wEs C es κ (fun ps st'=>ps.length = es.length /\ Q ps st') st
 | [],_,_,_,_,h=>⟨rfl,h⟩
 | e :: es,_,_,_,hM,h=>bB hM e (fun v st1 h1=>cM hM es (fun ps st2 h2=>⟨congrArg Nat.succ h2.1,h2.2⟩) (q8 es hM h1)) h
theorem zbz {es:List Expr} {p:Pos} (hM:CtxMono C) (h:∀ e ∈ es,dN prog w B C n e) (hs:es.all dH = true) (hz:es.length <= 1000):dN prog w B C n (.List es p):=by
 intro A E cw env κ G st s Q hA hE hκ O hw
 rw [arm_eval_List]
 refine wpAny_bind (wpAny_standAt (wpAny_bind (aH (fW es h hs A E cw env κ G st s _ hA hE hκ O (q8 es hM hw)) fun vs G1 st1 s1 ⟨ps,⟨hl,hq⟩,hv⟩ O1 T1=>?_)))
 exact aN T1 (v6 O1 hv (by rw [hv.length,hl]; unfold aO; omega) hq)
theorem yI {es:List Expr} {x:Nat} {p:Pos} (hM:CtxMono C) (h:∀ e ∈ es,dN prog w B C n e) (hs:es.all dH = true) (hz:es.length <= 1000):dN prog w B C n (.Tuple es x p):=by
 intro A E cw env κ G st s Q hA hE hκ O hw
 rw [arm_eval_Tuple]
 refine wpAny_bind (wpAny_standAt (wpAny_bind (aH (fW es h hs A E cw env κ G st s _ hA hE hκ O (q8 es hM hw)) fun vs G1 st1 s1 ⟨ps,⟨hl,hq⟩,hv⟩ O1 T1=>?_)))
 exact aN T1 (cA O1 (v5 O1.rep.inh hv (by rw [hv.length,hl]; unfold aO; omega) hq))
end
structure Itr (prog:Program) (w:World) (A:Around) (P:Params) (I:Addr) (G:GM) (items:List PV) (Ws:Nat->Heap->Prop):Prop where
 frame:∀ i h h',Ws i h->(∀ o,h.get? I = some o->h'.get? I = some o)->InH G h'->Ws i h'
 item:∀ i p (s:Shared) (Q:Option Value->Shared->Prop) (E:Value->Shared->Prop),items[i]? = some p->Ws i s.heap->
  (∀ v h' tk,VRel P G v p->Ws (i + 1) h'->(∀ b o,b ≠ I->s.heap.get? b = some o->h'.get? b = some o)->
   (∀ (target:Expr) (E':Value->Shared->Prop) (Q':Unit->Shared->Prop),Q' () { s with heap:=h',toks:=tk }->wpAny (model prog w) A (letOwnedTupleGo target (.ref I) v) Q' E' { s with heap:=h',toks:=tk })->
   Q (some v) { s with heap:=h',toks:=tk })->wpAny (model prog w) A (pyNext (.ref I)) Q E s
 done:∀ (s:Shared) (Q:Option Value->Shared->Prop) (E:Value->Shared->Prop),Ws items.length s.heap->
  (∀ h' tk,(∀ b o,b ≠ I->s.heap.get? b = some o->h'.get? b = some o)->Q none { s with heap:=h',toks:=tk })->wpAny (model prog w) A (pyNext (.ref I)) Q E s
 alive:∀ i h,Ws i h->∃ o,h.get? I = some o
 self:∀ i (s:Shared) (Q:Value->Shared->Prop) (E:Value->Shared->Prop),Ws i s.heap->Q (.ref I) s->wpAny (model prog w) A (pyIter (.ref I)) Q E s
section
variable {prog:Program} {w:World} {A:Around} {E:Value->Shared->Prop} {s:Shared} {G:GM} {P:Params}
theorem lH {target:Expr} {I:Addr} {v:Value} {Q:Unit->Shared->Prop} (hv:∀ a,v ≠ .ref a) (h:Q () s):wpAny (model prog w) A (letOwnedTupleGo target (.ref I) v) Q E s:=by
 have:letOwnedTupleGo target (.ref I) v = pure ():=by cases target <;> first | rfl | (cases v <;> first | rfl | exact absurd rfl (hv _))
 rw [this]; exact wpAny_pure h
theorem eK {h:Heap}:h.get? h.objs.size = none:=by
 cases e:h.get? h.objs.size with
 | none=>rfl
 | some o=>exact absurd (Heap.lt_size e) (Nat.lt_irrefl _)
theorem zb8 (hh:A.handled = none) {I ax:Addr} {vs:Array Value} {items:List PV} (hne:ax ≠ I) (hl:∀ h,InH G h->h.IsList ax vs) (hr:VRels P G vs.toList items):
  Itr prog w A P I G items (fun i h=>h.IsListIter I ax i /\ h.IsList ax vs):=by
 have W:=Walks.list (prog:=prog) (w:=w) hh I ax hne vs
 have hlen:=hr.length
 simp only [Array.length_toList] at hlen
 refine ⟨fun i h h' st hk hi=>⟨st.1.at fun o e=>hk o e,hl h' hi⟩,fun i p s Q E hp st hQ=>?_,fun s Q E st hQ=>?_,fun i h st=>let ⟨o,ho,_⟩:=st.1; ⟨o,ho⟩,fun i s Q E st hQ=>W.self i s Q E st hQ⟩
 ·have hi:i < items.length:=(List.getElem?_eq_some_iff.mp hp).1
  refine W.item i s Q E (by omega) st fun v h' tk hv st' hk=>?_
  obtain ⟨q,hq,hvq⟩:=hr.get' (i:=i) (v:=v) (by simpa using hv)
  rw [hp] at hq; cases hq
  exact hQ v h' tk hvq st' (fun b o hb e=>hk b o (by simpa using hb) e) fun target E' Q' hq=>letGo_listiter st'.1 hq
 ·exact W.done s Q E (by rw [hlen]; exact st) fun h' tk hk=>hQ h' tk fun b o hb e=>hk b o (by simpa using hb) e
theorem z6 {I:Addr} {x:List Nat} {St:Nat->Heap->Prop} (W:Walks prog w A I [I] [I] x.length (SignAt ⟨x.toArray⟩) St) (al:∀ i h,St i h->∃ o,h.get? I = some o) (ok:okStr x):
  Itr prog w A P I G (x.map fun c=>.str [c]) St:=by
 refine ⟨fun i h h' st hk hi=>W.frame i h h' st fun b hb o e=>by simp only [List.mem_singleton] at hb; subst hb; exact hk o e,fun i p s Q E hp st hQ=>?_,fun s Q E st hQ=>?_,al,fun i s Q E st hQ=>W.self i s Q E st hQ⟩
 ·rw [List.getElem?_map,Option.map_eq_some_iff] at hp
  obtain ⟨c,hc,rfl⟩:=hp
  refine W.item i s Q E (List.getElem?_eq_some_iff.mp hc).1 st fun v h' tk hv st' hk=>?_
  obtain ⟨d,u,hd,rfl⟩:=hv
  have:d = c:=by
   have hd':x[i]? = some d:=by simpa using hd
   rw [hc] at hd'; cases hd'; rfl
  subst this
  refine hQ _ h' tk ?_ st' (fun b o hb e=>hk b o (by simpa using hb) e) fun target E' Q' hq=>lH (fun a e=>by cases e) hq
  simp only [VRel]
  exact ⟨u,rfl,k9 (ok.1 d (List.mem_of_getElem? hc))⟩
 ·exact W.done s Q E (by simpa using st) fun h' tk hk=>hQ h' tk fun b o hb e=>hk b o (by simpa using hb) e
theorem z7 (hh:A.handled = none) {I:Addr} {lo hi:Int}:
  Itr prog w A P I G ((List.range (hi - lo).toNat).map fun (k:Nat)=>.int (lo + k)) (fun i h=>IsRangeIter h I (lo + (i:Nat) * 1) (((hi - lo).toNat:Int) - (i:Nat)) 1):=by
 have W:=Walks.range (prog:=prog) (w:=w) hh I lo 1 (hi - lo).toNat
 refine ⟨fun i h h' st hk hi=>W.frame i h h' st fun b hb o e=>by simp only [List.mem_singleton] at hb; subst hb; exact hk o e,fun i p s Q E hp st hQ=>?_,fun s Q E st hQ=>?_,fun i h st=>⟨_,st⟩,fun i s Q E st hQ=>W.self i s Q E st hQ⟩
 ·rw [List.getElem?_map,Option.map_eq_some_iff] at hp
  obtain ⟨c,hc,rfl⟩:=hp
  have hlt:=(List.getElem?_eq_some_iff.mp hc).1
  rw [List.length_range] at hlt
  have:c = i:=by rw [List.getElem?_range hlt] at hc; cases hc; rfl
  subst this
  refine W.item c s Q E hlt st fun v h' tk hv st' hk=>?_
  obtain ⟨u,rfl⟩:=hv
  refine hQ _ h' tk ?_ st' (fun b o hb e=>hk b o (by simpa using hb) e) fun target E' Q' hq=>lH (fun a e=>by cases e) hq
  simp only [VRel]
  exact ⟨u,by simp⟩
 ·exact W.done s Q E (by simpa using st) fun h' tk hk=>hQ h' tk fun b o hb e=>hk b o (by simpa using hb) e
theorem yW {lo hj:Int} (h:0 <= lo /\ lo <= 16777216 /\ 0 <= hj /\ hj <= 16777216):Builtin.Range.small lo hj 1 = true:=by
 have f:∀ i:Int,0 <= i->i <= 16777216->Builtin.Range.rangeFitsLong i = true:=by
  intro i h0 h1
  unfold Builtin.Range.rangeFitsLong
  simp
  omega
 have e:0 <= Builtin.Range.rangeSize lo hj 1 /\ Builtin.Range.rangeSize lo hj 1 <= 16777216:=by
  unfold Builtin.Range.rangeSize
  rw [if_pos (by decide)]
  split <;> omega
 simp only [Builtin.Range.small,Bool.and_eq_true,Bool.or_eq_true]
 refine ⟨⟨⟨⟨f _ h.1 h.2.1,f _ h.2.2.1 h.2.2.2⟩,f _ (by omega) (by omega)⟩,f _ e.1 e.2⟩,.inr ?_⟩
 rw [if_pos (by decide)]
 exact f _ (by omega) (by omega)
theorem zeh {v:Value} {p:PV} {items:List PV} {Q:Value->Shared->Prop} (hi:InH G s.heap) (hv:VRel P G v p) (e:j4 p = some items)
  (h:∀ I h' Ws,GS G s G { s with heap:=h' }->s.heap.get? I = none->I < h'.objs.size->(∀ A',A'.handled = none->Itr prog w A' P I G items Ws)->Ws 0 h'->Q (.ref I) { s with heap:=h' }):
  wpAny (model prog w) A (pyIter v) Q E s:=by
 have push:∀ o:Obj,GS G s G { s with heap:=s.heap.push o } /\ s.heap.get? s.heap.objs.size = none /\ s.heap.objs.size < (s.heap.push o).objs.size:=fun o=>
  ⟨GS.heap hi s.toks fun a o' e=>Heap.get?_push_of_some _ e,eK,by rw [Heap.size_push]; omega⟩
 cases p <;> first | (cases e; done) | skip
 all_goals cases e
 ·rename_i x
  simp only [VRel] at hv
  obtain ⟨t,rfl,ok⟩:=hv
  cases ha:(⟨x.toArray⟩:Str).cps.all (· < 128)
  ·refine wpAny_pyIter_wide ha ?_
   obtain ⟨p1,p2,p3⟩:=push { cls:=.type "str_iterator",data:=.fields #[.str ⟨x.toArray⟩ t,.int 0 0] }
   exact h _ _ _ p1 p2 p3 (fun A' hA=>z6 (St:=fun i h=>h.IsStrIter s.heap.objs.size "str_iterator" ⟨x.toArray⟩ t i) (by simpa using Walks.strWide hA _ ⟨x.toArray⟩ t) (fun i h st=>let ⟨o,ho,_⟩:=st; ⟨o,ho⟩) ok) ⟨_,Heap.get?_push_size _ rfl,rfl,rfl⟩
  ·refine wpAny_pyIter_ascii ha ?_
   obtain ⟨p1,p2,p3⟩:=push { cls:=.type "str_ascii_iterator",data:=.fields #[.str ⟨x.toArray⟩ t,.int 0 0] }
   exact h _ _ _ p1 p2 p3 (fun A' hA=>z6 (St:=fun i h=>h.IsStrIter s.heap.objs.size "str_ascii_iterator" ⟨x.toArray⟩ t i) (by simpa using Walks.strAscii hA _ ⟨x.toArray⟩ t) (fun i h st=>let ⟨o,ho,_⟩:=st; ⟨o,ho⟩) ok) ⟨_,Heap.get?_push_size _ rfl,rfl,rfl⟩
 ·simp only [VRel] at hv
  obtain ⟨ax,⟨c,d,dt,sl⟩,vs,m,rfl,h1,h2,h3,h4,h5,h6⟩:=hv
  simp only at h2 h3 h4; subst h2 h3 h4
  have hl:∀ h,InH G h->h.IsList ax vs:=fun h ih=>⟨_,ih.at_ _ _ h1,rfl,m,rfl⟩
  have hne:ax ≠ s.heap.objs.size:=fun q=>by have:=hi.at_ _ _ h1; rw [q,eK] at this; cases this
  refine wpAny_pyIter_list (hl _ hi) ?_
  obtain ⟨p1,p2,p3⟩:=push { cls:=.type "list_iterator",data:=.fields #[.ref ax,.int 0 0] }
  exact h _ _ _ p1 p2 p3 (fun A' hA=>zb8 hA hne hl h6) ⟨⟨_,Heap.get?_push_size _ rfl,rfl,rfl⟩,hl _ p1.inh⟩
 ·rename_i lo hj
  simp only [VRel] at hv
  obtain ⟨r,t,u,z,rfl,h1,h2⟩:=hv
  refine wpAny_pyIter_range (hi.at_ _ _ h1) (yW h2) ?_
  obtain ⟨p1,p2,p3⟩:=push { cls:=.type "range_iterator",data:=.fields #[rawInt lo,rawInt (Builtin.Range.rangeSize lo hj 1),rawInt 1] }
  refine h _ _ _ p1 p2 p3 (fun A' hA=>z7 hA) ?_
  have e1:Builtin.Range.rangeSize lo hj 1 = ((hj - lo).toNat:Int):=by
   unfold Builtin.Range.rangeSize
   rw [if_pos (by decide)]
   split <;> omega
  have e2:rawInt (lo + ((0:Nat):Int) * 1) = rawInt lo:=by simp
  have e3:rawInt (((hj - lo).toNat:Int) - ((0:Nat):Int)) = rawInt (Builtin.Range.rangeSize lo hj 1):=by rw [e1]; simp
  show Heap.get? _ _ = _
  rw [e2,e3]
  exact Heap.get?_push_size _ rfl
end
section
variable {prog:Program} {w:World} {A:Around} {E:Value->Shared->Prop} {s:Shared} {G:GM} {P:Params} {env:Env} {st:St} {cw:Bool} {B:Bs}
theorem Rep.storeLocal (R:Rep P G env st s) {x:Str} {p:PV} {v:Value} {m:Str->Option Value} {h':Heap} {k:Nat} (hl:env.kindOf x = some .local) (hv:VRel P G v p)
  (hx:∀ y q,st.ρ y = some q->env.kindOf y = some .local->∃ u,m y = some u /\ VRel P G u q)
  (hn:h'.Ns env.locals (fun y=>if y = x then some v else m y)) (hs:Heap.SameBut env.locals s.heap h') (hk:1 <= k):
  Rep P G env ⟨upd st.ρ x p,st.σ⟩ { s with heap:=h',toks:=k } where
 inh:=R.inh.but (fun b o h e=>(hs.2 b h).trans e) R.gl R.lx
 tk:=hk
 ns:=⟨_,hn,fun y q e hy=>by
  simp only [upd] at e
  by_cases q1:y = x
  ·rw [if_pos q1] at e; cases e
   exact ⟨v,by rw [if_pos q1],hv⟩
  ·rw [if_neg q1] at e
   obtain ⟨u,h1,h2⟩:=hx y q e hy
   exact ⟨u,by rw [if_neg q1]; exact h1,h2⟩⟩
 kind:=fun y q e=>by
  simp only [upd] at e
  by_cases q1:y = x
  ·subst q1; exact .inl hl
  ·rw [if_neg q1] at e; exact R.kind y q e
 cel:=fun y q e hy=>by
  simp only [upd] at e
  by_cases q1:y = x
  ·subst q1; exact absurd hl hy
  ·rw [if_neg q1] at e
   obtain ⟨c,u,h1,h2,h3⟩:=R.cel y q e hy
   exact ⟨c,u,h1,h2.sameBut hs (R.gc y c h1).2,h3⟩
 cell0:=fun y e=>by
  obtain ⟨c,u,h1,h2⟩:=R.cell0 y e
  exact ⟨c,u,h1,h2.sameBut hs (R.gc y c h1).2⟩
 gl:=R.gl
 gc:=R.gc
 cinj:=R.cinj
 cells:=fun a c e=>by
  obtain ⟨h1,h2,h3,h4⟩:=R.cells a c e
  refine ⟨?_,h2,h3,h4⟩
  exact h1.mono (.refl _) fun o ho=>(hs.2 a h3).trans ho
theorem Ok.storeLocal (O:Ok B P G env st s) {x:Str} {p:PV} {v:Value} {m:Str->Option Value} {h':Heap} {k:Nat} (hl:env.kindOf x = some .local) (hv:VRel P G v p)
  (hx:∀ y q,st.ρ y = some q->env.kindOf y = some .local->∃ u,m y = some u /\ VRel P G u q) (hm:s.heap.Ns env.locals m)
  (hn:h'.Ns env.locals (fun y=>if y = x then some v else m y)) (hs:Heap.SameBut env.locals s.heap h') (hk:1 <= k):
  Ok B P G env ⟨upd st.ρ x p,st.σ⟩ { s with heap:=h',toks:=k } /\ Tr cw env G st s G ⟨upd st.ρ x p,st.σ⟩ { s with heap:=h',toks:=k }:=by
 have al:(h'.get? env.locals).isSome = true:=by obtain ⟨o,_,_,h1,_⟩:=hn; rw [h1]; rfl
 refine ⟨⟨O.over,O.rep.storeLocal hl hv hx hn hs hk,O.ct.same hs al⟩,⟨.refl _,fun _ _ e=>.inl e,fun a o _ e h1 _ _=>(hs.2 a h1).trans e,fun a e=>?_,fun _ e=>e,fun _ e=>.inl e,rfl,fun e=>e⟩⟩
 by_cases q:a = env.locals
 ·subst q; exact al
 ·show (h'.get? a).isSome = true
  rw [hs.2 a q]; exact e
theorem Rep.storeCell (R:Rep P G env st s) {x:Str} {p:PV} {v:Value} {c:Addr} {h':Heap} {k:Nat} (hl:env.kindOf x = some .cell) (hc:env.cells.lookup x = some c) (hv:VRel P G v p)
  (hn:h'.IsCell c (some v)) (hs:Heap.SameBut c s.heap h') (hk:1 <= k):
  Rep P G env ⟨upd st.ρ x p,st.σ⟩ { s with heap:=h',toks:=k } where
 inh:=R.inh.but (fun b o h e=>(hs.2 b h).trans e) (R.gc x c hc).1 (R.cx hl hc)
 tk:=hk
 ns:=by
  obtain ⟨m,h1,h2⟩:=R.ns
  refine ⟨m,h1.sameBut hs (Ne.symm (R.gc x c hc).2),fun y q e hy=>?_⟩
  simp only [upd] at e
  by_cases q1:y = x
  ·subst q1; rw [hl] at hy; cases hy
  ·rw [if_neg q1] at e; exact h2 y q e hy
 kind:=fun y q e=>by
  simp only [upd] at e
  by_cases q1:y = x
  ·subst q1; exact .inr (.inl hl)
  ·rw [if_neg q1] at e; exact R.kind y q e
 cel:=fun y q e hy=>by
  simp only [upd] at e
  by_cases q1:y = x
  ·subst q1; rw [if_pos rfl] at e; cases e
   exact ⟨c,v,hc,hn,hv⟩
  ·rw [if_neg q1] at e
   obtain ⟨d,u,h1,h2,h3⟩:=R.cel y q e hy
   exact ⟨d,u,h1,h2.sameBut hs fun q2=>q1 (R.cinj y x c (q2 ▸ h1) hc),h3⟩
 cell0:=fun y e=>by
  by_cases q1:y = x
  ·subst q1; exact ⟨c,some v,hc,hn⟩
  ·obtain ⟨d,u,h1,h2⟩:=R.cell0 y e
   exact ⟨d,u,h1,h2.sameBut hs fun q2=>q1 (R.cinj y x c (q2 ▸ h1) hc)⟩
 gl:=R.gl
 gc:=R.gc
 cinj:=R.cinj
 cells:=fun a d e=>by
  obtain ⟨h1,h2,h3,h4⟩:=R.cells a d e
  refine ⟨?_,h2,h3,h4⟩
  exact h1.mono (.refl _) fun o ho=>(hs.2 a fun q=>h4 x (q ▸ hc)).trans ho
theorem Ok.storeCell (O:Ok B P G env st s) {x:Str} {p:PV} {v:Value} {c:Addr} {h':Heap} {k:Nat} (hl:env.kindOf x = some .cell) (hc:env.cells.lookup x = some c) (hv:VRel P G v p)
  (hn:h'.IsCell c (some v)) (hs:Heap.SameBut c s.heap h') (hk:1 <= k):
  Ok B P G env ⟨upd st.ρ x p,st.σ⟩ { s with heap:=h',toks:=k } /\ Tr true env G st s G ⟨upd st.ρ x p,st.σ⟩ { s with heap:=h',toks:=k }:=by
 have al:(h'.get? c).isSome = true:=by obtain ⟨o,h1,_⟩:=hn; rw [h1]; rfl
 refine ⟨⟨O.over,O.rep.storeCell hl hc hv hn hs hk,O.ct.same hs al⟩,⟨.refl _,fun _ _ e=>.inl e,fun a o _ e h1 h2 _=>(hs.2 a fun q=>h2 rfl x (q ▸ hc)).trans e,fun a e=>?_,fun _ e=>e,fun _ e=>.inl e,rfl,fun e=>e⟩⟩
 by_cases q:a = c
 ·subst q; exact al
 ·show (h'.get? a).isSome = true
  rw [hs.2 a q]; exact e
noncomputable def ze8 (cw:Bool) (env:Env) (x:Str):Prop:=env.kindOf x = some .local \/ (cw = true /\ env.kindOf x = some .cell)
theorem nI {x:Str} {p:PV} {v:Value} (hE:EnvOk env) (O:Ok B P G env st s) (hx:ze8 cw env x) (hv:VRel P G v p):
  wpAny (model prog w) A (storeName env x v) (Lands B P cw env G st s (fun _ st' _=>st' = ⟨upd st.ρ x p,st.σ⟩)) E s:=by
 have hp:(env.scope.kind == .class || (env.scope.kind == .module && env.locals != env.globals)) = false:=by rw [hE.kind]; rfl
 rcases hx with hl | ⟨rfl,hl⟩
 ·obtain ⟨m,h1,h2⟩:=O.rep.ns
  refine wpAny_storeName_local hl h1 (fun h' hn hs=>?_) hp
  obtain ⟨O',T'⟩:=O.storeLocal (cw:=cw) (k:=s.toks + 1) hl hv h2 h1 hn hs (by omega)
  exact ⟨G,_,rfl,O',T'⟩
 ·obtain ⟨c,u,h1,h2⟩:=O.rep.cell0 x hl
  refine wpAny_storeName_cell hE.kind hl h1 h2 fun h' hn hs=>?_
  obtain ⟨O',T'⟩:=O.storeCell (k:=s.toks) hl h1 hv hn hs O.rep.tk
  exact ⟨G,_,rfl,O',T'⟩
theorem pJ {vs:List PV} {ρ ρ':f9} (h:dE [] vs ρ = some ρ'):vs = [] /\ ρ' = ρ:=by
 cases vs with
 | nil=>cases h; exact ⟨rfl,rfl⟩
 | cons v vs=>cases h
theorem mV {e:Expr} {es:List Expr} {vs:List PV} {ρ ρ':f9} (h:dE (e :: es) vs ρ = some ρ'):∃ x px v us,e = .Name x px /\ vs = v :: us /\ dE es us (upd ρ x v) = some ρ':=by
 obtain ⟨x,hx,h⟩:=Option.bind_eq_some_iff.mp h
 obtain ⟨px,rfl⟩:=gX hx
 cases vs with
 | nil=>cases h
 | cons v us=>exact ⟨x,px,v,us,rfl,rfl,h⟩
theorem u0 (hE:EnvOk env):∀ (es:List Expr) (ps:List PV) (vs:List Value) (ρ':f9) (G:GM) (st:St) (s:Shared),Ok B P G env st s->(∀ x ∈ es.filterMap nmE,ze8 cw env x)->VRels P G vs ps->
  dE es ps st.ρ = some ρ'->wpAny (model prog w) A (assignInOrder ((assignEach es env).map (·.2)) vs) (Lands B P cw env G st s (fun _ st' _=>st' = ⟨ρ',st.σ⟩)) E s
 | [],ps,vs,ρ',G,st,s,O,hx,hr,h=>by
  obtain ⟨rfl,rfl⟩:=pJ h
  cases hr
  exact wpAny_pure (aK O rfl)
 | e :: es,ps,vs,ρ',G,st,s,O,hx,hr,h=>by
  obtain ⟨x,px,p,ps,rfl,rfl,h⟩:=mV h
  obtain ⟨v,us,rfl,h1,h2⟩:=hr
  show wpAny _ _ (do holding us (assign (.Name x px) env v); assignInOrder ((assignEach es env).map (·.2)) us) _ _ _
  refine wpAny_bind (wpAny_holding (wpAny_assign_Name (aH (nI (p:=p) hE O (hx x List.mem_cons_self) h1) fun _ G1 st1 s1 e1 O1 T1=>?_)))
  subst e1
  exact aN T1 (u0 hE es ps us ρ' G1 _ s1 O1 (fun y hy=>hx y (List.mem_cons_of_mem _ hy)) (h2.mono T1.ext) h)
theorem iI (env:Env):∀ (es:List Expr) (ps:List PV) (ρ ρ':f9),dE es ps ρ = some ρ'->(assignEach es env).length = ps.length /\ (assignEach es env).findIdx? (·.1) = none
 | [],ps,_,_,h=>by obtain ⟨rfl,_⟩:=pJ h; exact ⟨rfl,rfl⟩
 | e :: es,ps,ρ,ρ',h=>by
  obtain ⟨x,px,v,us,rfl,rfl,h⟩:=mV h
  obtain ⟨h1,h2⟩:=iI env es us _ _ h
  refine ⟨congrArg Nat.succ h1,?_⟩
  show ((false,assign (.Name x px) env) :: assignEach es env).findIdx? (·.1) = none
  rw [List.findIdx?_cons,h2]; rfl
theorem sU (hh:A.handled = none) (hE:EnvOk env) {t:Expr} {p:PV} {v:Value} {ρ':f9} (O:Ok B P G env st s) (hx:∀ x ∈ cO t,ze8 cw env x) (hv:VRel P G v p) (h:kD t p st.ρ = some ρ'):
  wpAny (model prog w) A (assign t env v) (Lands B P cw env G st s (fun _ st' _=>st' = ⟨ρ',st.σ⟩)) E s:=by
 unfold kD at h
 unfold cO at hx
 cases hn:nmE t with
 | some x=>
  rw [hn] at h hx
  obtain ⟨px,rfl⟩:=gX hn
  cases h
  exact wpAny_assign_Name (nI hE O (hx x List.mem_cons_self) hv)
 | none=>
  rw [hn] at h hx
  obtain ⟨es,he,hb⟩:=Option.bind_eq_some_iff.mp h
  clear h
  obtain ⟨k,ppos,rfl⟩:=xS he
  cases p <;> first | (cases hb; done) | skip
  rename_i ps
  have h:dE es ps st.ρ = some ρ':=hb
  clear hb
  simp only [VRel] at hv
  obtain ⟨a,⟨c,d,dt,sl⟩,vs,m,rfl,h1,h2,h3,h4,h5⟩:=hv
  simp only at h2 h3; subst h2 h3
  obtain ⟨l1,l2⟩:=iI env es ps _ _ h
  have l3:=h5.length
  rw [Array.length_toList] at l3
  refine wpAny_assign_Tuple hh ⟨_,O.rep.inh.at_ _ _ h1,rfl,m,rfl⟩ (by rw [l1,l3]) l2 fun h' hx'=>?_
  have g:GS G s G { s with heap:=h' }:=GS.heap O.rep.inh s.toks fun a o e=>hx' a o (fun q=>by rw [q,eK] at e; cases e) e
  exact aN g.tr (u0 hE es ps vs.toList ρ' G st _ (O.grow g O.rep.tk) hx h5 h)
end
theorem mem_of_lookup {α:Type}:∀ {l:List (Str × α)} {x:Str} {a:α},List.lookup x l = some a->(x,a) ∈ l
 | [],_,_,h=>by simp at h
 | (n,k) :: r,x,a,h=>by
  rw [List.lookup_cons] at h
  cases hx:x == n with
  | true=>rw [hx] at h; cases h; have:=beq_iff_eq.mp hx; subst this; simp
  | false=>rw [hx] at h; exact List.mem_cons_of_mem _ (mem_of_lookup h)
theorem y9 {h:Heap} {a:Addr} (e:h.objs.size <= a):h.get? a = none:=by
 cases q:h.get? a with
 | none=>rfl
 | some o=>exact absurd (Heap.lt_size q) (Nat.not_lt.mpr e)
noncomputable def TE (prog:Program) (w:World) (A:Around) (R:Result->Shared->Prop) (env:Env):=notedBy (model prog w) A env fun e s'=>R (.error e) s'
structure Fr (G:GM) (σ:Nat->Option Cell) (s:Shared) (G':GM) (σ':Nat->Option Cell) (s':Shared):Prop where
 ext:Sub G G'
 new:∀ a o,G' a = some o->G a = some o \/ s.heap.get? a = none
 keep:∀ a o,¬ XS a->s.heap.get? a = some o->σ a = none->s'.heap.get? a = some o
 alive:∀ a,(s.heap.get? a).isSome = true->(s'.heap.get? a).isSome = true
 dom:∀ a,(σ a).isSome = true->(σ' a).isSome = true
 fresh:∀ a,(σ' a).isSome = true->(σ a).isSome = true \/ s.heap.get? a = none
 os:s'.os = s.os
 gens:AllBare s.gens->AllBare s'.gens
section
variable {P:Params} {G G' G'':GM} {env cenv:Env} {st st' st'':St} {s s' s'':Shared} {cw:Bool} {σ σ' σ'':Nat->Option Cell} {B:Bs} {ρ:f9}
theorem Fr.tr {ρ ρ':f9} (F:Fr G σ s G' σ' s'):Tr cw env G ⟨ρ,σ⟩ s G' ⟨ρ',σ'⟩ s':=⟨F.ext,F.new,fun a o n e _ _ h=>F.keep a o n e h,F.alive,F.dom,F.fresh,F.os,F.gens⟩
theorem pI {a:Addr} (k:(s.heap.get? a).isSome = true->(s'.heap.get? a).isSome = true) (h:s'.heap.get? a = none):s.heap.get? a = none:=by
 cases e:s.heap.get? a with
 | none=>rfl
 | some o=>have:=k (by rw [e]; rfl); rw [h] at this; cases this
theorem Ok.at1 {ρ:f9} (O:Ok B P G env ⟨ρ,σ⟩ s) {I:Addr} (h1:G I = none) (h2:σ I = none) (h3:I ≠ env.locals) (h4:∀ x,env.cells.lookup x ≠ some I) (h5:¬ XS I) {h':Heap} {k:Nat} (hk:1 <= k)
  (kp:∀ b o,b ≠ I->s.heap.get? b = some o->h'.get? b = some o):Ok B P G env ⟨ρ,σ⟩ { s with heap:=h',toks:=k }:=by
 have R:=O.rep
 obtain ⟨m,hn,hx⟩:=R.ns
 refine ⟨O.over,⟨R.inh.but kp h1 h5,hk,⟨m,hn.at' fun o e=>kp _ o (Ne.symm h3) e,hx⟩,R.kind,?_,?_,R.gl,R.gc,R.cinj,?_⟩,?_⟩
 ·intro x p e hk
  obtain ⟨c,v,g1,g2,g3⟩:=R.cel x p e hk
  exact ⟨c,v,g1,dJ g2 fun o e=>kp c o (fun q=>h4 x (q ▸ g1)) e,g3⟩
 ·intro x e
  obtain ⟨c,v,g1,g2⟩:=R.cell0 x e
  exact ⟨c,v,g1,dJ g2 fun o e=>kp c o (fun q=>h4 x (q ▸ g1)) e⟩
 ·intro a c e
  obtain ⟨g1,g2,g3⟩:=R.cells a c e
  exact ⟨g1.mono (.refl _) fun o ho=>kp a o (fun q=>by rw [q] at e; dsimp only at e; rw [h2] at e; cases e) ho,g2,g3⟩
 ·intro x c e
  obtain ⟨o,ho⟩:=O.ct x c e
  exact ⟨o,kp c o (fun q=>h4 x (q ▸ e)) ho⟩
theorem Ok.g0 (O:Ok B P G env ⟨ρ,σ⟩ s) {a:Addr} (h:s.heap.get? a = none):G a = none:=by
 cases e:G a with
 | none=>rfl
 | some o=>have:=O.rep.inh.at_ a o e; rw [h] at this; cases this
theorem Ok.s0 (O:Ok B P G env ⟨ρ,σ⟩ s) {a:Addr} (h:s.heap.get? a = none):σ a = none:=by
 cases e:σ a with
 | none=>rfl
 | some c=>obtain ⟨o,ho⟩:=(O.rep.cells a c e).1.alive; rw [h] at ho; cases ho
theorem Ok.c0 (O:Ok B P G env ⟨ρ,σ⟩ s) {a:Addr} (h:s.heap.get? a = none):∀ x,env.cells.lookup x ≠ some a:=fun x e=>by
 obtain ⟨o,ho⟩:=O.ct x a e; rw [h] at ho; cases ho
theorem Ok.l0 (O:Ok B P G env ⟨ρ,σ⟩ s) {a:Addr} (h:s.heap.get? a = none):a ≠ env.locals:=fun e=>by
 obtain ⟨m,⟨o,_,_,h1,_⟩,_⟩:=O.rep.ns; rw [<- e,h] at h1; cases h1
theorem zdG {cenv:Env} {G G':GM} {st st':St} {s s':Shared} {cw:Bool} (T:Tr cw cenv G st s G' st' s') {a:Addr} {o:Obj} (h:s.heap.get? a = some o) (g:G a = none):G' a = none:=by
 cases e:G' a with
 | none=>rfl
 | some o'=>
  rcases T.new a o' e with q | q
  ·rw [g] at q; cases q
  ·rw [h] at q; cases q
theorem xU {cenv:Env} {G G':GM} {st st':St} {s s':Shared} {cw:Bool} (T:Tr cw cenv G st s G' st' s') {a:Addr} {o:Obj} (h:s.heap.get? a = some o) (g:st.σ a = none):st'.σ a = none:=by
 cases e:st'.σ a with
 | none=>rfl
 | some c=>
  rcases T.fresh a (by rw [e]; rfl) with q | q
  ·rw [g] at q; cases q
  ·rw [h] at q; cases q
end
noncomputable def zd9 (e:Expr):Bool:=Expr.casesOn (motive_1:=fun _=>Bool) e (fun _ _ _=>true) (fun _ _ _=>true) (fun _ _ _ _=>true) (fun _ _ _=>true) (fun _ _ _ _=>true) (fun _ _ _ _=>true) (fun _ _ _=>true) (fun _ _ _=>false) (fun _ _ _ _=>true) (fun _ _ _ _=>true) (fun _ _ _ _ _=>true) (fun _ _ _ _=>true) (fun _ _=>true) (fun _ _=>true) (fun _ _=>true) (fun _ _ _ _=>true) (fun _ _ _ _=>true) (fun _ _ _ _=>true) (fun _ _=>true) (fun _ _ _=>true) (fun _ _ _=>true) (fun _ _ _=>true) (fun _ _=>true) (fun _ _=>true) (fun _ _=>true) (fun _ _ _=>true) (fun _ _ _ _=>true)
theorem zai {e:Expr} (h:zd9 e = true) (env:Env) (x:Value):foldedSetIterable e env x = pure x:=by
 cases e <;> first | rfl | cases h
noncomputable def okN (x:Str):Bool:=!(x == ("__debug__" : Str)) && !(x == ("__classdict__" : Str))
noncomputable def zdz (f:Expr) (p:Pos):Bool:=exc true (fun _=>true) (fun _=>true) (fun _=>true) (fun _ _ ap=>ap.endLine == p.line) (fun _ _=>true) (fun _ _=>true) f
mutual
noncomputable def okE:Expr->Bool
 | .Constant c _ _=>okC c
 | .Name x _=>okN x
 | .BoolOp _ vs _=>zbP vs && !vs.isEmpty
 | .BinOp l _ r _=>okE l && okE r
 | .UnaryOp _ x _=>okE x
 | .IfExp t b o _=>okE t && (okE b && okE o)
 | .Compare l ops cs _=>okE l && (zbP cs && ((cs.length == ops.length) && !(lastMarks ops cs)))
 | .Call f args _ p=>okE f && (zbP args && (args.all dH && (decide (args.length < 30) && zdz f p)))
 | .Attribute o _ _=>iZ o && okE o
 | .Subscript o i _=>okE o && okE i
 | .List es _=>zbP es && (es.all dH && decide (es.length <= 1000))
 | .Tuple es _ _=>zbP es && (es.all dH && decide (es.length <= 1000))
 | .Slice l u sp _=>sp.isNone && (okO l && okO u)
 | .FormattedValue e _ _ _=>okE e
 | .JoinedStr vs _=>zbP vs
 | .NamedExpr _ _ _=>true
 | .Lambda _ _ _ _=>true
 | .Dict _ _ _=>true
 | .Set _ _ _=>true
 | .ListComp _ _ _ _=>true
 | .SetComp _ _ _ _=>true
 | .DictComp _ _ _ _ _=>true
 | .GeneratorExp _ _ _ _=>true
 | .Await _ _=>true
 | .Yield _ _=>true
 | .YieldFrom _ _=>true
 | .Starred _ _=>true
noncomputable def okO:Option Expr->Bool
 | none=>true
 | some e=>okE e
noncomputable def zbP:List Expr->Bool
 | []=>true
 | e :: es=>okE e && zbP es
end
theorem zbp {i:Expr} (h:wY i = false) (a b:Value):subscripted i false a b = operate [a,b] (getItem a b):=by
 cases i <;> first | (cases h; done) | rfl
section
variable {prog:Program} {w:World} {B:Bs} {C:Ctx} {n:Nat}
theorem bH {a b:Bool} (h:(a && b) = true):a = true /\ b = true:=Bool.and_eq_true_iff.mp h
theorem fC {b:Bool} (h:(!b) = true):b = false:=by cases b <;> first | rfl | cases h
noncomputable def zgv (prog:Program) (w:World) (B:Bs) (C:Ctx) (n:Nat) (e:Expr):Prop:=exc True (fun _=>True) (fun _=>True) (fun _=>True) (fun o _ _=>iZ o = true /\ dN prog w B C n o) (fun l u=>(∀ e,l = some e->dN prog w B C n e) /\ ∀ e,u = some e->dN prog w B C n e)
 (fun _ _=>True) e
noncomputable def ze9 (prog:Program) (w:World) (B:Bs) (C:Ctx) (n:Nat) (e:Expr):Prop:=dN prog w B C n e /\ q7 prog w B C n e /\ zgv prog w B C n e
theorem za2 {e:Expr} (a:dN prog w B C n e) (b:∀ env whole,isTrue e env whole = (do let v <- whole; standAt e.pos; holding [v] (truthy v))) (c:zgv prog w B C n e):ze9 prog w B C n e:=⟨a,mO a b,c⟩
theorem bad {e:Expr} (h:∀ κ Q st,¬ wE C e κ Q st) (c:zgv prog w B C n e):ze9 prog w B C n e:=
 ⟨fun _ _ _ _ _ _ _ _ _ _ _ _ _ hw=>(h _ _ _ hw).elim,fun _ _ _ _ _ _ _ _ _ _ _ _ _ hw=>(h _ _ _ hw).elim,c⟩
theorem yM {f:Expr} {args:List Expr} {kws:List Keyword} {p:Pos} (hB:BsOk B) (hC:CtxOk prog w B C n) (hf:okE f = true) (hf':zgv prog w B C n f) (ha:∀ e ∈ args,ze9 prog w B C n e) (hoks:zbP args = true) (hs:args.all dH = true) (hl:args.length < 30) (hp:zdz f p = true):dN prog w B C n (.Call f args kws p):=by
 intro A E cw env κ G st s Q hA hE hκ O hw
 have hk:kws = []:=by have:=hw.1; cases kws <;> first | rfl | cases this
 subst hk
 cases f <;> first | exact False.elim hw.2 | skip
 ·obtain ⟨h1,h2⟩:=hf'
  cases hr:c8 args with
  | none=>exact zby h2 (fun e he=>(ha e he).1) hs h1 hl hp hr A E cw env κ G st s Q hA hE hκ O hw
  | some xy=>
   have hy:okC (.str xy.2) = true:=by
    obtain ⟨k1,p1,k2,p2,q⟩:=pE (x:=xy.1) (y:=xy.2) hr
    subst q
    exact (bH (bH hoks).2).1
   exact zbw h2 h1 hp hr hy A E cw env κ G st s Q hA hE hκ O hw
 ·exact zbB hB hC (fun e he=>(ha e he).1) hs (fC (bH hf).1) A E cw env κ G st s Q hA hE hκ O hw
theorem zbv {o i:Expr} {p:Pos} (ho:dN prog w B C n o) (hk:okE i = true) (hi:ze9 prog w B C n i):dN prog w B C n (.Subscript o i p):=by
 cases h:wY i with
 | false=>exact zdS ho hi.1 (zbp h) h
 | true=>
  cases i <;> first | (cases h; done) | skip
  rename_i l u sp q
  cases sp with
  | none=>exact yJ ho hi.2.2.1 hi.2.2.2
  | some sp=>cases hk
mutual
theorem e9 (hB:BsOk B) (hC:CtxOk prog w B C n):∀ e:Expr,okE e = true->ze9 prog w B C n e
 | .Constant _ _ _,h=>za2 (yL h) (fun _ _=>rfl) trivial
 | .Name _ _,h=>za2 (zbx hB hC (fC (bH h).1) (fC (bH h).2)) (fun _ _=>rfl) trivial
 | .BoolOp _ vs _,h=>⟨zc1 vs fun e he=>(iB hB hC vs (bH h).1 e he).1,yO vs (fun e he=>(iB hB hC vs (bH h).1 e he).2.1) (fun q=>by subst q; cases (bH h).2),trivial⟩
 | .BinOp l _ r _,h=>za2 (zdV (e9 hB hC l (bH h).1).1 (e9 hB hC r (bH h).2).1) (fun _ _=>rfl) trivial
 | .UnaryOp op x _,h=>⟨zcZ (e9 hB hC x h).1,by
   have hx:=e9 hB hC x h
   cases op with
   | Not=>exact zbD hC.mono hx.2.1
   | _=>exact mO (zcZ hx.1) fun _ _=>rfl,trivial⟩
 | .IfExp t b o _,h=>⟨yK (e9 hB hC t (bH h).1).2.1 (e9 hB hC b (bH (bH h).2).1).1 (e9 hB hC o (bH (bH h).2).2).1,vV (e9 hB hC t (bH h).1).2.1 (e9 hB hC b (bH (bH h).2).1).2.1 (e9 hB hC o (bH (bH h).2).2).2.1,trivial⟩
 | .Compare l _ cs _,h=>⟨zdU (e9 hB hC l (bH h).1).1 (fun e he=>(iB hB hC cs (bH (bH h).2).1 e he).1) (beq_iff_eq.mp (bH (bH (bH h).2).2).1) (fC (bH (bH (bH h).2).2).2),
   zbE (e9 hB hC l (bH h).1).1 (fun e he=>(iB hB hC cs (bH (bH h).2).1 e he).1) (beq_iff_eq.mp (bH (bH (bH h).2).2).1) (fC (bH (bH (bH h).2).2).2),trivial⟩
 | .Call f args _ _,h=>za2 (yM hB hC (bH h).1 (e9 hB hC f (bH h).1).2.2 (iB hB hC args (bH (bH h).2).1) (bH (bH h).2).1 (bH (bH (bH h).2).2).1 (of_decide_eq_true (bH (bH (bH (bH h).2).2).2).1) (bH (bH (bH (bH h).2).2).2).2) (fun _ _=>rfl) trivial
 | .Attribute o _ _,h=>za2 (zbC hB hC (e9 hB hC o (bH h).2).1 (bH h).1) (fun _ _=>rfl) ⟨(bH h).1,(e9 hB hC o (bH h).2).1⟩
 | .Subscript o i _,h=>za2 (zbv (e9 hB hC o (bH h).1).1 (bH h).2 (e9 hB hC i (bH h).2)) (fun _ _=>rfl) trivial
 | .List es _,h=>za2 (zbz hC.mono (fun e he=>(iB hB hC es (bH h).1 e he).1) (bH (bH h).2).1 (of_decide_eq_true (bH (bH h).2).2)) (fun _ _=>rfl) trivial
 | .Tuple es _ _,h=>za2 (yI hC.mono (fun e he=>(iB hB hC es (bH h).1 e he).1) (bH (bH h).2).1 (of_decide_eq_true (bH (bH h).2).2)) (fun _ _=>rfl) trivial
 | .ListComp _ _ _ _,_=>bad (fun _ _ _ h=>h) trivial
 | .Slice l u _ _,h=>bad (fun _ _ _ h=>h) ⟨zfv hB hC l (bH (bH h).2).1,zfv hB hC u (bH (bH h).2).2⟩
 | .NamedExpr _ _ _,_=>bad (fun _ _ _ h=>h) trivial
 | .Lambda _ _ _ _,_=>bad (fun _ _ _ h=>h) trivial
 | .Dict _ _ _,_=>bad (fun _ _ _ h=>h) trivial
 | .Set _ _ _,_=>bad (fun _ _ _ h=>h) trivial
 | .SetComp _ _ _ _,_=>bad (fun _ _ _ h=>h) trivial
 | .DictComp _ _ _ _ _,_=>bad (fun _ _ _ h=>h) trivial
 | .GeneratorExp _ _ _ _,_=>bad (fun _ _ _ h=>h) trivial
 | .Await _ _,_=>bad (fun _ _ _ h=>h) trivial
 | .Yield _ _,_=>bad (fun _ _ _ h=>h) trivial
 | .YieldFrom _ _,_=>bad (fun _ _ _ h=>h) trivial
 | .FormattedValue e _ _ _,h=>za2 (zdT (e9 hB hC e h).1) (fun _ _=>rfl) trivial
 | .JoinedStr vs _,h=>za2 (zbA fun e he=>(iB hB hC vs h e he).1) (fun _ _=>rfl) trivial
 | .Starred _ _,_=>bad (fun _ _ _ h=>h) trivial
theorem iB (hB:BsOk B) (hC:CtxOk prog w B C n):∀ es:List Expr,zbP es = true->∀ e ∈ es,ze9 prog w B C n e
 | [],_=>fun _ h=>nomatch h
 | a :: es,h=>List.forall_mem_cons.mpr ⟨e9 hB hC a (bH h).1,iB hB hC es (bH h).2⟩
theorem zfv (hB:BsOk B) (hC:CtxOk prog w B C n):∀ e:Option Expr,okO e = true->∀ x,e = some x->dN prog w B C n x
 | none,_=>fun _ h=>nomatch h
 | some a,h=>fun _ e=>by cases e; exact (e9 hB hC a h).1
end
theorem snd (hB:BsOk B) (hC:CtxOk prog w B C n) {e:Expr} (h:okE e = true):dN prog w B C n e:=(e9 hB hC e h).1
theorem zgF (hB:BsOk B) (hC:CtxOk prog w B C n) {e:Expr} (h:okE e = true):q7 prog w B C n e:=(e9 hB hC e h).2.1
end
noncomputable section
noncomputable abbrev nV (K:St->Prop) (Q:Fl->St->Prop) (fl:Fl) (st:St):Prop:=Fl.casesOn (motive:=fun _=>Prop) fl (K st) (Q .next st) (K st) fun r=>Q (.ret r) st
noncomputable def eW (T:(PV->St->Prop)->St->Prop) (B:(Fl->St->Prop)->St->Prop) (O:(Fl->St->Prop)->St->Prop) (Q:Fl->St->Prop):Nat->St->Prop
 | 0,_=>False
 | n + 1,st=>T (tst fun b st1=>if b = true then B (nV (eW T B O Q n) Q) st1 else O Q st1) st
noncomputable def dS (tgt:Expr) (B:(Fl->St->Prop)->St->Prop) (O:(Fl->St->Prop)->St->Prop) (Q:Fl->St->Prop):List PV->St->Prop
 | [],st=>O Q st
 | v :: vs,st=>opt (kD tgt v st.ρ) fun ρ1=>B (nV (dS tgt B O Q vs) Q) ⟨ρ1,st.σ⟩
noncomputable def dB (κ:Kn) (x:Str):Bool:=κ x == some .local || κ x == some .cell
noncomputable def mJ (ts:List Expr):Option (Str × Str):=List.casesOn (motive:=fun _=>Option (Str × Str)) ts none fun t r=>List.casesOn (motive:=fun _=>Option (Str × Str)) r
 (exc none (fun _=>none) (fun _=>none) (fun _=>none) (fun o n _=>(nmE o).map fun x=>(x,n)) (fun _ _=>none) (fun _ _=>none) t) fun _ _=>none
noncomputable def dT (C:Ctx) (κ:Kn) (targets:List Expr) (v:PV) (st:St) (K:St->Prop):Prop:=
 mT (mJ targets) (targets.all (fun t=>(cO t).all (dB κ)) = true /\ opt (iO targets v st.ρ) fun ρ'=>K ⟨ρ',st.σ⟩)
  fun xn=>opt (st.ρ xn.1) fun p=>asP p fun a=>setCell C a xn.2 v st K
noncomputable def cQ (e:Expr):Option (List Expr):=zaI none (fun f args kws=>exc none (fun _=>none) (fun _=>none) (fun _=>none) (fun o m _=>if nmE o = some "Node" /\ m = "__init__" /\ kws.isEmpty = true then some args else none) (fun _ _=>none) (fun _ _=>none) f) none e
noncomputable def sH (C:Ctx) (vs:List PV) (st:St) (K:St->Prop):Prop:=x6 vs fun p va vb=>asP p fun ad=>setCell C ad "source_line" va st fun st3=>setCell C ad "source_column" vb st3 K
noncomputable def i6 (e:Expr):Bool:=Expr.casesOn (motive_1:=fun _=>Bool) e (fun _ _ _=>false) (fun _ _ _=>false) (fun _ _ _ _=>false) (fun _ _ _=>false) (fun _ _ _ _=>false) (fun _ _ _ _=>false) (fun _ _ _=>false) (fun _ _ _=>false) (fun _ _ _ _=>true) (fun _ _ _ _=>true) (fun _ _ _ _ _=>true) (fun _ _ _ _=>false) (fun _ _=>false) (fun _ _=>false) (fun _ _=>false) (fun _ _ _ _=>false) (fun _ _ _ _=>false) (fun _ _ _ _=>false) (fun _ _=>false) (fun _ _ _=>false) (fun _ _ _=>false) (fun _ _ _=>false) (fun _ _=>false) (fun _ _=>false) (fun _ _=>false) (fun _ _ _=>false) (fun _ _ _ _=>false)
noncomputable def c7 (K:St->Prop) (Q:Fl->St->Prop) (fl:Fl) (st:St):Prop:=Fl.casesOn (motive:=fun _=>Prop) fl (K st) (Q .brk st) (Q .cont st) fun v=>Q (.ret v) st
mutual
noncomputable def wS (C:Ctx) (κ:Kn):Stmt->(Fl->St->Prop)->St->Prop
 | .Expr v _,Q,st=>mT (cQ v) (i6 v = false /\ wE C v κ (fun _ st1=>Q .next st1) st) fun args=>C.ini = true /\ κ "Node" = some .globalImplicit /\ wEs C args κ (fun vs st1=>sH C vs st1 fun st2=>Q .next st2) st
 | .Break _,Q,st=>Q .brk st
 | .Continue _,Q,st=>Q .cont st
 | .Return e _,Q,st=>opt e fun e=>wE C e κ (fun v st1=>Q (.ret v) st1) st
 | .Assign ts e _,Q,st=>wE C e κ (fun v st1=>dT C κ ts v st1 fun st2=>Q .next st2) st
 | .AugAssign t op e _,Q,st=>opt (nmE t) fun x=>dB κ x = true /\ opt (st.ρ x) fun old=>wE C e κ (fun v st1=>inP op old v fun r=>Q .next ⟨upd st1.ρ x r,st1.σ⟩) st
 | .If t b o _,Q,st=>wE C t κ (tst fun c st1=>if c = true then wSs C κ b Q st1 else wSs C κ o Q st1) st
 | .While t b o _,Q,st=>∃ n,eW (wE C t κ) (wSs C κ b) (wSs C κ o) Q n st
 | .For tgt iter b o _,Q,st=>(cO tgt).all (dB κ) = true /\ wE C iter κ (fun v st1=>opt (j4 v) fun items=>items.length <= aO /\ dS tgt (wSs C κ b) (wSs C κ o) Q items st1) st
 | .Assert t _ _,Q,st=>wE C t κ (tst fun c st1=>c = true /\ Q .next st1) st
 | .Try b hs o fin _,Q,st=>hs.isEmpty = false /\ fin.isEmpty = true /\ wSs C κ b (c7 (fun st1=>wSs C κ o Q st1) Q) st
 | .FunctionDef _ _ _ _ _ _ _ _ _ _,_,_=>False
 | .AsyncFunctionDef _ _ _ _ _ _ _ _ _ _,_,_=>False
 | .ClassDef _ _ _ _ _ _ _ _ _ _ _,_,_=>False
 | .Delete _ _,_,_=>False
 | .TypeAlias _ _ _ _ _ _ _,_,_=>False
 | .AnnAssign _ _ _ _ _,_,_=>False
 | .AsyncFor _ _ _ _ _,_,_=>False
 | .With _ _ _,_,_=>False
 | .AsyncWith _ _ _,_,_=>False
 | .Match _ _ _,_,_=>False
 | .Raise _ _ _,_,_=>False
 | .TryStar _ _ _ _ _,_,_=>False
 | .Import _ _,_,_=>False
 | .ImportFrom _ _ _ _,_,_=>False
 | .Global _ _,_,_=>False
 | .Nonlocal _ _,_,_=>False
 | .Pass _,_,_=>False
noncomputable def wSs (C:Ctx) (κ:Kn):List Stmt->(Fl->St->Prop)->St->Prop
 | [],Q,st=>Q .next st
 | s :: ss,Q,st=>wS C κ s (c7 (fun st1=>wSs C κ ss Q st1) Q) st
end
end
theorem kT {C:Ctx} {κ:Kn} {v:Expr} {p:Pos} {Q:Fl->St->Prop} {st:St}:wS C κ (.Expr v p) Q st = mT (cQ v) (i6 v = false /\ wE C v κ (fun _ st1=>Q .next st1) st) fun args=>C.ini = true /\ κ "Node" = some .globalImplicit /\ wEs C args κ (fun vs st1=>sH C vs st1 fun st2=>Q .next st2) st:=rfl
section mono
variable {C:Ctx}
theorem gY {K K':St->Prop} {Q Q':Fl->St->Prop} (h:∀ s,K s->K' s) (hq:∀ f s,Q f s->Q' f s) (f:Fl) (s:St) (x:nV K Q f s):nV K' Q' f s:=by
 cases f
 ·exact h s x
 ·exact hq _ s x
 ·exact h s x
 ·exact hq _ s x
theorem kZ {K K':St->Prop} {Q Q':Fl->St->Prop} (h:∀ s,K s->K' s) (hq:∀ f s,Q f s->Q' f s) (f:Fl) (s:St) (x:c7 K Q f s):c7 K' Q' f s:=by
 cases f
 ·exact h s x
 ·exact hq _ s x
 ·exact hq _ s x
 ·exact hq _ s x
theorem gF {a:Nat} {name:Str} {v:PV} {st:St} {K K':St->Prop} (h:∀ s,K s->K' s):setCell C a name v st K->setCell C a name v st K':=fun ⟨c,fs,i,h1,h2,h3,h4⟩=>⟨c,fs,i,h1,h2,h3,h _ h4⟩
theorem qO {κ:Kn} {ts:List Expr} {v:PV} {st:St} {K K':St->Prop} (h:∀ s,K s->K' s):dT C κ ts v st K->dT C κ ts v st K':=
 gI (fun x=>⟨x.1,bT (fun _=>h _) x.2⟩) fun _=>bT fun _=>kM fun _=>gF h
theorem wZ {vs:List PV} {st:St} {K K':St->Prop} (h:∀ s,K s->K' s):sH C vs st K->sH C vs st K':=
 mL fun _ _ _=>kM fun _=>gF fun _=>gF h
theorem hX {T:(PV->St->Prop)->St->Prop} {B O:(Fl->St->Prop)->St->Prop} {Q Q':Fl->St->Prop}
  (hT:∀ K K' s,(∀ b s,K b s->K' b s)->T K s->T K' s) (hB:∀ K K' s,(∀ b s,K b s->K' b s)->B K s->B K' s) (hO:∀ K K' s,(∀ b s,K b s->K' b s)->O K s->O K' s) (h:∀ f s,Q f s->Q' f s):
  ∀ n st,eW T B O Q n st->eW T B O Q' n st
 | 0,_,x=>x
 | n + 1,_,x=>hT _ _ _ (gT fun _ _=>bJ (hB _ _ _ (gY (hX hT hB hO h n) h)) (hO _ _ _ h)) x
theorem j7 {tgt:Expr} {B O:(Fl->St->Prop)->St->Prop} {Q Q':Fl->St->Prop}
  (hB:∀ K K' s,(∀ b s,K b s->K' b s)->B K s->B K' s) (hO:∀ K K' s,(∀ b s,K b s->K' b s)->O K s->O K' s) (h:∀ f s,Q f s->Q' f s):
  ∀ items st,dS tgt B O Q items st->dS tgt B O Q' items st
 | [],_,x=>hO _ _ _ h x
 | _ :: vs,_,x=>bT (fun _=>hB _ _ _ (gY (j7 hB hO h vs) h)) x
mutual
theorem xK (M:CtxMono C):∀ (s:Stmt) {κ:Kn} {Q Q':Fl->St->Prop} {st:St},(∀ f s,Q f s->Q' f s)->wS C κ s Q st->wS C κ s Q' st
 | .Expr v _,_,_,_,_,h,x=>gI (fun x=>⟨x.1,bB M v (fun _ _=>h _ _) x.2⟩) (fun _ x=>⟨x.1,x.2.1,cM M _ (fun _ _=>wZ fun _=>h _ _) x.2.2⟩) x
 | .Break _,_,_,_,_,h,x=>h _ _ x
 | .Continue _,_,_,_,_,h,x=>h _ _ x
 | .Return _ _,_,_,_,_,h,x=>bT (fun e=>bB M e fun _ _=>h _ _) x
 | .Assign _ e _,_,_,_,_,h,x=>bB M e (fun _ _=>qO fun _=>h _ _) x
 | .AugAssign _ _ e _,_,_,_,_,h,x=>bT (fun _ x=>⟨x.1,bT (fun _=>bB M e fun _ _=>zca fun _=>h _ _) x.2⟩) x
 | .If t b o _,_,_,_,_,h,x=>bB M t (gT fun _ _=>bJ (dY M b h) (dY M o h)) x
 | .While t b o _,κ,_,_,_,h,x=>x.imp fun n=>hX (T:=wE C t κ) (B:=wSs C κ b) (O:=wSs C κ o) (fun _ _ _ hk=>bB M t hk) (fun _ _ _ hk=>dY M b hk) (fun _ _ _ hk=>dY M o hk) h n _
 | .For _ iter b o _,κ,_,_,_,h,x=>⟨x.1,bB M iter (fun _ _=>bT fun _ y=>⟨y.1,j7 (B:=wSs C κ b) (O:=wSs C κ o) (fun _ _ _ hk=>dY M b hk) (fun _ _ _ hk=>dY M o hk) h _ _ y.2⟩) x.2⟩
 | .Try b _ o _ _,_,_,_,_,h,x=>⟨x.1,x.2.1,dY M b (kZ (fun _=>dY M o h) h) x.2.2⟩
 | .FunctionDef _ _ _ _ _ _ _ _ _ _,_,_,_,_,_,x=>x
 | .AsyncFunctionDef _ _ _ _ _ _ _ _ _ _,_,_,_,_,_,x=>x
 | .ClassDef _ _ _ _ _ _ _ _ _ _ _,_,_,_,_,_,x=>x
 | .Delete _ _,_,_,_,_,_,x=>x
 | .TypeAlias _ _ _ _ _ _ _,_,_,_,_,_,x=>x
 | .AnnAssign _ _ _ _ _,_,_,_,_,_,x=>x
 | .AsyncFor _ _ _ _ _,_,_,_,_,_,x=>x
 | .With _ _ _,_,_,_,_,_,x=>x
 | .AsyncWith _ _ _,_,_,_,_,_,x=>x
 | .Match _ _ _,_,_,_,_,_,x=>x
 | .Raise _ _ _,_,_,_,_,_,x=>x
 | .TryStar _ _ _ _ _,_,_,_,_,_,x=>x
 | .Assert t _ _,_,_,_,_,h,x=>bB M t (gT fun _ _ y=>⟨y.1,h _ _ y.2⟩) x
 | .Import _ _,_,_,_,_,_,x=>x
 | .ImportFrom _ _ _ _,_,_,_,_,_,x=>x
 | .Global _ _,_,_,_,_,_,x=>x
 | .Nonlocal _ _,_,_,_,_,_,x=>x
 | .Pass _,_,_,_,_,_,x=>x
theorem dY (M:CtxMono C):∀ (ss:List Stmt) {κ:Kn} {Q Q':Fl->St->Prop} {st:St},(∀ f s,Q f s->Q' f s)->wSs C κ ss Q st->wSs C κ ss Q' st
 | [],_,_,_,_,h,x=>h _ _ x
 | s :: ss,_,_,_,_,h,x=>xK M s (kZ (fun _=>dY M ss h) h) x
end
end mono
end Mine
end
section
set_option maxRecDepth 100000
open PySem PySem.W PyProof.Rows
open Builtin Builtin.Str
set_option Elab.async false
set_option autoImplicit false
set_option linter.unusedVariables false
namespace Mine
section
open PySem.Calls Builtin.ObjectAttr Builtin.Getset_descriptor
variable {prog:Program} {w:World} {A:Around} {K:Frag} {x C:Addr} {s:Shared} {R:Result->Shared->Prop}
theorem zbF {ox:Obj} {od:Option Obj} {v:Value} {p i:Nat} (X:K.In s.heap) (I:PySem.W.InstAt s.heap x ox C od)
  (hp:slotIn K p C = some i) (hi:i < 1000) (hf:ox.isFreed = false)
  (h:∀ h',h'.get? x = some { ox with slots:=(ox.slots ++ Array.replicate (i + 1 - ox.slots.size) none).setIfInBounds i (some v) }->Heap.SameBut x s.heap h'->R (.ok (.ret .none)) { s with heap:=h' }):
  codeAny (model prog w) A (.call (.builtin "member_descriptor.__set__") ⟨[.ref p,.ref x,v],[]⟩) R s:=by
 obtain ⟨n,tn,owner,behind,tb,d,sl,cd,ho,hc,hm,hb,rfl⟩:=slot_of X hp
 obtain ⟨hh,g,dr,t,os⟩:=s
 have L0:=I.type (M:=model prog w)
 have L1:=looks_mroIn (M:=model prog w) X hm
 have L2:Looks (model prog w) hh (Slots.slotNamesOf (.ref C)) cd.slotNames:=(looks_clsIn X hc).andThen .now
 have hx:=I.at_
 dsimp only at ho hx L0 L1
 have f0:=looks_field (M:=model prog w) ho 0 (v:=.str n tn) rfl
 have f1:=looks_field (M:=model prog w) ho 1 (v:=owner) rfl
 have f3:=looks_field (M:=model prog w) ho 3 (v:=.builtin "proto.slot#set") rfl
 have f4:=looks_field (M:=model prog w) ho 4 (v:=.int behind tb) rfl
 refine codeAny_call_builtin KF.slot_mset.plain KF.entry_mset (KF.slot_mset.check _ _ _ _ _ _ _ _ ⟨_,ho,rfl⟩ (KF.args_mset _ _ _) ?_)
 unfold Builtin.«member_descriptor.__set__» descrSet descrStoreThrough descrCheckInstance descrNameAndClass isInstance
 have f5:Looks (model prog w) hh (descrItself (.ref p)) [.ref p]:=((Looks.ld (part:=none) ho).andThen .now).andThen (Looks.of_pure (by kernel_rfl))
 repeat lk
 refine ⟨Code.quiet_builtin _ (by decide +kernel),codeAny_builtin KF.entry_slotset ?_⟩
 unfold Builtin.«proto.slot#set» Slots.target
 repeat lk
 rw [if_neg hb]
 refine wpAny_pure (wpAny_bind ?_)
 unfold setSlotAt
 dsimp only
 rw [if_neg (by rw [sizeLine_eq]; omega)]
 refine wpAny_updatePart hx (wpAny_pure (h _ (Heap.get?_update_self _ hx ?_) (Heap.SameBut.update ..)))
 obtain ⟨a,b,c,d⟩:=ox
 cases c <;> first | rfl | cases hf
end
section
variable {prog:Program} {w:World} {B:Bs} {C:Ctx} {n:Nat}
theorem zcu {A:Around} {E:Value->Shared->Prop} {cw:Bool} {env:Env} {G:GM} {st:St} {s:Shared} {a c i:Nat} {fs:List (Option PV)} {name:Str} {v:Value} {p:PV} (hB:BsOk B) (hC:CtxOk prog w B C n) (O:Ok B w.params G env st s)
  (hσ:st.σ a = some (.ins c fs)) (hs:C.slot c name = some i) (hi:i < fs.length) (hv:VRel w.params G v p):
  wpAny (model prog w) A (setAttr (.ref a) name v) (Lands B w.params cw env G st s (fun _ st' _=>st' = ⟨st.ρ,aZ st.σ a (.ins c (fs.set i (some p)))⟩)) E s:=by
 obtain ⟨_,_,q,_,s4,s5,s6,s7,s8,s9⟩:=hC.slot c name i hs
 obtain ⟨⟨dx,sl,h1,h2,h3,h4⟩,g1,g2,g3⟩:=O.rep.cells a _ hσ
 have X:B.K.In s.heap:=hB.kin.keeps fun b o e=>O.rep.inh.at_ _ _ (O.over _ _ e)
 have I:PySem.W.InstAt s.heap a _ c (some iG):=⟨h1,rfl,rfl,O.rep.inh.at_ _ _ h2⟩
 refine set_plain X I s5 (osa_descr (s:={ s with toks:=s.toks + 1 }) (od:=some iG) KF.slot_mset X ⟨I.at_,I.cls,I.no,O.rep.inh.at_ _ _ h2⟩ s6 s7 s8 ?_)
 refine zbF (s:={ s with toks:=s.toks + 1 }) (od:=some iG) X ⟨I.at_,I.cls,I.no,O.rep.inh.at_ _ _ h2⟩ s4 s9 rfl fun h' hx hsb=>?_
 have cr:CellRel w.params G h' a (.ins c (fs.set i (some p))):=by
  refine ⟨dx,_,hx,h2,?_,fun j q hj=>?_⟩
  ·simp only [Array.size_setIfInBounds,Array.size_append,Array.size_replicate,List.length_set]; omega
  ·by_cases e:j = i
   ·subst e
    rw [List.getElem?_set_self hi] at hj
    cases hj
    refine ⟨v,?_,hv⟩
    rw [Array.getElem?_setIfInBounds_self_of_lt]
    simp only [Array.size_append,Array.size_replicate]; omega
   ·rw [List.getElem?_set_ne (Ne.symm e)] at hj
    obtain ⟨u,e1,e2⟩:=h4 j q hj
    refine ⟨u,?_,e2⟩
    rw [Array.getElem?_setIfInBounds_ne (Ne.symm e)]
    have hlt:=(Array.getElem?_eq_some_iff.mp e1).1
    rw [Array.getElem?_append_left hlt]; exact e1
 obtain ⟨R',T'⟩:=O.rep.setCell (cw:=cw) hσ hsb cr (show 1 <= s.toks + 1 by omega)
 exact ⟨G,_,rfl,⟨O.over,R',O.ct.same hsb (by rw [hx]; rfl)⟩,T'⟩
end
end Mine
end
section
open PySem PySem.W PyProof.Rows
open Builtin Builtin.Str
set_option Elab.async false
set_option autoImplicit false
set_option linter.unusedVariables false
namespace Mine
noncomputable def FX (P:Params) (Q:Fl->St->Prop):GM->St->Flow->Prop:=fun G' st' f=>match f with
 | .next=>Q .next st'
 | .brk=>Q .brk st'
 | .cont=>Q .cont st'
 | .ret v=>∃ p,Q (.ret p) st' /\ VRel P G' v p
noncomputable def oO (prog:Program) (w:World) (B:Bs) (C:Ctx) (n:Nat) (s:Stmt):Prop:=
 ∀ (A:Around) (E:Value->Shared->Prop) (env:Env) (κ:Kn) (G:GM) (st:St) (sh:Shared) (Q:Fl->St->Prop),Room n A->EnvOk env->KOk κ env->Ok B w.params G env st sh->
  wS C κ s Q st->wpAny (model prog w) A (exec s env) (Lands B w.params true env G st sh (FX w.params Q)) E sh
noncomputable def gS (prog:Program) (w:World) (B:Bs) (C:Ctx) (n:Nat) (ss:List Stmt):Prop:=
 ∀ (A:Around) (E:Value->Shared->Prop) (env:Env) (κ:Kn) (G:GM) (st:St) (sh:Shared) (Q:Fl->St->Prop),Room n A->EnvOk env->KOk κ env->Ok B w.params G env st sh->
  wSs C κ ss Q st->wpAny (model prog w) A (execs ss env) (Lands B w.params true env G st sh (FX w.params Q)) E sh
section
variable {prog:Program} {w:World} {B:Bs} {C:Ctx} {n:Nat}
theorem zbs:gS prog w B C n []:=by
 intro A E env κ G st s Q hA hE hκ O hw
 exact wpAny_execs_nil (aK O hw)
theorem yG {s:Stmt} {ss:List Stmt} (h:oO prog w B C n s) (hs:gS prog w B C n ss):gS prog w B C n (s :: ss):=by
 intro A E env κ G st sh Q hA hE hκ O hw
 refine wpAny_execs_cons (aH (h A E env κ G st sh _ hA hE hκ O hw) fun f G1 st1 s1 hq O1 T1=>?_)
 cases f with
 | next=>exact aN T1 (hs A E env κ G1 st1 s1 Q hA hE hκ O1 hq)
 | brk=>exact (aK (X:=FX w.params Q) (a:=Flow.brk) O1 hq).after T1
 | cont=>exact (aK (X:=FX w.params Q) (a:=Flow.cont) O1 hq).after T1
 | ret v=>exact (aK (X:=FX w.params Q) (a:=Flow.ret v) O1 (by obtain ⟨p,h1,h2⟩:=hq; exact ⟨p,h1,h2⟩)).after T1
theorem vT {p:Pos}:oO prog w B C n (.Break p):=by
 intro A E env κ G st s Q hA hE hκ O hw
 exact wpAny_Break (aK (X:=FX w.params Q) (a:=Flow.brk) O hw)
theorem yF {p:Pos}:oO prog w B C n (.Continue p):=by
 intro A E env κ G st s Q hA hE hκ O hw
 rw [show exec (.Continue p) env = (do standAt p; pure .cont) from rfl]
 exact wpAny_bind (wpAny_standAt (wpAny_pure (aK (X:=FX w.params Q) (a:=Flow.cont) O hw)))
theorem rI {e:Expr} {p:Pos} (he:dN prog w B C n e):oO prog w B C n (.Return (some e) p):=by
 intro A E env κ G st s Q hA hE hκ O hw
 exact wpAny_Return_some (aH (he A E true env κ G st s _ hA hE hκ O hw) fun v G1 st1 s1 ⟨u,hq,hv⟩ O1 T1=>
  (aK (X:=FX w.params Q) (a:=Flow.ret v) O1 ⟨u,hq,hv⟩).after T1)
theorem rK {t:Expr} {m:Option Expr} {p:Pos} (ht:q7 prog w B C n t):oO prog w B C n (.Assert t m p):=by
 intro A E env κ G st s Q hA hE hκ O hw
 exact wpAny_Assert_holds (aH (ht A E true env κ G st s _ hA hE hκ O hw) fun c G1 st1 s1 hq O1 T1=>
  ⟨hq.1,(aK (X:=FX w.params Q) (a:=Flow.next) O1 hq.2).after T1⟩)
theorem uA {env:Env} (hE:EnvOk env):interactive env = false:=by unfold interactive; rw [hE.kind]; rfl
theorem vN {e:Expr} (h:i6 e = false) (line:Nat) (env:Env):swapsWith e none line env = pure false:=by
 cases e <;> first | rfl | cases h
theorem yE {e:Expr} {p:Pos} (he:dN prog w B C n e) (hi:cQ e = none):oO prog w B C n (.Expr e p):=by
 intro A E env κ G st s Q hA hE hκ O hw
 rw [kT,hi] at hw
 exact wpAny_Expr_any (aH (he A E true env κ G st s _ hA hE hκ O hw.2) fun v G1 st1 s1 ⟨u,hq,hv⟩ O1 T1=>
  (aK (X:=FX w.params Q) (a:=Flow.next) O1 hq).after T1) (uA hE) (vN hw.1 _ _)
theorem zdR {t:Expr} {b o:List Stmt} {p:Pos} (ht:q7 prog w B C n t) (hb:gS prog w B C n b) (ho:gS prog w B C n o):oO prog w B C n (.If t b o p):=by
 intro A E env κ G st s Q hA hE hκ O hw
 refine wpAny_If (aH (ht A E true env κ G st s _ hA hE hκ O hw) fun c G1 st1 s1 hq O1 T1=>?_)
 cases c
 ·exact aN T1 (ho A E env κ G1 st1 s1 Q hA hE hκ O1 hq)
 ·exact aN T1 (hb A E env κ G1 st1 s1 Q hA hE hκ O1 hq)
theorem zbr {b o:List Stmt} {h₀:ExceptHandler} {hs:List ExceptHandler} {p:Pos} (hb:gS prog w B C n b) (ho:gS prog w B C n o):oO prog w B C n (.Try b (h₀ :: hs) o [] p):=by
 intro A E env κ G st s Q hA hE hκ O hw
 rw [show exec (.Try b (h₀ :: hs) o [] p) env = (do standAt p; tryStmt false (execs b env) (h₀ :: hs) (execs o env) [] env) from rfl]
 refine wpAny_bind (wpAny_standAt (wpAny_tryStmt_except (aH (hb A _ env κ G st s _ hA hE hκ O hw.2.2) fun f G1 st1 s1 hq O1 T1=>?_)))
 cases f with
 | next=>exact aN T1 (ho A E env κ G1 st1 s1 Q hA hE hκ O1 hq)
 | brk=>exact (aK (X:=FX w.params Q) (a:=Flow.brk) O1 hq).after T1
 | cont=>exact (aK (X:=FX w.params Q) (a:=Flow.cont) O1 hq).after T1
 | ret v=>exact (aK (X:=FX w.params Q) (a:=Flow.ret v) O1 (by obtain ⟨p,h1,h2⟩:=hq; exact ⟨p,h1,h2⟩)).after T1
theorem zfP {A:Around} {E:Value->Shared->Prop} {G:GM} {s:Shared} {op:Operator} {a b:Value} {p q:PV} {K:PV->Prop} (hi:InH G s.heap) (ha:VRel w.params G a p) (hb:VRel w.params G b q) (h:inP op p q K):
  GW (model prog w) A w.params E G s (inplaceOp op a b) K:=by
 have twoI:∀ {r:Int->Int->Int},(asI p fun x=>asI q fun y=>K (.int (r x y)))->(∀ x t y u (Q:Value->Shared->Prop),Q (.int (r x y) s.toks) { s with toks:=s.toks + 1 }->wpAny (model prog w) A (inplaceOp op (.int x t) (.int y u)) Q E s)->GW (model prog w) A w.params E G s (inplaceOp op a b) K:=by
  intro r h k
  obtain ⟨x,rfl,h1⟩:=dA (v:=p) h
  obtain ⟨y,rfl,h2⟩:=dA (v:=q) h1
  simp only [VRel] at ha hb
  obtain ⟨t,rfl⟩:=ha; obtain ⟨u,rfl⟩:=hb
  exact mY hi h2 fun Q q=>k x t y u Q q
 cases op <;> first | exact False.elim h | skip
 ·cases p <;> first | exact False.elim h | skip
  ·exact twoI (r:=fun x y=>x + y) h fun _ _ _ _ Q q=>iadd_int q
  ·obtain ⟨y,rfl,hz,hk⟩:=eN (v:=q) h
   simp only [VRel] at ha hb
   obtain ⟨t,rfl,hx⟩:=ha
   obtain ⟨u,rfl,hy⟩:=hb
   refine SB.iadd (fun t' k=>?_) (by rw [dC,dC]; exact hz)
   refine ⟨_,G,hk,GS.toks hi _,?_⟩
   simp only [VRel]
   exact ⟨t',by rw [mN],jZ hx hy hz⟩
 ·exact twoI (r:=fun x y=>x - y) h fun _ _ _ _ Q q=>isub_int q
theorem nJ {κ:Kn} {env:Env} (hκ:KOk κ env) {x:Str} (h:dB κ x = true):ze8 true env x:=by
 unfold dB at h
 simp only [Bool.or_eq_true,beq_iff_eq] at h
 rcases h with h | h
 ·exact .inl (hκ.loc h)
 ·exact .inr ⟨rfl,hκ.cell (.inl h)⟩
theorem zbu {x:Str} {px p:Pos} {op:Operator} {e:Expr} (hB:BsOk B) (hC:CtxOk prog w B C n) (he:dN prog w B C n e) (ok2:(x == ("__classdict__" : Str)) = false):oO prog w B C n (.AugAssign (.Name x px) op e p):=by
 intro A E env κ G st s Q hA hE hκ O hw
 obtain ⟨hst,hw⟩:=(show dB κ x = true /\ opt (st.ρ x) _ from hw)
 have hst':=hst
 unfold dB at hst
 obtain ⟨old,e0,hw⟩:=dG hw
 refine wpAny_AugAssign_Name ?_
 have hN':=sF (p:=px) hB hC ok2 A E true env κ G st s (fun v st'=>v = old /\ st' = st) hE hκ O (by rw [iJ,if_neg (fun q=>by rw [q] at hst; cases hst),e0]; exact ⟨rfl,rfl⟩)
 refine aH hN' fun ov G1 st1 s1 ⟨u,⟨hu,hst1⟩,hv⟩ O1 T1=>?_
 subst hu hst1
 refine aH (he A E true env κ G1 st1 s1 _ hA hE hκ O1 hw) fun v G2 st2 s2 ⟨u2,hq2,hv2⟩ O2 T2=>?_
 refine aH (cw:=true) (cA (Q:=fun r st'=>Q .next ⟨upd st'.ρ x r,st'.σ⟩) O2 (zfP O2.rep.inh (hv.mono T2.ext) hv2 hq2)) fun r G3 st3 s3 ⟨u3,hq3,hv3⟩ O3 T3=>?_
 refine aH (nI (cw:=true) hE O3 (nJ hκ hst') hv3) fun _ G4 st4 s4 e4 O4 T4=>?_
 subst e4
 exact (aK (X:=FX w.params Q) (a:=Flow.next) O4 hq3).after (T1.trans (T2.trans (T3.trans T4)))
end
section
variable {prog:Program} {w:World} {B:Bs} {C:Ctx} {n:Nat}
theorem Tr.at1 {cw:Bool} {env:Env} {G G':GM} {st st':St} {s s':Shared} (T:Tr cw env G st s G' st' s') {I:Addr} (hI:s.heap.get? I = none) {h':Heap} {k:Nat} (hk:∀ b o,b ≠ I->s'.heap.get? b = some o->h'.get? b = some o):Tr cw env G st s G' st' { s' with heap:=h',toks:=k } where
 ext:=T.ext
 new:=T.new
 keep:=fun a o n e h1 h2 h3=>hk a o (fun q=>by rw [q,hI] at e; cases e) (T.keep a o n e h1 h2 h3)
 alive:=fun a e=>by
  obtain ⟨o,ho⟩:=Option.isSome_iff_exists.mp (T.alive a e)
  show (h'.get? a).isSome = true
  rw [hk a o (fun q=>by rw [q,hI] at e; cases e) ho]; rfl
 dom:=T.dom
 fresh:=T.fresh
 os:=T.os
 gens:=T.gens
theorem vQ {t:Expr} {b o:List Stmt} {p:Pos} (ht:q7 prog w B C n t) (hb:gS prog w B C n b) (ho:gS prog w B C n o):oO prog w B C n (.While t b o p):=by
 intro A E env κ G st s Q hA hE hκ O hw
 obtain ⟨m,hw⟩:=hw
 refine wpAny_While (codeAny_whileLoop (fun k s'=>∃ Gj stj,Ok B w.params Gj env stj s' /\ eW (wE C t κ) (wSs C κ b) (wSs C κ o) Q k stj /\ Tr true env G st s Gj stj s') ?_ m ⟨G,st,O,hw,.refl⟩)
 rintro k s' ⟨Gj,stj,Oj,hwj,Tj⟩
 cases k with
 | zero=>exact hwj.elim
 | succ k=>
  refine aH (ht A _ true env κ Gj stj s' _ hA hE hκ Oj hwj) fun c G1 st1 s1 hq O1 T1=>?_
  cases c with
  | false=>
   refine aH (ho A _ env κ G1 st1 s1 Q hA hE hκ O1 hq) fun f G2 st2 s2 hq2 O2 T2=>?_
   exact (aK (X:=FX w.params Q) (a:=f) O2 hq2).after (Tj.trans (T1.trans T2))
  | true=>
   refine aH (hb A _ env κ G1 st1 s1 _ hA hE hκ O1 hq) fun f G2 st2 s2 hq2 O2 T2=>?_
   have T:=Tj.trans (T1.trans T2)
   cases f with
   | next=>exact ⟨k,Nat.lt_succ_self _,G2,st2,O2,hq2,T⟩
   | cont=>exact ⟨k,Nat.lt_succ_self _,G2,st2,O2,hq2,T⟩
   | brk=>exact (aK (X:=FX w.params Q) (a:=Flow.next) O2 hq2).after T
   | ret v=>exact (aK (X:=FX w.params Q) (a:=Flow.ret v) O2 (by obtain ⟨p,h1,h2⟩:=hq2; exact ⟨p,h1,h2⟩)).after T
noncomputable def F3 (R:Result->Shared->Prop) (N:Shared->Prop) (f:Flow) (s:Shared):Prop:=match f with
 | .next | .cont=>N s
 | .brk=>R (.ok .next) s
 | .ret v=>R (.ok (.ret v)) s
noncomputable def F1 (prog:Program) (w:World) (A:Around) (R:Result->Shared->Prop) (env:Env) (tgt:Expr) (b:List Stmt) (N:Shared->Prop) (v:Value):Unit->Shared->Prop:=fun _ s=>
 wpAny (model prog w) A (assign tgt env v) (fun _ s=>wpAny (model prog w) A (execs b env) (F3 R N) (TE prog w A R env) s) (TE prog w A R env) s
noncomputable def F0 (prog:Program) (w:World) (A:Around) (R:Result->Shared->Prop) (env:Env) (it:Value) (tgt:Expr) (b o:List Stmt) (N:Shared->Prop) (r:Option Value) (s:Shared):Prop:=match r with
 | none=>wpAny (model prog w) A (execs o env) (fun f s=>R (.ok f) s) (TE prog w A R env) s
 | some v=>wpAny (model prog w) A (letOwnedTupleGo tgt it v) (F1 prog w A R env tgt b N v) (TE prog w A R env) s
theorem zah {A:Around} {R:Result->Shared->Prop} {s:Shared} {tgt:Expr} {b o:List Stmt} {it:Value} {env:Env} (I:Nat->Shared->Prop)
  (turn:∀ n s,I n s->wpAny (model prog w) A (pyNext it) (F0 prog w A R env it tgt b o fun s=>∃ m,m < n /\ I m s) (TE prog w A R env) s) (n:Nat) (h:I n s):codeAny (model prog w) A (.forLoop tgt it b o env) R s:=
 codeAny_forLoop_any I (fun n s h=>wpAny_mono (turn n s h) (fun r _ x=>by cases r <;> exact x) fun _ _ e=>e) n h
theorem zbt {tgt iter:Expr} {b o:List Stmt} {p:Pos} (hi:dN prog w B C n iter) (hb:gS prog w B C n b) (ho:gS prog w B C n o) (hs:zd9 iter = true):oO prog w B C n (.For tgt iter b o p):=by
 intro A E env κ G st s Q hA hE hκ O hw
 obtain ⟨hn,hw⟩:=hw
 have hn':∀ x ∈ cO tgt,ze8 true env x:=fun x hx=>nJ hκ (List.all_eq_true.mp hn x hx)
 refine wpAny_For (aH (hi A E true env κ G st s _ hA hE hκ O hw) fun xv G1 st1 s1 ⟨u,hq,hv⟩ O1 T1=>?_) (fun x=>zai hs env x)
 obtain ⟨items,hit,hz,hq⟩:=dG hq
 obtain ⟨ρ1,σ1⟩:=st1
 refine zeh O1.rep.inh hv hit fun I h' Ws g hI hlt hT hws=>?_
 have hTA:=hT A hA.handled
 have O2:=O1.grow g O1.rep.tk
 have i1:=O1.g0 hI
 have i2:=O1.s0 hI
 have i3:=O1.l0 hI
 have i4:=O1.c0 hI
 have i5:=O1.rep.inh.tab.ne hI
 let J:Nat->Shared->Prop:=(fun k s'=>∃ done rest Gj ρj σj,items = done ++ rest /\ k = rest.length + 1 /\ Ws done.length s'.heap /\ Ok B w.params Gj env ⟨ρj,σj⟩ s' /\ dS tgt (wSs C κ b) (wSs C κ o) Q rest ⟨ρj,σj⟩ /\
  Tr true env G1 ⟨ρ1,σ1⟩ s1 Gj ⟨ρj,σj⟩ s' /\ Gj I = none /\ σj I = none)
 refine zah J ?_ (items.length + 1) ⟨[],items,G1,ρ1,σ1,rfl,rfl,hws,O2,hq,g.tr,i1,i2⟩
 refine fun k s'=>x5 fun done rest Gj ρj σj=>a8 fun hit' hk' hwsj Oj hqj Tj j1 j2=>?_
 cases rest with
 | nil=>
  rw [List.append_nil] at hit'
  subst hit'
  refine wpAny_with_toks (n:=1) Oj.rep.tk (hTA.done s' _ _ hwsj fun h2 tk hk htk=>?_)
  refine aH (ho A _ env κ Gj _ _ Q hA hE hκ (Oj.at1 j1 j2 i3 i4 i5 htk hk) hqj) fun f G2 st2 s2 hq2 O2 T2=>?_
  exact (aK (X:=FX w.params Q) (a:=f) O2 hq2).after (T1.trans ((Tj.at1 hI hk).trans T2))
 | cons v rest=>
  obtain ⟨ρb,hbind,hqj⟩:=dG hqj
  refine wpAny_with_toks (n:=1) Oj.rep.tk (hTA.item done.length v s' _ _ (by rw [hit']; simp) hwsj fun val h2 tk hval hws2 hk hgo htk=>?_)
  have O3:=Oj.at1 j1 j2 i3 i4 i5 htk hk
  have T3:=Tj.at1 (k:=tk) hI hk
  obtain ⟨oI,aI⟩:=hTA.alive _ _ hws2
  refine hgo _ _ _ ?_
  refine aH (sU (cw:=true) hA.handled hE O3 hn' (hval.mono Tj.ext) hbind) fun _ G4 st4 s4 e4 O4 T4=>?_
  subst e4
  refine aH (hb A _ env κ G4 _ s4 _ hA hE hκ O4 hqj) fun f G5 st5 s5 hq5 O5 T5=>?_
  have T45:=T4.trans T5
  have T:=T3.trans T45
  obtain ⟨ρ5,σ5⟩:=st5
  have inv:dS tgt (wSs C κ b) (wSs C κ o) Q rest ⟨ρ5,σ5⟩->∃ m,m < k /\ J m s5:=fun hq6=>by
   refine ⟨rest.length + 1,hk' ▸ Nat.lt_succ_self _,done ++ [v],rest,G5,ρ5,σ5,by rw [hit']; simp,rfl,?_,O5,hq6,T,zdG T45 aI j1,xU T45 aI j2⟩
   rw [List.length_append,List.length_singleton]
   exact hTA.frame _ _ _ hws2 (fun o e=>T45.keep I o i5 e i3 (fun _ x=>i4 x) j2) (O5.rep.inh.sub T.ext)
  cases f with
  | next=>exact inv hq5
  | cont=>exact inv hq5
  | brk=>exact (aK (X:=FX w.params Q) (a:=Flow.next) O5 hq5).after (T1.trans T)
  | ret v=>exact (aK (X:=FX w.params Q) (a:=Flow.ret v) O5 (by obtain ⟨p,h1,h2⟩:=hq5; exact ⟨p,h1,h2⟩)).after (T1.trans T)
end
noncomputable def zfH (ts:List Expr) (v:Expr):Bool:=(zaZ v).isNone || ts.all fun t=>(nmE t).isSome
theorem jX {ts:List Expr} {v:Expr} (h:zfH ts v = true) (env:Env):swappedStores ts v env = pure none:=by
 match ts with
 | []=>rfl
 | a :: b :: r=>cases a <;> first | rfl | (cases v <;> rfl)
 | [t]=>cases t <;> first | rfl | (cases v <;> first | rfl | cases h)
theorem tW {ts:List Expr} {v:Expr} {line:Nat} {env:Env} (h:i6 v = false):swapsWithSole ts v line env = pure false:=by
 match ts with
 | []=>rfl
 | _ :: _ :: _=>rfl
 | [t]=>cases v <;> first | rfl | cases h
theorem zbR {C:Ctx} {κ:Kn} {Q:PV->St->Prop} {st:St} {e:Expr} (hw:wE C e κ Q st):i6 e = false:=by
 cases e <;> first | rfl | exact False.elim hw
section
variable {prog:Program} {w:World} {B:Bs} {C:Ctx} {n:Nat}
theorem lS {t:Expr} (h:dH t = true) {ts:List Expr} {env:Env}:assignEach (t :: ts) env = (false,assign t env) :: assignEach ts env:=by cases t <;> first | rfl | cases h
theorem gR {A:Around} {E:Value->Shared->Prop} {env:Env} {P:Params} (hh:A.handled = none) (hE:EnvOk env):∀ (ts:List Expr) (G:GM) (st:St) (s:Shared) (v:Value) (p:PV) (ρ':f9),Ok B P G env st s->(∀ t ∈ ts,∀ x ∈ cO t,ze8 true env x)->ts.all dH = true->
  VRel P G v p->iO ts p st.ρ = some ρ'->wpAny (model prog w) A (assignAll v ((assignEach ts env).map (·.2))) (Lands B P true env G st s (fun _ st' _=>st' = ⟨ρ',st.σ⟩)) E s
 | [],G,st,s,v,p,ρ',O,hx,hs,hv,h=>by
  cases h
  exact wpAny_pure (aK O rfl)
 | [t],G,st,s,v,p,ρ',O,hx,hs,hv,h=>by
  obtain ⟨ρ1,e,h⟩:=Option.bind_eq_some_iff.mp h
  cases h
  rw [lS (bH hs).1]
  exact sU hh hE O (hx t List.mem_cons_self) hv e
 | t :: t' :: ts,G,st,s,v,p,ρ',O,hx,hs,hv,h=>by
  obtain ⟨ρ1,e,h⟩:=Option.bind_eq_some_iff.mp h
  have hs':=(bH hs).2
  have e2:=lS (env:=env) (bH hs').1 (ts:=ts)
  rw [lS (bH hs).1,List.map_cons,e2,List.map_cons]
  show wpAny _ _ (do holding [v] (assign t env v); assignAll v (assign t' env :: (assignEach ts env).map (·.2))) _ _ _
  refine wpAny_bind (wpAny_holding (aH (sU (cw:=true) hh hE O (hx t List.mem_cons_self) hv e) fun _ G1 st1 s1 e3 O1 T1=>?_))
  subst e3
  have:=gR (E:=E) hh hE (t' :: ts) G1 _ s1 v p ρ' O1 (fun y hy=>hx y (List.mem_cons_of_mem _ hy)) hs' (hv.mono T1.ext) h
  rw [e2] at this
  exact aN T1 this
theorem w8 {ts:List Expr} {x name:Str} (h:mJ ts = some (x,name)):∃ px p,ts = [.Attribute (.Name x px) name p]:=by
 match ts,h with
 | [t],h=>
  cases ht:atN t with
  | none=>
   have:mJ [t] = none:=by
    revert ht
    exact eM (P:=fun t=>atN t = none->mJ [t] = none) (fun _ _ _ _=>rfl) (fun _ _ _=>rfl) (fun _ _ _ _=>rfl) (fun _ _ _ h=>by cases h) (fun _ _ _ _ _=>rfl) (fun _ _ _ _ _=>rfl) (fun _ _ _ _ _=>rfl) (fun _ _ _ _=>rfl) (fun e he _ _=>he _ _ _ _ _ _ _ _) t
   rw [this] at h; cases h
  | some n=>
   obtain ⟨o,p,rfl⟩:=oJ ht
   obtain ⟨y,hy,e⟩:=Option.map_eq_some_iff.mp h
   cases e
   obtain ⟨p,rfl⟩:=gX hy
   exact ⟨_,_,rfl⟩
theorem rJ {ts:List Expr} {e:Expr} {p:Pos} (hB:BsOk B) (hC:CtxOk prog w B C n) (he:dN prog w B C n e) (hsw:zfH ts e = true) (hs:ts.all dH = true)
  (hx:∀ x name,mJ ts = some (x,name)->(x == ("__debug__" : Str)) = false /\ (x == ("__classdict__" : Str)) = false):oO prog w B C n (.Assign ts e p):=by
 intro A E env κ G st s Q hA hE hκ O hw
 have hw:wE C e κ (fun v st1=>dT C κ ts v st1 fun st2=>Q .next st2) st:=hw
 refine wpAny_Assign_stores (aH (he A E true env κ G st s _ hA hE hκ O hw) fun v G1 st1 s1 ⟨u,hq,hv⟩ O1 T1=>?_) (tW (zbR hw)) (jX hsw env)
 cases ht:mJ ts with
 | some xn=>
  obtain ⟨x,name⟩:=xn
  dsimp only [dT] at hq
  rw [ht] at hq
  obtain ⟨px,pa,rfl⟩:=w8 ht
  obtain ⟨ok1,ok2⟩:=hx x name ht
  obtain ⟨y,ha,hq1⟩:=dG hq
  obtain ⟨a,rfl,c,fs,i,h1,h2,h3,h4⟩:=qP hq1
  clear hq hq1
  show wpAny _ _ (assign (.Attribute (.Name x px) name pa) env v) _ _ _
  rw [show assign (.Attribute (.Name x px) name pa) env v = (do
   let ov <- holding [v] (PySem.eval (.Name x px) env)
   standAt pa.atName
   holding [v,ov] (setAttr ov name v)
   release [v,ov] []) from rfl]
  refine wpAny_bind (wpAny_holding (wpAny_Name (aH (sF (p:=px) hB hC ok2 A E true env κ G1 st1 s1 (fun q st'=>q = .ptr a /\ st' = st1) hE hκ O1 (by rw [iJ,if_neg (fun q=>by have h1:=hκ.glob q; rcases O1.rep.kind x _ ha with h | h | h <;> rw [h1] at h <;> cases h),ha]; exact ⟨rfl,rfl⟩)) fun ov G2 st2 s2 ⟨q,⟨hq1,hq2⟩,hov⟩ O2 T2=>?_) ok1))
  subst hq1 hq2
  simp only [VRel] at hov; subst hov
  refine wpAny_bind (wpAny_standAt (wpAny_bind (wpAny_holding ?_)))
  refine aH (zcu (cw:=true) hB hC O2 h1 h2 h3 (hv.mono T2.ext)) fun _ G3 st3 s3 e3 O3 T3=>wpAny_release' ?_
  subst e3
  exact (aK (X:=FX w.params Q) (a:=Flow.next) O3 h4).after (T1.trans (T2.trans T3))
 | none=>
  dsimp only [dT] at hq
  rw [ht] at hq
  obtain ⟨hn,hq⟩:=hq
  obtain ⟨ρ',hbnd,hq⟩:=dG hq
  refine aH (gR hA.handled hE ts G1 st1 s1 v u ρ' O1 (fun t ht x hx=>nJ hκ (List.all_eq_true.mp (List.all_eq_true.mp hn t ht) x hx)) hs hv hbnd) fun _ G2 st2 s2 e2 O2 T2=>?_
  subst e2
  exact (aK (X:=FX w.params Q) (a:=Flow.next) O2 hq).after (T1.trans T2)
end
section
variable {prog:Program} {w:World} {B:Bs} {C:Ctx} {n:Nat}
theorem sE (hB:BsOk B) {env:Env} (hE:EnvOk env) (id:Str) (p:Pos):∃ b,Looks (model prog w) B.h₀ (do return (<- importBound (.Name id p) env).getD true) b:=by
 have ns:∀ s:Shared,(∀ a o,B.h₀.get? a = some o->s.heap.get? a = some o)->s.heap.Ns env.globals B.mg:=fun s k=>by rw [hE.glob]; exact hB.g.keeps k
 have triv:∀ v,(∀ x t,v ≠ some (.str x t))->B.mg "__name__" = v->Looks (model prog w) B.h₀ (do return (<- importBound (.Name id p) env).getD true) true:=by
  intro v hv e A Q E s k q
  unfold importBound
  refine wpAny_bind (wpAny_bind (wpAny_askSetting (wpAny_bind (wpAny_nsGet (ns s k) ?_))))
  rw [e]
  cases v with
  | none=>exact wpAny_pure (wpAny_pure q)
  | some v=>cases v <;> first | exact wpAny_pure (wpAny_pure q) | exact absurd rfl (hv _ _)
 cases e:B.mg "__name__" with
 | none=>exact ⟨true,triv none (fun _ _ h=>by cases h) e⟩
 | some v=>
  cases v with
  | str x t=>
   refine ⟨((if (x == ("__main__" : Str)) = true then some prog.main else (prog.modules.lookup x).map (·.2)).map fun top=>importsBind id top.body).getD true,fun A Q E s k q=>?_⟩
   unfold importBound
   refine wpAny_bind (wpAny_bind (wpAny_askSetting (wpAny_bind (wpAny_nsGet (ns s k) ?_))))
   rw [e]
   exact wpAny_pure (wpAny_pure q)
  | _=>exact ⟨true,triv _ (fun _ _ h=>by cases h) e⟩
theorem nZ {e:Expr} {args:List Expr}:cQ e = some args->∃ np ap p,e = .Call (.Attribute (.Name "Node" np) "__init__" ap) args [] p:=by
 refine eM (P:=fun e=>cQ e = some args->∃ np ap p,e = .Call (.Attribute (.Name "Node" np) "__init__" ap) args [] p) ?_ ?_ ?_ ?_ ?_ ?_ (fun f as kws p h=>?_) ?_ (fun e _ he h=>by rw [cQ,he] at h; cases h) e
 case refine_7=>
  cases hf:atN f with
  | none=>
   refine absurd h ?_
   have:exc none (fun _=>none) (fun _=>none) (fun _=>none) (fun o m _=>if nmE o = some "Node" /\ m = "__init__" /\ kws.isEmpty = true then some as else none) (fun _ _=>none) (fun _ _=>none) f = (none:Option (List Expr)):=by
    revert hf
    exact eM (P:=fun f=>atN f = none->exc none (fun _=>none) (fun _=>none) (fun _=>none) (fun o m _=>if nmE o = some "Node" /\ m = "__init__" /\ kws.isEmpty = true then some as else none) (fun _ _=>none) (fun _ _=>none) f = (none:Option (List Expr))) (fun _ _ _ _=>rfl) (fun _ _ _=>rfl) (fun _ _ _ _=>rfl) (fun _ _ _ h=>by cases h) (fun _ _ _ _ _=>rfl) (fun _ _ _ _ _=>rfl) (fun _ _ _ _ _=>rfl) (fun _ _ _ _=>rfl) (fun e he _ _=>he _ _ _ _ _ _ _ _) f
   show ¬ (exc none (fun _=>none) (fun _=>none) (fun _=>none) (fun o m _=>if nmE o = some "Node" /\ m = "__init__" /\ kws.isEmpty = true then some as else none) (fun _ _=>none) (fun _ _=>none) f = some args)
   rw [this]; intro q; cases q
  | some m=>
   obtain ⟨o,ap,rfl⟩:=oJ hf
   have h:(if nmE o = some "Node" /\ m = "__init__" /\ kws.isEmpty = true then some as else none) = some args:=h
   by_cases q:nmE o = some "Node" /\ m = "__init__" /\ kws.isEmpty = true
   ·rw [if_pos q] at h
    cases h
    obtain ⟨q1,rfl,q3⟩:=q
    obtain ⟨np,rfl⟩:=gX q1
    cases List.isEmpty_iff.mp q3
    exact ⟨_,_,_,rfl⟩
   ·rw [if_neg q] at h; cases h
 all_goals (intros; rename_i h; cases h)
theorem yD {args:List Expr} {np ap cp p:Pos} (hB:BsOk B) (hC:CtxOk prog w B C n) (h:∀ e ∈ args,dN prog w B C n e) (hs:args.all dH = true) (hlen:args.length < 30) (hline:(ap.endLine == cp.line) = true):
  oO prog w B C n (.Expr (.Call (.Attribute (.Name "Node" np) "__init__" ap) args [] cp) p):=by
 intro A E env κ G st s Q hA hE hκ O hw
 obtain ⟨hi,hk,hw⟩:C.ini = true /\ κ "Node" = some .globalImplicit /\ wEs C args κ (fun vs st1=>sH C vs st1 fun st2=>Q .next st2) st:=by
  have e:(if nmE (.Name "Node" np) = some "Node" /\ ("__init__" : Str) = "__init__" /\ ([]:List Keyword).isEmpty = true then some args else none) = some args:=if_pos ⟨rfl,rfl,rfl⟩
  rw [kT,show cQ (.Call (.Attribute (.Name "Node" np) "__init__" ap) args [] cp) = some args from e] at hw
  exact hw
 obtain ⟨nodeV,fV,i1,i2,i3,i4⟩:=hC.ini hi
 obtain ⟨b,hb⟩:=sE (prog:=prog) (w:=w) hB hE "Node" np
 refine wpAny_Expr_any ?_ (uA hE) rfl
 have hform:methodCallForm (args.length + ([]:List Keyword).length) (backTo cp (starEach args env)) (backToKw cp (keywordEach [] env)) = true:=by
  unfold methodCallForm
  rw [iK args env hs]
  exact zaS rfl (decide_eq_true hlen)
 have hpos:methodCallPos true (.Name "Node" np) env ap cp = pure cp:=by unfold methodCallPos; simp [hline]
 rw [arm_eval_Call,sW rfl]
 refine wpAny_bind (wpAny_Name ?_ (by decide +kernel))
 rw [loadName_read hE.kind (hκ.glob hk)]
 refine dI hB hE O.rep.inh O.over i1 ?_
 refine wpAny_bind (wpAny_standAt ?_)
 unfold methodCall
 rw [hform]
 refine wpAny_bind (wpAny_holding (i3 A E s _ _ b (fun a o e=>O.rep.inh.at_ _ _ (O.over _ _ e)) hb fun k hk'=>?_))
 refine wpAny_bind (wpAny_of_eq hpos ?_)
 have g:=GS.toks O.rep.inh k
 have O0:=O.grow g (show 1 <= k from Nat.le_trans O.rep.tk hk')
 refine bY (jE args env hs) (wpAny_mono (nK args h hs A E true env κ G st _ _ hA hE hκ O0 hw) (fun a s1 ⟨vs,ha,G1,st1,⟨ps,hq,hv⟩,O1,T1⟩=>?_) fun _ _ e=>e)
 subst ha
 refine ⟨O1.keepsAt i2,?_⟩
 obtain ⟨p,pa,pb,rfl,hq1⟩:=nG hq
 obtain ⟨ad,rfl,hq2⟩:=qP hq1
 clear hq hq1
 obtain ⟨v,_,rfl,h0,va,_,rfl,h1,vb,_,rfl,h2,rfl⟩:=hv
 simp only [VRel] at h0
 subst h0
 refine wpAny_mono (i4 A E true env G1 st1 s1 ad va vb pa pb _ hA O1 h1 h2 hq2) (fun v s2 ⟨G2,st2,hq2,O2,T2⟩=>?_) fun _ _ e=>e
 exact (aK (X:=FX w.params Q) (a:=Flow.next) O2 hq2).after (g.tr.trans (T1.trans T2))
noncomputable def zc6 (ts:List Expr):Bool:=match mJ ts with
 | some xn=>okN xn.1
 | none=>true
mutual
noncomputable def okS:Stmt->Bool
 | .Expr e _=>okE e
 | .Return e _=>okO e
 | .Assign ts e _=>okE e && (zfH ts e && (ts.all dH && zc6 ts))
 | .AugAssign t _ e _=>okE e && okE t
 | .If t b o _=>okE t && (pH b && pH o)
 | .While t b o _=>okE t && (pH b && pH o)
 | .For _ iter b o _=>okE iter && (zd9 iter && (pH b && pH o))
 | .Try b _ o _ _=>pH b && pH o
 | .Assert t _ _=>okE t
 | .FunctionDef _ _ _ _ _ _ _ _ _ _=>true
 | .AsyncFunctionDef _ _ _ _ _ _ _ _ _ _=>true
 | .ClassDef _ _ _ _ _ _ _ _ _ _ _=>true
 | .Delete _ _=>true
 | .TypeAlias _ _ _ _ _ _ _=>true
 | .AnnAssign _ _ _ _ _=>true
 | .AsyncFor _ _ _ _ _=>true
 | .With _ _ _=>true
 | .AsyncWith _ _ _=>true
 | .Match _ _ _=>true
 | .Raise _ _ _=>true
 | .TryStar _ _ _ _ _=>true
 | .Import _ _=>true
 | .ImportFrom _ _ _ _=>true
 | .Global _ _=>true
 | .Nonlocal _ _=>true
 | .Pass _=>true
 | .Break _=>true
 | .Continue _=>true
noncomputable def pH:List Stmt->Bool
 | []=>true
 | s :: ss=>okS s && pH ss
end
theorem mI {s:Stmt} (h:∀ κ Q st,¬ wS C κ s Q st):oO prog w B C n s:=fun _ _ _ _ _ _ _ _ _ _ _ _ hw=>(h _ _ _ hw).elim
theorem vR {e:Expr} {p:Pos} (hB:BsOk B) (hC:CtxOk prog w B C n) (h:okE e = true):oO prog w B C n (.Expr e p):=by
 cases hi:cQ e with
 | none=>exact yE (snd hB hC h) hi
 | some args=>
  obtain ⟨np,ap,cp,rfl⟩:=nZ hi
  have h:=(bH (bH h).2)
  exact yD hB hC (fun e he=>(iB hB hC args h.1 e he).1) (bH h.2).1 (of_decide_eq_true (bH (bH h.2).2).1) (bH (bH h.2).2).2
theorem yH {t e:Expr} {op:Operator} {p:Pos} (hB:BsOk B) (hC:CtxOk prog w B C n) (h:okE e = true) (ht:okE t = true):oO prog w B C n (.AugAssign t op e p):=by
 cases hn:nmE t with
 | none=>exact mI fun κ Q st hw=>by have hw:opt (nmE t) _:=hw; rw [hn] at hw; exact hw
 | some x=>
  obtain ⟨px,rfl⟩:=gX hn
  exact zbu hB hC (snd hB hC h) (fC (bH ht).2)
theorem yC {b o f:List Stmt} {hs:List ExceptHandler} {p:Pos} (hb:gS prog w B C n b) (ho:gS prog w B C n o):oO prog w B C n (.Try b hs o f p):=by
 cases hs with
 | nil=>exact mI fun κ Q st hw=>Bool.noConfusion hw.1
 | cons h hs=>cases f with
  | nil=>exact zbr hb ho
  | cons f fs=>exact mI fun κ Q st hw=>Bool.noConfusion hw.2.1
theorem o6 {ts:List Expr} {e:Expr} {p:Pos} (hB:BsOk B) (hC:CtxOk prog w B C n) (h:okE e = true) (h1:zfH ts e = true) (h2:ts.all dH = true) (h3:zc6 ts = true):oO prog w B C n (.Assign ts e p):=
 rJ hB hC (snd hB hC h) h1 h2 (fun x name hx=>by
  have h3:(match mJ ts with
   | some xn=>okN xn.1
   | none=>true) = true:=h3
  rw [hx] at h3; exact ⟨fC (bH h3).1,fC (bH h3).2⟩)
mutual
theorem zgE (hB:BsOk B) (hC:CtxOk prog w B C n):∀ s:Stmt,okS s = true->oO prog w B C n s
 | .Expr _ _,h=>vR hB hC h
 | .Break _,_=>vT
 | .Continue _,_=>yF
 | .Return (some _) _,h=>rI (snd hB hC h)
 | .Return none _,_=>mI fun _ _ _ h=>h
 | .Assign _ _ _,h=>o6 hB hC (bH h).1 (bH (bH h).2).1 (bH (bH (bH h).2).2).1 (bH (bH (bH h).2).2).2
 | .AugAssign _ _ _ _,h=>yH hB hC (bH h).1 (bH h).2
 | .If _ b o _,h=>zdR (zgF hB hC (bH h).1) (iA hB hC b (bH (bH h).2).1) (iA hB hC o (bH (bH h).2).2)
 | .While _ b o _,h=>vQ (zgF hB hC (bH h).1) (iA hB hC b (bH (bH h).2).1) (iA hB hC o (bH (bH h).2).2)
 | .For _ _ b o _,h=>zbt (snd hB hC (bH h).1) (iA hB hC b (bH (bH (bH h).2).2).1) (iA hB hC o (bH (bH (bH h).2).2).2) (bH (bH h).2).1
 | .Try b _ o _ _,h=>yC (iA hB hC b (bH h).1) (iA hB hC o (bH h).2)
 | .FunctionDef _ _ _ _ _ _ _ _ _ _,_=>mI fun _ _ _ h=>h
 | .AsyncFunctionDef _ _ _ _ _ _ _ _ _ _,_=>mI fun _ _ _ h=>h
 | .ClassDef _ _ _ _ _ _ _ _ _ _ _,_=>mI fun _ _ _ h=>h
 | .Delete _ _,_=>mI fun _ _ _ h=>h
 | .TypeAlias _ _ _ _ _ _ _,_=>mI fun _ _ _ h=>h
 | .AnnAssign _ _ _ _ _,_=>mI fun _ _ _ h=>h
 | .AsyncFor _ _ _ _ _,_=>mI fun _ _ _ h=>h
 | .With _ _ _,_=>mI fun _ _ _ h=>h
 | .AsyncWith _ _ _,_=>mI fun _ _ _ h=>h
 | .Match _ _ _,_=>mI fun _ _ _ h=>h
 | .Raise _ _ _,_=>mI fun _ _ _ h=>h
 | .TryStar _ _ _ _ _,_=>mI fun _ _ _ h=>h
 | .Assert _ _ _,h=>rK (zgF hB hC h)
 | .Import _ _,_=>mI fun _ _ _ h=>h
 | .ImportFrom _ _ _ _,_=>mI fun _ _ _ h=>h
 | .Global _ _,_=>mI fun _ _ _ h=>h
 | .Nonlocal _ _,_=>mI fun _ _ _ h=>h
 | .Pass _,_=>mI fun _ _ _ h=>h
theorem iA (hB:BsOk B) (hC:CtxOk prog w B C n):∀ ss:List Stmt,pH ss = true->gS prog w B C n ss
 | [],_=>zbs
 | s :: ss,h=>yG (zgE hB hC s (bH h).1) (iA hB hC ss (bH h).2)
end
theorem zgD (hB:BsOk B) (hC:CtxOk prog w B C n) {ss:List Stmt} (h:pH ss = true):gS prog w B C n ss:=iA hB hC ss h
end
theorem fG {P:Params} {G:GM} {σ:Nat->Option Cell} {h:Heap} (hc:∀ a c,σ a = some c->CellRel P G h a c /\ G a = none):Sub G (frz G σ h):=uL fun a c e=>(hc a c e).2
mutual
theorem yX {P:Params} {G:GM} {σ:Nat->Option Cell} {h:Heap} (hc:∀ a c,σ a = some c->CellRel P G h a c /\ G a = none):∀ (t:PV) {p:PV} {v:Value},VRel P G v p->Res σ p t->VRel P (frz G σ h) v t
 | .tup ts,p,v,hv,r=>by
  simp only [Res] at r
  obtain ⟨xs,rfl,r⟩:=r
  simp only [VRel] at hv ⊢
  obtain ⟨a,o,vs,n,h1,h2,h3,h4,h5,h6⟩:=hv
  exact ⟨a,o,vs,n,h1,fG hc _ _ h2,h3,h4,h5,iW hc ts h6 r⟩
 | .list ts,p,v,hv,r=>by
  simp only [Res] at r
  rcases r with ⟨xs,rfl,r⟩ | ⟨a,xs,rfl,e,r⟩
  ·simp only [VRel] at hv ⊢
   obtain ⟨a,o,vs,n,h1,h2,h3,h3',h4,h5,h6⟩:=hv
   exact ⟨a,o,vs,n,h1,fG hc _ _ h2,h3,h3',h4,h5,iW hc ts h6 r⟩
  ·simp only [VRel] at hv; subst hv
   obtain ⟨⟨vs,m,g1,g2,g3⟩,_⟩:=hc a _ e
   simp only [VRel]
   exact ⟨a,_,vs,m,rfl,(if_pos (by rw [e]; rfl)).trans g1,rfl,rfl,rfl,g2,iW hc ts g3 r⟩
 | .inst c ts,p,v,hv,r=>by
  simp only [Res] at r
  obtain ⟨xs,rfl,r⟩:=r
  simp only [VRel] at hv ⊢
  obtain ⟨vs,h1,h2⟩:=hv
  exact ⟨vs,h1.mono (fG hc),iW hc ts h2 r⟩
 | .none,p,v,hv,r=>by simp only [Res] at r; subst r; exact hv.mono (fG hc)
 | .bool _,p,v,hv,r=>by simp only [Res] at r; subst r; exact hv.mono (fG hc)
 | .int _,p,v,hv,r=>by simp only [Res] at r; subst r; exact hv.mono (fG hc)
 | .str _,p,v,hv,r=>by simp only [Res] at r; subst r; exact hv.mono (fG hc)
 | .rng _ _,p,v,hv,r=>by simp only [Res] at r; subst r; exact hv.mono (fG hc)
 | .ptr _,p,v,hv,r=>by simp only [Res] at r
 | .dict _,p,v,hv,r=>by simp only [Res] at r; subst r; exact hv.mono (fG hc)
theorem iW {P:Params} {G:GM} {σ:Nat->Option Cell} {h:Heap} (hc:∀ a c,σ a = some c->CellRel P G h a c /\ G a = none):∀ (ts:List PV) {ps:List PV} {vs:List Value},VRels P G vs ps->kP σ ps ts->VRels P (frz G σ h) vs ts
 | [],ps,vs,hv,r=>by
  simp only [kP] at r; subst r
  simp only [VRels] at hv ⊢; exact hv
 | t :: ts,ps,vs,hv,r=>by
  simp only [kP] at r
  obtain ⟨y,ys,rfl,r1,r2⟩:=r
  simp only [VRels] at hv ⊢
  obtain ⟨v,us,rfl,h1,h2⟩:=hv
  exact ⟨v,us,rfl,yX hc t h1 r1,iW hc ts h2 r2⟩
end
noncomputable def bA:List (Str × PV)->f9->f9
 | [],ρ=>ρ
 | (x,p) :: r,ρ=>bA r (upd ρ x p)
theorem nB {kindOf:Str->Option NameKind}:∀ (l:List (Str × PV)) (ρ:f9),(∀ x p,ρ x = some p->kindOf x = some .local \/ kindOf x = some .cell)->(∀ y ∈ l,kindOf y.1 = some .local \/ kindOf y.1 = some .cell)->
  ∀ x p,bA l ρ x = some p->kindOf x = some .local \/ kindOf x = some .cell
 | [],ρ,h,_,x,p,e=>h x p e
 | (n,q) :: r,ρ,h,hl,x,p,e=>by
  refine nB r (upd ρ n q) (fun y p e=>?_) (fun y hy=>hl y (List.mem_cons_of_mem _ hy)) x p e
  unfold upd at e
  split at e
  ·rename_i hh; subst hh; exact hl (_,q) (by simp)
  ·exact h y p e
theorem u4 {P:Params} {G:GM} {kindOf:Str->Option NameKind}:∀ (l:List (Str × Value)) (pl:List (Str × PV)) (ρ:f9) (m cm:Str->Option Value),
  (∀ x p,ρ x = some p->kindOf x = some .local->∃ v,m x = some v /\ VRel P G v p)->(∀ x p,ρ x = some p->kindOf x ≠ some .local->∃ v,cm x = some v /\ VRel P G v p)->
  l.map (·.1) = pl.map (·.1)->VRels P G (l.map (·.2)) (pl.map (·.2))->
  (∀ x p,bA pl ρ x = some p->kindOf x = some .local->∃ v,bindL kindOf l m x = some v /\ VRel P G v p) /\ (∀ x p,bA pl ρ x = some p->kindOf x ≠ some .local->∃ v,bindC kindOf l cm x = some v /\ VRel P G v p)
 | [],[],ρ,m,cm,h1,h2,_,_=>⟨h1,h2⟩
 | [],_ :: _,_,_,_,_,_,h,_=>by simp at h
 | _ :: _,[],_,_,_,_,_,h,_=>by simp at h
 | (n,v) :: l,(n',p) :: pl,ρ,m,cm,h1,h2,h3,h4=>by
  simp only [List.map_cons,List.cons.injEq] at h3
  obtain ⟨rfl,h3⟩:=h3
  simp only [List.map_cons,VRels] at h4
  obtain ⟨v',r,e,hv,h4⟩:=h4
  cases e
  refine u4 l pl (upd ρ n p) _ _ (fun x q e hk=>?_) (fun x q e hk=>?_) h3 h4
  ·unfold upd at e
   split at e
   ·rename_i hx; subst hx; cases e
    exact ⟨v,by rw [if_pos hk]; simp,hv⟩
   ·rename_i hx
    obtain ⟨u,a,b⟩:=h1 x q e hk
    refine ⟨u,?_,b⟩
    split
    ·show (if x = n then some v else m x) = _
     rw [if_neg hx]; exact a
    ·exact a
  ·unfold upd at e
   split at e
   ·rename_i hx; subst hx; cases e
    exact ⟨v,by rw [if_neg hk]; simp,hv⟩
   ·rename_i hx
    obtain ⟨u,a,b⟩:=h2 x q e hk
    refine ⟨u,?_,b⟩
    split
    ·exact a
    ·show (if x = n then some v else cm x) = _
     rw [if_neg hx]; exact a
theorem jT:∀ (names:List (Str × NameKind)) (n:Nat) (acc:List (Str × Addr)) (x:Str),(List.lookup x acc).isSome = true->(List.lookup x (cellsFrom n names acc)).isSome = true
 | [],_,_,_,h=>h
 | (m,k) :: r,n,acc,x,h=>by
  unfold cellsFrom
  split
  ·refine jT r _ _ x ?_
   rw [List.lookup_cons]
   split
   ·rfl
   ·exact h
  ·exact jT r _ _ x h
theorem fQ:∀ (names:List (Str × NameKind)) (n:Nat) (acc:List (Str × Addr)) (x:Str),(x,NameKind.cell) ∈ names->(List.lookup x (cellsFrom n names acc)).isSome = true
 | [],_,_,_,h=>by simp at h
 | (m,k) :: r,n,acc,x,h=>by
  unfold cellsFrom
  rcases List.mem_cons.mp h with e | e
  ·cases e
   rw [if_pos (by decide)]
   exact jT r _ _ _ (by simp [List.lookup_cons])
  ·split
   ·exact fQ r _ _ x e
   ·exact fQ r _ _ x e
noncomputable def jY (K:PV->Prop):Fl->St->Prop
 | .ret v,st=>∃ t,Res st.σ v t /\ K t
 | .next,_=>K .none
 | .brk,_=>False
 | .cont,_=>False
structure FunAt (K:Frag) (a:Addr) (fd:FuncData) (body:List Stmt):Prop where
 at_:∃ c d sl,K.lookup a = some ⟨c,d,.func fd,sl⟩
 body:fd.body = .stmts body
 clo:fd.closure = []
 glob:fd.globals = mainGlobals
 bi:fd.builtins = builtinsNs
 code:codeIn K fd.code fd.qualname = true
 co:fd.scope.isCoroutine = false
 gen:fd.scope.isGenerator = false
 kind:fd.scope.kind = .function
 free:fd.scope.names.all (fun n=>!(n.2 == .free)) = true
section
variable {prog:Program} {w:World} {B:Bs} {C:Ctx} {n:Nat}
theorem fP {a:Addr} {fd:FuncData} {body:List Stmt} (hB:BsOk B) (hF:FunAt B.K a fd body):KeepsAt prog w B.h₀ (.ref a):=by
 obtain ⟨c,d,sl,h⟩:=hF.at_
 refine ⟨.frame,fun A Q E s k q=>?_⟩
 unfold keeperOf
 exact wpAny_bind (wpAny_load (k _ _ (hB.kin _ _ h)) (wpAny_pure q))
end
section
variable {prog:Program} {w:World} {B:Bs} {C:Ctx} {n:Nat}
theorem qM {P:Params} {G:GM} {s s₁:Shared} {fd:FuncData} {a:Addr} {params:List Str} {vals:List Value} {ps:List PV} (hi:InH G s.heap) (tk:1 <= s₁.toks) (ho:Over B G)
  (hpar:∀ x ∈ params,fd.scope.names.lookup x = some .local \/ fd.scope.names.lookup x = some .cell) (hlen:params.length = ps.length) (hv:VRels P G vals ps) {σ:Nat->Option Cell} (hσ:∀ a c,σ a = some c->CellRel P G s.heap a c /\ G a = none)
  (x:InCallC s (callEnvC fd s.heap.objs.size a).locals (bindL (callEnvC fd s.heap.objs.size a).kindOf (params.zip vals) fun _=>none) (callEnvC fd s.heap.objs.size a).cells (bindC (callEnvC fd s.heap.objs.size a).kindOf (params.zip vals) fun _=>none) s₁):
  Ok B P G (callEnvC fd s.heap.objs.size a) ⟨bA (params.zip ps) fun _=>none,σ⟩ s₁:=by
 have hlv:=hv.length
 have e1:(params.zip vals).map (·.1) = (params.zip ps).map (·.1):=by
  rw [List.map_fst_zip (by omega),List.map_fst_zip (by omega)]
 have e2:VRels P G ((params.zip vals).map (·.2)) ((params.zip ps).map (·.2)):=by
  rw [List.map_snd_zip (by omega),List.map_snd_zip (by omega)]; exact hv
 have kp:=x.toInCall.keep
 obtain ⟨hL,hC⟩:=u4 (P:=P) (G:=G) (kindOf:=(callEnvC fd s.heap.objs.size a).kindOf) (params.zip vals) (params.zip ps) (fun _=>none) (fun _=>none) (fun _=>none) (fun _ _ e=>by cases e) (fun _ _ e=>by cases e) e1 e2
 have hk:∀ y p,bA (params.zip ps) (fun _=>none) y = some p->(callEnvC fd s.heap.objs.size a).kindOf y = some .local \/ (callEnvC fd s.heap.objs.size a).kindOf y = some .cell:=
  nB _ _ (fun _ _ e=>by cases e) fun y hy=>hpar y.1 (List.of_mem_zip hy).1
 have fresh:∀ c,s.heap.objs.size <= c->s.heap.get? c = none:=fun c h=>y9 h
 have cellsAt:∀ y c,(callEnvC fd s.heap.objs.size a).cells.lookup y = some c->s.heap.get? c = none /\ c ≠ s.heap.objs.size:=fun y c e=>by
  have:=x.above y c (PySem.mem_of_lookup e)
  exact ⟨fresh c (Nat.le_of_lt this),Nat.ne_of_gt this⟩
 have hG:∀ c,s.heap.get? c = none->G c = none:=fun c h=>by
  cases q:G c with
  | none=>rfl
  | some o=>have:=hi.at_ c o q; rw [h] at this; cases this
 have have_cell:∀ y,(callEnvC fd s.heap.objs.size a).kindOf y = some .cell->∃ c,(callEnvC fd s.heap.objs.size a).cells.lookup y = some c:=fun y e=>
  Option.isSome_iff_exists.mp (fQ fd.scope.names _ [] y (mem_of_lookup e))
 refine ⟨ho,⟨hi.keeps kp,tk,⟨_,x.toInCall.ns,hL⟩,fun y p e=>(hk y p e).elim .inl fun q=>.inr (.inl q),?_,?_,hG _ (fresh _ (Nat.le_refl _)),fun y c e=>⟨hG c (cellsAt y c e).1,(cellsAt y c e).2⟩,?_,fun b c e=>?_⟩,?_⟩
 ·intro y p e q
  rcases hk y p e with q1 | q1
  ·exact absurd q1 q
  ·obtain ⟨c,hc⟩:=have_cell y q1
   obtain ⟨v,h1,h2⟩:=hC y p e q
   exact ⟨c,v,hc,by have:=x.cell y c hc; rwa [h1] at this,h2⟩
 ·intro y e
  obtain ⟨c,hc⟩:=have_cell y e
  exact ⟨c,_,hc,x.cell y c hc⟩
 ·intro y z c e1 e2
  exact name_of_addr x.apart (PySem.mem_of_lookup e1) (PySem.mem_of_lookup e2)
 ·obtain ⟨h1,h2⟩:=hσ b c e
  obtain ⟨o,hob⟩:=h1.alive
  refine ⟨h1.mono (.refl _) fun o e=>kp b o e,h2,fun q=>?_,fun y q=>?_⟩
  ·rw [show b = s.heap.objs.size from q,eK] at hob; cases hob
  ·rw [(cellsAt y b q).1] at hob; cases hob
 ·intro y c e
  obtain ⟨o,ho,_⟩:=x.cell y c e
  exact ⟨o,ho⟩
noncomputable def Ok0 (B:Bs) (P:Params) (G:GM) (env:Env) (st:St) (s:Shared):Prop:=∀ k,1 <= k->Ok B P G env st { s with toks:=k }
theorem kI {tk0:Prop} {W:(Fl->St->Prop)->St->Prop} {a:Addr} {fd:FuncData} {body:List Stmt} {params:List Str} {k:Nat} {dv:List Value} {dp:List PV} (hB:BsOk B) (hF:FunAt B.K a fd body)
  (hb:∀ (A:Around) (E:Value->Shared->Prop) (env:Env) (G:GM) (st:St) (sh:Shared) (Q:Fl->St->Prop),Room n A->EnvOk env->KOk (eA fd.scope.names) env->env.code = fd.code->Ok0 B w.params G env st sh->(tk0->1 <= sh.toks)->
   W Q st->wpAny (model prog w) A (execs body env) (Lands B w.params true env G st sh (FX w.params Q)) E sh)
  (hpar:∀ x ∈ params,fd.scope.names.lookup x = some .local \/ fd.scope.names.lookup x = some .cell) (hlen:params.length = k + dp.length)
  (hd:∀ G,VRels w.params G dv dp)
  (hbind:∀ (s:Shared) (vals:List Value),B.K.In s.heap->vals.length = k->BindsTo s fd ⟨vals,[]⟩ (params.zip (vals ++ dv))):
  ∀ (A:Around) (E:Value->Shared->Prop) (G:GM) (s:Shared) (args:List Value) (ps:List PV) (K:PV->Prop),Room (n + 1) A->InH G s.heap->(tk0->1 <= s.toks)->Over B G->VRels w.params G args ps->
   ps.length = k /\ W (jY K) ⟨bA (params.zip (ps ++ dp)) fun _=>none,fun _=>none⟩->GW (model prog w) A w.params E G s (call (.ref a) args) K:=by
 intro A E G s args ps K hA hi tk ho hv ⟨hl,hw⟩
 obtain ⟨c,d,sl,hat⟩:=hF.at_
 have hin:B.K.In s.heap:=hB.kin.keeps fun b o e=>hi.at_ _ _ (ho _ _ e)
 have hv':=hv.append (hd G)
 have hlv:=hv'.length
 unfold GW
 refine wpAny_call (codeAny_call_function (body:=body) (by have:=hA.depth; show A.depth < 1000; omega) (hin _ _ hat) rfl hF.co hF.gen hF.body (codeRec_of hin hF.code) (hbind s args hin (by rw [hv.length,hl]) _ _ _ _ ?_))
 rw [hF.clo]
 refine wpAny_with_toks (n:=s.toks) (Nat.le_refl _) (wpAny_newFunctionEnv_cells hF.kind (fun y hy=>?_) fun env he s₁ x htk=>?_)
 ·rcases hpar y.1 (List.of_mem_zip hy).1 with q | q
  ·exact .inl q
  ·exact .inr ⟨q,fQ _ _ [] _ (mem_of_lookup q)⟩
 rw [<- show callEnvC fd s.heap.objs.size a = newEnv fd.scope s.heap.objs.size fd.globals (cellsFrom (s.heap.objs.size + 1) fd.scope.names []) (fd.qualname ++ ".<locals>.") (some a) fd.code none fd.builtins from rfl] at he
 subst he
 have kp:=x.toInCall.keep
 refine ⟨(hB.lim.keeps fun b o e=>hi.at_ _ _ (ho _ _ e)).keeps kp,codeAny_func ?_⟩
 have O:Ok0 B w.params G _ _ s₁:=fun t ht=>qM (B:=B) (s₁:={ s₁ with toks:=t }) hi ht ho hpar (by rw [hlen,List.length_append,hl]) hv' (σ:=fun _=>none) (fun _ _ e=>by cases e) (x.tok t)
 have hκ:KOk (eA fd.scope.names) (callEnvC fd s.heap.objs.size a):=fun y=>by
  rw [if_neg]
  ·rfl
  ·intro e
   have:=List.all_eq_true.mp hF.free _ (mem_of_lookup (show List.lookup y fd.scope.names = some .free from e))
   simp at this
 have hE:EnvOk (callEnvC fd s.heap.objs.size a):=⟨hF.kind,hF.glob,hF.bi⟩
 refine aH (hb (A.deeper (callEnvC fd s.heap.objs.size a)) _ _ G _ s₁ (jY K) hA.deeper hE hκ rfl O (fun h=>Nat.le_trans (tk h) htk) hw) fun f G2 st2 s2 hq O2 T2=>?_
 have hc:∀ a c,st2.σ a = some c->CellRel w.params G2 s2.heap a c /\ G2 a = none:=fun a c e=>let h:=O2.rep.cells a c e; ⟨h.1,h.2.1⟩
 have F:GS G s (frz G2 st2.σ s2.heap) s2:=by
  have keep:∀ b o,¬ XS b->s.heap.get? b = some o->s2.heap.get? b = some o:=fun b o n e=>by
   refine T2.keep b o n (kp b o e) (fun q=>?_) (fun _ y q=>?_) rfl
   ·have:=Heap.lt_size e; rw [q] at this; exact Nat.lt_irrefl _ this
   ·have h1:=x.above y b (PySem.mem_of_lookup q)
    have h2:=Heap.lt_size e
    exact Nat.lt_irrefl _ (Nat.lt_trans h1 h2)
  have back:∀ b,s₁.heap.get? b = none->s.heap.get? b = none:=fun b e=>pI (s:=s) (s':=s₁) (fun q=>by
   obtain ⟨o,ho⟩:=Option.isSome_iff_exists.mp q
   rw [kp b o ho]; rfl) e
  refine ⟨T2.ext.trans (fG hc),zc9 O2.rep,fun b o e=>?_,keep,?_,?_⟩
  ·unfold frz at e
   by_cases q:(fR (st2.σ b)).isSome = true
   ·obtain ⟨xs,q⟩:=g9 q
    rcases T2.fresh b (by rw [q]; rfl) with r | r
    ·cases r
    ·exact .inr (back b r)
   ·rw [if_neg q] at e
    rcases T2.new b o e with r | r
    ·exact .inl r
    ·exact .inr (back b r)
  ·obtain ⟨h',t',rfl⟩:=x.toInCall.same
   exact T2.os
  ·obtain ⟨h',t',rfl⟩:=x.toInCall.same
   exact T2.gens
 cases f with
 | next=>exact ⟨.none,_,hq,F,by simp only [VRel]⟩
 | brk=>exact hq.elim
 | cont=>exact hq.elim
 | ret v=>
  obtain ⟨p,⟨t,h1,h2⟩,h3⟩:=hq
  exact ⟨t,_,h2,F,yX hc t h3 h1⟩
theorem zae {a:Addr} {fd:FuncData} {body:List Stmt} {params:List Str} {k:Nat} {dv:List Value} {dp:List PV} (hB:BsOk B) (hC:CtxOk prog w B C n) (hF:FunAt B.K a fd body) (hok:pH body = true)
  (hpar:∀ x ∈ params,fd.scope.names.lookup x = some .local \/ fd.scope.names.lookup x = some .cell) (hlen:params.length = k + dp.length)
  (hd:∀ G,VRels w.params G dv dp)
  (hbind:∀ (s:Shared) (vals:List Value),B.K.In s.heap->vals.length = k->BindsTo s fd ⟨vals,[]⟩ (params.zip (vals ++ dv))):
  Meets prog w B (n + 1) (.ref a) (fun ps K=>ps.length = k /\ wSs C (eA fd.scope.names) body (jY K) ⟨bA (params.zip (ps ++ dp)) fun _=>none,fun _=>none⟩):=
 ⟨fP hB hF,fun A E G s args ps K hA hi tk ho hv h=>kI (tk0:=True) (W:=wSs C (eA fd.scope.names) body) hB hF (fun A E env G st sh Q hA hE hκ _ O t hw=>zgD hB hC hok A E env _ G st sh Q hA hE hκ (O sh.toks (t trivial)) hw) hpar hlen hd hbind A E G s args ps K hA hi (fun _=>tk) ho hv h⟩
end
noncomputable def sN (K:PV->(Nat->Option Cell)->Prop):Fl->St->Prop
 | .ret v,st=>K v st.σ
 | .next,st=>K .none st.σ
 | _,_=>False
section
variable {prog:Program} {w:World} {B:Bs} {C:Ctx} {n:Nat}
theorem pG {A:Around} {R:Result->Shared->Prop} {G:GM} {σ:Nat->Option Cell} {s:Shared} {a:Addr} {fd:FuncData} {body:List Stmt} {params:List Str} {vals:List Value} {ps:List PV} {K:PV->(Nat->Option Cell)->Prop}
  (hB:BsOk B) (hC:CtxOk prog w B C n) (hF:FunAt B.K a fd body) (hok:pH body = true) (hA:Room (n + 1) A)
  (hpar:∀ x ∈ params,fd.scope.names.lookup x = some .local \/ fd.scope.names.lookup x = some .cell) (hlen:params.length = ps.length)
  (hbind:∀ (s:Shared),B.K.In s.heap->BindsTo s fd ⟨vals,[]⟩ (params.zip vals))
  (hi:InH G s.heap) (tk:1 <= s.toks) (ho:Over B G) (hσ:∀ a c,σ a = some c->CellRel w.params G s.heap a c /\ G a = none) (hv:VRels w.params G vals ps)
  (hw:wSs C (eA fd.scope.names) body (sN K) ⟨bA (params.zip ps) fun _=>none,σ⟩)
  (hR:∀ p G' σ' s' v,K p σ'->Fr G σ s G' σ' s'->InH G' s'.heap->1 <= s'.toks->Over B G'->(∀ a c,σ' a = some c->CellRel w.params G' s'.heap a c /\ G' a = none)->VRel w.params G' v p->R (.ok (.ret v)) s'):
  codeAny (model prog w) A (.call (.ref a) ⟨vals,[]⟩) R s:=by
 obtain ⟨c,d,sl,hat⟩:=hF.at_
 have hin:B.K.In s.heap:=hB.kin.keeps fun b o e=>hi.at_ _ _ (ho _ _ e)
 have hlv:=hv.length
 refine codeAny_call_function (body:=body) (by have:=hA.depth; show A.depth < 1000; omega) (hin _ _ hat) rfl hF.co hF.gen hF.body (codeRec_of hin hF.code) (hbind s hin _ _ _ _ ?_)
 rw [hF.clo]
 refine wpAny_with_toks (n:=1) tk (wpAny_newFunctionEnv_cells hF.kind (fun y hy=>?_) fun env he s₁ x htk=>?_)
 ·rcases hpar y.1 (List.of_mem_zip hy).1 with q | q
  ·exact .inl q
  ·exact .inr ⟨q,fQ _ _ [] _ (mem_of_lookup q)⟩
 rw [<- show callEnvC fd s.heap.objs.size a = newEnv fd.scope s.heap.objs.size fd.globals (cellsFrom (s.heap.objs.size + 1) fd.scope.names []) (fd.qualname ++ ".<locals>.") (some a) fd.code none fd.builtins from rfl] at he
 subst he
 have kp:=x.toInCall.keep
 refine ⟨(hB.lim.keeps fun b o e=>hi.at_ _ _ (ho _ _ e)).keeps kp,codeAny_func ?_⟩
 have O:=qM (B:=B) hi htk ho hpar hlen hv hσ x
 have hκ:KOk (eA fd.scope.names) (callEnvC fd s.heap.objs.size a):=fun y=>by
  rw [if_neg]
  ·rfl
  ·intro e
   have:=List.all_eq_true.mp hF.free _ (mem_of_lookup (show List.lookup y fd.scope.names = some .free from e))
   simp at this
 have hE:EnvOk (callEnvC fd s.heap.objs.size a):=⟨hF.kind,hF.glob,hF.bi⟩
 refine aH (zgD hB hC hok (A.deeper (callEnvC fd s.heap.objs.size a)) _ _ _ G _ s₁ (sN K) hA.deeper hE hκ O hw) fun f G2 st2 s2 hq O2 T2=>?_
 have hc:∀ a c,st2.σ a = some c->CellRel w.params G2 s2.heap a c /\ G2 a = none:=fun a c e=>let h:=O2.rep.cells a c e; ⟨h.1,h.2.1⟩
 have alive₁:∀ b,(s.heap.get? b).isSome = true->(s₁.heap.get? b).isSome = true:=fun b q=>by
  obtain ⟨o,ho⟩:=Option.isSome_iff_exists.mp q
  rw [kp b o ho]; rfl
 have back:∀ b,s₁.heap.get? b = none->s.heap.get? b = none:=fun b e=>pI (s:=s) (s':=s₁) (alive₁ b) e
 have F:Fr G σ s G2 st2.σ s2:=by
  refine ⟨T2.ext,fun b o e=>?_,fun b o n e h=>?_,fun b e=>T2.alive b (alive₁ b e),T2.dom,fun b e=>?_,?_,?_⟩
  ·rcases T2.new b o e with r | r
   ·exact .inl r
   ·exact .inr (back b r)
  ·refine T2.keep b o n (kp b o e) (fun q=>?_) (fun _ y q=>?_) h
   ·have:=Heap.lt_size e; rw [q] at this; exact Nat.lt_irrefl _ this
   ·have h1:=x.above y b (PySem.mem_of_lookup q)
    have h2:=Heap.lt_size e
    exact Nat.lt_irrefl _ (Nat.lt_trans h1 h2)
  ·rcases T2.fresh b e with r | r
   ·exact .inl r
   ·exact .inr (back b r)
  ·obtain ⟨h',t',rfl⟩:=x.toInCall.same
   exact T2.os
  ·obtain ⟨h',t',rfl⟩:=x.toInCall.same
   exact T2.gens
 cases f with
 | next=>exact hR .none G2 st2.σ s2 .none hq F O2.rep.inh O2.rep.tk O2.over hc (by simp [VRel])
 | brk=>exact hq.elim
 | cont=>exact hq.elim
 | ret v=>
  obtain ⟨p,h1,h3⟩:=hq
  exact hR p G2 st2.σ s2 v h1 F O2.rep.inh O2.rep.tk O2.over hc h3
theorem Room.creation {A:Around} {C:Addr} {rest:List Value} {kw:List (Str × Value)} (h:Room (n + 2) A):Room (n + 1) (A.under (.builtin "type.__call__" ⟨.ref C :: rest,kw⟩)):=by
 have e1:(Code.builtin "type.__call__" ⟨.ref C :: rest,kw⟩).weight = 1:=by kernel_rfl
 have e2:(Code.builtin "type.__call__" ⟨.ref C :: rest,kw⟩).cUnits = 1:=by kernel_rfl
 refine ⟨h.handled,?_,?_⟩
 ·show A.depth + _ + (n + 1) <= 900
  rw [e1]; have:=h.depth; omega
 ·show A.units + _ + 20 * (n + 1) <= 5000
  rw [e2]; have:=h.units; omega
theorem zaF {Ca fI:Addr} {fd:FuncData} {body:List Stmt} {params:List Str} {k m:Nat} (hB:BsOk B) (hC:CtxOk prog w B C n) (hm:makesIn B.K Ca = true)
  (hin:findIn B.K (.ref Ca) "__init__" = some (some (.ref fI))) (hty:typeIn B.K (.ref fI) = some (.type "function")) (hkp:KeepsAt prog w B.h₀ (.ref Ca)) (hF:FunAt B.K fI fd body) (hok:pH body = true)
  (hpar:∀ x ∈ params,fd.scope.names.lookup x = some .local \/ fd.scope.names.lookup x = some .cell) (hlen:params.length = k + 1)
  (hbind:∀ (s:Shared) (vals:List Value),B.K.In s.heap->vals.length = k + 1->BindsTo s fd ⟨vals,[]⟩ (params.zip vals)):
  Meets prog w B (n + 2) (.ref Ca) (fun ps K=>ps.length = k /\ ∀ x:Nat,wSs C (eA fd.scope.names) body (sN fun p σ'=>p = .none /\ ∃ fs:List PV,σ' x = some (.ins Ca (fs.map some)) /\ K (.inst Ca fs))
   ⟨bA (params.zip (.ptr x :: ps)) fun _=>none,aZ (fun _=>none) x (.ins Ca (List.replicate m none))⟩):=by
 refine ⟨hkp,fun A E G s args ps K hA hi tk ho hv ⟨hl,hw⟩=>?_⟩
 have hink:B.K.In s.heap:=hB.kin.keeps fun b o e=>hi.at_ _ _ (ho _ _ e)
 obtain ⟨hh,g,d,t,os⟩:=s
 unfold GW
 refine wpAny_call (make_core (makes_of hink hm) (looks_findIn hink hin) (fun self=>bind_fn hink self hty) (.inl rfl) ?_)
 dsimp only at hi tk hink
 have d0:hh.get? hh.objs.size = none:=eK
 have d1:hh.get? (hh.objs.size + 1) = none:=y9 (Nat.le_succ _)
 have gn:∀ a,hh.get? a = none->G a = none:=fun a h=>by
  cases q:G a with
  | none=>rfl
  | some o=>have:=hi.at_ a o q; rw [h] at this; cases this
 have gs1:=GS.push (s:=⟨hh,g,d,t,os⟩) hi emptyDict rfl t
 have hgx:oN G hh.objs.size emptyDict (hh.objs.size + 1) = none:=by
  unfold oN; rw [if_neg (Nat.succ_ne_self _)]; exact gn _ d1
 have k2:∀ b o,hh.get? b = some o->((hh.push emptyDict).push (instObj Ca hh.objs.size)).get? b = some o:=fun b o e=>Heap.get?_push_of_some _ (Heap.get?_push_of_some _ e)
 have hi2:InH (oN G hh.objs.size emptyDict) ((hh.push emptyDict).push (instObj Ca hh.objs.size)):=gs1.inh.keeps fun a o e=>Heap.get?_push_of_some _ e
 have hx:((hh.push emptyDict).push (instObj Ca hh.objs.size)).get? (hh.objs.size + 1) = some (instObj Ca hh.objs.size):=by
  have:=Heap.get?_push_size (hh.push emptyDict) (o:=instObj Ca hh.objs.size) rfl
  rwa [Heap.size_push] at this
 refine pG (σ:=aZ (fun _=>none) (hh.objs.size + 1) (.ins Ca (List.replicate m none))) hB hC hF hok hA.creation hpar (ps:=.ptr (hh.objs.size + 1) :: ps) (by simp [hlen,hl]) (fun s' h'=>hbind s' _ h' (by simp [hv.length,hl])) hi2 tk (ho.ext gs1.ext) (fun a c e=>?_)
  (.cons (by simp [VRel]) (hv.mono gs1.ext)) (hw (hh.objs.size + 1)) fun p G' σ' s' v ⟨hp,fs,hfs,hK⟩ F hi' tk' ho' hσ' hvp=>?_
 ·unfold aZ at e
  split at e
  ·rename_i q; subst q; cases e
   refine ⟨⟨hh.objs.size,#[],hx,e8,by simp,fun i p e=>?_⟩,hgx⟩
   rw [List.getElem?_replicate] at e
   split at e <;> cases e
  ·cases e
 ·subst hp
  simp only [VRel] at hvp; subst hvp
  refine ⟨rfl,?_⟩
  obtain ⟨⟨dx,sl,h1,h2,h3,h4⟩,h5⟩:=hσ' _ _ hfs
  have hsl:∃ vs:List Value,sl = (vs.map some).toArray /\ VRels w.params G' vs fs:=by
   have go:∀ (fs:List PV) (sl:List (Option Value)),sl.length <= fs.length->(∀ (i:Nat) (p:PV),fs[i]? = some p->∃ v,sl[i]? = some (some v) /\ VRel w.params G' v p)->∃ vs:List Value,sl = vs.map some /\ VRels w.params G' vs fs:=by
    intro fs
    induction fs with
    | nil=>intro sl h _; exact ⟨[],by simpa using h,.nil⟩
    | cons f fs ih=>
     intro sl h hh
     obtain ⟨v,e1,e2⟩:=hh 0 f (by simp)
     cases sl with
     | nil=>simp at e1
     | cons y ys=>
      simp only [List.getElem?_cons_zero,Option.some.injEq] at e1
      subst e1
      obtain ⟨vs,e3,e4⟩:=ih ys (by simpa using h) fun i p e=>by simpa using hh (i + 1) p (by simpa using e)
      exact ⟨v :: vs,by rw [e3]; rfl,.cons e2 e4⟩
   obtain ⟨vs,e1,e2⟩:=go fs sl.toList (by simpa using h3) fun i p e=>by
    obtain ⟨v,e1,e2⟩:=h4 i p (by rw [List.getElem?_map,e]; rfl)
    exact ⟨v,by simpa using e1,e2⟩
   exact ⟨vs,by rw [<- e1],e2⟩
  obtain ⟨vs,rfl,hvs⟩:=hsl
  have hsub:Sub G' (oN G' (hh.objs.size + 1) { cls:=.ref Ca,dict:=some dx,data:=.plain,slots:=(vs.map some).toArray }):=fun a o e=>by
   unfold oN; split
   ·rename_i q; rw [q,h5] at e; cases e
   ·exact e
  refine ⟨.inst Ca fs,oN G' (hh.objs.size + 1) { cls:=.ref Ca,dict:=some dx,data:=.plain,slots:=(vs.map some).toArray },hK,⟨(gs1.ext.trans F.ext).trans hsub,hi'.add h1 (hi.tab.ne d1),fun a o e=>?_,fun a o nx e=>?_,F.os,F.gens⟩,?_⟩
  ·unfold oN at e; split at e
   ·rename_i q; subst q; exact .inr d1
   ·rcases F.new a o e with q | q
    ·unfold oN at q; split at q
     ·rename_i q1; subst q1; exact .inr d0
     ·exact .inl q
    ·refine .inr ?_
     show hh.get? a = none
     cases e2:hh.get? a with
     | none=>rfl
     | some o2=>have:=k2 a o2 e2; dsimp only at q; rw [this] at q; cases q
  ·refine F.keep a o nx (k2 a o e) ?_
   have ha:a ≠ hh.objs.size + 1:=fun q=>by dsimp only at e; rw [q,d1] at e; cases e
   unfold aZ; rw [if_neg ha]
  ·simp only [VRel]
   exact ⟨vs,⟨hh.objs.size + 1,dx,rfl,e8,hsub _ _ h2⟩,hvs.mono hsub⟩
end
section
variable {prog:Program} {w:World} {B:Bs} {n:Nat}
theorem Meets.weaken {v:Value} {F F':Fn} (h:Meets prog w B n v F) (k:∀ ps K,F' ps K->F ps K):Meets prog w B n v F':=
 ⟨h.1,fun A E G s args ps K hA hi tk ho hv hF=>h.2 A E G s args ps K hA hi tk ho hv (k ps K hF)⟩
theorem zej {C C0:Ctx} {Cn f:Addr} {mc:Value} {fd:FuncData} {body:List Stmt} {params:List Str} (hB:BsOk B) (hC0:CtxOk prog w B C0 n) (hg:B.mg "Node" = some (.ref Cn))
  (hsg:specialIn B.K (.ref Cn) "__getattribute__" = some (some (.builtin "type.__getattribute__"))) (hr:readsIn B.K Cn mc = true) (hf:findCls B.K (.ref Cn) mc "__init__" = some (.val (.ref f)))
  (hF:FunAt B.K f fd body) (hok:pH body = true) (hpar:∀ x ∈ params,fd.scope.names.lookup x = some .local \/ fd.scope.names.lookup x = some .cell) (hlen:params.length = 3)
  (hbind:∀ (s:Shared) (vals:List Value),B.K.In s.heap->vals.length = 3->BindsTo s fd ⟨vals,[]⟩ (params.zip vals))
  (hbody:∀ (ad:Nat) (pa pb:PV) (st:St) (K:St->Prop),(setCell C ad "source_line" pa st fun st1=>setCell C ad "source_column" pb st1 K)->
   wSs C0 (eA fd.scope.names) body (sN fun p σ'=>p = .none /\ K ⟨st.ρ,σ'⟩) ⟨bA (params.zip [.ptr ad,pa,pb]) fun _=>none,st.σ⟩):u9 prog w B C (n + 1):=by
 refine ⟨.ref Cn,.ref f,hg,fP hB hF,fun A E s Q pl b hk hl hq=>?_,fun A E cw env G st s ad va vb pa pb K hA O ha hb hK=>?_⟩
 ·have X:B.K.In s.heap:=hB.kin.keeps hk
  exact method_cls X hsg (cls_value X hr hf rfl (hq (s.toks + 1) (Nat.le_succ _)))
 ·obtain ⟨ρ,σ⟩:=st
  refine wpAny_call (pG (σ:=σ) (ps:=[.ptr ad,pa,pb]) hB hC0 hF hok hA hpar (by simpa using hlen) (fun s' h'=>hbind s' _ h' rfl) O.rep.inh O.rep.tk O.over (fun a c e=>let h:=O.rep.cells a c e; ⟨h.1,h.2.1⟩)
   (.cons (by simp [VRel]) (.cons ha (.one hb))) (hbody ad pa pb ⟨ρ,σ⟩ K hK) fun p G' σ' s' v ⟨hp,hk'⟩ F hi' tk' ho' hσ' hv=>?_)
  refine ⟨G',⟨ρ,σ'⟩,hk',?_,F.tr⟩
  have R:=O.rep
  obtain ⟨m,hn,hx⟩:=R.ns
  have hl:∃ o,s.heap.get? env.locals = some o:=by obtain ⟨o,_,_,h1,_⟩:=hn; exact ⟨o,h1⟩
  have σl:σ env.locals = none:=by
   cases e:σ env.locals with
   | none=>rfl
   | some c=>exact absurd rfl (R.cells _ c e).2.2.1
  have σc:∀ x c,env.cells.lookup x = some c->σ c = none:=by
   intro x c e
   cases q:σ c with
   | none=>rfl
   | some d=>exact absurd e ((R.cells _ d q).2.2.2 x)
  refine ⟨ho',⟨hi',tk',⟨m,hn.at' fun o e=>F.keep _ o R.lx e σl,fun x p e hk=>let ⟨v,h1,h2⟩:=hx x p e hk; ⟨v,h1,h2.mono F.ext⟩⟩,R.kind,?_,?_,?_,?_,R.cinj,?_⟩,?_⟩
  ·intro x p e hk
   obtain ⟨c,v,h1,h2,h3⟩:=R.cel x p e hk
   exact ⟨c,v,h1,dJ h2 fun o e=>F.keep c o (R.inh.tab.cell h2) e (σc x c h1),h3.mono F.ext⟩
  ·intro x e
   obtain ⟨c,v,h1,h2⟩:=R.cell0 x e
   exact ⟨c,v,h1,dJ h2 fun o e=>F.keep c o (R.inh.tab.cell h2) e (σc x c h1)⟩
  ·cases e:G' env.locals with
   | none=>rfl
   | some o=>
    obtain ⟨o',ho⟩:=hl
    rcases F.new _ o e with q | q
    ·rw [R.gl] at q; cases q
    ·rw [ho] at q; cases q
  ·intro x c e
   refine ⟨?_,(R.gc x c e).2⟩
   cases q:G' c with
   | none=>rfl
   | some o=>
    obtain ⟨o',ho⟩:=O.ct x c e
    rcases F.new _ o q with q1 | q1
    ·rw [(R.gc x c e).1] at q1; cases q1
    ·rw [ho] at q1; cases q1
  ·intro a c e
   obtain ⟨h1,h2⟩:=hσ' a c e
   refine ⟨h1,h2,?_⟩
   rcases F.fresh a (by dsimp only at e; rw [e]; rfl) with q | q
   ·obtain ⟨d,hd⟩:=Option.isSome_iff_exists.mp q
    exact (R.cells a d hd).2.2
   ·refine ⟨fun q1=>?_,fun x q1=>?_⟩
    ·obtain ⟨o',ho⟩:=hl; rw [q1,ho] at q; cases q
    ·obtain ⟨o',ho⟩:=O.ct x a q1; rw [ho] at q; cases q
  ·intro x c e
   obtain ⟨o,ho⟩:=O.ct x c e
   exact Option.isSome_iff_exists.mp (F.alive c (by rw [ho]; rfl))
end
noncomputable def uN (K:Frag) (a:Addr):Option FuncData:=match K.lookup a with
 | some ⟨_,_,.func fd,_⟩=>some fd
 | _=>none
noncomputable def bC (K:Frag) (a:Addr):List Stmt:=match uN K a with
 | some fd=>(match fd.body with
  | .stmts b=>b
  | _=>[])
 | none=>[]
noncomputable def aL (K:Frag) (a:Addr):List (Str × NameKind):=match uN K a with
 | some fd=>fd.scope.names
 | none=>[]
theorem sEq (a b:String):(Str.ofString a = Str.ofString b) = (a = b):=by
 apply propext
 constructor
 ·intro e
  rw [Str.ofString_eq_toList,Str.ofString_eq_toList] at e
  have e':a.toList.map Char.toNat = b.toList.map Char.toNat:=by simpa using congrArg (fun s:Str=>s.cps.toList) e
  have inj:Function.Injective Char.toNat:=fun c d h=>Char.toNat_inj.mp h
  exact String.toList_inj.mp ((List.map_inj_right inj).mp e')
 ·intro e; rw [e]
section
variable {C:Ctx} {κ:Kn}
theorem xJ {t:Expr} {b o:List Stmt} {p:Pos} {Q:Fl->St->Prop} (M:CtxMono C) (I:Nat->St->Prop)
  (turn:∀ n st,I n st->wE C t κ (tst fun c st1=>if c = true then wSs C κ b (nV (fun st2=>∃ m,m < n /\ I m st2) Q) st1 else wSs C κ o Q st1) st) (n:Nat) (st:St) (h:I n st):wS C κ (.While t b o p) Q st:=by
 have go:∀ k n st,I n st->n < k->eW (wE C t κ) (wSs C κ b) (wSs C κ o) Q k st:=by
  intro k
  induction k with
  | zero=>intro n st _ h; exact absurd h (Nat.not_lt_zero _)
  | succ k ih=>
   intro n st hI hm
   exact bB M t (gT fun c s=>bJ (dY M b (gY (fun s ⟨m,h1,h2⟩=>ih m s h2 (Nat.lt_of_lt_of_le h1 (Nat.le_of_lt_succ hm))) fun _ _ x=>x)) fun x=>x) (turn n st hI)
 exact ⟨n + 1,go _ n st h (Nat.lt_succ_self _)⟩
noncomputable def ev (C:Ctx) (κ:Kn) (e:Expr) (st:St) (v:PV):Prop:=wE C e κ (fun r st1=>r = v /\ st1 = st) st
noncomputable def tv (C:Ctx) (κ:Kn) (e:Expr) (st:St) (b:Bool):Prop:=wE C e κ (tst fun c st1=>c = b /\ st1 = st) st
theorem zfk {e:Expr} {st:St} {v:PV} {b:Bool} (M:CtxMono C) (h:ev C κ e st v) (hb:rA (der st.σ v) = some b):tv C κ e st b:=
 bB M e (fun r st1 ⟨h1,h2⟩=>by subst h1 h2; rw [fU hb]; exact ⟨rfl,rfl⟩) h
theorem tQ {e:Expr} {st:St} {b:Bool} {K:Bool->St->Prop} (M:CtxMono C) (h:tv C κ e st b) (k:K b st):wE C e κ (tst K) st:=
 bB M e (gT fun c s ⟨h1,h2⟩=>by subst h1 h2; exact k) h
theorem aX {e:Expr} {st:St} {v:PV} {Q:PV->St->Prop} (M:CtxMono C) (h:ev C κ e st v) (k:Q v st):wE C e κ Q st:=
 bB M e (fun r st1 ⟨h1,h2⟩=>by subst h1 h2; exact k) h
theorem bS {t:Expr} {b o:List Stmt} {p:Pos} {Q:Fl->St->Prop} {st:St} (M:CtxMono C) (c:Bool) (h:tv C κ t st c) (hb:c = true->wSs C κ b Q st) (ho:c = false->wSs C κ o Q st):wS C κ (.If t b o p) Q st:=by
 refine tQ M h ?_
 cases c
 ·exact ho rfl
 ·exact hb rfl
theorem aE {x:Str} {e:Expr} {px p:Pos} {Q:Fl->St->Prop} {st:St} (M:CtxMono C) (v:PV) (h:ev C κ e st v) (hs:dB κ x = true) (k:Q .next ⟨upd st.ρ x v,st.σ⟩):wS C κ (.Assign [.Name x px] e p) Q st:=by
 refine aX M h ?_
 exact ⟨Bool.and_eq_true_iff.mpr ⟨Bool.and_eq_true_iff.mpr ⟨hs,rfl⟩,rfl⟩,k⟩
theorem aP {e:Expr} {p:Pos} {Q:Fl->St->Prop} {st:St} (M:CtxMono C) (v:PV) (h:ev C κ e st v) (k:Q (.ret v) st):wS C κ (.Return (some e) p) Q st:=by
 exact aX M h k
theorem dP {x:Str} {op:Operator} {e:Expr} {px p:Pos} {Q:Fl->St->Prop} {st:St} (M:CtxMono C) (old v:PV) (h0:st.ρ x = some old) (h:ev C κ e st v) (hs:dB κ x = true) (k:inP op old v fun r=>Q .next ⟨upd st.ρ x r,st.σ⟩):wS C κ (.AugAssign (.Name x px) op e p) Q st:=by
 refine ⟨hs,?_⟩
 show opt (st.ρ x) _
 rw [h0]
 exact aX M h k
theorem fE {t:Expr} {b o:List Stmt} {p:Pos} {Q:Fl->St->Prop} (M:CtxMono C) (I:Nat->St->Prop)
  (turn:∀ n st,I n st->∃ c,tv C κ t st c /\ (c = true->wSs C κ b (nV (fun st2=>∃ m,m < n /\ I m st2) Q) st) /\ (c = false->wSs C κ o Q st)) (n:Nat) (st:St) (h:I n st):wS C κ (.While t b o p) Q st:=
 xJ M I (fun n st hI=>by
  obtain ⟨c,h1,h2,h3⟩:=turn n st hI
  refine tQ M h1 ?_
  cases c
  ·exact h3 rfl
  ·exact h2 rfl) n st h
theorem dU {e e':Expr} {es:List Expr} {p:Pos} {st:St} {c d:Bool} (M:CtxMono C) (h:tv C κ e st c) (h':c = true->tv C κ (.BoolOp .And (e' :: es) p) st d):tv C κ (.BoolOp .And (e :: e' :: es) p) st (c && d):=by
 refine bB M e (fun r st1 x=>?_) h
 obtain ⟨b,hb,rfl,rfl⟩:=dG x
 show opt (rA (der st1.σ r)) _
 rw [hb]
 cases b with
 | false=>rw [gW,if_pos (by decide),fU hb]; exact ⟨rfl,rfl⟩
 | true=>exact h' rfl
theorem xP {e e':Expr} {es:List Expr} {p:Pos} {st:St} {c d:Bool} (M:CtxMono C) (h:tv C κ e st c) (h':c = false->tv C κ (.BoolOp .Or (e' :: es) p) st d):tv C κ (.BoolOp .Or (e :: e' :: es) p) st (c || d):=by
 refine bB M e (fun r st1 x=>?_) h
 obtain ⟨b,hb,rfl,rfl⟩:=dG x
 show opt (rA (der st1.σ r)) _
 rw [hb]
 cases b with
 | true=>rw [gW,if_pos (by decide),fU hb]; exact ⟨rfl,rfl⟩
 | false=>exact h' rfl
theorem dZ {op:BoolOp} {e:Expr} {p:Pos} {st:St} {c:Bool} (h:tv C κ e st c):tv C κ (.BoolOp op [e] p) st c:=h
theorem jW {e:Expr} {p:Pos} {st:St} {c:Bool} (M:CtxMono C) (h:tv C κ e st c):tv C κ (.UnaryOp .Not e p) st (!c):=by
 refine bB M e (fun r st1 x=>?_) h
 obtain ⟨b,hb,rfl,rfl⟩:=dG x
 show opt (rA (der st1.σ r)) _
 rw [hb]
 exact ⟨rfl,rfl⟩
noncomputable def at1 (x:List Nat) (i:Nat):List Nat:=(x.drop i).take 1
theorem yT (x:List Nat) (i j:Nat) (h:i <= j):slc x (some (i:Int)) (some (j:Int)) = (x.drop i).take (j - i):=by
 unfold slc hV
 simp only [Option.map_some,Option.getD_some]
 rw [if_neg (by omega),if_neg (by omega)]
 simp only [Int.toNat_natCast]
 by_cases h1:i <= x.length
 ·rw [Nat.min_eq_left h1]
  by_cases h2:j <= x.length
  ·rw [Nat.min_eq_left h2]
  ·rw [Nat.min_eq_right (by omega)]
   rw [List.take_of_length_le (by simp),List.take_of_length_le (by simp; omega)]
 ·rw [show min i x.length = x.length from Nat.min_eq_right (by omega),List.drop_of_length_le (Nat.le_refl _),List.drop_of_length_le (by omega)]; simp
theorem zcf (x:List Nat) (i:Nat):uK x (i:Int) = x[i]?:=by
 unfold uK; rw [if_neg (by omega)]; simp
theorem gZ (c:Nat):∀ x:List Nat,oX [c] x = decide (c ∈ x)
 | []=>by simp [oX]
 | d :: x=>by
  rw [oX,gZ c x]
  by_cases h:c = d
  ·subst h; simp [List.isPrefixOf]
  ·have:(c == d) = false:=by simpa using h
   simp [List.isPrefixOf,this,h]
theorem bQ {Q:Fl->St->Prop} {st:St} (h:Q .next st):wSs C κ [] Q st:=h
theorem aA {s:Stmt} {ss:List Stmt} {Q:Fl->St->Prop} {st:St} (h:wS C κ s (c7 (fun st1=>wSs C κ ss Q st1) Q) st):wSs C κ (s :: ss) Q st:=h
theorem b8 {s:Stmt} {ss:List Stmt} {Q:Fl->St->Prop} {st:St} (M:CtxMono C) (R:St->Prop) (h:wS C κ s (c7 R Q) st) (k:∀ st1,R st1->wSs C κ ss Q st1):wSs C κ (s :: ss) Q st:=
 aA (xK M s (kZ k fun _ _ x=>x) h)
end
/-! what a reduction by the kernel needs:the form is found by simp (its proof is thrown away),the kernel checks it -/
theorem jK {α:Sort _} {a b:α}:(if some NameKind.local = some NameKind.globalImplicit then a else b) = b:=rfl
theorem zfO {α:Sort _} {a b:α}:(if some NameKind.globalImplicit = some NameKind.globalImplicit then a else b) = a:=rfl
theorem zfN {α:Sort _} {a b:α}:(if true = true then a else b) = a:=rfl
theorem pV {α:Sort _} {a b:α}:(if false = true then a else b) = b:=rfl
section
variable {C:Ctx} {κ:Kn} {e:Expr} {st:St}
end
theorem aC {C:Ctx} {κ:Kn} {c:Const} {k:Nat} {p:Pos} {st:St} {v:PV} (h:lX c = some v):ev C κ (.Constant c k p) st v:=by show opt (lX c) _; rw [h]; exact ⟨rfl,rfl⟩
theorem of_eq {A B:Prop} (h:A = B) (b:B):A:=h ▸ b
noncomputable def bV (L:List (Str × PV)) (ρ:f9):Prop:=L.map (fun e=>ρ e.1) = L.map (fun e=>some e.2)
theorem aF {x:Str} {v:PV} {r:List (Str × PV)} {ρ:f9} (h:ρ x = some v) (t:bV r ρ):bV ((x,v) :: r) ρ:=by
 show ρ x :: _ = some v :: _
 rw [h]; exact congrArg _ t
theorem aV:∀ (L:List (Str × PV)) {ρ:f9},bV L ρ->ρ = bA L ρ
 | [],_,_=>rfl
 | (x,v) :: r,ρ,h=>by
  obtain ⟨h1,h2⟩:=List.cons.inj h
  have e:upd ρ x v = ρ:=by
   funext y; unfold upd; split
   ·rename_i e; rw [e]; exact h1.symm
   ·rfl
  show ρ = bA r (upd ρ x v)
  rw [e]; exact aV r h2
theorem b7 {C:Ctx} {κ:Kn} {ss:List Stmt} {Q:Fl->St->Prop} {L:List (Str × PV)} {ρ:f9} {σ:Nat->Option Cell} (h:bV L ρ) (k:wSs C κ ss Q ⟨bA L ρ,σ⟩):wSs C κ ss Q ⟨ρ,σ⟩:=by
 rw [<- aV L h] at k; exact k
theorem zb7 {C:Ctx} {κ:Kn} {s:Stmt} {Q:Fl->St->Prop} {L:List (Str × PV)} {ρ:f9} {σ:Nat->Option Cell} (h:bV L ρ) (k:wS C κ s Q ⟨bA L ρ,σ⟩):wS C κ s Q ⟨ρ,σ⟩:=by
 rw [<- aV L h] at k; exact k
@[elab_as_elim] theorem keepP {P:St->Prop} {L:List (Str × PV)} (st:St) (h:bV L st.ρ) (k:P ⟨bA L st.ρ,st.σ⟩):P st:=by
 rw [<- aV L h] at k; exact k
section
variable {C:Ctx} {κ:Kn}
theorem bN {a b:Bool} (h:a = true) (k:b = true):(a && b) = true:=by rw [h,k]; rfl
theorem bO {x:Str} {e:Expr} {p1 p2 p3 p4:Pos} {a:Nat} {xs:List PV} {Q:Fl->St->Prop} {st:St} (M:CtxMono C) (v:PV) (hk:κ x = some .local) (hx:st.ρ x = some (.ptr a)) (hc:st.σ a = some (.lst xs)) (he:ev C κ e st v)
  (hr:c8 [e] = none) (hl:xs.length < aO) (k:Q .next ⟨st.ρ,aZ st.σ a (.lst (xs ++ [v]))⟩):
  wS C κ (.Expr (.Call (.Attribute (.Name x p1) (Str.ofString "append") p2) [e] [] p3) p4) Q st:=by
 have hn:Str.ofString "append" ≠ Str.ofString "__init__" :=by rw [Ne,sEq]; decide
 have h0:cQ (.Call (.Attribute (.Name x p1) (Str.ofString "append") p2) [e] [] p3) = none:=if_neg fun h=>hn h.2.1
 rw [kT,h0]
 refine ⟨rfl,?_⟩
 rw [jH,hr]
 refine ⟨rfl,?_⟩
 rw [gH,iJ,hk,jK,hx,gW]
 refine ⟨?_,aX M he ?_⟩
 ·show (Str.ofString "append" == Str.ofString "append" && (fR (st.σ a)).isSome) = true
  rw [hc,beq_self_eq_true]; rfl
 ·rw [jG]
  show (if Str.ofString "append" = Str.ofString "append" then _ else _)
  rw [if_pos rfl]
  exact ⟨xs,hc,hl,k⟩
theorem iV {x:Str} {px p:Pos} {pos:Pos} {Q:Fl->St->Prop} {st:St} (hm:C.mutL pos.line = true) (hs:dB κ x = true) (h:∀ a,st.σ a = none->Q .next ⟨upd st.ρ x (.ptr a),aZ st.σ a (.lst [])⟩):
  wS C κ (.Assign [.Name x px] (.List [] pos) p) Q st:=by
 show d4 C pos [] (fun v st1=>dT C κ [.Name x px] v st1 fun st2=>Q .next st2) st
 unfold d4
 rw [if_pos hm]
 exact fun a ha=>⟨bN (bN hs rfl) rfl,h a ha⟩
theorem zd0 {x y:Str} {px py p:Pos} {pos:Pos} {Q:Fl->St->Prop} {st:St} (hm:C.mutL pos.line = true) (hs:dB κ x = true) (hs':dB κ y = true) (h:∀ a,st.σ a = none->Q .next ⟨upd (upd st.ρ x (.ptr a)) y (.ptr a),aZ st.σ a (.lst [])⟩):
  wS C κ (.Assign [.Name x px,.Name y py] (.List [] pos) p) Q st:=by
 show d4 C pos [] (fun v st1=>dT C κ [.Name x px,.Name y py] v st1 fun st2=>Q .next st2) st
 unfold d4
 rw [if_pos hm]
 exact fun a ha=>⟨bN (bN hs rfl) (bN (bN hs' rfl) rfl),h a ha⟩
theorem nM {x y:Str} {e:Expr} {px py p:Pos} {Q:Fl->St->Prop} {st:St} (M:CtxMono C) (v:PV) (h:ev C κ e st v) (hs:dB κ x = true) (hs':dB κ y = true) (k:Q .next ⟨upd (upd st.ρ x v) y v,st.σ⟩):wS C κ (.Assign [.Name x px,.Name y py] e p) Q st:=by
 exact aX M h ⟨bN (bN hs rfl) (bN (bN hs' rfl) rfl),k⟩
theorem bZ {x y:Str} {e:Expr} {kk:Nat} {px py pt p:Pos} {Q:Fl->St->Prop} {st:St} (M:CtxMono C) (v w:PV) (h:ev C κ e st (.tup [v,w])) (hs:dB κ x = true) (hs':dB κ y = true) (k:Q .next ⟨upd (upd st.ρ x v) y w,st.σ⟩):wS C κ (.Assign [.Tuple [.Name x px,.Name y py] kk pt] e p) Q st:=by
 exact aX M h ⟨bN (bN hs (bN hs' rfl)) rfl,k⟩
theorem k0 {x y z:Str} {e:Expr} {kk:Nat} {px py pz pt p:Pos} {Q:Fl->St->Prop} {st:St} (M:CtxMono C) (v w u:PV) (h:ev C κ e st (.tup [v,w,u])) (hs:dB κ x = true) (hs':dB κ y = true) (hs'':dB κ z = true) (k:Q .next ⟨upd (upd (upd st.ρ x v) y w) z u,st.σ⟩):
  wS C κ (.Assign [.Tuple [.Name x px,.Name y py,.Name z pz] kk pt] e p) Q st:=by
 exact aX M h ⟨bN (bN hs (bN hs' (bN hs'' rfl))) rfl,k⟩
theorem rN {p:Pos} {Q:Fl->St->Prop} {st:St} (h:Q .brk st):wS C κ (.Break p) Q st:=h
theorem gV {p:Pos} {Q:Fl->St->Prop} {st:St} (h:Q .cont st):wS C κ (.Continue p) Q st:=h
theorem vW {b o:List Stmt} {hd:ExceptHandler} {hs:List ExceptHandler} {p:Pos} {Q:Fl->St->Prop} {st:St} (h:wSs C κ b (c7 (fun st1=>wSs C κ o Q st1) Q) st):wS C κ (.Try b (hd :: hs) o [] p) Q st:=⟨rfl,rfl,h⟩
theorem aQ (σ:Nat->Option Cell) (a:Nat) (c:Cell):aZ σ a c a = some c:=by unfold aZ; rw [if_pos rfl]
theorem d8 (σ:Nat->Option Cell) {a b:Nat} (h:b ≠ a) (c:Cell):aZ σ a c b = σ b:=by unfold aZ; rw [if_neg h]
theorem q9 (σ:Nat->Option Cell) (a:Nat) (c d:Cell):aZ (aZ σ a c) a d = aZ σ a d:=by funext b; unfold aZ; split <;> rfl
theorem mM:∀ zs:List (List Nat),fN (zs.map .str) = some zs
 | []=>rfl
 | z :: r=>by show (fN (r.map .str)).map (z :: ·) = _; rw [mM r]; rfl
theorem oA {x:Str} {k:Nat} {p1 p2 p3 p4:Pos} {a:Nat} {st:St} {v:List Nat} (zs:List (List Nat)) (hk:κ x = some .local) (hx:st.ρ x = some (.ptr a)) (hc:st.σ a = some (.lst (zs.map .str))) (hv:zs.flatten = v) (hl:v.length <= aO):
  ev C κ (.Call (.Attribute (.Constant (.str (Str.ofString "")) k p1) (Str.ofString "join") p2) [.Name x p3] [] p4) st (.str v):=by
 subst hv
 unfold ev
 rw [jH]
 refine ⟨rfl,?_⟩
 rw [show c8 [Expr.Name x p3] = none from rfl,gH,za6,show lX (.str (Str.ofString "")) = some (.str []) from rfl,gW]
 refine ⟨rfl,?_⟩
 rw [iS,iJ,hk,jK,hx,gW,jG]
 have hn:∀ y,y ≠ "join" ->¬ (Str.ofString "join" = Str.ofString y):=fun y h q=>h ((sEq _ _).mp q).symm
 show hW st.σ (Str.ofString "join") (.str []) [.ptr a] _
 unfold hW
 rw [if_neg (hn _ (by decide)),if_neg (hn _ (by decide)),if_neg (hn _ (by decide)),if_neg (hn _ (by decide)),if_neg (hn _ (by decide)),if_pos rfl]
 refine ⟨rfl,?_⟩
 show asL (Option.casesOn (motive:=fun _=>PV) (fR (st.σ a)) (.ptr a) .list) _
 rw [hc]
 exact ⟨zs,mM zs,hl,rfl,rfl⟩
end
section
variable {C:Ctx} {κ:Kn}
theorem eQ {x name:Str} {e:Expr} {p1 p2 p3:Pos} {a c i:Nat} {fs:List (Option PV)} {Q:Fl->St->Prop} {st:St} (M:CtxMono C) (v:PV) (h:ev C κ e st v) (hx:st.ρ x = some (.ptr a)) (hc:st.σ a = some (.ins c fs)) (hs:C.slot c name = some i) (hi:i < fs.length)
  (k:Q .next ⟨st.ρ,aZ st.σ a (.ins c (fs.set i (some v)))⟩):wS C κ (.Assign [.Attribute (.Name x p1) name p2] e p3) Q st:=by
 refine aX M h ?_
 show opt (st.ρ x) fun p=>asP p fun a=>setCell C a name v st fun st2=>Q .next st2
 rw [hx]
 exact ⟨c,fs,i,hc,hs,hi,k⟩
theorem iC {e0 e1 e2:Expr} {p1 p2 p3 p4:Pos} {a c i j:Nat} {fs:List (Option PV)} {Q:Fl->St->Prop} {st:St} (M:CtxMono C) (l k:PV) (hini:C.ini = true) (hκ:κ "Node" = some .globalImplicit) (h0:ev C κ e0 st (.ptr a)) (h1:ev C κ e1 st l) (h2:ev C κ e2 st k)
  (hc:st.σ a = some (.ins c fs)) (hs:C.slot c "source_line" = some i) (hi:i < fs.length) (hs':C.slot c "source_column" = some j) (hj:j < fs.length)
  (hQ:Q .next ⟨st.ρ,aZ (aZ st.σ a (.ins c (fs.set i (some l)))) a (.ins c ((fs.set i (some l)).set j (some k)))⟩):
  wS C κ (.Expr (.Call (.Attribute (.Name (Str.ofString "Node") p1) (Str.ofString "__init__") p2) [e0,e1,e2] [] p3) p4) Q st:=by
 have e:(if nmE (.Name "Node" p1) = some "Node" /\ ("__init__" : Str) = "__init__" /\ ([]:List Keyword).isEmpty = true then some [e0,e1,e2] else none) = some [e0,e1,e2]:=if_pos ⟨rfl,rfl,rfl⟩
 rw [kT,show cQ (.Call (.Attribute (.Name (Str.ofString "Node") p1) (Str.ofString "__init__") p2) [e0,e1,e2] [] p3) = some [e0,e1,e2] from e]
 refine ⟨hini,hκ,aX M h0 (aX M h1 (aX M h2 ?_))⟩
 exact ⟨c,fs,i,hc,hs,hi,c,fs.set i (some l),j,aQ _ _ _,hs',by rw [List.length_set]; exact hj,hQ⟩
end
section
variable {C:Ctx} {κ:Kn}
theorem zdb {tgt:Expr} {b o:List Stmt} {Q:Fl->St->Prop} (M:CtxMono C) (items:List PV) (I:Nat->St->Prop)
  (turn:∀ i (h:i < items.length) st,I i st->∃ ρ1,kD tgt items[i] st.ρ = some ρ1 /\ wSs C κ b (nV (I (i + 1)) Q) ⟨ρ1,st.σ⟩)
  (fin:∀ st,I items.length st->wSs C κ o Q st):∀ (n i:Nat) (st:St),i + n = items.length->I i st->dS tgt (wSs C κ b) (wSs C κ o) Q (items.drop i) st
 | 0,i,st,h,hI=>by
  have:i = items.length:=by omega
  subst this
  rw [List.drop_length]
  exact fin st hI
 | n + 1,i,st,h,hI=>by
  have hl:i < items.length:=by omega
  obtain ⟨ρ1,h1,h2⟩:=turn i hl st hI
  rw [List.drop_eq_getElem_cons hl]
  show opt (kD tgt items[i] st.ρ) _
  rw [h1]
  exact dY M b (gY (fun s x=>zdb M items I turn fin n (i + 1) s (by omega) x) fun _ _ x=>x) h2
theorem mF {tgt iter:Expr} {b o:List Stmt} {p:Pos} {Q:Fl->St->Prop} {st:St} (M:CtxMono C) (v:PV) (items:List PV) (hv:j4 v = some items) (hn:items.length <= aO) (hs:(cO tgt).all (dB κ) = true) (h:ev C κ iter st v) (I:Nat->St->Prop)
  (turn:∀ i (h:i < items.length) st,I i st->∃ ρ1,kD tgt items[i] st.ρ = some ρ1 /\ wSs C κ b (nV (I (i + 1)) Q) ⟨ρ1,st.σ⟩)
  (fin:∀ st,I items.length st->wSs C κ o Q st) (h0:I 0 st):wS C κ (.For tgt iter b o p) Q st:=by
 refine ⟨hs,aX M h ?_⟩
 show opt (j4 v) _
 rw [hv]
 exact ⟨hn,zdb M items I turn fin items.length 0 st (by omega) h0⟩
end
section
variable {prog:Program} {w:World} {B:Bs} {C:Ctx} {n:Nat}
noncomputable def zcJ (prog:Program) (w:World) (B:Bs) (C:Ctx) (n:Nat) (loc:Str) (e:Expr):Prop:=
 ∀ (A:Around) (E:Value->Shared->Prop) (cw:Bool) (env:Env) (κ:Kn) (G:GM) (st:St) (s:Shared) (Q:PV->St->Prop),κ loc = some .local->Room n A->EnvOk env->KOk κ env->Ok0 B w.params G env st s->
  wE C e κ Q st->wpAny (model prog w) A (eval e env) (Lands B w.params cw env G st s (VX w.params Q)) E s
noncomputable def zeY (prog:Program) (w:World) (B:Bs) (C:Ctx) (n:Nat) (loc:Str) (s:Stmt):Prop:=
 ∀ (A:Around) (E:Value->Shared->Prop) (env:Env) (κ:Kn) (G:GM) (st:St) (sh:Shared) (Q:Fl->St->Prop),κ loc = some .local->Room n A->EnvOk env->KOk κ env->Ok0 B w.params G env st sh->
  wS C κ s Q st->wpAny (model prog w) A (exec s env) (Lands B w.params true env G st sh (FX w.params Q)) E sh
noncomputable def zgn (prog:Program) (w:World) (B:Bs) (C:Ctx) (n:Nat) (loc:Str) (ss:List Stmt):Prop:=
 ∀ (A:Around) (E:Value->Shared->Prop) (env:Env) (κ:Kn) (G:GM) (st:St) (sh:Shared) (Q:Fl->St->Prop),κ loc = some .local->Room n A->EnvOk env->KOk κ env->Ok0 B w.params G env st sh->
  wSs C κ ss Q st->wpAny (model prog w) A (execs ss env) (Lands B w.params true env G st sh (FX w.params Q)) E sh
theorem vU {loc:Str} {s:Stmt} {ss:List Stmt} (h:zeY prog w B C n loc s) (hs:gS prog w B C n ss):zgn prog w B C n loc (s :: ss):=by
 intro A E env κ G st sh Q hx hA hE hκ O hw
 refine wpAny_execs_cons (aH (h A E env κ G st sh _ hx hA hE hκ O hw) fun f G1 st1 s1 hq O1 T1=>?_)
 cases f with
 | next=>exact aN T1 (hs A E env κ G1 st1 s1 Q hA hE hκ O1 hq)
 | brk=>exact (aK (X:=FX w.params Q) (a:=Flow.brk) O1 hq).after T1
 | cont=>exact (aK (X:=FX w.params Q) (a:=Flow.cont) O1 hq).after T1
 | ret v=>exact (aK (X:=FX w.params Q) (a:=Flow.ret v) O1 (by obtain ⟨p,h1,h2⟩:=hq; exact ⟨p,h1,h2⟩)).after T1
theorem o7 {loc x:Str} {px p:Pos} {e:Expr} (he:zcJ prog w B C n loc e) (hc:i6 e = false) (ht:zfH [.Name x px] e = true):zeY prog w B C n loc (.Assign [.Name x px] e p):=by
 intro A E env κ G st s Q hx hA hE hκ O hw
 refine wpAny_Assign_stores (aH (he A E true env κ G st s _ hx hA hE hκ O hw) fun v G1 st1 s1 ⟨u,hq,hv⟩ O1 T1=>?_) (tW hc) (jX ht env)
 obtain ⟨hn,hq⟩:=(show (([Expr.Name x px].all fun t=>(cO t).all (dB κ)) = true /\ opt (iO [.Name x px] u st1.ρ) fun ρ'=>Q .next ⟨ρ',st1.σ⟩) from hq)
 obtain ⟨ρ',hbnd,hq⟩:=dG hq
 refine aH (gR hA.handled hE [.Name x px] G1 st1 s1 v u ρ' O1 (fun t ht x hx=>nJ hκ (List.all_eq_true.mp (List.all_eq_true.mp hn t ht) x hx)) rfl hv hbnd) fun _ G2 st2 s2 e2 O2 T2=>?_
 subst e2
 exact (aK (X:=FX w.params Q) (a:=Flow.next) O2 hq).after (T1.trans T2)
theorem zgM {x:Str} {p:Pos} {A:Around} {E:Value->Shared->Prop} {env:Env} {κ:Kn} {G:GM} {st:St} {s:Shared} {Q:PV->St->Prop} {R:Value->Shared->Prop} (hE:EnvOk env) (hκ:KOk κ env) (O:Ok0 B w.params G env st s) (ok:(x == ("__debug__" : Str)) = false)
  (hx:κ x = some .local) (hw:wE C (.Name x p) κ Q st) (k:∀ u v,Q u st->VRel w.params G v u->R v s):wpAny (model prog w) A (eval (.Name x p) env) R E s:=by
 rw [iJ,if_neg (by rw [hx]; decide)] at hw
 obtain ⟨v,e,hw⟩:=dG hw
 have O1:=(O 1 (Nat.le_refl 1)).rep
 have hl:env.kindOf x = some .local:=hκ.loc hx
 obtain ⟨m,hm,hx⟩:=O1.ns
 obtain ⟨u,h1,h2⟩:=hx x v e hl
 exact wpAny_Name (wpAny_loadName_local hE.kind hl hm h1 (k _ _ hw h2)) ok
theorem yP {x:Str} {px:Pos} {i:Int} {k:Nat} {pi sp p:Pos} (ok:(x == ("__debug__" : Str)) = false):
  zcJ prog w B C n x (.Subscript (.Name x px) (.Slice none (some (.Constant (.int i) k pi)) none sp) p):=by
 intro A E cw env κ G st s Q hx hA hE hκ O hw
 have hw:wE C (.Name x px) κ (fun ov st1=>(none:Option Expr).isNone = true /\ -4611686018427387904 < i /\ i < 4611686018427387904 /\ zc2 (der st1.σ ov) none (some i) fun r=>Q r st1) st:=hw
 have hi:InH G s.heap:=(O 1 (Nat.le_refl 1)).rep.inh
 refine Subscript_ (zgM hE hκ O ok hx hw fun x ov hq hv=>?_)
 refine PySem.wpAny_Slice ?_
 rw [evalPart_none]
 refine wpAny_pure ?_
 rw [evalPart_some]
 obtain ⟨_,b1,b2,hq3⟩:=hq
 rw [arm_eval_Constant]
 refine wpAny_mkInt (wpAny_pure ?_)
 have O3:=O (s.toks + 1) (Nat.le_add_left 1 _)
 have g0:GS G s G { s with toks:=s.toks + 1 }:=GS.toks hi _
 have g:GS G { s with toks:=s.toks + 1 } G { s with toks:=s.toks + 1,heap:=s.heap.push { cls:=.type "slice",data:=.fields #[.none,.int i s.toks,.none] } }:=GS.heap O3.rep.inh (s.toks + 1) fun a o e=>Heap.get?_push_of_some _ e
 have O4:=O3.grow g O3.rep.tk
 have hv4:=O4.rep.view hv
 have hat:(s.heap.push { cls:=.type "slice",data:=.fields #[.none,.int i s.toks,.none] }).get? s.heap.objs.size = some { cls:=.type "slice",data:=.fields #[.none,.int i s.toks,.none] }:=Heap.get?_push_size _ rfl
 have hlv:∃ t:Tok,Value.none = partValue ((none:Option Int).map (·,t)):=⟨0,rfl⟩
 have huv:∃ t:Tok,Value.int i s.toks = partValue ((some i:Option Int).map (·,t)):=⟨s.toks,rfl⟩
 obtain ⟨T,ci,t1,t2,t3⟩:=yS (prog:=prog) (A:=A) (E:=E) O4.rep.inh hv4 hat hlv huv hq3
 exact tail_any (ops:=[.ref s.heap.objs.size,ov]) t1 t2 (aN (g0.tr.trans g.tr) (cA O4 t3)) rfl
noncomputable def zgo (prog:Program) (w:World) (B:Bs) (n:Nat) (v:Value) (F:Fn):Prop:=
 KeepsAt prog w B.h₀ v /\ ∀ (A:Around) (E:Value->Shared->Prop) (G:GM) (s:Shared) (args:List Value) (ps:List PV) (K:PV->Prop),
  Room n A->InH G s.heap->Over B G->VRels w.params G args ps->F ps K->GW (model prog w) A w.params E G s (call v args) K
end
noncomputable def zfB (x:List Nat):Prop:=∀ c ∈ x,c < 1114112
noncomputable def FS (y:Value):Prop:=∃ (x:List Nat) (t:Tok),y = .str ⟨x.toArray⟩ t /\ okStr x /\ x.length <= 4
section
variable {prog:Program} {w:World}
noncomputable def tK (prog:Program) (w:World) (h₀:Heap) (e:Expr) (cenv:Env) (c:Str):Prop:=∀ (A:Around) (E:Value->Shared->Prop) (s:Shared) (m:Str->Option Value) (a:List Nat) (t:Tok),okStr a->a.length <= 1->(∀ b o,h₀.get? b = some o->s.heap.get? b = some o)->s.heap.Ns cenv.locals m->m c = some (.str ⟨a.toArray⟩ t)->
 wpAny (model prog w) A (PySem.eval e cenv) (fun y s'=>FS y /\ ∃ k,s' = { s with toks:=k }) E s
theorem zcn {h₀:Heap} {cenv:Env} {c:Str} {p:Pos} (hk:cenv.scope.kind = .function) (hl:cenv.scope.names.lookup c = some .local) (hd:(c == ("__debug__" : Str)) = false):tK prog w h₀ (.Name c p) cenv c:=
 fun A E s m a t ha hz _ hn hv=>ldG hn hv ⟨⟨a,t,rfl,ha,Nat.le_trans hz (by decide)⟩,s.toks,rfl⟩ hk hl hd
theorem zf7 {h₀:Heap} {cenv:Env} {c q r:Str} {p1 p2 p3 p4 p5:Pos} {k1 k2:Nat} {o:Expr} (hk:cenv.scope.kind = .function) (hl:cenv.scope.names.lookup c = some .local) (hd:(c == ("__debug__" : Str)) = false) (hr:(r.cps.toList.all (· < 1114112) && decide (r.cps.toList.length <= 4)) = true)
  (h:tK prog w h₀ o cenv c):tK prog w h₀ (.IfExp (.Compare (.Name c p1) [.Eq] [.Constant (.str q) k1 p2] p3) (.Constant (.str r) k2 p4) o p5) cenv c:=by
 intro A E s m a t ha hz hu hn hv
 refine IfExp_ (wpAny_isTrue_Compare1 (ldG hn hv (Calls.Constant_str (P.eq_str (wpAny_truthy_bool ?_))) hk hl hd) rfl)
 split
 ·obtain ⟨h1,h2⟩:=Bool.and_eq_true_iff.mp hr
  have h2:=of_decide_eq_true h2
  exact Calls.Constant_str ⟨⟨r.cps.toList,_,rfl,⟨fun x hx=>of_decide_eq_true (List.all_eq_true.mp h1 x hx),Nat.le_trans h2 (by decide)⟩,h2⟩,_,rfl⟩
 ·exact wpAny_mono (h A E { s with toks:=s.toks + 1 } m a t ha hz hu hn hv) (fun y s' ⟨h1,k,h2⟩=>⟨h1,k,h2⟩) fun _ _ e=>e
theorem zec {h:Heap} {x:Addr} {es':Array DictEntry} {n:Nat} {es:List (List Nat × List Nat)} (hG:h.get? x = some { cls:=.type "dict",data:=.dict es' n }) (hr:tL w.params es'.toList es):
  h.MapOf (strKind prog w) x (fun k=>findBy Value.isStrOf es' k):=
 ⟨_,es',n,hG,⟨rfl,rfl,rfl⟩,rfl,fun e he=>by
  obtain ⟨k,⟨t,e1⟩,e2⟩:=(oF hr).1 e (Array.mem_toList_iff.mpr he)
  exact ⟨⟨k.toArray⟩,by rw [e1]; exact strKind_is prog w _ t,e2⟩,fun _=>rfl⟩
theorem zeJ {h₀:Heap} {mg:Str->Option Value} {cenv:Env} {c D:Str} {p1 p2 p3 p4 p5:Pos} {x:Addr} {es':Array DictEntry} {n:Nat} {es:List (List Nat × List Nat)} (hk:cenv.scope.kind = .function) (hl:cenv.scope.names.lookup c = some .local) (hd:(c == ("__debug__" : Str)) = false) (hD:(D == ("__debug__" : Str)) = false)
  (hkD:cenv.kindOf D = some .globalImplicit) (hng:h₀.Ns cenv.globals mg) (hm:mg D = some (.ref x)) (ho:h₀.get? x = some { cls:=.type "dict",data:=.dict es' n }) (hne:x ≠ sysModules) (hr:tL w.params es'.toList es) (hes:es.all (fun e=>decide (e.2.length <= 4)) = true) (hline:(p2.endLine == p5.line) = true):
  tK prog w h₀ (.Call (.Attribute (.Name D p1) (Str.ofString "get") p2) [.Name c p3,.Name c p4] [] p5) cenv c:=by
 intro A E s m a t ha hz hu hn hv
 have ho':=hu _ _ ho
 refine gP rfl rfl (show 2 < 30 by decide) hline (wpAny_Name ?_ hD)
 rw [loadName_read hk hkD]
 refine Calls.loadGlobal_global (mg:=mg) (hng.keeps hu) hm ⟨"dict", "dict.get",PySem.F.plainAttrs_dict,PySem.F.slot_dict_get,PySem.F.type_dict_get,⟨_,ho',rfl⟩,(fun b e=>by cases e; exact ⟨_,ho',rfl⟩),?_⟩
 refine bY rfl (Calls.evalArgs_plain (Calls.spliced_cons (ldG hn hv (Calls.spliced_cons (ldG hn hv (Calls.spliced_nil ⟨cC _ _,?_⟩) hk hl hd)) hk hl hd)))
 have hmo:=zec (prog:=prog) ho' hr
 refine wpAny_call (codeAny_call_builtin F.slot_dict_get.plain F.entry_dict_get (F.slot_dict_get.check _ _ _ _ _ _ _ _ hmo.typeIs (F.args_dict_get_3 _ _ _)
  (meets_dict_get_default (strKind prog w) x (strKind_is prog w _ t) (beq_eq_false_iff_ne.mpr hne) _ A (wants _ E) s ⟨_,hmo,?_⟩)))
 rcases zci hr a with ⟨q,t',h1,h2,h3⟩ | ⟨h1,h2⟩
 ·show FS _ /\ _
  rw [h2]
  have hq:q.length <= 4:=by
   have:∀ l:List (List Nat × List Nat),l.all (fun e=>decide (e.2.length <= 4)) = true->l.lookup a = some q->q.length <= 4:=fun l=>by
    induction l with
    | nil=>intro _ h; cases h
    | cons e l ih=>
     intro h1 h2
     obtain ⟨g1,g2⟩:=Bool.and_eq_true_iff.mp h1
     rw [List.lookup_cons] at h2
     split at h2
     ·cases h2; exact of_decide_eq_true g1
     ·exact ih g2 h2
   exact this es hes h1
  exact ⟨⟨q,t',rfl,h3,hq⟩,_,rfl⟩
 ·show FS _ /\ _
  rw [h2]
  exact ⟨⟨a,t,rfl,ha,Nat.le_trans hz (by decide)⟩,_,rfl⟩
theorem rP (n:Nat):passing (fun _=>true) n 0 = List.range n:=by unfold passing; rw [List.drop_zero]; exact List.filter_eq_self.mpr fun _ _=>rfl
theorem zaf:∀ (l:List (Str × Tok)),(∀ v ∈ strValues l,FS v)->∃ zs:List (List Nat),l.map (·.1) = zs.map (fun z=>⟨z.toArray⟩) /\ zfB zs.flatten /\ zs.flatten.length <= 4 * l.length
 | [],_=>⟨[],rfl,fun c h=>(by cases h),Nat.le_refl _⟩
 | (y,t) :: l,h=>by
  obtain ⟨x,u,e,h1,h2⟩:=h (.str y t) List.mem_cons_self
  obtain ⟨zs,e1,h3,h4⟩:=zaf l fun v hv=>h v (List.mem_cons_of_mem _ hv)
  injection e with e _
  refine ⟨x :: zs,by rw [List.map_cons,List.map_cons,e1,<- e],fun c hc=>?_,?_⟩
  ·rw [List.flatten_cons] at hc
   exact (List.mem_append.mp hc).elim (h1.1 c) (h3 c)
  ·rw [List.flatten_cons,List.length_append,List.length_cons,Nat.mul_succ,Nat.add_comm]
   exact Nat.add_le_add h4 h2
theorem z4 {zs:List (List Nat)} (h:zs.flatten.length <= aO):JoinOk ⟨#[]⟩ (zs.map fun z=>⟨z.toArray⟩) = true:=by
 unfold JoinOk tooLong
 rw [StrLaws.joinTotal]
 simp only [Bool.not_eq_true',decide_eq_false_iff_not,gt_iff_lt,Nat.not_lt]
 have:((zs.map fun z=>(⟨z.toArray⟩:Str)).map (·.length)).sum = zs.flatten.length:=by
  rw [List.length_flatten,List.map_map]
  exact congrArg List.sum (List.map_congr_left fun z _=>by simp [Str.length])
 rw [this]
 have h0:(⟨#[]⟩:Str).length = 0:=rfl
 rw [h0,Nat.mul_zero,Nat.add_zero]
 exact h
theorem mR {A:Around} {E:Value->Shared->Prop} {s:Shared} {x:Str} {t:Tok} {Q:Value->Shared->Prop}
  (hQ:∀ (o:Obj) (St:Nat->Heap->Prop),o.isFreed = false->(∀ A':Around,A'.handled = none->Walks prog w A' s.heap.objs.size [s.heap.objs.size] [s.heap.objs.size] x.cps.size (SignAt x) St)->St 0 (s.heap.push o)->
   Q (.ref s.heap.objs.size) { s with heap:=s.heap.push o }):wpAny (model prog w) A (pyIter (.str x t)) Q E s:=by
 cases ha:x.cps.all (· < 128)
 ·exact wpAny_pyIter_wide ha (hQ _ _ rfl (fun A' hA=>Walks.strWide hA _ x t) ⟨_,Heap.get?_push_size _ rfl,rfl,rfl⟩)
 ·exact wpAny_pyIter_ascii ha (hQ _ _ rfl (fun A' hA=>Walks.strAscii hA _ x t) ⟨_,Heap.get?_push_size _ rfl,rfl,rfl⟩)
theorem zfq {h h':Heap} {c P:Nat} {ps:Array Value} (x:h'.IsCode c P ps) (t:h'.TableAt c P ps) (T:TabX h) (k:∀ b o,b ≠ P->h.get? b = some o->h'.get? b = some o):TabX h':=fun Q q=>by
 by_cases e:Q = P
 ·subst e
  obtain ⟨o,vs,file,tf,flags,tg,inF,text,tt,op,_,_,_,_,_,_,_,h1,h2,h3,_⟩:=x
  exact ⟨_,ps,t.2,rfl,h3,rfl⟩
 ·obtain ⟨o,qs,h1,r⟩:=T Q q
  exact ⟨o,qs,k Q o e h1,r⟩
theorem sJ {A:Around} {E:Value->Shared->Prop} {s:Shared} {env:Env} {c P:Addr} {ps:Array Value} {pos:Pos} {qualname:Str} {scope:Scope} {Q:Value->Shared->Prop} (hc:env.code = .ref c) (hok:s.heap.IsCode c P ps) (htab:s.heap.TableAt c P ps)
  (hQ:∀ code h' tk ps',Heap.ExtBut P s.heap h'->h'.IsCode c P ps'->h'.TableAt c P ps'->Q code { s with heap:=h',toks:=tk }):wpAny (model prog w) A (genexprCode env pos qualname scope) Q E s:=by
 cases hnf:codeAmong pos ps.toList with
 | some cv=>exact wpAny_genexprCode_hit hc hok hnf (hQ cv s.heap s.toks ps (Heap.ExtBut.refl _ _) hok htab)
 | none=>exact wpAny_genexprCodeX hc hok htab hnf fun c' h' tk hx _ _ h1 _ h2 _=>hQ _ _ _ _ hx h1 h2
noncomputable def ze1 (s:Shared) (n:Nat) (Q:Value->Shared->Prop):Prop:=∀ (y:List Nat) (t:Tok) (s':Shared),zfB y->y.length <= 4 * n->(∀ b o,¬ XS b->s.heap.get? b = some o->s'.heap.get? b = some o)->TabX s'.heap->(AllBare s.gens->AllBare s'.gens)->s'.os = s.os->Q (.str ⟨y.toArray⟩ t) s'
theorem z5 {A:Around} {E:Value->Shared->Prop} {s:Shared} {env:Env} {elt iter:Expr} {c:Str} {px:Pos} {scope:Scope} {pos:Pos} {Q:Value->Shared->Prop} {x:List Nat} {t t0:Tok} {cX bm PX:Nat} {ps:Array Value} {mg:Str->Option Value} {ob:Obj}
  (hh:A.handled = none) (hroom:A.depth < recursionLimit) (hco:scope.isCoroutine = false) (hclos:closureFor scope env = pure []) (hcell:∀ y ∈ scope.names,y.2 ≠ .cell) (h0:scope.names.lookup (".0" : Str) = some NameKind.local)
  (hx:scope.names.lookup c = some .local) (hkind:scope.kind = .function) (hcode:env.code = .ref cX) (hP:XS PX) (htab:TabX s.heap) (hok:s.heap.IsCode cX PX ps) (htb:s.heap.TableAt cX PX ps) (hM:BMod s.heap env.globals mg bm ob) (hlim:s.heap.NoLimit) (hxs:okStr x) (hxl:x.length <= 100000)
  (hload:∀ Q:Value->Shared->Prop,Q (.str ⟨x.toArray⟩ t) s->wpAny (model prog w) A (PySem.eval iter env) Q E s) (hs:∀ x,genFold iter env x = pure x)
  {h₀:Heap} (hup:∀ b o,h₀.get? b = some o->¬ XS b /\ s.heap.get? b = some o) (helt:∀ C code,tK prog w h₀ elt (genEnv scope [] C code builtinsNs env) c) (hQ:ze1 s x.length Q):
  wpAny (model prog w) A (PySem.eval (.GeneratorExp elt [⟨.Name c px,iter,[],0⟩] scope pos) env) (fun v s'=>wpAny (model prog w) A (call (.builtin "str.join") [.str ⟨#[]⟩ t0,v]) Q E s') E s:=by
 have hg:¬ XS env.globals:=htab.ns hM.ns
 have hbm:¬ XS bm:=htab.nd hM.obj fun ps q=>by rw [hM.data] at q; cases q
 have hcs:cStatics ≠ PX:=fun q=>absurd (show XS cStatics from q ▸ hP) (by unfold XS; decide)
 have hI:s.heap.objs.size ≠ PX:=fun q=>htab.ne (Heap.none_size _) (q ▸ hP)
 refine wpAny_GeneratorExp_walksQ hh hco hclos hcell h0 hx hkind hroom (hload _ (mR fun o St hf W hst=>⟨hlim.push _,sJ hcode (hok.push o) (htb.push o) fun code h₃ tk ps' hx₃ hok₃ htb₃=>?_⟩)) hs
 have k₃:∀ b o',b ≠ PX->s.heap.get? b = some o'->h₃.get? b = some o':=fun b o' hb e=>hx₃ b o' hb (Heap.get?_push_of_some _ e)
 have kx:∀ b,¬ XS b->b ≠ PX:=fun b n q=>n (q ▸ hP)
 refine wpAny_builtinsFor (hM.ns.at' fun o' e=>k₃ _ o' (kx _ hg) e) hM.name hM.ne (k₃ _ _ (kx _ hbm) hM.obj) hM.cls hM.dict hM.data ?_
 have hIg:=hx₃ _ _ hI (Heap.get?_push_size _ hf)
 have hIs:s.heap.objs.size < h₃.objs.size:=Heap.lt_size hIg
 have hcsI:cStatics < s.heap.objs.size:=let ⟨_,hn,_⟩:=hlim; hn.lt
 have hsz:x.toArray.size = x.length:=rfl
 have tab₃:TabX h₃:=zfq hok₃ htb₃ htab k₃
 refine ⟨s.heap.objs.size,[s.heap.objs.size],[s.heap.objs.size],_,_,St,fun _=>true,fun _ y=>FS y,rfl,W,(W A hh).frame _ _ _ hst fun b hb o' e=>?_,fun b hb=>?_,(hlim.push o).extBut hx₃ hcs,fun hm=>?_,fun href hkr=>⟨?_,?_⟩,?_⟩
 ·rw [List.mem_singleton.mp hb] at e ⊢; exact hx₃ _ _ hI e
 ·rw [List.mem_singleton.mp hb]; exact hIs
 ·exact absurd (List.mem_singleton.mp hm) (Nat.ne_of_lt hcsI)
 ·intro A' E' i v s₂ m₂ _ _ _ _ _
  exact wpAny_pure ⟨rfl,s₂.heap,s₂.toks,rfl,fun _ _ e=>e⟩
 ·intro A' E' i v s₂ m₂ hA hP' _ hn hm hkp
  obtain ⟨d,u,hd,rfl⟩:=hP'
  have hd':x[i]? = some d:=List.getElem?_toArray.symm.trans hd
  exact wpAny_mono (helt _ _ A' E' s₂ m₂ [d] u (k9 (hxs.1 d (List.mem_of_getElem? hd'))) (Nat.le_refl 1) (fun b o e=>by
   obtain ⟨n1,e1⟩:=hup b o e
   have e3:=k₃ b o (kx b n1) e1
   exact hkp b (List.mem_range.mpr (Heap.lt_size e3)) (fun q=>absurd (Heap.lt_size e1) (by rw [List.mem_singleton.mp q]; exact Nat.lt_irrefl _)) o (hkr b o e3)) hn hm) (fun y s' ⟨h1,k,h2⟩=>⟨h1,s₂.heap,k,h2,fun _ _ e=>e⟩) fun _ _ e=>e
 ·intro a h₅ tk' gs hb hla hs5 hk5 Wg hst5
  have hn:(passing (fun _=>true) (⟨x.toArray⟩:Str).cps.size 0).length = x.length:=by rw [rP,List.length_range]; rfl
  refine SC.joinGen Wg.in4_2 (fun i s' st=>st.1.typeIs) hst5 (fun b hbm=>?_) List.mem_cons_self (fun i v ⟨j,_,y,u,e,_⟩=>⟨_,u,e⟩) (fun s' l hm hacc=>?_) (by rw [hn]; exact Nat.le_trans hxl (by decide))
  ·show b < h₅.objs.size
   rw [hs5]
   rcases List.mem_cons.mp hbm with rfl | hbm
   ·exact Nat.lt_succ_self _
   ·rcases List.mem_cons.mp hbm with rfl | hbm
    ·exact Nat.lt_succ_of_lt hla
    ·exact Nat.lt_succ_of_lt (Nat.lt_trans (List.mem_range.mp hbm) hla)
  ·obtain ⟨zs,e1,e2,e3⟩:=zaf l fun v hv=>by
    obtain ⟨j,hj,rfl⟩:=List.mem_iff_getElem.mp hv
    obtain ⟨_,_,h⟩:=hacc.2 j _ (by rw [List.getElem?_toArray,List.getElem?_eq_getElem hj])
    exact h
   have hl:l.length = x.length:=by rw [<- hn,<- hacc.1]; unfold strValues; rw [List.size_toArray,List.length_map]
   rw [hl] at e3
   have ne:∀ {b:Nat} {o':Obj},s.heap.get? b = some o'->b ∉ [h₃.objs.size,s.heap.objs.size]:=fun {b o'} e hm=>by
    have hlt:=Heap.lt_size e
    rcases List.mem_cons.mp hm with rfl | hm
    ·exact absurd hlt (Nat.not_lt.mpr (Nat.le_of_lt hIs))
    ·rw [List.mem_singleton.mp hm] at hlt; exact absurd hlt (Nat.lt_irrefl _)
   rw [e1]
   refine ⟨z4 (Nat.le_trans e3 (Nat.le_trans (Nat.mul_le_mul_left 4 hxl) (by decide))),fun t' k=>?_⟩
   unfold Txt.join
   rw [StrLaws.glued_eq_join,kH zs]
   refine hQ zs.flatten t' { s' with toks:=k } e2 e3 (fun b o' hb e=>hm.heap b o' (ne e) (hk5 _ _ (k₃ b o' (kx b hb) e))) (tab₃.keeps fun P' o' p e=>by obtain ⟨oP,_,hoP,_⟩:=htab P' p; exact hm.heap P' o' (ne hoP) (hk5 _ _ e)) (fun hG=>?_) hm.os
   exact AllBare.moved (hG.push hb) hm.gens
end
end Mine
end
section
open PySem PySem.W PyProof.Rows
open Builtin Builtin.Str
set_option Elab.async false
set_option autoImplicit false
set_option maxRecDepth 100000
set_option linter.unusedVariables false
namespace Mine
section
variable {prog:Program} {w:World} {B:Bs}
noncomputable def CodeAt (h:Heap) (cX PX:Nat):Prop:=∃ o vs file tf flags tg inF text tt,h.get? cX = some o /\ o.cls = .type "code" /\ o.data = .fields vs /\ vs.getD 11 .none = .ref PX /\ vs.getD 18 .none = .str file tf /\ vs.getD 7 .none = .int flags tg /\ vs.getD 9 .none = .bool inF /\ vs.getD 10 .none = .int text tt /\ cX ≠ PX
theorem CodeAt.isCode {h h':Heap} {cX PX:Nat} (x:CodeAt h cX PX) (hP:XS PX) (k:∀ a o,h.get? a = some o->h'.get? a = some o) (t:TabX h'):∃ ps,h'.IsCode cX PX ps /\ h'.TableAt cX PX ps:=by
 obtain ⟨o,vs,file,tf,flags,tg,inF,text,tt,h1,hc,r1,r2,r3,r4,r5,r6,ne⟩:=x
 obtain ⟨op,ps,h2,h3,h4,h5⟩:=t PX hP
 refine ⟨ps,⟨o,vs,file,tf,flags,tg,inF,text,tt,op,k _ _ h1,r1,r2,r3,r4,r5,r6,h2,h3,h4,ne⟩,⟨o,vs,k _ _ h1,hc,r1,?_⟩,h5 ▸ h2⟩
 unfold Array.getD at r2
 split at r2
 ·rename_i q; rw [Array.getElem?_eq_getElem q]; exact congrArg some r2
 ·cases r2
noncomputable def zeZ (B:Bs):Prop:=∃ bm ob,B.mg "__builtins__" = some (.ref bm) /\ bm ≠ builtinsNs /\ B.h₀.get? bm = some ob /\ ob.cls = .type "module" /\ ob.dict = some builtinsNs /\ ob.data = .plain
theorem zfS {A:Around} {E:Value->Shared->Prop} {G:GM} {st:St} {s:Shared} {env:Env} {elt:Expr} {c v:Str} {px pv p1 p2 p3 pos:Pos} {k1 n:Nat} {scope:Scope} {x:List Nat} {cX PX:Nat} {K:PV->Prop}
  (hB:BsOk B) (hm:zeZ B) (hP:XS PX) (hc:CodeAt B.h₀ cX PX) (hA:Room n A) (hE:EnvOk env) (hcode:env.code = .ref cX) (O:Ok B w.params G env st s) (hline:(p2.endLine == p3.line) = true)
  (hco:scope.isCoroutine = false) (hfree:∀ y ∈ scope.names,y.2 ≠ .free) (hcell:∀ y ∈ scope.names,y.2 ≠ .cell) (h0:scope.names.lookup (".0" : Str) = some NameKind.local) (hx:scope.names.lookup c = some .local) (hkind:scope.kind = .function)
  (helt:∀ C code,tK prog w B.h₀ elt (genEnv scope [] C code builtinsNs env) c) (hv:st.ρ v = some (.str x)) (hl:env.kindOf v = some .local) (hd:(v == ("__debug__" : Str)) = false) (hxl:x.length <= 100000)
  (hK:∀ y,okStr y->y.length <= 4 * x.length->K (.str y)):
  GW (model prog w) A w.params E G s (PySem.eval (.Call (.Attribute (.Constant (.str ⟨#[]⟩) k1 p1) (Str.ofString "join") p2) [.GeneratorExp elt [⟨.Name c px,.Name v pv,[],0⟩] scope pos] [] p3) env) K:=by
 obtain ⟨m,hn,hmv⟩:=O.rep.ns
 obtain ⟨u,h1,h2⟩:=hmv v _ hv hl
 obtain ⟨t,rfl,okx⟩:=(show ∃ t,u = .str ⟨x.toArray⟩ t /\ okStr x from h2)
 have up:∀ a o,B.h₀.get? a = some o->s.heap.get? a = some o:=fun a o e=>O.rep.inh.at_ a o (O.over a o e)
 obtain ⟨ps,hok,htb⟩:=hc.isCode hP up O.rep.inh.tab
 obtain ⟨bm,ob,m1,m2,m3,m4,m5,m6⟩:=hm
 have hM:BMod s.heap env.globals B.mg bm ob:=⟨by rw [hE.glob]; exact hB.g.keeps up,m1,m2,up _ _ m3,m4,m5,m6⟩
 refine gP rfl rfl (show 1 < 30 by decide) hline (Calls.Constant_str ⟨"str", "str.join",PySem.F.plainAttrs_str,PySem.F.slot_str_join,PySem.F.type_str_join,typeIs_str _ _ _,(fun a e=>by cases e),?_⟩)
 refine bY rfl (Calls.evalArgs_plain (Calls.spliced_cons (wpAny_mono (z5 (Q:=fun v s'=>∃ r G',K r /\ GS G s G' s' /\ VRel w.params G' v r) (s:={ s with toks:=s.toks + 1 }) (x:=x) (t:=t) hA.handled (Nat.lt_of_le_of_lt (Nat.le_trans (Nat.le_add_right _ n) hA.depth) (show 900 < recursionLimit by decide)) hco (closureFor_none hfree) hcell h0 hx hkind hcode hP O.rep.inh.tab hok htb hM (hB.lim.keeps up) okx hxl
  (fun Q h=>wpAny_Name (wpAny_loadName_local hE.kind hl hn h1 h) hd) (fun _=>rfl) (h₀:=B.h₀) (fun b o e=>⟨fun q=>(by have:=O.over _ _ e; rw [O.rep.inh.px b q] at this; cases this),up b o e⟩) helt ?_) (fun v s' h=>Calls.spliced_nil ⟨cC _ _,h⟩) fun _ _ e=>e)))
 intro y t' s' hy hyl kp tab gens os
 have oky:okStr y:=⟨hy,Nat.le_trans hyl (Nat.le_trans (Nat.mul_le_mul_left 4 hxl) (by decide))⟩
 exact ⟨.str y,G,hK y oky hyl,⟨.refl _,⟨fun a o e=>kp a o (fun q=>by rw [O.rep.inh.px a q] at e; cases e) (O.rep.inh.at_ a o e),O.rep.inh.px,tab⟩,fun _ _ e=>.inl e,kp,os,gens⟩,t',rfl,oky⟩
noncomputable def tI:Fn:=fun ps K=>∃ x:List Nat,ps = [.str x] /\ x.length <= 100000 /\ ∀ y,okStr y->y.length <= 4 * x.length->K (.str y)
theorem qB {n cX PX a:Nat} {fd:FuncData} {elt:Expr} {c v:Str} {px pv p1 p2 p3 p4 pos:Pos} {k1:Nat} {scope:Scope} (hB:BsOk B) (hm:zeZ B) (hP:XS PX) (hc:CodeAt B.h₀ cX PX)
  (hF:FunAt B.K a fd [.Return (some (.Call (.Attribute (.Constant (.str ⟨#[]⟩) k1 p1) (Str.ofString "join") p2) [.GeneratorExp elt [⟨.Name c px,.Name v pv,[],0⟩] scope pos] [] p3)) p4]) (hcode:fd.code = .ref cX)
  (hline:(p2.endLine == p3.line) = true) (hco:scope.isCoroutine = false) (hfree:∀ y ∈ scope.names,y.2 ≠ .free) (hcell:∀ y ∈ scope.names,y.2 ≠ .cell) (h0:scope.names.lookup (".0" : Str) = some NameKind.local) (hx:scope.names.lookup c = some .local) (hkind:scope.kind = .function)
  (helt:∀ (env:Env) C code,EnvOk env->tK prog w B.h₀ elt (genEnv scope [] C code builtinsNs env) c) (hl:fd.scope.names.lookup v = some .local) (hd:(v == ("__debug__" : Str)) = false)
  (hbind:∀ (s:Shared) (vals:List Value),B.K.In s.heap->vals.length = 1->BindsTo s fd ⟨vals,[]⟩ ([v].zip (vals ++ []))):Meets prog w B (n + 1) (.ref a) tI:=by
 refine ⟨fP hB hF,fun A E G s args ps K hA hi tk ho hv=>x1 fun x=>a3 fun e hxl hK=>?_⟩
 subst e
 refine kI (n:=n) (tk0:=True) (k:=1) (dv:=[]) (dp:=[]) (params:=[v]) (W:=fun Q st=>∃ x,st.ρ v = some (.str x) /\ x.length <= 100000 /\ ∀ y,okStr y->y.length <= 4 * x.length->Q (.ret (.str y)) st) hB hF (fun A E env G st sh Q hA hE hκ hcd O t=>x1 fun x=>a3 fun hv hxl hQ=>?_)
  (fun y hy=>.inl (by rw [List.mem_singleton.mp hy]; exact hl)) rfl (fun _=>.nil) hbind A E G s args [.str x] K hA hi (fun _=>tk) ho hv ⟨rfl,x,?_,hxl,fun y h1 h2=>⟨.str y,rfl,hK y h1 h2⟩⟩
 ·have O:=O sh.toks (t trivial)
  refine wpAny_execs_cons (wpAny_Return_some (aH (cA (cw:=true) (Q:=fun r st'=>Q (.ret r) st') O (zfS (elt:=elt) hB hm hP hc hA hE (hcd.trans hcode) O hline hco hfree hcell h0 hx hkind (fun C code=>helt env C code hE) hv (hκ.loc hl) hd hxl hQ)) fun u G1 st1 s1 ⟨r,hq,hr⟩ O1 T1=>?_))
  exact (aK (X:=FX w.params Q) (a:=Flow.ret u) O1 ⟨r,hq,hr⟩).after T1
 ·show upd (fun _=>none) v (.str x) v = _
  unfold upd; rw [if_pos rfl]
end
noncomputable def cW (c:Nat):Nat:=if 65 <= c /\ c <= 90 then c + 32 else c
section
variable {prog:Program} {w:World} {B:Bs}
noncomputable def zcL (prog:Program) (w:World) (h₀:Heap) (e:Expr) (cenv:Env) (c:Str):Prop:=∀ (A:Around) (E:Value->Shared->Prop) (s:Shared) (m:Str->Option Value) (d:Nat) (t:Tok),d < 1114112->(∀ b o,h₀.get? b = some o->s.heap.get? b = some o)->s.heap.Ns cenv.locals m->m c = some (.str ⟨#[d]⟩ t)->
 wpAny (model prog w) A (PySem.eval e cenv) (fun y s'=>(∃ u,y = .str ⟨#[cW d]⟩ u) /\ ∃ k,s' = { s with toks:=k }) E s
theorem zed {h₀:Heap} {mg mb:Str->Option Value} {cenv:Env} {c:Str} {p1 p2 p3 p4 p5 p6 p7 p8 p9 p10 p11 p12 p13:Pos} {k1 k2 k3:Nat} (hk:cenv.scope.kind = .function) (hl:cenv.scope.names.lookup c = some .local) (hd:(c == ("__debug__" : Str)) = false)
  (hko:cenv.kindOf "ord" = some .globalImplicit) (hkc:cenv.kindOf "chr" = some .globalImplicit) (hg:h₀.Ns cenv.globals mg) (hb:h₀.Ns cenv.builtins mb) (o1:mg "ord" = none) (o2:mb "ord" = some (.builtin "ord")) (c1:mg "chr" = none) (c2:mb "chr" = some (.builtin "chr")):
  zcL prog w h₀ (.IfExp (.Compare (.Constant (.str ⟨#[65]⟩) k1 p1) [.LtE,.LtE] [.Name c p2,.Constant (.str ⟨#[90]⟩) k2 p3] p4) (.Call (.Name (Str.ofString "chr") p5) [.BinOp (.Call (.Name (Str.ofString "ord") p6) [.Name c p7] [] p8) .Add (.Constant (.int 32) k3 p9) p10] [] p11) (.Name c p12) p13) cenv c:=by
 intro A E s m d t hz hu hn hv
 have no:90 < d \/ d < 65->cW d = d:=fun h=>if_neg fun q=>h.elim (fun g=>Nat.not_lt.mpr q.2 g) fun g=>Nat.not_lt.mpr q.1 g
 have ge:∀ a b:Nat,(!(decide (([a]:List Nat) < [b]))) = decide (b <= a):=fun a b=>by
  rw [<- decide_not]
  refine decide_eq_decide.mpr ⟨fun h=>Nat.le_of_not_lt fun q=>h (List.Lex.rel q),fun h q=>?_⟩
  cases q with
  | rel r=>exact Nat.not_lt.mpr h r
  | cons r=>cases r
 refine IfExp_ (isTrue_chain (Calls.Constant_str (test_link (ldG hn hv (P.le_str (wpAny_truthy_bool ?_)) hk hl hd))) rfl)
 rw [show (!decide ((⟨#[d]⟩:Str).cps.toList < (⟨#[65]⟩:Str).cps.toList)) = decide (65 <= d) from ge d 65]
 by_cases h1:65 <= d
 ·rw [decide_eq_true h1]
  refine test_last (Calls.Constant_str (P.le_str (wpAny_truthy_bool ?_)))
  rw [show (!decide ((⟨#[90]⟩:Str).cps.toList < (⟨#[d]⟩:Str).cps.toList)) = decide (d <= 90) from ge 90 d]
  by_cases h2:d <= 90
  ·rw [decide_eq_true h2,show cW d = d + 32 from if_pos ⟨h1,h2⟩]
   refine wpAny_Call_NameR (wpAny_Name ?_ rfl)
   rw [loadName_read hk hkc]
   refine Calls.loadGlobal_builtin (hg.keeps hu) c1 (hb.keeps hu) c2 ?_
   refine bY rfl (Calls.evalArgs_plain (Calls.spliced_cons (wpAny_BinOp (wpAny_Call_NameR (wpAny_Name ?_ rfl)))))
   rw [loadName_read hk hko]
   refine Calls.loadGlobal_builtin (hg.keeps hu) o1 (hb.keeps hu) o2 ?_
   refine bY rfl (Calls.evalArgs_plain (Calls.spliced_cons (ldG hn hv (Calls.spliced_nil ⟨cC _ _,P.ord_of_char ?_⟩) hk hl hd)))
   refine wpAny_Constant_int (add_int (Calls.spliced_nil ⟨cC _ _,P.chr_of_int ?_ ⟨⟨_,rfl⟩,_,rfl⟩⟩))
   exact Bool.or_eq_false_iff.mpr ⟨decide_eq_false (Int.not_lt.mpr (Int.natCast_nonneg (d + 32))),decide_eq_false (Int.not_lt.mpr (Int.ofNat_le.mpr (Nat.le_trans (Nat.add_le_add_right h2 32) (by decide))))⟩
  ·rw [decide_eq_false h2]
   exact ldG hn hv ⟨⟨t,by rw [no (.inl (Nat.lt_of_not_le h2))]⟩,_,rfl⟩ hk hl hd
 ·rw [decide_eq_false h1]
  exact ldG hn hv ⟨⟨t,by rw [no (.inr (Nat.lt_of_not_le h1))]⟩,_,rfl⟩ hk hl hd
noncomputable def LowR (v y:Value):Prop:=∃ d u u',v = .str ⟨#[d]⟩ u /\ y = .str ⟨#[cW d]⟩ u'
theorem uD:∀ {x:List Nat} {vs ys:List Value},Paired LowR vs ys->vs.length = x.length->(∀ (j:Nat) v,vs[j]? = some v->∃ (c:Nat) (u:Tok),x[j]? = some c /\ v = .str ⟨#[c]⟩ u)->∃ l:List (Str × Tok),ys = strValues l /\ l.map (·.1) = (x.map fun c=>[cW c]).map fun z=>⟨z.toArray⟩
 | [],_,_,h,hl,_=>by
  cases h with
  | nil=>exact ⟨[],rfl,rfl⟩
  | cons=>cases hl
 | c :: x,_,_,h,hl,hv=>by
  cases h with
  | nil=>cases hl
  | cons h1 h2=>
   obtain ⟨d,u,u',e1,e2⟩:=h1
   obtain ⟨c',u2,e3,e4⟩:=hv 0 _ rfl
   obtain ⟨l,g1,g2⟩:=uD h2 (Nat.succ.inj hl) fun j v q=>hv (j + 1) v q
   cases e3
   rw [e1] at e4
   cases e4
   exact ⟨(⟨#[cW c]⟩,u') :: l,by rw [e2,g1]; rfl,by rw [List.map_cons,g2]; rfl⟩
theorem zcg (f:Nat->Nat) (x:List Nat):(x.map fun c=>[f c]).flatten = x.map f:=by
 induction x with
 | nil=>rfl
 | cons c r ih=>rw [List.map_cons,List.flatten_cons,ih]; rfl
theorem wX {A:Around} {E:Value->Shared->Prop} {s:Shared} {env:Env} {elt iter:Expr} {c:Str} {px:Pos} {scope:Scope} {pos:Pos} {Q:Value->Shared->Prop} {x:List Nat} {t t0:Tok}
  (hh:A.handled = none) (hfree:∀ y ∈ scope.names,y.2 ≠ .free) (hcell:∀ y ∈ scope.names,y.2 ≠ .cell) (hkind:scope.kind = .function) (hnames:∀ y ∈ scope.names,y.2 = .local->scope.names.lookup y.1 = some .local) (hx:scope.names.lookup c = some .local) (hxs:okStr x)
  (hload:∀ Q:Value->Shared->Prop,Q (.str ⟨x.toArray⟩ t) s->wpAny (model prog w) A (PySem.eval iter env) Q E s) (hs:∀ x,foldedSetIterable iter env x = pure x)
  {h₀:Heap} (hup:∀ b o,h₀.get? b = some o->s.heap.get? b = some o) (helt:∀ C,zcL prog w h₀ elt (compEnv scope C env) c) (hQ:∀ h' k t',(∀ b o,s.heap.get? b = some o->h'.get? b = some o)->Q (.str ⟨(x.map cW).toArray⟩ t') { s with heap:=h',toks:=k }):
  wpAny (model prog w) A (PySem.eval (.ListComp elt [⟨.Name c px,iter,[],0⟩] scope pos) env) (fun v s'=>wpAny (model prog w) A (call (.builtin "str.join") [.str ⟨#[]⟩ t0,v]) Q E s') E s:=by
 have hsz:x.toArray.size = x.length:=rfl
 refine wpAny_ListComp_walk (fun _=>true) LowR hfree hcell hkind hnames hx (hload _ (mR fun o St hf W hst=>?_)) hs
 have up:∀ b o',b ∉ [s.heap.objs.size]->s.heap.get? b = some o'->(s.heap.push o).get? b = some o':=fun b o' _ e=>Heap.get?_push_of_some _ e
 have nm:∀ {b:Nat} {o':Obj},s.heap.get? b = some o'->b ∉ [s.heap.objs.size]:=fun {b o'} e hm=>by
  have:=Heap.lt_size e
  rw [List.mem_singleton.mp hm] at this; exact Nat.lt_irrefl _ this
 refine ⟨s.heap.objs.size,[s.heap.objs.size],[s.heap.objs.size],_,_,St,rfl,W A hh,?_,hst,fun b hb=>?_,⟨fun C i v s₃ m₃ E' _ _ _ _ _=>?_,fun C i v s₃ m₃ E' hP _ hn hm hk _=>?_⟩,fun D h' tk ys vs _ hl _ hlen hP hF hk=>?_⟩
 ·exact Nat.le_trans hxs.2 (by unfold aO sizeLine; decide)
 ·rw [List.mem_singleton.mp hb]; show _ < (s.heap.push o).objs.size; rw [Heap.size_push]; exact Nat.lt_succ_self _
 ·exact wpAny_pure ⟨rfl,s₃.heap,s₃.toks,rfl,fun _ _ e=>e⟩
 ·obtain ⟨d,u,hd,rfl⟩:=hP
  have hd':x[i]? = some d:=List.getElem?_toArray.symm.trans hd
  exact wpAny_mono (helt C A E' s₃ m₃ d u (hxs.1 d (List.mem_of_getElem? hd')) (fun b o' e=>hk b o' (nm (hup b o' e)) (up b o' (nm (hup b o' e)) (hup b o' e))) hn hm) (fun y s' ⟨⟨u',h1⟩,k,h2⟩=>⟨⟨d,u,u',rfl,h1⟩,s₃.heap,k,h2,fun _ _ e=>e⟩) fun _ _ e=>e
 ·have hfl:vs.filter (fun _=>true) = vs:=List.filter_eq_self.mpr fun _ _=>rfl
  rw [hfl] at hF
  obtain ⟨l,e1,e2⟩:=uD (x:=x) hF hlen fun j v q=>by
   obtain ⟨d,u,h1,h2⟩:=hP j v q
   exact ⟨d,u,List.getElem?_toArray.symm.trans h1,h2⟩
  have hl':h'.IsList D (strValues l).toArray:=by rw [<- e1]; exact hl
  have hfm:=zcg cW x
  refine SC.join hl' e2 (z4 ?_) fun t' k=>?_
  ·rw [hfm,List.length_map]; exact hxs.2
  ·unfold Txt.join
   rw [StrLaws.glued_eq_join,kH,hfm]
   exact hQ h' k t' fun b o' e=>hk b o' (nm e) (up b o' (nm e) e)
noncomputable def l8:Fn:=fun ps K=>∃ x:List Nat,ps = [.str x] /\ x.length < 1000000 /\ K (.str (x.map cW))
theorem zfJ {A:Around} {E:Value->Shared->Prop} {G:GM} {st:St} {s:Shared} {env:Env} {elt:Expr} {c v:Str} {px pv p1 p2 p3 pos:Pos} {k1 n:Nat} {scope:Scope} {x:List Nat} {K:PV->Prop}
  (hA:Room n A) (hE:EnvOk env) (O:Ok B w.params G env st s) (hline:(p2.endLine == p3.line) = true)
  (hfree:∀ y ∈ scope.names,y.2 ≠ .free) (hcell:∀ y ∈ scope.names,y.2 ≠ .cell) (hkind:scope.kind = .function) (hnames:∀ y ∈ scope.names,y.2 = .local->scope.names.lookup y.1 = some .local) (hx:scope.names.lookup c = some .local)
  (helt:∀ C,zcL prog w B.h₀ elt (compEnv scope C env) c) (hv:st.ρ v = some (.str x)) (hl:env.kindOf v = some .local) (hd:(v == ("__debug__" : Str)) = false) (hK:K (.str (x.map cW))):
  GW (model prog w) A w.params E G s (PySem.eval (.Call (.Attribute (.Constant (.str ⟨#[]⟩) k1 p1) (Str.ofString "join") p2) [.ListComp elt [⟨.Name c px,.Name v pv,[],0⟩] scope pos] [] p3) env) K:=by
 obtain ⟨m,hn,hmv⟩:=O.rep.ns
 obtain ⟨u,h1,h2⟩:=hmv v _ hv hl
 obtain ⟨t,rfl,okx⟩:=(show ∃ t,u = .str ⟨x.toArray⟩ t /\ okStr x from h2)
 have up:∀ a o,B.h₀.get? a = some o->s.heap.get? a = some o:=fun a o e=>O.rep.inh.at_ a o (O.over a o e)
 refine gP rfl rfl (show 1 < 30 by decide) hline (Calls.Constant_str ⟨"str", "str.join",PySem.F.plainAttrs_str,PySem.F.slot_str_join,PySem.F.type_str_join,typeIs_str _ _ _,(fun a e=>by cases e),?_⟩)
 refine bY rfl (Calls.evalArgs_plain (Calls.spliced_cons (wpAny_mono (wX (Q:=fun v s'=>∃ r G',K r /\ GS G s G' s' /\ VRel w.params G' v r) (s:={ s with toks:=s.toks + 1 }) (x:=x) (t:=t) hA.handled hfree hcell hkind hnames hx okx
  (fun Q h=>wpAny_Name (wpAny_loadName_local hE.kind hl hn h1 h) hd) (fun _=>rfl) (h₀:=B.h₀) up helt ?_) (fun v s' h=>Calls.spliced_nil ⟨cC _ _,h⟩) fun _ _ e=>e)))
 intro h' k t' kp
 have okl:okStr (x.map cW):=⟨fun d hd=>by
  obtain ⟨e,he,rfl⟩:=List.mem_map.mp hd
  have:=okx.1 e he
  unfold cW
  split
  ·rename_i q; exact Nat.lt_of_le_of_lt (Nat.add_le_add_right q.2 32) (by decide)
  ·exact this,by rw [List.length_map]; exact okx.2⟩
 exact ⟨.str (x.map cW),G,hK,GS.heap O.rep.inh k kp,t',rfl,okl⟩
theorem zT {n a:Nat} {fd:FuncData} {elt:Expr} {c v:Str} {px pv p1 p2 p3 p4 pos:Pos} {k1:Nat} {scope:Scope} (hB:BsOk B)
  (hF:FunAt B.K a fd [.Return (some (.Call (.Attribute (.Constant (.str ⟨#[]⟩) k1 p1) (Str.ofString "join") p2) [.ListComp elt [⟨.Name c px,.Name v pv,[],0⟩] scope pos] [] p3)) p4])
  (hline:(p2.endLine == p3.line) = true) (hfree:∀ y ∈ scope.names,y.2 ≠ .free) (hcell:∀ y ∈ scope.names,y.2 ≠ .cell) (hkind:scope.kind = .function) (hnames:∀ y ∈ scope.names,y.2 = .local->scope.names.lookup y.1 = some .local) (hx:scope.names.lookup c = some .local)
  (helt:∀ (env:Env) C,EnvOk env->zcL prog w B.h₀ elt (compEnv scope C env) c) (hl:fd.scope.names.lookup v = some .local) (hd:(v == ("__debug__" : Str)) = false)
  (hbind:∀ (s:Shared) (vals:List Value),B.K.In s.heap->vals.length = 1->BindsTo s fd ⟨vals,[]⟩ ([v].zip (vals ++ []))):Meets prog w B (n + 1) (.ref a) l8:=by
 refine ⟨fP hB hF,fun A E G s args ps K hA hi tk ho hv=>x1 fun x=>a3 fun e hxl hK=>?_⟩
 subst e
 refine kI (n:=n) (tk0:=True) (k:=1) (dv:=[]) (dp:=[]) (params:=[v]) (W:=fun Q st=>∃ x,st.ρ v = some (.str x) /\ Q (.ret (.str (x.map cW))) st) hB hF (fun A E env G st sh Q hA hE hκ hcd O t=>x1 fun x=>a2 fun hv hQ=>?_)
  (fun y hy=>.inl (by rw [List.mem_singleton.mp hy]; exact hl)) rfl (fun _=>.nil) hbind A E G s args [.str x] K hA hi (fun _=>tk) ho hv ⟨rfl,x,?_,.str (x.map cW),rfl,hK⟩
 ·have O:=O sh.toks (t trivial)
  refine wpAny_execs_cons (wpAny_Return_some (aH (cA (cw:=true) (Q:=fun r st'=>Q (.ret r) st') O (zfJ (elt:=elt) hA hE O hline hfree hcell hkind hnames hx (fun C=>helt env C hE) hv (hκ.loc hl) hd hQ)) fun u G1 st1 s1 ⟨r,hq,hr⟩ O1 T1=>?_))
  exact (aK (X:=FX w.params Q) (a:=Flow.ret u) O1 ⟨r,hq,hr⟩).after T1
 ·show upd (fun _=>none) v (.str x) v = _
  unfold upd; rw [if_pos rfl]
end
end Mine
end
section
open PySem PySem.W PyProof.Rows
set_option Elab.async false
set_option autoImplicit false
set_option linter.unusedVariables false
namespace Mine
/-! the same text with its places away -/
noncomputable def P0:Pos:=⟨0,0,0,0⟩
noncomputable def PL (n:Nat):Pos:=⟨n,0,0,0⟩
mutual
noncomputable def erE:Expr->Expr
 | .BoolOp op vs _=>.BoolOp op (bR vs) P0
 | .NamedExpr a b c=>.NamedExpr a b c
 | .BinOp l op r _=>.BinOp (erE l) op (erE r) P0
 | .UnaryOp op x _=>.UnaryOp op (erE x) P0
 | .Lambda a b c d=>.Lambda a b c d
 | .IfExp t b o _=>.IfExp (erE t) (erE b) (erE o) P0
 | .Dict a b c=>.Dict a b c
 | .Set a b c=>.Set a b c
 | .ListComp a b c d=>.ListComp a b c d
 | .SetComp a b c d=>.SetComp a b c d
 | .DictComp a b c d e=>.DictComp a b c d e
 | .GeneratorExp a b c d=>.GeneratorExp a b c d
 | .Await a b=>.Await a b
 | .Yield a b=>.Yield a b
 | .YieldFrom a b=>.YieldFrom a b
 | .Compare l ops cs _=>.Compare (erE l) ops (bR cs) P0
 | .Call f args kws _=>.Call (erE f) (bR args) kws P0
 | .FormattedValue e c sp _=>.FormattedValue (erE e) c sp P0
 | .JoinedStr vs _=>.JoinedStr (bR vs) P0
 | .Constant c k _=>.Constant c k P0
 | .Attribute o n _=>.Attribute (erE o) n P0
 | .Subscript o i _=>.Subscript (erE o) (erE i) P0
 | .Starred a b=>.Starred a b
 | .Name x _=>.Name x P0
 | .List es p=>.List (bR es) (PL p.line)
 | .Tuple es k _=>.Tuple (bR es) k P0
 | .Slice l u s _=>.Slice (erO l) (erO u) s P0
noncomputable def bR:List Expr->List Expr
 | []=>[]
 | e :: es=>erE e :: bR es
noncomputable def erO:Option Expr->Option Expr
 | none=>none
 | some e=>some (erE e)
end
mutual
noncomputable def erS:Stmt->Stmt
 | .Expr v _=>.Expr (erE v) P0
 | .Break _=>.Break P0
 | .Continue _=>.Continue P0
 | .Return e _=>.Return (erO e) P0
 | .Assign ts e _=>.Assign (bR ts) (erE e) P0
 | .AugAssign t op e _=>.AugAssign (erE t) op (erE e) P0
 | .If t b o _=>.If (erE t) (cH b) (cH o) P0
 | .While t b o _=>.While (erE t) (cH b) (cH o) P0
 | .For t i b o _=>.For (erE t) (erE i) (cH b) (cH o) P0
 | .Assert t m _=>.Assert (erE t) none P0
 | .Try b hs o fin _=>.Try (cH b) hs (cH o) fin P0
 | .FunctionDef a b c d e f g h i j=>.Pass P0
 | .AsyncFunctionDef a b c d e f g h i j=>.Pass P0
 | .ClassDef a b c d e f g h i j k=>.Pass P0
 | .Delete a b=>.Pass P0
 | .TypeAlias a b c d e f g=>.Pass P0
 | .AnnAssign a b c d e=>.Pass P0
 | .AsyncFor a b c d e=>.Pass P0
 | .With a b c=>.Pass P0
 | .AsyncWith a b c=>.Pass P0
 | .Match a b c=>.Pass P0
 | .Raise a b c=>.Pass P0
 | .TryStar a b c d e=>.Pass P0
 | .Import a b=>.Pass P0
 | .ImportFrom a b c d=>.Pass P0
 | .Global a b=>.Pass P0
 | .Nonlocal a b=>.Pass P0
 | .Pass _=>.Pass P0
noncomputable def cH:List Stmt->List Stmt
 | []=>[]
 | s :: ss=>erS s :: cH ss
end
variable {C:Ctx} {κ:Kn}
theorem m8 {α:Sort _} {d:α} {c:Const->α} {nm:Str->α} {tup:List Expr->α} {att:Expr->Str->Pos->α} {sl:Option Expr->Option Expr->α} {lc:Expr->List Comprehension->α} (e:Expr):
  exc d c nm tup att sl lc (erE e) = exc d c nm (fun es=>tup (bR es)) (fun o n _=>att (erE o) n P0) (fun l u=>sl (erO l) (erO u)) lc e:=by cases e <;> rfl
theorem qG (e:Expr):nmE (erE e) = nmE e:=m8 e
theorem zgZ (e:Expr):atN (erE e) = atN e:=m8 e
theorem zgY (e:Expr):wY (erE e) = wY e:=m8 e
theorem zf3 (e:Expr):csE (erE e) = csE e:=m8 e
theorem zdi (e:Expr):zaZ (erE e) = (zaZ e).map bR:=by cases e <;> rfl
theorem zeG {α:Sort _} {d:α} {k:Expr->List Expr->List Keyword->α} {b:α} (e:Expr):zaI d k b (erE e) = zaI d (fun f args kws=>k (erE f) (bR args) kws) b e:=by cases e <;> rfl
theorem zeF (e:Expr):i6 (erE e) = i6 e:=by cases e <;> rfl
theorem zdl (es:List Expr):(bR es).isEmpty = es.isEmpty:=by cases es <;> rfl
theorem zdj:∀ es:List Expr,(bR es).length = es.length
 | []=>rfl
 | _ :: es=>congrArg Nat.succ (zdj es)
theorem zeD:∀ es:List Expr,c8 (bR es) = c8 es
 | []=>rfl
 | [_]=>rfl
 | [a,b]=>by
  show ((csE (erE a)).bind fun p=>(csE (erE b)).map fun q=>(p,q)) = _
  rw [zf3,zf3]; rfl
 | _ :: _ :: _ :: _=>rfl
theorem zdm:∀ (es:List Expr) (vs:List PV) (ρ:f9),dE (bR es) vs ρ = dE es vs ρ
 | [],_,_=>rfl
 | e :: es,vs,ρ=>by
  show ((nmE (erE e)).bind fun x=>vs.head?.bind fun v=>dE (bR es) vs.tail (upd ρ x v)) = _
  rw [qG]
  exact congrArg _ (funext fun x=>congrArg _ (funext fun v=>zdm es _ _))
theorem zf4 (e:Expr) (v:PV) (ρ:f9):kD (erE e) v ρ = kD e v ρ:=by
 unfold kD
 rw [qG,zdi]
 cases nmE e with
 | some x=>rfl
 | none=>
  cases zaZ e with
  | none=>rfl
  | some es=>exact congrArg (fun f=>pvc none none (fun _=>none) (fun _=>none) (fun _=>none) f (fun _=>none) (fun _=>none) v) (funext fun vs=>zdm es vs ρ)
theorem zf2:∀ es:List Expr,(bR es).filterMap nmE = es.filterMap nmE
 | []=>rfl
 | e :: es=>by
  show (erE e :: bR es).filterMap nmE = _
  rw [List.filterMap_cons,List.filterMap_cons,qG,zf2 es]
theorem zf1 (e:Expr):cO (erE e) = cO e:=by
 unfold cO
 rw [qG,zdi]
 cases nmE e with
 | some x=>rfl
 | none=>
  cases zaZ e with
  | none=>rfl
  | some es=>exact zf2 es
theorem zf5:∀ (es:List Expr) (v:PV) (ρ:f9),iO (bR es) v ρ = iO es v ρ
 | [],_,_=>rfl
 | e :: es,v,ρ=>by
  show ((kD (erE e) v ρ).bind (iO (bR es) v)) = _
  rw [zf4]
  exact congrArg _ (funext fun r=>zf5 es v r)
theorem zdn (f:List Str->Bool):∀ es:List Expr,((bR es).all fun t=>f (cO t)) = es.all fun t=>f (cO t)
 | []=>rfl
 | e :: es=>by
  show (f (cO (erE e)) && (bR es).all fun t=>f (cO t)) = _
  rw [zf1,zdn f es]; rfl
theorem zeH:∀ ts:List Expr,mJ (bR ts) = mJ ts
 | []=>rfl
 | _ :: _ :: _=>rfl
 | [t]=>by
  refine (m8 t).trans (congrArg (fun f=>exc none (fun _=>none) (fun _=>none) (fun _=>none) f (fun _ _=>none) (fun _ _=>none) t) (funext fun o=>funext fun n=>funext fun _=>?_))
  show (nmE (erE o)).map _ = _
  rw [qG]
theorem zf6 {κ:Kn} {v:PV} {st:St} {K:St->Prop} (ts:List Expr):dT C κ (bR ts) v st K = dT C κ ts v st K:=by
 unfold dT
 rw [zeH,zdn (fun l=>l.all (dB κ)),zf5]
theorem zeE (e:Expr):cQ (erE e) = (cQ e).map bR:=by
 refine (zeG e).trans ?_
 unfold cQ
 cases e <;> first | rfl | skip
 rename_i f args kws p
 show exc _ _ _ _ _ _ _ (erE f) = Option.map bR (exc _ _ _ _ _ _ _ f)
 rw [m8]
 cases f <;> first | rfl | skip
 rename_i o m q
 show (if nmE (erE o) = some "Node" /\ m = "__init__" /\ kws.isEmpty = true then some (bR args) else none) = Option.map bR (if nmE o = some "Node" /\ m = "__init__" /\ kws.isEmpty = true then some args else none)
 rw [qG]
 split <;> rfl
mutual
theorem eO:∀ e:Expr,wE C (erE e) = wE C e
 | .BoolOp op vs _=>zcU op vs
 | .BinOp l op r _=>by
  show (fun (κ:Kn) (Q:PV->St->Prop) (st:St)=>wE C (erE l) κ (fun a st1=>wE C (erE r) κ (fun b st2=>ze6 op (der st2.σ a) (der st2.σ b) fun v=>Q v st2) st1) st) = _
  rw [eO l,eO r]; rfl
 | .UnaryOp op x _=>congrArg (fun F=>fun (κ:Kn) (Q:PV->St->Prop) (st:St)=>F κ (fun v st1=>unP op (der st1.σ v) fun r=>Q r st1) st) (eO x)
 | .IfExp t b o _=>by
  show (fun (κ:Kn) (Q:PV->St->Prop) (st:St)=>wE C (erE t) κ (tst fun c st1=>if c = true then wE C (erE b) κ Q st1 else wE C (erE o) κ Q st1) st) = _
  rw [eO t,eO b,eO o]; rfl
 | .Compare l ops cs _=>by
  show (fun (κ:Kn) (Q:PV->St->Prop) (st:St)=>wE C (erE l) κ (fun a st1=>wCh C (bR cs) ops κ a Q st1) st) = _
  rw [eO l,zcT cs]; rfl
 | .Call f args kws _=>by
  show (fun (κ:Kn) (Q:PV->St->Prop) (st:St)=>kws.isEmpty = true /\ mT (atN (erE f))
   (opt (nmE (erE f)) fun id=>κ id = some .globalImplicit /\ nX C id = true /\ wEs C (bR args) κ (fun vs st2=>f7 C id vs st2 fun r=>Q r st2) st)
   fun name=>mT (c8 (bR args)) (wA C (erE f) κ (fun ov st1=>mOk st1.σ name ov = true /\ wEs C (bR args) κ (fun vs st2=>hW st2.σ name ov vs fun r σ'=>Q r ⟨st2.ρ,σ'⟩) st1) st)
    fun pq=>wA C (erE f) κ (fun ov st1=>yZ name pq.1 pq.2 ov fun r=>Q r st1) st) = _
  rw [zgZ,qG,zeD,o0 args,zgA f]; rfl
 | .Attribute o name _=>congrArg (fun F=>fun (κ:Kn) (Q:PV->St->Prop) (st:St)=>F κ (fun ov st1=>zaQ C name ov fun r=>Q r st1) st) (eO o)
 | .Subscript o i _=>by
  show (fun (κ:Kn) (Q:PV->St->Prop) (st:St)=>wE C (erE o) κ (fun ov st1=>if wY (erE i) = true then wSl C (erE i) κ (fun lo hi st3=>zc2 (der st3.σ ov) lo hi fun r=>Q r st3) st1 else wE C (erE i) κ (fun iv st2=>zem (der st2.σ ov) iv fun r=>Q r st2) st1) st) = _
  rw [eO o,zgY,zfc i,eO i]; rfl
 | .List es pos=>congrArg (fun F=>fun (κ:Kn) (Q:PV->St->Prop) (st:St)=>F κ (fun vs st1=>d4 C pos vs Q st1) st) (o0 es)
 | .Tuple es _ _=>congrArg (fun F=>fun (κ:Kn) (Q:PV->St->Prop) (st:St)=>F κ (fun vs st1=>Q (.tup vs) st1) st) (o0 es)
 | .FormattedValue e conv sp _=>by
  show (fun (κ:Kn) (Q:PV->St->Prop) (st:St)=>conv = -1 /\ sp.isNone = true /\ wE C (erE e) κ (fun v st1=>asS v fun y=>Q (.str y) st1) st) = _
  rw [eO e]; rfl
 | .JoinedStr vs _=>by
  show (fun (κ:Kn) (Q:PV->St->Prop) (st:St)=>2 <= (bR vs).length /\ wJ C (bR vs) κ [] Q st) = _
  rw [zdj,zfd vs]; rfl
 | .Constant _ _ _=>rfl
 | .Name _ _=>rfl
 | .NamedExpr _ _ _=>rfl
 | .Lambda _ _ _ _=>rfl
 | .Dict _ _ _=>rfl
 | .Set _ _ _=>rfl
 | .ListComp _ _ _ _=>rfl
 | .SetComp _ _ _ _=>rfl
 | .DictComp _ _ _ _ _=>rfl
 | .GeneratorExp _ _ _ _=>rfl
 | .Await _ _=>rfl
 | .Yield _ _=>rfl
 | .YieldFrom _ _=>rfl
 | .Starred _ _=>rfl
 | .Slice _ _ _ _=>rfl
theorem o0:∀ es:List Expr,wEs C (bR es) = wEs C es
 | []=>rfl
 | e :: es=>by
  show (fun (κ:Kn) (Q:List PV->St->Prop) (st:St)=>wE C (erE e) κ (fun v st1=>wEs C (bR es) κ (fun vs st2=>Q (v :: vs) st2) st1) st) = _
  rw [eO e,o0 es]; rfl
theorem zfd:∀ es:List Expr,wJ C (bR es) = wJ C es
 | []=>rfl
 | e :: es=>by
  show (fun (κ:Kn) acc (Q:PV->St->Prop) (st:St)=>wE C (erE e) κ (fun v st1=>asS v fun y=>(acc ++ y).length <= aO /\ wJ C (bR es) κ (acc ++ y) Q st1) st) = _
  rw [eO e,zfd es]; rfl
theorem zcS:∀ o:Option Expr,wOp C (erO o) = wOp C o
 | none=>rfl
 | some e=>congrArg (fun F=>fun (κ:Kn) (Q:Option Int->St->Prop) (st:St)=>F κ (fun v st1=>asI v fun i=>-4611686018427387904 < i /\ i < 4611686018427387904 /\ Q (some i) st1) st) (eO e)
theorem zgA:∀ e:Expr,wA C (erE e) = wA C e
 | .Attribute o _ _=>eO o
 | .BoolOp _ _ _=>rfl
 | .BinOp _ _ _ _=>rfl
 | .UnaryOp _ _ _=>rfl
 | .IfExp _ _ _ _=>rfl
 | .Compare _ _ _ _=>rfl
 | .Call _ _ _ _=>rfl
 | .Subscript _ _ _=>rfl
 | .List _ _=>rfl
 | .Tuple _ _ _=>rfl
 | .FormattedValue _ _ _ _=>rfl
 | .JoinedStr _ _=>rfl
 | .Constant _ _ _=>rfl
 | .Name _ _=>rfl
 | .NamedExpr _ _ _=>rfl
 | .Lambda _ _ _ _=>rfl
 | .Dict _ _ _=>rfl
 | .Set _ _ _=>rfl
 | .ListComp _ _ _ _=>rfl
 | .SetComp _ _ _ _=>rfl
 | .DictComp _ _ _ _ _=>rfl
 | .GeneratorExp _ _ _ _=>rfl
 | .Await _ _=>rfl
 | .Yield _ _=>rfl
 | .YieldFrom _ _=>rfl
 | .Starred _ _=>rfl
 | .Slice _ _ _ _=>rfl
theorem zfc:∀ e:Expr,wSl C (erE e) = wSl C e
 | .Slice l u sp _=>by
  show (fun (κ:Kn) (Q:Option Int->Option Int->St->Prop) (st:St)=>sp.isNone = true /\ wOp C (erO l) κ (fun lo st1=>wOp C (erO u) κ (fun hi st2=>Q lo hi st2) st1) st) = _
  rw [zcS l,zcS u]; rfl
 | .Attribute _ _ _=>rfl
 | .BoolOp _ _ _=>rfl
 | .BinOp _ _ _ _=>rfl
 | .UnaryOp _ _ _=>rfl
 | .IfExp _ _ _ _=>rfl
 | .Compare _ _ _ _=>rfl
 | .Call _ _ _ _=>rfl
 | .Subscript _ _ _=>rfl
 | .List _ _=>rfl
 | .Tuple _ _ _=>rfl
 | .FormattedValue _ _ _ _=>rfl
 | .JoinedStr _ _=>rfl
 | .Constant _ _ _=>rfl
 | .Name _ _=>rfl
 | .NamedExpr _ _ _=>rfl
 | .Lambda _ _ _ _=>rfl
 | .Dict _ _ _=>rfl
 | .Set _ _ _=>rfl
 | .ListComp _ _ _ _=>rfl
 | .SetComp _ _ _ _=>rfl
 | .DictComp _ _ _ _ _=>rfl
 | .GeneratorExp _ _ _ _=>rfl
 | .Await _ _=>rfl
 | .Yield _ _=>rfl
 | .YieldFrom _ _=>rfl
 | .Starred _ _=>rfl
theorem zcU (op:BoolOp):∀ es:List Expr,wBo C op (bR es) = wBo C op es
 | []=>rfl
 | e :: es=>by
  show (fun (κ:Kn) (Q:PV->St->Prop) (st:St)=>if (bR es).isEmpty = true then wE C (erE e) κ Q st else wE C (erE e) κ (fun v st1=>opt (rA (der st1.σ v)) fun b=>if b = (op == .Or) then Q v st1 else wBo C op (bR es) κ Q st1) st) = _
  rw [zdl,eO e,zcU op es]; rfl
theorem zcT:∀ es:List Expr,wCh C (bR es) = wCh C es
 | []=>rfl
 | r :: rs=>by
  show (fun (ops:List CmpOp) (κ:Kn) a (Q:PV->St->Prop) (st:St)=>opt (List.head? ops) fun op=>wE C (erE r) κ (fun b st1=>za1 st1.σ op a b fun c=>if (bR rs).isEmpty = true then (List.tail ops).isEmpty = true /\ Q (.bool c) st1 else if c = true then wCh C (bR rs) (List.tail ops) κ b Q st1 else Q (.bool false) st1) st) = _
  rw [eO r,zdl,zcT rs]; rfl
end
theorem zf0:∀ (e:Option Expr) (κ:Kn) (K:PV->St->Prop) (st:St),(opt (erO e) fun e=>wE C e κ K st) = opt e fun e=>wE C e κ K st
 | none,_,_,_=>rfl
 | some e,κ,K,st=>congrFun (congrFun (congrFun (eO e) κ) K) st
theorem zdk {B O:(Fl->St->Prop)->St->Prop} {Q:Fl->St->Prop} (t:Expr):∀ (items:List PV) (st:St),dS (erE t) B O Q items st = dS t B O Q items st
 | [],_=>rfl
 | v :: vs,st=>by
  show (opt (kD (erE t) v st.ρ) fun ρ1=>B (nV (dS (erE t) B O Q vs) Q) ⟨ρ1,st.σ⟩) = _
  rw [zf4,show dS (erE t) B O Q vs = dS t B O Q vs from funext fun s=>zdk t vs s]; rfl
mutual
theorem zgz:∀ s:Stmt,wS C κ (erS s) = wS C κ s
 | .Expr v _=>funext fun Q=>funext fun st=>by
  show (mT (cQ (erE v)) (i6 (erE v) = false /\ wE C (erE v) κ (fun _ st1=>Q .next st1) st) fun args=>C.ini = true /\ κ "Node" = some .globalImplicit /\ wEs C args κ (fun vs st1=>sH C vs st1 fun st2=>Q .next st2) st) = _
  rw [zeF,zeE,eO v,kT]
  cases cQ v with
  | none=>rfl
  | some args=>exact congrArg (fun F=>C.ini = true /\ κ "Node" = some .globalImplicit /\ F κ (fun vs st1=>sH C vs st1 fun st2=>Q .next st2) st) (o0 args)
 | .Return e _=>funext fun Q=>funext fun st=>zf0 e κ _ st
 | .Assign ts e _=>by
  show (fun (Q:Fl->St->Prop) (st:St)=>wE C (erE e) κ (fun v st1=>dT C κ (bR ts) v st1 fun st2=>Q .next st2) st) = _
  rw [eO e,show (fun (Q:Fl->St->Prop) (st:St)=>wE C e κ (fun v st1=>dT C κ (bR ts) v st1 fun st2=>Q .next st2) st) = fun (Q:Fl->St->Prop) (st:St)=>wE C e κ (fun v st1=>dT C κ ts v st1 fun st2=>Q .next st2) st from funext fun Q=>funext fun st=>congrArg (fun K=>wE C e κ K st) (funext fun v=>funext fun st1=>zf6 ts)]; rfl
 | .AugAssign t op e _=>by
  show (fun (Q:Fl->St->Prop) (st:St)=>opt (nmE (erE t)) fun x=>dB κ x = true /\ opt (st.ρ x) fun old=>wE C (erE e) κ (fun v st1=>inP op old v fun r=>Q .next ⟨upd st1.ρ x r,st1.σ⟩) st) = _
  rw [qG,eO e]; rfl
 | .If t b o _=>by
  show (fun (Q:Fl->St->Prop) (st:St)=>wE C (erE t) κ (tst fun c st1=>if c = true then wSs C κ (cH b) Q st1 else wSs C κ (cH o) Q st1) st) = _
  rw [eO t,hY b,hY o]; rfl
 | .While t b o _=>by
  show (fun (Q:Fl->St->Prop) (st:St)=>∃ n,eW (wE C (erE t) κ) (wSs C κ (cH b)) (wSs C κ (cH o)) Q n st) = _
  rw [eO t,hY b,hY o]; rfl
 | .For t i b o _=>by
  show (fun (Q:Fl->St->Prop) (st:St)=>(cO (erE t)).all (dB κ) = true /\ wE C (erE i) κ (fun v st1=>opt (j4 v) fun items=>items.length <= aO /\ dS (erE t) (wSs C κ (cH b)) (wSs C κ (cH o)) Q items st1) st) = _
  rw [zf1,eO i,hY b,hY o,show (fun (Q:Fl->St->Prop) (st:St)=>(cO t).all (dB κ) = true /\ wE C i κ (fun v st1=>opt (j4 v) fun items=>items.length <= aO /\ dS (erE t) (wSs C κ b) (wSs C κ o) Q items st1) st) = fun (Q:Fl->St->Prop) (st:St)=>(cO t).all (dB κ) = true /\ wE C i κ (fun v st1=>opt (j4 v) fun items=>items.length <= aO /\ dS t (wSs C κ b) (wSs C κ o) Q items st1) st from funext fun Q=>funext fun st=>congrArg (fun K=>(cO t).all (dB κ) = true /\ wE C i κ K st) (funext fun v=>funext fun st1=>congrArg (opt (j4 v)) (funext fun items=>congrArg _ (zdk t items st1)))]; rfl
 | .Assert t _ _=>congrArg (fun F=>fun (Q:Fl->St->Prop) (st:St)=>F κ (tst fun c st1=>c = true /\ Q .next st1) st) (eO t)
 | .Try b hs o fin _=>by
  show (fun (Q:Fl->St->Prop) (st:St)=>hs.isEmpty = false /\ fin.isEmpty = true /\ wSs C κ (cH b) (c7 (fun st1=>wSs C κ (cH o) Q st1) Q) st) = _
  rw [hY b,hY o]; rfl
 | .Break _=>rfl
 | .Continue _=>rfl
 | .FunctionDef _ _ _ _ _ _ _ _ _ _=>rfl
 | .AsyncFunctionDef _ _ _ _ _ _ _ _ _ _=>rfl
 | .ClassDef _ _ _ _ _ _ _ _ _ _ _=>rfl
 | .Delete _ _=>rfl
 | .TypeAlias _ _ _ _ _ _ _=>rfl
 | .AnnAssign _ _ _ _ _=>rfl
 | .AsyncFor _ _ _ _ _=>rfl
 | .With _ _ _=>rfl
 | .AsyncWith _ _ _=>rfl
 | .Match _ _ _=>rfl
 | .Raise _ _ _=>rfl
 | .TryStar _ _ _ _ _=>rfl
 | .Import _ _=>rfl
 | .ImportFrom _ _ _ _=>rfl
 | .Global _ _=>rfl
 | .Nonlocal _ _=>rfl
 | .Pass _=>rfl
theorem hY:∀ ss:List Stmt,wSs C κ (cH ss) = wSs C κ ss
 | []=>rfl
 | s :: ss=>by
  show (fun (Q:Fl->St->Prop) (st:St)=>wS C κ (erS s) (c7 (fun st1=>wSs C κ (cH ss) Q st1) Q) st) = _
  rw [zgz s,hY ss]; rfl
end
theorem nfs {κ:Kn} {Q:Fl->St->Prop} {st:St} {b B:List Stmt} (h:b = B) (k:wSs C κ B Q st):wSs C κ b Q st:=h ▸ k
theorem nf1 {κ:Kn} {Q:Fl->St->Prop} {st:St} {b B:Stmt} (h:b = B) (k:wS C κ B Q st):wS C κ b Q st:=h ▸ k
theorem nfe {κ:Kn} {Q:Fl->St->Prop} {st:St} {b B:List Stmt} (h:cH b = B) (k:wSs C κ B Q st):wSs C κ b Q st:=(congrFun (congrFun (hY b) Q) st).mp (h ▸ k)
end Mine
end
section
open PySem PySem.W PySem.Calls PyProof.Rows
set_option Elab.async false
set_option maxRecDepth 1000000
set_option maxHeartbeats 8000000
namespace MH
noncomputable abbrev pw:Program:=PySem.Challenge.pw_te0060_05
noncomputable abbrev rwL:OpenLaw:=PySem.Challenge.rw_te0060_05
noncomputable def pB:List Stmt:=pw.main.body
noncomputable def nS (i:Nat) (l:List Stmt):Stmt:=match l.drop i with
 | s :: _=>s
 | []=>.Pass default
noncomputable def dD {α:Sort _} (d:α) (cl:List Stmt->α) (fn:Arguments->List Stmt->Scope->α) (s:Stmt):α:=Stmt.casesOn (motive_2:=fun _=>α) s (fun _ a b _ _ _ sc _ _ _=>fn a b sc) (fun _ _ _ _ _ _ _ _ _ _=>d) (fun _ _ _ b _ _ _ _ _ _ _=>cl b) (fun _ _=>d) (fun _ _=>d) (fun _ _ _=>d) (fun _ _ _ _ _ _ _=>d) (fun _ _ _ _=>d) (fun _ _ _ _ _=>d) (fun _ _ _ _ _=>d) (fun _ _ _ _ _=>d) (fun _ _ _ _=>d) (fun _ _ _ _=>d) (fun _ _ _=>d) (fun _ _ _=>d) (fun _ _ _=>d) (fun _ _ _=>d) (fun _ _ _ _ _=>d) (fun _ _ _ _ _=>d) (fun _ _ _=>d) (fun _ _=>d) (fun _ _ _ _=>d) (fun _ _=>d) (fun _ _=>d) (fun _ _=>d) (fun _=>d) (fun _=>d) (fun _=>d)
noncomputable def cB (s:Stmt):List Stmt:=dD [] id (fun _ _ _=>[]) s
noncomputable abbrev Z (s:String):Str:=Str.ofString s
noncomputable abbrev S (s:String) (t:Nat):Value:=.str (Z s) t
noncomputable abbrev I (i:Int) (t:Nat):Value:=.int i t
noncomputable abbrev D (P:Params) (k:String) (t:Nat) (v:Value):DictEntry:=⟨PyData.keyHash P (Z k),S k t,v⟩
noncomputable def fO (s:Stmt) (n q:String) (g:Nat) (dv kv doc pm cd ct:Value) (bi:Nat):Obj:=dD default (fun _=>default) (fun a b sc=>⟨.type "function",none,.func ⟨Z n,Z q,a,.stmts b,sc,g,[],dv,kv,doc,pm,none,cd,ct,bi⟩,#[]⟩) s
noncomputable def kO (s:Stmt) (n q:String) (g:Nat) (dv kv doc pm cd ct:Value) (bi:Nat):Obj:=dD default (fun _=>default) (fun a b sc=>⟨.none,none,.func ⟨Z n,Z q,a,.stmts b,sc,g,[],dv,kv,doc,pm,none,cd,ct,bi⟩,#[]⟩) s
noncomputable def HK (P:Params):Frag:=[
 (2,⟨.none,none,.dict #[] 0,#[]⟩),
 (3,⟨(.type "dict"),none,.dict #[D P "__name__" 165 (S "law_te0060_05" 1242),D P "__doc__" 166 .none,D P "__package__" 167 .none,D P "__loader__" 168 (.builtin "__main__.__loader__#opaque"),D P "__spec__" 169 .none,D P "__annotations__" 170 (.ref 6),D P "__builtins__" 171 (.ref 4),D P "__file__" 173 (S "/claim/cut.py" 172),D P "__cached__" 174 .none,D P "_wall" 193 (.ref 21),D P "ascii_lower" 201 (.ref 26),D P "_replacement_string_value" 219 (.ref 27),D P "serialize_string_value" 226 (.ref 34),D P "serialize_url" 233 (.ref 41),D P "Node" 284 (.ref 74),D P "ParseError" 330 (.ref 104),D P "Comment" 371 (.ref 134),D P "WhitespaceToken" 412 (.ref 163),D P "LiteralToken" 470 (.ref 206),D P "IdentToken" 515 (.ref 235),D P "AtKeywordToken" 560 (.ref 265),D P "HashToken" 606 (.ref 295),D P "StringToken" 652 (.ref 325),D P "URLToken" 698 (.ref 355),D P "UnicodeRangeToken" 744 (.ref 385),D P "NumberToken" 799 (.ref 415),D P "PercentageToken" 854 (.ref 447),D P "DimensionToken" 918 (.ref 479),D P "ParenthesesBlock" 959 (.ref 513),D P "SquareBracketsBlock" 1000 (.ref 542),D P "CurlyBracketsBlock" 1041 (.ref 571),D P "FunctionBlock" 1091 (.ref 600),D P "_DIGITS" 1104 (.ref 606),D P "_number_end" 1116 (.ref 613),D P "_hex_end" 1125 (.ref 620),D P "parse_component_value_list" 1160 (.ref 628),D P "_is_name_start" 1169 (.ref 635),D P "_is_ident_start" 1177 (.ref 642),D P "_consume_ident" 1189 (.ref 649),D P "_consume_quoted_string" 1203 (.ref 656),D P "_consume_escape" 1213 (.ref 663),D P "_consume_url" 1227 (.ref 670),D P "_consume_unicode_range" 1241 (.ref 677),D P "_law_SIGNS" 1249 (.ref 684),D P "_law_LETTERS" 1251 (S "abcdefghijklmnopqrstuvwxyzABCDEFGHIJKLMNOPQRSTUVWXYZ_" 1250),D P "_law_TAILS" 1257 (.ref 691),D P "_law_LINE_ENDS" 1263 (.ref 698),D P "_law_BLANKS" 1269 (.ref 705),D P "_law_ADDRESSES" 1275 (.ref 712),D P "_law_NUMBERS" 1281 (.ref 719),D P "_law_SEPARATORS" 1287 (.ref 726),D P "_law_head" 1294 (.ref 733),D P "_law_opens" 1301 (.ref 740),D P "_law_lower" 1310 (.ref 747),D P "_law_spell" 1326 (.ref 754),D P "_law_name" 1341 (.ref 761),D P "_law_string" 1354 (.ref 768),D P "_law_address" 1368 (.ref 775),D P "_law_token" 1386 (.ref 782),D P "_law_tokens" 1399 (.ref 789),D P "_law_mark" 1406 (.ref 796),D P "_law_told" 1417 (.ref 803),D P "_law_after" 1429 (.ref 810),D P "law" 1448 (.ref 817)] 64,#[]⟩),
 (4,⟨(.type "module"),(some 0),.plain,#[]⟩),
 (20,⟨(.type "code"),none,.fields #[(S "_wall" 187),(S "_wall" 188),(S "/claim/cut.py" 189),(I 1 0),(I 1 0),(I 0 0),(I 0 0),(I 3 0),(.ref 15),(.bool true),(I 181 0),(.ref 16),.none,(.ref 17),(.ref 18),(.ref 19),(I 191 0),(I 1 0),(S "/claim/cut.py" 192)],#[]⟩),
 (21,fO (nS 0 pB) "_wall" "_wall" 3 .none .none .none (S "__main__" 164) (.ref 20) .none 0),
 (25,⟨(.type "code"),none,.fields #[(S "ascii_lower" 196),(S "ascii_lower" 197),(S "/claim/cut.py" 198),(I 5 0),(I 1 0),(I 0 0),(I 0 0),(I 3 0),(.ref 22),(.bool true),(I 181 0),(.ref 23),.none,.none,.none,(.ref 24),(I 199 0),(I 5 0),(S "/claim/cut.py" 200)],#[]⟩),
 (26,fO (nS 2 pB) "ascii_lower" "ascii_lower" 3 .none .none .none (S "tinycss2.ast" 194) (.ref 25) .none 0),
 (27,⟨(.type "dict"),none,.dict #[D P "\"" 204 (S "\\\"" 205), D P "\\" 206 (S "\\\\" 207), D P "\n" 208 (S "\\A " 209), D P "\x0d" 210 (S "\\D " 211), D P "\x0c" 212 (S "\\C " 213)] 5, #[]⟩),
 (33, ⟨(.type "code"), none, .fields #[(S "serialize_string_value" 220), (S "serialize_string_value" 221), (S "/claim/cut.py" 222), (I 9 0), (I 1 0), (I 0 0), (I 0 0), (I 3 0), (.ref 28), (.bool true), (I 181 0), (.ref 29), .none, (.ref 30), (.ref 31), (.ref 32), (I 224 0), (I 9 0), (S "/claim/cut.py" 225)], #[]⟩),
 (34, fO (nS 5 pB) "serialize_string_value" "serialize_string_value" 3 .none .none .none (S "tinycss2.serializer" 202) (.ref 33) .none 0),
 (40, ⟨(.type "code"), none, .fields #[(S "serialize_url" 227), (S "serialize_url" 228), (S "/claim/cut.py" 229), (I 11 0), (I 1 0), (I 0 0), (I 0 0), (I 3 0), (.ref 35), (.bool true), (I 181 0), (.ref 36), .none, (.ref 37), (.ref 38), (.ref 39), (I 231 0), (I 11 0), (S "/claim/cut.py" 232)], #[]⟩),
 (41, fO (nS 6 pB) "serialize_url" "serialize_url" 3 .none .none .none (S "tinycss2.serializer" 202) (.ref 40) .none 0),
 (55, ⟨(.type "code"), none, .fields #[(S "__init__" 251), (S "Node.__init__" 252), (S "/claim/cut.py" 253), (I 17 0), (I 3 0), (I 0 0), (I 0 0), (I 3 0), (.ref 50), (.bool true), (I 181 0), (.ref 51), .none, (.ref 52), (.ref 53), (.ref 54), (I 257 0), (I 17 0), (S "/claim/cut.py" 258)], #[]⟩),
 (56, fO (nS 1 (cB (nS 8 pB))) "__init__" "Node.__init__" 3 .none .none .none (S "tinycss2.ast" 234) (.ref 55) .none 0),
 (62, ⟨(.type "code"), none, .fields #[(S "serialize" 260), (S "Node.serialize" 261), (S "/claim/cut.py" 262), (I 21 0), (I 1 0), (I 0 0), (I 0 0), (I 3 0), (.ref 57), (.bool true), (I 181 0), (.ref 58), .none, (.ref 59), (.ref 60), (.ref 61), (I 264 0), (I 21 0), (S "/claim/cut.py" 265)], #[]⟩),
 (63, fO (nS 2 (cB (nS 8 pB))) "serialize" "Node.serialize" 3 .none .none .none (S "tinycss2.ast" 234) (.ref 62) .none 0),
 (69, ⟨(.type "code"), none, .fields #[(S "_serialize_to" 267), (S "Node._serialize_to" 268), (S "/claim/cut.py" 269), (I 24 0), (I 2 0), (I 0 0), (I 0 0), (I 3 0), (.ref 64), (.bool true), (I 181 0), (.ref 65), .none, (.ref 66), (.ref 67), (.ref 68), (I 272 0), (I 24 0), (S "/claim/cut.py" 273)], #[]⟩),
 (70, fO (nS 3 (cB (nS 8 pB))) "_serialize_to" "Node._serialize_to" 3 .none .none .none (S "tinycss2.ast" 234) (.ref 69) .none 0),
 (73, ⟨(.type "dict"), none, .dict #[D P "__module__" 243 (S "tinycss2.ast" 234), D P "__firstlineno__" 247 (I 14 246), D P "__slots__" 250 (.ref 49), D P "__init__" 259 (.ref 56), D P "serialize" 266 (.ref 63), D P "_serialize_to" 274 (.ref 70), D P "__static_attributes__" 277 (.ref 71), D P "source_column" 279 (.ref 75), D P "source_line" 281 (.ref 76), D P "__doc__" 282 .none] 4, #[]⟩),
 (74, ⟨(.type "type"), none, .cls ⟨Z "Node", [(.type "object")], [(.ref 74), (.type "object")], 73, Z "Node", false, [Z "source_column", Z "source_line"], [(.ref 104), (.ref 134), (.ref 163), (.ref 206), (.ref 235), (.ref 265), (.ref 295), (.ref 325), (.ref 355), (.ref 385), (.ref 415), (.ref 447), (.ref 479), (.ref 513), (.ref 542), (.ref 571), (.ref 600)], false, none, false⟩, #[none, none, some (S "Node" 236), some (S "Node" 244), some (.builtin "object.__new__"), some (.bool false)]⟩),
 (75, ⟨(.type "member_descriptor"), none, .fields #[(S "source_column" 278), (.ref 74), (.builtin "proto.slot"), (.builtin "proto.slot#set"), (I 1 0)], #[]⟩),
 (76, ⟨(.type "member_descriptor"), none, .fields #[(S "source_line" 280), (.ref 74), (.builtin "proto.slot"), (.builtin "proto.slot#set"), (I 0 0)], #[]⟩),
 (92, ⟨(.type "code"), none, .fields #[(S "__init__" 302), (S "ParseError.__init__" 303), (S "/claim/cut.py" 304), (I 30 0), (I 5 0), (I 0 0), (I 0 0), (I 3 0), (.ref 87), (.bool true), (I 181 0), (.ref 88), .none, (.ref 89), (.ref 90), (.ref 91), (I 310 0), (I 30 0), (S "/claim/cut.py" 311)], #[]⟩),
 (93, fO (nS 2 (cB (nS 9 pB))) "__init__" "ParseError.__init__" 3 .none .none .none (S "tinycss2.ast" 234) (.ref 92) .none 0),
 (99, ⟨(.type "code"), none, .fields #[(S "_serialize_to" 313), (S "ParseError._serialize_to" 314), (S "/claim/cut.py" 315), (I 35 0), (I 2 0), (I 0 0), (I 0 0), (I 3 0), (.ref 94), (.bool true), (I 181 0), (.ref 95), .none, (.ref 96), (.ref 97), (.ref 98), (I 318 0), (I 35 0), (S "/claim/cut.py" 319)], #[]⟩),
 (100, fO (nS 3 (cB (nS 9 pB))) "_serialize_to" "ParseError._serialize_to" 3 .none .none .none (S "tinycss2.ast" 234) (.ref 99) .none 0),
 (103, ⟨(.type "dict"), none, .dict #[D P "__module__" 292 (S "tinycss2.ast" 234), D P "__firstlineno__" 296 (I 26 295), D P "__slots__" 299 (.ref 86), D P "type" 301 (S "error" 300), D P "__init__" 312 (.ref 93), D P "_serialize_to" 320 (.ref 100), D P "__static_attributes__" 323 (.ref 101), D P "kind" 325 (.ref 105), D P "message" 327 (.ref 106), D P "__doc__" 328 .none] 4, #[]⟩),
 (104, ⟨(.type "type"), none, .cls ⟨Z "ParseError", [(.ref 74)], [(.ref 104), (.ref 74), (.type "object")], 103, Z "ParseError", false, [Z "source_column", Z "source_line", Z "kind", Z "message"], [], false, none, false⟩, #[some (.ref 79), none, some (S "ParseError" 285), some (S "ParseError" 293), some (.builtin "object.__new__"), some (.bool false)]⟩),
 (105, ⟨(.type "member_descriptor"), none, .fields #[(S "kind" 324), (.ref 104), (.builtin "proto.slot"), (.builtin "proto.slot#set"), (I 3 0)], #[]⟩),
 (106, ⟨(.type "member_descriptor"), none, .fields #[(S "message" 326), (.ref 104), (.builtin "proto.slot"), (.builtin "proto.slot#set"), (I 2 0)], #[]⟩),
 (122, ⟨(.type "code"), none, .fields #[(S "__init__" 347), (S "Comment.__init__" 348), (S "/claim/cut.py" 349), (I 41 0), (I 4 0), (I 0 0), (I 0 0), (I 3 0), (.ref 117), (.bool true), (I 181 0), (.ref 118), .none, (.ref 119), (.ref 120), (.ref 121), (I 354 0), (I 41 0), (S "/claim/cut.py" 355)], #[]⟩),
 (123, fO (nS 2 (cB (nS 10 pB))) "__init__" "Comment.__init__" 3 .none .none .none (S "tinycss2.ast" 234) (.ref 122) .none 0),
 (129, ⟨(.type "code"), none, .fields #[(S "_serialize_to" 357), (S "Comment._serialize_to" 358), (S "/claim/cut.py" 359), (I 45 0), (I 2 0), (I 0 0), (I 0 0), (I 3 0), (.ref 124), (.bool true), (I 181 0), (.ref 125), .none, (.ref 126), (.ref 127), (.ref 128), (I 362 0), (I 45 0), (S "/claim/cut.py" 363)], #[]⟩),
 (130, fO (nS 3 (cB (nS 10 pB))) "_serialize_to" "Comment._serialize_to" 3 .none .none .none (S "tinycss2.ast" 234) (.ref 129) .none 0),
 (133, ⟨(.type "dict"), none, .dict #[D P "__module__" 338 (S "tinycss2.ast" 234), D P "__firstlineno__" 342 (I 37 341), D P "__slots__" 344 (.ref 116), D P "type" 346 (S "comment" 345), D P "__init__" 356 (.ref 123), D P "_serialize_to" 364 (.ref 130), D P "__static_attributes__" 366 (.ref 131), D P "value" 368 (.ref 135), D P "__doc__" 369 .none] 3, #[]⟩),
 (134, ⟨(.type "type"), none, .cls ⟨Z "Comment", [(.ref 74)], [(.ref 134), (.ref 74), (.type "object")], 133, Z "Comment", false, [Z "source_column", Z "source_line", Z "value"], [], false, none, false⟩, #[some (.ref 109), none, some (S "Comment" 331), some (S "Comment" 339), some (.builtin "object.__new__"), some (.bool false)]⟩),
 (135, ⟨(.type "member_descriptor"), none, .fields #[(S "value" 367), (.ref 134), (.builtin "proto.slot"), (.builtin "proto.slot#set"), (I 2 0)], #[]⟩),
 (151, ⟨(.type "code"), none, .fields #[(S "__init__" 388), (S "WhitespaceToken.__init__" 389), (S "/claim/cut.py" 390), (I 51 0), (I 4 0), (I 0 0), (I 0 0), (I 3 0), (.ref 146), (.bool true), (I 181 0), (.ref 147), .none, (.ref 148), (.ref 149), (.ref 150), (I 395 0), (I 51 0), (S "/claim/cut.py" 396)], #[]⟩),
 (152, fO (nS 2 (cB (nS 11 pB))) "__init__" "WhitespaceToken.__init__" 3 .none .none .none (S "tinycss2.ast" 234) (.ref 151) .none 0),
 (158, ⟨(.type "code"), none, .fields #[(S "_serialize_to" 398), (S "WhitespaceToken._serialize_to" 399), (S "/claim/cut.py" 400), (I 55 0), (I 2 0), (I 0 0), (I 0 0), (I 3 0), (.ref 153), (.bool true), (I 181 0), (.ref 154), .none, (.ref 155), (.ref 156), (.ref 157), (I 403 0), (I 55 0), (S "/claim/cut.py" 404)], #[]⟩),
 (159, fO (nS 3 (cB (nS 11 pB))) "_serialize_to" "WhitespaceToken._serialize_to" 3 .none .none .none (S "tinycss2.ast" 234) (.ref 158) .none 0),
 (162, ⟨(.type "dict"), none, .dict #[D P "__module__" 379 (S "tinycss2.ast" 234), D P "__firstlineno__" 383 (I 47 382), D P "__slots__" 385 (.ref 145), D P "type" 387 (S "whitespace" 386), D P "__init__" 397 (.ref 152), D P "_serialize_to" 405 (.ref 159), D P "__static_attributes__" 407 (.ref 160), D P "value" 409 (.ref 164), D P "__doc__" 410 .none] 3, #[]⟩),
 (163, ⟨(.type "type"), none, .cls ⟨Z "WhitespaceToken", [(.ref 74)], [(.ref 163), (.ref 74), (.type "object")], 162, Z "WhitespaceToken", false, [Z "source_column", Z "source_line", Z "value"], [], false, none, false⟩, #[some (.ref 138), none, some (S "WhitespaceToken" 372), some (S "WhitespaceToken" 380), some (.builtin "object.__new__"), some (.bool false)]⟩),
 (164, ⟨(.type "member_descriptor"), none, .fields #[(S "value" 408), (.ref 163), (.builtin "proto.slot"), (.builtin "proto.slot#set"), (I 2 0)], #[]⟩),
 (180, ⟨(.type "code"), none, .fields #[(S "__init__" 429), (S "LiteralToken.__init__" 430), (S "/claim/cut.py" 431), (I 61 0), (I 4 0), (I 0 0), (I 0 0), (I 3 0), (.ref 175), (.bool true), (I 181 0), (.ref 176), .none, (.ref 177), (.ref 178), (.ref 179), (I 436 0), (I 61 0), (S "/claim/cut.py" 437)], #[]⟩),
 (181, fO (nS 2 (cB (nS 12 pB))) "__init__" "LiteralToken.__init__" 3 .none .none .none (S "tinycss2.ast" 234) (.ref 180) .none 0),
 (187, ⟨(.type "code"), none, .fields #[(S "__eq__" 439), (S "LiteralToken.__eq__" 440), (S "/claim/cut.py" 441), (I 65 0), (I 2 0), (I 0 0), (I 0 0), (I 3 0), (.ref 182), (.bool true), (I 181 0), (.ref 183), .none, (.ref 184), (.ref 185), (.ref 186), (I 444 0), (I 65 0), (S "/claim/cut.py" 445)], #[]⟩),
 (188, fO (nS 3 (cB (nS 12 pB))) "__eq__" "LiteralToken.__eq__" 3 .none .none .none (S "tinycss2.ast" 234) (.ref 187) .none 0),
 (194, ⟨(.type "code"), none, .fields #[(S "__ne__" 447), (S "LiteralToken.__ne__" 448), (S "/claim/cut.py" 449), (I 68 0), (I 2 0), (I 0 0), (I 0 0), (I 3 0), (.ref 189), (.bool true), (I 181 0), (.ref 190), .none, (.ref 191), (.ref 192), (.ref 193), (I 452 0), (I 68 0), (S "/claim/cut.py" 453)], #[]⟩),
 (195, fO (nS 4 (cB (nS 12 pB))) "__ne__" "LiteralToken.__ne__" 3 .none .none .none (S "tinycss2.ast" 234) (.ref 194) .none 0),
 (201, ⟨(.type "code"), none, .fields #[(S "_serialize_to" 455), (S "LiteralToken._serialize_to" 456), (S "/claim/cut.py" 457), (I 71 0), (I 2 0), (I 0 0), (I 0 0), (I 3 0), (.ref 196), (.bool true), (I 181 0), (.ref 197), .none, (.ref 198), (.ref 199), (.ref 200), (I 460 0), (I 71 0), (S "/claim/cut.py" 461)], #[]⟩),
 (202, fO (nS 5 (cB (nS 12 pB))) "_serialize_to" "LiteralToken._serialize_to" 3 .none .none .none (S "tinycss2.ast" 234) (.ref 201) .none 0),
 (205, ⟨(.type "dict"), none, .dict #[D P "__module__" 420 (S "tinycss2.ast" 234), D P "__firstlineno__" 424 (I 57 423), D P "__slots__" 426 (.ref 174), D P "type" 428 (S "literal" 427), D P "__init__" 438 (.ref 181), D P "__eq__" 446 (.ref 188), D P "__ne__" 454 (.ref 195), D P "_serialize_to" 462 (.ref 202), D P "__static_attributes__" 464 (.ref 203), D P "value" 466 (.ref 207), D P "__doc__" 467 .none, D P "__hash__" 468 .none] 4, #[]⟩),
 (206, ⟨(.type "type"), none, .cls ⟨Z "LiteralToken", [(.ref 74)], [(.ref 206), (.ref 74), (.type "object")], 205, Z "LiteralToken", false, [Z "source_column", Z "source_line", Z "value"], [], false, none, false⟩, #[some (.ref 167), none, some (S "LiteralToken" 413), some (S "LiteralToken" 421), some (.builtin "object.__new__"), some (.bool false)]⟩),
 (207, ⟨(.type "member_descriptor"), none, .fields #[(S "value" 465), (.ref 206), (.builtin "proto.slot"), (.builtin "proto.slot#set"), (I 2 0)], #[]⟩),
 (223, ⟨(.type "code"), none, .fields #[(S "__init__" 488), (S "IdentToken.__init__" 489), (S "/claim/cut.py" 490), (I 77 0), (I 4 0), (I 0 0), (I 0 0), (I 3 0), (.ref 218), (.bool true), (I 181 0), (.ref 219), .none, (.ref 220), (.ref 221), (.ref 222), (I 495 0), (I 77 0), (S "/claim/cut.py" 496)], #[]⟩),
 (224, fO (nS 2 (cB (nS 13 pB))) "__init__" "IdentToken.__init__" 3 .none .none .none (S "tinycss2.ast" 234) (.ref 223) .none 0),
 (230, ⟨(.type "code"), none, .fields #[(S "_serialize_to" 498), (S "IdentToken._serialize_to" 499), (S "/claim/cut.py" 500), (I 85 0), (I 2 0), (I 0 0), (I 0 0), (I 3 0), (.ref 225), (.bool true), (I 181 0), (.ref 226), .none, (.ref 227), (.ref 228), (.ref 229), (I 503 0), (I 85 0), (S "/claim/cut.py" 504)], #[]⟩),
 (231, fO (nS 3 (cB (nS 13 pB))) "_serialize_to" "IdentToken._serialize_to" 3 .none .none .none (S "tinycss2.ast" 234) (.ref 230) .none 0),
 (234, ⟨(.type "dict"), none, .dict #[D P "__module__" 478 (S "tinycss2.ast" 234), D P "__firstlineno__" 482 (I 73 481), D P "__slots__" 485 (.ref 217), D P "type" 487 (S "ident" 486), D P "__init__" 497 (.ref 224), D P "_serialize_to" 505 (.ref 231), D P "__static_attributes__" 508 (.ref 232), D P "lower_value" 510 (.ref 236), D P "value" 512 (.ref 237), D P "__doc__" 513 .none] 4, #[]⟩),
 (235, ⟨(.type "type"), none, .cls ⟨Z "IdentToken", [(.ref 74)], [(.ref 235), (.ref 74), (.type "object")], 234, Z "IdentToken", false, [Z "source_column", Z "source_line", Z "lower_value", Z "value"], [], false, none, false⟩, #[some (.ref 210), none, some (S "IdentToken" 471), some (S "IdentToken" 479), some (.builtin "object.__new__"), some (.bool false)]⟩),
 (236, ⟨(.type "member_descriptor"), none, .fields #[(S "lower_value" 509), (.ref 235), (.builtin "proto.slot"), (.builtin "proto.slot#set"), (I 3 0)], #[]⟩),
 (237, ⟨(.type "member_descriptor"), none, .fields #[(S "value" 511), (.ref 235), (.builtin "proto.slot"), (.builtin "proto.slot#set"), (I 2 0)], #[]⟩),
 (253, ⟨(.type "code"), none, .fields #[(S "__init__" 533), (S "AtKeywordToken.__init__" 534), (S "/claim/cut.py" 535), (I 91 0), (I 4 0), (I 0 0), (I 0 0), (I 3 0), (.ref 248), (.bool true), (I 181 0), (.ref 249), .none, (.ref 250), (.ref 251), (.ref 252), (I 540 0), (I 91 0), (S "/claim/cut.py" 541)], #[]⟩),
 (254, fO (nS 2 (cB (nS 14 pB))) "__init__" "AtKeywordToken.__init__" 3 .none .none .none (S "tinycss2.ast" 234) (.ref 253) .none 0),
 (260, ⟨(.type "code"), none, .fields #[(S "_serialize_to" 543), (S "AtKeywordToken._serialize_to" 544), (S "/claim/cut.py" 545), (I 99 0), (I 2 0), (I 0 0), (I 0 0), (I 3 0), (.ref 255), (.bool true), (I 181 0), (.ref 256), .none, (.ref 257), (.ref 258), (.ref 259), (I 548 0), (I 99 0), (S "/claim/cut.py" 549)], #[]⟩),
 (261, fO (nS 3 (cB (nS 14 pB))) "_serialize_to" "AtKeywordToken._serialize_to" 3 .none .none .none (S "tinycss2.ast" 234) (.ref 260) .none 0),
 (264, ⟨(.type "dict"), none, .dict #[D P "__module__" 523 (S "tinycss2.ast" 234), D P "__firstlineno__" 527 (I 87 526), D P "__slots__" 530 (.ref 247), D P "type" 532 (S "at-keyword" 531), D P "__init__" 542 (.ref 254), D P "_serialize_to" 550 (.ref 261), D P "__static_attributes__" 553 (.ref 262), D P "lower_value" 555 (.ref 266), D P "value" 557 (.ref 267), D P "__doc__" 558 .none] 4, #[]⟩),
 (265, ⟨(.type "type"), none, .cls ⟨Z "AtKeywordToken", [(.ref 74)], [(.ref 265), (.ref 74), (.type "object")], 264, Z "AtKeywordToken", false, [Z "source_column", Z "source_line", Z "lower_value", Z "value"], [], false, none, false⟩, #[some (.ref 240), none, some (S "AtKeywordToken" 516), some (S "AtKeywordToken" 524), some (.builtin "object.__new__"), some (.bool false)]⟩),
 (266, ⟨(.type "member_descriptor"), none, .fields #[(S "lower_value" 554), (.ref 265), (.builtin "proto.slot"), (.builtin "proto.slot#set"), (I 3 0)], #[]⟩),
 (267, ⟨(.type "member_descriptor"), none, .fields #[(S "value" 556), (.ref 265), (.builtin "proto.slot"), (.builtin "proto.slot#set"), (I 2 0)], #[]⟩),
 (283, ⟨(.type "code"), none, .fields #[(S "__init__" 578), (S "HashToken.__init__" 579), (S "/claim/cut.py" 580), (I 105 0), (I 5 0), (I 0 0), (I 0 0), (I 3 0), (.ref 278), (.bool true), (I 181 0), (.ref 279), .none, (.ref 280), (.ref 281), (.ref 282), (I 586 0), (I 105 0), (S "/claim/cut.py" 587)], #[]⟩),
 (284, fO (nS 2 (cB (nS 15 pB))) "__init__" "HashToken.__init__" 3 .none .none .none (S "tinycss2.ast" 234) (.ref 283) .none 0),
 (290, ⟨(.type "code"), none, .fields #[(S "_serialize_to" 589), (S "HashToken._serialize_to" 590), (S "/claim/cut.py" 591), (I 110 0), (I 2 0), (I 0 0), (I 0 0), (I 3 0), (.ref 285), (.bool true), (I 181 0), (.ref 286), .none, (.ref 287), (.ref 288), (.ref 289), (I 594 0), (I 110 0), (S "/claim/cut.py" 595)], #[]⟩),
 (291, fO (nS 3 (cB (nS 15 pB))) "_serialize_to" "HashToken._serialize_to" 3 .none .none .none (S "tinycss2.ast" 234) (.ref 290) .none 0),
 (294, ⟨(.type "dict"), none, .dict #[D P "__module__" 568 (S "tinycss2.ast" 234), D P "__firstlineno__" 572 (I 101 571), D P "__slots__" 575 (.ref 277), D P "type" 577 (S "hash" 576), D P "__init__" 588 (.ref 284), D P "_serialize_to" 596 (.ref 291), D P "__static_attributes__" 599 (.ref 292), D P "is_identifier" 601 (.ref 296), D P "value" 603 (.ref 297), D P "__doc__" 604 .none] 4, #[]⟩),
 (295, ⟨(.type "type"), none, .cls ⟨Z "HashToken", [(.ref 74)], [(.ref 295), (.ref 74), (.type "object")], 294, Z "HashToken", false, [Z "source_column", Z "source_line", Z "is_identifier", Z "value"], [], false, none, false⟩, #[some (.ref 270), none, some (S "HashToken" 561), some (S "HashToken" 569), some (.builtin "object.__new__"), some (.bool false)]⟩),
 (296, ⟨(.type "member_descriptor"), none, .fields #[(S "is_identifier" 600), (.ref 295), (.builtin "proto.slot"), (.builtin "proto.slot#set"), (I 3 0)], #[]⟩),
 (297, ⟨(.type "member_descriptor"), none, .fields #[(S "value" 602), (.ref 295), (.builtin "proto.slot"), (.builtin "proto.slot#set"), (I 2 0)], #[]⟩),
 (313, ⟨(.type "code"), none, .fields #[(S "__init__" 624), (S "StringToken.__init__" 625), (S "/claim/cut.py" 626), (I 116 0), (I 5 0), (I 0 0), (I 0 0), (I 3 0), (.ref 308), (.bool true), (I 181 0), (.ref 309), .none, (.ref 310), (.ref 311), (.ref 312), (I 632 0), (I 116 0), (S "/claim/cut.py" 633)], #[]⟩),
 (314, fO (nS 2 (cB (nS 16 pB))) "__init__" "StringToken.__init__" 3 .none .none .none (S "tinycss2.ast" 234) (.ref 313) .none 0),
 (320, ⟨(.type "code"), none, .fields #[(S "_serialize_to" 635), (S "StringToken._serialize_to" 636), (S "/claim/cut.py" 637), (I 121 0), (I 2 0), (I 0 0), (I 0 0), (I 3 0), (.ref 315), (.bool true), (I 181 0), (.ref 316), .none, (.ref 317), (.ref 318), (.ref 319), (I 640 0), (I 121 0), (S "/claim/cut.py" 641)], #[]⟩),
 (321, fO (nS 3 (cB (nS 16 pB))) "_serialize_to" "StringToken._serialize_to" 3 .none .none .none (S "tinycss2.ast" 234) (.ref 320) .none 0),
 (324, ⟨(.type "dict"), none, .dict #[D P "__module__" 614 (S "tinycss2.ast" 234), D P "__firstlineno__" 618 (I 112 617), D P "__slots__" 621 (.ref 307), D P "type" 623 (S "string" 622), D P "__init__" 634 (.ref 314), D P "_serialize_to" 642 (.ref 321), D P "__static_attributes__" 645 (.ref 322), D P "representation" 647 (.ref 326), D P "value" 649 (.ref 327), D P "__doc__" 650 .none] 4, #[]⟩),
 (325, ⟨(.type "type"), none, .cls ⟨Z "StringToken", [(.ref 74)], [(.ref 325), (.ref 74), (.type "object")], 324, Z "StringToken", false, [Z "source_column", Z "source_line", Z "representation", Z "value"], [], false, none, false⟩, #[some (.ref 300), none, some (S "StringToken" 607), some (S "StringToken" 615), some (.builtin "object.__new__"), some (.bool false)]⟩),
 (326, ⟨(.type "member_descriptor"), none, .fields #[(S "representation" 646), (.ref 325), (.builtin "proto.slot"), (.builtin "proto.slot#set"), (I 3 0)], #[]⟩),
 (327, ⟨(.type "member_descriptor"), none, .fields #[(S "value" 648), (.ref 325), (.builtin "proto.slot"), (.builtin "proto.slot#set"), (I 2 0)], #[]⟩),
 (343, ⟨(.type "code"), none, .fields #[(S "__init__" 670), (S "URLToken.__init__" 671), (S "/claim/cut.py" 672), (I 127 0), (I 5 0), (I 0 0), (I 0 0), (I 3 0), (.ref 338), (.bool true), (I 181 0), (.ref 339), .none, (.ref 340), (.ref 341), (.ref 342), (I 678 0), (I 127 0), (S "/claim/cut.py" 679)], #[]⟩),
 (344, fO (nS 2 (cB (nS 17 pB))) "__init__" "URLToken.__init__" 3 .none .none .none (S "tinycss2.ast" 234) (.ref 343) .none 0),
 (350, ⟨(.type "code"), none, .fields #[(S "_serialize_to" 681), (S "URLToken._serialize_to" 682), (S "/claim/cut.py" 683), (I 132 0), (I 2 0), (I 0 0), (I 0 0), (I 3 0), (.ref 345), (.bool true), (I 181 0), (.ref 346), .none, (.ref 347), (.ref 348), (.ref 349), (I 686 0), (I 132 0), (S "/claim/cut.py" 687)], #[]⟩),
 (351, fO (nS 3 (cB (nS 17 pB))) "_serialize_to" "URLToken._serialize_to" 3 .none .none .none (S "tinycss2.ast" 234) (.ref 350) .none 0),
 (354, ⟨(.type "dict"), none, .dict #[D P "__module__" 660 (S "tinycss2.ast" 234), D P "__firstlineno__" 664 (I 123 663), D P "__slots__" 667 (.ref 337), D P "type" 669 (S "url" 668), D P "__init__" 680 (.ref 344), D P "_serialize_to" 688 (.ref 351), D P "__static_attributes__" 691 (.ref 352), D P "representation" 693 (.ref 356), D P "value" 695 (.ref 357), D P "__doc__" 696 .none] 4, #[]⟩),
 (355, ⟨(.type "type"), none, .cls ⟨Z "URLToken", [(.ref 74)], [(.ref 355), (.ref 74), (.type "object")], 354, Z "URLToken", false, [Z "source_column", Z "source_line", Z "representation", Z "value"], [], false, none, false⟩, #[some (.ref 330), none, some (S "URLToken" 653), some (S "URLToken" 661), some (.builtin "object.__new__"), some (.bool false)]⟩),
 (356, ⟨(.type "member_descriptor"), none, .fields #[(S "representation" 692), (.ref 355), (.builtin "proto.slot"), (.builtin "proto.slot#set"), (I 3 0)], #[]⟩),
 (357, ⟨(.type "member_descriptor"), none, .fields #[(S "value" 694), (.ref 355), (.builtin "proto.slot"), (.builtin "proto.slot#set"), (I 2 0)], #[]⟩),
 (467, ⟨(.type "code"), none, .fields #[(S "__init__" 876), (S "DimensionToken.__init__" 877), (S "/claim/cut.py" 878), (I 175 0), (I 7 0), (I 0 0), (I 0 0), (I 3 0), (.ref 462), (.bool true), (I 181 0), (.ref 463), .none, (.ref 464), (.ref 465), (.ref 466), (I 886 0), (I 175 0), (S "/claim/cut.py" 887)], #[]⟩),
 (468, fO (nS 2 (cB (nS 21 pB))) "__init__" "DimensionToken.__init__" 3 .none .none .none (S "tinycss2.ast" 234) (.ref 467) .none 0),
 (474, ⟨(.type "code"), none, .fields #[(S "_serialize_to" 889), (S "DimensionToken._serialize_to" 890), (S "/claim/cut.py" 891), (I 187 0), (I 2 0), (I 0 0), (I 0 0), (I 3 0), (.ref 469), (.bool true), (I 181 0), (.ref 470), .none, (.ref 471), (.ref 472), (.ref 473), (I 894 0), (I 187 0), (S "/claim/cut.py" 895)], #[]⟩),
 (475, fO (nS 3 (cB (nS 21 pB))) "_serialize_to" "DimensionToken._serialize_to" 3 .none .none .none (S "tinycss2.ast" 234) (.ref 474) .none 0),
 (478, ⟨(.type "dict"), none, .dict #[D P "__module__" 862 (S "tinycss2.ast" 234), D P "__firstlineno__" 866 (I 171 865), D P "__slots__" 873 (.ref 461), D P "type" 875 (S "dimension" 874), D P "__init__" 888 (.ref 468), D P "_serialize_to" 896 (.ref 475), D P "__static_attributes__" 903 (.ref 476), D P "int_value" 905 (.ref 480), D P "is_integer" 907 (.ref 481), D P "lower_unit" 909 (.ref 482), D P "representation" 911 (.ref 483), D P "unit" 913 (.ref 484), D P "value" 915 (.ref 485), D P "__doc__" 916 .none] 8, #[]⟩),
 (479, ⟨(.type "type"), none, .cls ⟨Z "DimensionToken", [(.ref 74)], [(.ref 479), (.ref 74), (.type "object")], 478, Z "DimensionToken", false, [Z "source_column", Z "source_line", Z "int_value", Z "is_integer", Z "lower_unit", Z "representation", Z "unit", Z "value"], [], false, none, false⟩, #[some (.ref 454), none, some (S "DimensionToken" 855), some (S "DimensionToken" 863), some (.builtin "object.__new__"), some (.bool false)]⟩),
 (480, ⟨(.type "member_descriptor"), none, .fields #[(S "int_value" 904), (.ref 479), (.builtin "proto.slot"), (.builtin "proto.slot#set"), (I 7 0)], #[]⟩),
 (481, ⟨(.type "member_descriptor"), none, .fields #[(S "is_integer" 906), (.ref 479), (.builtin "proto.slot"), (.builtin "proto.slot#set"), (I 6 0)], #[]⟩),
 (482, ⟨(.type "member_descriptor"), none, .fields #[(S "lower_unit" 908), (.ref 479), (.builtin "proto.slot"), (.builtin "proto.slot#set"), (I 5 0)], #[]⟩),
 (483, ⟨(.type "member_descriptor"), none, .fields #[(S "representation" 910), (.ref 479), (.builtin "proto.slot"), (.builtin "proto.slot#set"), (I 4 0)], #[]⟩),
 (484, ⟨(.type "member_descriptor"), none, .fields #[(S "unit" 912), (.ref 479), (.builtin "proto.slot"), (.builtin "proto.slot#set"), (I 3 0)], #[]⟩),
 (485, ⟨(.type "member_descriptor"), none, .fields #[(S "value" 914), (.ref 479), (.builtin "proto.slot"), (.builtin "proto.slot#set"), (I 2 0)], #[]⟩),
 (588, ⟨(.type "code"), none, .fields #[(S "__init__" 1060), (S "FunctionBlock.__init__" 1061), (S "/claim/cut.py" 1062), (I 223 0), (I 5 0), (I 0 0), (I 0 0), (I 3 0), (.ref 583), (.bool true), (I 181 0), (.ref 584), .none, (.ref 585), (.ref 586), (.ref 587), (I 1068 0), (I 223 0), (S "/claim/cut.py" 1069)], #[]⟩),
 (589, fO (nS 2 (cB (nS 25 pB))) "__init__" "FunctionBlock.__init__" 3 .none .none .none (S "tinycss2.ast" 234) (.ref 588) .none 0),
 (595, ⟨(.type "code"), none, .fields #[(S "_serialize_to" 1071), (S "FunctionBlock._serialize_to" 1072), (S "/claim/cut.py" 1073), (I 232 0), (I 2 0), (I 0 0), (I 0 0), (I 3 0), (.ref 590), (.bool true), (I 181 0), (.ref 591), .none, (.ref 592), (.ref 593), (.ref 594), (I 1076 0), (I 232 0), (S "/claim/cut.py" 1077)], #[]⟩),
 (596, fO (nS 3 (cB (nS 25 pB))) "_serialize_to" "FunctionBlock._serialize_to" 3 .none .none .none (S "tinycss2.ast" 234) (.ref 595) .none 0),
 (599, ⟨(.type "dict"), none, .dict #[D P "__module__" 1049 (S "tinycss2.ast" 234), D P "__firstlineno__" 1053 (I 219 1052), D P "__slots__" 1057 (.ref 582), D P "type" 1059 (S "function" 1058), D P "__init__" 1070 (.ref 589), D P "_serialize_to" 1078 (.ref 596), D P "__static_attributes__" 1082 (.ref 597), D P "arguments" 1084 (.ref 601), D P "lower_name" 1086 (.ref 602), D P "name" 1088 (.ref 603), D P "__doc__" 1089 .none] 5, #[]⟩),
 (600, ⟨(.type "type"), none, .cls ⟨Z "FunctionBlock", [(.ref 74)], [(.ref 600), (.ref 74), (.type "object")], 599, Z "FunctionBlock", false, [Z "source_column", Z "source_line", Z "arguments", Z "lower_name", Z "name"], [], false, none, false⟩, #[some (.ref 575), none, some (S "FunctionBlock" 1042), some (S "FunctionBlock" 1050), some (.builtin "object.__new__"), some (.bool false)]⟩),
 (601, ⟨(.type "member_descriptor"), none, .fields #[(S "arguments" 1083), (.ref 600), (.builtin "proto.slot"), (.builtin "proto.slot#set"), (I 4 0)], #[]⟩),
 (602, ⟨(.type "member_descriptor"), none, .fields #[(S "lower_name" 1085), (.ref 600), (.builtin "proto.slot"), (.builtin "proto.slot#set"), (I 3 0)], #[]⟩),
 (603, ⟨(.type "member_descriptor"), none, .fields #[(S "name" 1087), (.ref 600), (.builtin "proto.slot"), (.builtin "proto.slot#set"), (I 2 0)], #[]⟩),
 (606, ⟨(.type "tuple"), none, .seq #[(S "0" 1094), (S "1" 1095), (S "2" 1096), (S "3" 1097), (S "4" 1098), (S "5" 1099), (S "6" 1100), (S "7" 1101), (S "8" 1102), (S "9" 1103)] 0, #[]⟩),
 (612, ⟨(.type "code"), none, .fields #[(S "_number_end" 1105), (S "_number_end" 1106), (S "/claim/cut.py" 1107), (I 236 0), (I 2 0), (I 0 0), (I 0 0), (I 3 0), (.ref 607), (.bool true), (I 181 0), (.ref 608), .none, (.ref 609), (.ref 610), (.ref 611), (I 1114 0), (I 236 0), (S "/claim/cut.py" 1115)], #[]⟩),
 (613, fO (nS 28 pB) "_number_end" "_number_end" 3 .none .none .none (S "tinycss2.tokenizer" 1092) (.ref 612) .none 0),
 (619, ⟨(.type "code"), none, .fields #[(S "_hex_end" 1117), (S "_hex_end" 1118), (S "/claim/cut.py" 1119), (I 261 0), (I 2 0), (I 0 0), (I 0 0), (I 3 0), (.ref 614), (.bool true), (I 181 0), (.ref 615), .none, (.ref 616), (.ref 617), (.ref 618), (I 1123 0), (I 261 0), (S "/claim/cut.py" 1124)], #[]⟩),
 (620, fO (nS 29 pB) "_hex_end" "_hex_end" 3 .none .none .none (S "tinycss2.tokenizer" 1092) (.ref 619) .none 0),
 (621, ⟨(.type "tuple"), none, .seq #[(.bool false)] 0, #[]⟩),
 (627, ⟨(.type "code"), none, .fields #[(S "parse_component_value_list" 1126), (S "parse_component_value_list" 1127), (S "/claim/cut.py" 1128), (I 266 0), (I 2 0), (I 0 0), (I 0 0), (I 3 0), (.ref 622), (.bool true), (I 181 0), (.ref 623), .none, (.ref 624), (.ref 625), (.ref 626), (I 1158 0), (I 266 0), (S "/claim/cut.py" 1159)], #[]⟩),
 (628, fO (nS 30 pB) "parse_component_value_list" "parse_component_value_list" 3 (.ref 621) .none .none (S "tinycss2.tokenizer" 1092) (.ref 627) .none 0),
 (634, ⟨(.type "code"), none, .fields #[(S "_is_name_start" 1161), (S "_is_name_start" 1162), (S "/claim/cut.py" 1163), (I 424 0), (I 2 0), (I 0 0), (I 0 0), (I 3 0), (.ref 629), (.bool true), (I 181 0), (.ref 630), .none, (.ref 631), (.ref 632), (.ref 633), (I 1167 0), (I 424 0), (S "/claim/cut.py" 1168)], #[]⟩),
 (635, fO (nS 31 pB) "_is_name_start" "_is_name_start" 3 .none .none .none (S "tinycss2.tokenizer" 1092) (.ref 634) .none 0),
 (641, ⟨(.type "code"), none, .fields #[(S "_is_ident_start" 1170), (S "_is_ident_start" 1171), (S "/claim/cut.py" 1172), (I 427 0), (I 2 0), (I 0 0), (I 0 0), (I 3 0), (.ref 636), (.bool true), (I 181 0), (.ref 637), .none, (.ref 638), (.ref 639), (.ref 640), (I 1175 0), (I 427 0), (S "/claim/cut.py" 1176)], #[]⟩),
 (642, fO (nS 32 pB) "_is_ident_start" "_is_ident_start" 3 .none .none .none (S "tinycss2.tokenizer" 1092) (.ref 641) .none 0),
 (648, ⟨(.type "code"), none, .fields #[(S "_consume_ident" 1178), (S "_consume_ident" 1179), (S "/claim/cut.py" 1180), (I 436 0), (I 2 0), (I 0 0), (I 0 0), (I 3 0), (.ref 643), (.bool true), (I 181 0), (.ref 644), .none, (.ref 645), (.ref 646), (.ref 647), (I 1187 0), (I 436 0), (S "/claim/cut.py" 1188)], #[]⟩),
 (649, fO (nS 33 pB) "_consume_ident" "_consume_ident" 3 .none .none .none (S "tinycss2.tokenizer" 1092) (.ref 648) .none 0),
 (655, ⟨(.type "code"), none, .fields #[(S "_consume_quoted_string" 1190), (S "_consume_quoted_string" 1191), (S "/claim/cut.py" 1192), (I 453 0), (I 2 0), (I 0 0), (I 0 0), (I 3 0), (.ref 650), (.bool true), (I 181 0), (.ref 651), .none, (.ref 652), (.ref 653), (.ref 654), (I 1201 0), (I 453 0), (S "/claim/cut.py" 1202)], #[]⟩),
 (656, fO (nS 34 pB) "_consume_quoted_string" "_consume_quoted_string" 3 .none .none .none (S "tinycss2.tokenizer" 1092) (.ref 655) .none 0),
 (662, ⟨(.type "code"), none, .fields #[(S "_consume_escape" 1204), (S "_consume_escape" 1205), (S "/claim/cut.py" 1206), (I 485 0), (I 2 0), (I 0 0), (I 0 0), (I 3 0), (.ref 657), (.bool true), (I 181 0), (.ref 658), .none, (.ref 659), (.ref 660), (.ref 661), (I 1211 0), (I 485 0), (S "/claim/cut.py" 1212)], #[]⟩),
 (663, fO (nS 35 pB) "_consume_escape" "_consume_escape" 3 .none .none .none (S "tinycss2.tokenizer" 1092) (.ref 662) .none 0),
 (669, ⟨(.type "code"), none, .fields #[(S "_consume_url" 1214), (S "_consume_url" 1215), (S "/claim/cut.py" 1216), (I 494 0), (I 2 0), (I 0 0), (I 0 0), (I 3 0), (.ref 664), (.bool true), (I 181 0), (.ref 665), .none, (.ref 666), (.ref 667), (.ref 668), (I 1225 0), (I 494 0), (S "/claim/cut.py" 1226)], #[]⟩),
 (670, fO (nS 36 pB) "_consume_url" "_consume_url" 3 .none .none .none (S "tinycss2.tokenizer" 1092) (.ref 669) .none 0),
 (683, ⟨(.type "code"), none, .fields #[(S "_law_SIGNS" 1244), (S "_law_SIGNS" 1245), (S "/claim/cut.py" 1246), (I 578 0), (I 0 0), (I 0 0), (I 0 0), (I 3 0), (.ref 678), (.bool true), (I 181 0), (.ref 679), .none, (.ref 680), (.ref 681), (.ref 682), (I 1247 0), (I 578 0), (S "/claim/cut.py" 1248)], #[]⟩),
 (684, fO (nS 39 pB) "_law_SIGNS" "_law_SIGNS" 3 .none .none .none (S "law_te0060_05" 1242) (.ref 683) .none 0),
 (690, ⟨(.type "code"), none, .fields #[(S "_law_TAILS" 1252), (S "_law_TAILS" 1253), (S "/claim/cut.py" 1254), (I 581 0), (I 0 0), (I 0 0), (I 0 0), (I 3 0), (.ref 685), (.bool true), (I 181 0), (.ref 686), .none, (.ref 687), (.ref 688), (.ref 689), (I 1255 0), (I 581 0), (S "/claim/cut.py" 1256)], #[]⟩),
 (691, fO (nS 41 pB) "_law_TAILS" "_law_TAILS" 3 .none .none .none (S "law_te0060_05" 1242) (.ref 690) .none 0),
 (697, ⟨(.type "code"), none, .fields #[(S "_law_LINE_ENDS" 1258), (S "_law_LINE_ENDS" 1259), (S "/claim/cut.py" 1260), (I 583 0), (I 0 0), (I 0 0), (I 0 0), (I 3 0), (.ref 692), (.bool true), (I 181 0), (.ref 693), .none, (.ref 694), (.ref 695), (.ref 696), (I 1261 0), (I 583 0), (S "/claim/cut.py" 1262)], #[]⟩),
 (698, fO (nS 42 pB) "_law_LINE_ENDS" "_law_LINE_ENDS" 3 .none .none .none (S "law_te0060_05" 1242) (.ref 697) .none 0),
 (704, ⟨(.type "code"), none, .fields #[(S "_law_BLANKS" 1264), (S "_law_BLANKS" 1265), (S "/claim/cut.py" 1266), (I 585 0), (I 0 0), (I 0 0), (I 0 0), (I 3 0), (.ref 699), (.bool true), (I 181 0), (.ref 700), .none, (.ref 701), (.ref 702), (.ref 703), (I 1267 0), (I 585 0), (S "/claim/cut.py" 1268)], #[]⟩),
 (705, fO (nS 43 pB) "_law_BLANKS" "_law_BLANKS" 3 .none .none .none (S "law_te0060_05" 1242) (.ref 704) .none 0),
 (711, ⟨(.type "code"), none, .fields #[(S "_law_ADDRESSES" 1270), (S "_law_ADDRESSES" 1271), (S "/claim/cut.py" 1272), (I 587 0), (I 0 0), (I 0 0), (I 0 0), (I 3 0), (.ref 706), (.bool true), (I 181 0), (.ref 707), .none, (.ref 708), (.ref 709), (.ref 710), (I 1273 0), (I 587 0), (S "/claim/cut.py" 1274)], #[]⟩),
 (712, fO (nS 44 pB) "_law_ADDRESSES" "_law_ADDRESSES" 3 .none .none .none (S "law_te0060_05" 1242) (.ref 711) .none 0),
 (718, ⟨(.type "code"), none, .fields #[(S "_law_NUMBERS" 1276), (S "_law_NUMBERS" 1277), (S "/claim/cut.py" 1278), (I 589 0), (I 0 0), (I 0 0), (I 0 0), (I 3 0), (.ref 713), (.bool true), (I 181 0), (.ref 714), .none, (.ref 715), (.ref 716), (.ref 717), (I 1279 0), (I 589 0), (S "/claim/cut.py" 1280)], #[]⟩),
 (719, fO (nS 45 pB) "_law_NUMBERS" "_law_NUMBERS" 3 .none .none .none (S "law_te0060_05" 1242) (.ref 718) .none 0),
 (725, ⟨(.type "code"), none, .fields #[(S "_law_SEPARATORS" 1282), (S "_law_SEPARATORS" 1283), (S "/claim/cut.py" 1284), (I 591 0), (I 0 0), (I 0 0), (I 0 0), (I 3 0), (.ref 720), (.bool true), (I 181 0), (.ref 721), .none, (.ref 722), (.ref 723), (.ref 724), (I 1285 0), (I 591 0), (S "/claim/cut.py" 1286)], #[]⟩),
 (726, fO (nS 46 pB) "_law_SEPARATORS" "_law_SEPARATORS" 3 .none .none .none (S "law_te0060_05" 1242) (.ref 725) .none 0),
 (732, ⟨(.type "code"), none, .fields #[(S "_law_head" 1288), (S "_law_head" 1289), (S "/claim/cut.py" 1290), (I 593 0), (I 1 0), (I 0 0), (I 0 0), (I 3 0), (.ref 727), (.bool true), (I 181 0), (.ref 728), .none, (.ref 729), (.ref 730), (.ref 731), (I 1292 0), (I 593 0), (S "/claim/cut.py" 1293)], #[]⟩),
 (733, fO (nS 47 pB) "_law_head" "_law_head" 3 .none .none .none (S "law_te0060_05" 1242) (.ref 732) .none 0),
 (739, ⟨(.type "code"), none, .fields #[(S "_law_opens" 1295), (S "_law_opens" 1296), (S "/claim/cut.py" 1297), (I 595 0), (I 1 0), (I 0 0), (I 0 0), (I 3 0), (.ref 734), (.bool true), (I 181 0), (.ref 735), .none, (.ref 736), (.ref 737), (.ref 738), (I 1299 0), (I 595 0), (S "/claim/cut.py" 1300)], #[]⟩),
 (740, fO (nS 48 pB) "_law_opens" "_law_opens" 3 .none .none .none (S "law_te0060_05" 1242) (.ref 739) .none 0),
 (746, ⟨(.type "code"), none, .fields #[(S "_law_lower" 1302), (S "_law_lower" 1303), (S "/claim/cut.py" 1304), (I 597 0), (I 1 0), (I 0 0), (I 0 0), (I 3 0), (.ref 741), (.bool true), (I 181 0), (.ref 742), .none, (.ref 743), (.ref 744), (.ref 745), (I 1308 0), (I 597 0), (S "/claim/cut.py" 1309)], #[]⟩),
 (747, fO (nS 49 pB) "_law_lower" "_law_lower" 3 .none .none .none (S "law_te0060_05" 1242) (.ref 746) .none 0),
 (753, ⟨(.type "code"), none, .fields #[(S "_law_spell" 1311), (S "_law_spell" 1312), (S "/claim/cut.py" 1313), (I 602 0), (I 4 0), (I 0 0), (I 0 0), (I 3 0), (.ref 748), (.bool true), (I 181 0), (.ref 749), .none, (.ref 750), (.ref 751), (.ref 752), (I 1324 0), (I 602 0), (S "/claim/cut.py" 1325)], #[]⟩),
 (754, fO (nS 50 pB) "_law_spell" "_law_spell" 3 .none .none .none (S "law_te0060_05" 1242) (.ref 753) .none 0),
 (760, ⟨(.type "code"), none, .fields #[(S "_law_name" 1327), (S "_law_name" 1328), (S "/claim/cut.py" 1329), (I 625 0), (I 4 0), (I 0 0), (I 0 0), (I 3 0), (.ref 755), (.bool true), (I 181 0), (.ref 756), .none, (.ref 757), (.ref 758), (.ref 759), (I 1339 0), (I 625 0), (S "/claim/cut.py" 1340)], #[]⟩),
 (761, fO (nS 51 pB) "_law_name" "_law_name" 3 .none .none .none (S "law_te0060_05" 1242) (.ref 760) .none 0),
 (767, ⟨(.type "code"), none, .fields #[(S "_law_string" 1342), (S "_law_string" 1343), (S "/claim/cut.py" 1344), (I 634 0), (I 3 0), (I 0 0), (I 0 0), (I 3 0), (.ref 762), (.bool true), (I 181 0), (.ref 763), .none, (.ref 764), (.ref 765), (.ref 766), (I 1352 0), (I 634 0), (S "/claim/cut.py" 1353)], #[]⟩),
 (768, fO (nS 52 pB) "_law_string" "_law_string" 3 .none .none .none (S "law_te0060_05" 1242) (.ref 767) .none 0),
 (774, ⟨(.type "code"), none, .fields #[(S "_law_address" 1355), (S "_law_address" 1356), (S "/claim/cut.py" 1357), (I 642 0), (I 3 0), (I 0 0), (I 0 0), (I 3 0), (.ref 769), (.bool true), (I 181 0), (.ref 770), .none, (.ref 771), (.ref 772), (.ref 773), (I 1366 0), (I 642 0), (S "/claim/cut.py" 1367)], #[]⟩),
 (775, fO (nS 53 pB) "_law_address" "_law_address" 3 .none .none .none (S "law_te0060_05" 1242) (.ref 774) .none 0),
 (781, ⟨(.type "code"), none, .fields #[(S "_law_token" 1369), (S "_law_token" 1370), (S "/claim/cut.py" 1371), (I 649 0), (I 3 0), (I 0 0), (I 0 0), (I 3 0), (.ref 776), (.bool true), (I 181 0), (.ref 777), .none, (.ref 778), (.ref 779), (.ref 780), (I 1384 0), (I 649 0), (S "/claim/cut.py" 1385)], #[]⟩),
 (782, fO (nS 54 pB) "_law_token" "_law_token" 3 .none .none .none (S "law_te0060_05" 1242) (.ref 781) .none 0),
 (788, ⟨(.type "code"), none, .fields #[(S "_law_tokens" 1387), (S "_law_tokens" 1388), (S "/claim/cut.py" 1389), (I 671 0), (I 1 0), (I 0 0), (I 0 0), (I 3 0), (.ref 783), (.bool true), (I 181 0), (.ref 784), .none, (.ref 785), (.ref 786), (.ref 787), (I 1397 0), (I 671 0), (S "/claim/cut.py" 1398)], #[]⟩),
 (789, fO (nS 55 pB) "_law_tokens" "_law_tokens" 3 .none .none .none (S "law_te0060_05" 1242) (.ref 788) .none 0),
 (795, ⟨(.type "code"), none, .fields #[(S "_law_mark" 1400), (S "_law_mark" 1401), (S "/claim/cut.py" 1402), (I 684 0), (I 1 0), (I 0 0), (I 0 0), (I 3 0), (.ref 790), (.bool true), (I 181 0), (.ref 791), .none, (.ref 792), (.ref 793), (.ref 794), (I 1404 0), (I 684 0), (S "/claim/cut.py" 1405)], #[]⟩),
 (796, fO (nS 56 pB) "_law_mark" "_law_mark" 3 .none .none .none (S "law_te0060_05" 1242) (.ref 795) .none 0),
 (802, ⟨(.type "code"), none, .fields #[(S "_law_told" 1407), (S "_law_told" 1408), (S "/claim/cut.py" 1409), (I 686 0), (I 1 0), (I 0 0), (I 0 0), (I 3 0), (.ref 797), (.bool true), (I 181 0), (.ref 798), .none, (.ref 799), (.ref 800), (.ref 801), (I 1415 0), (I 686 0), (S "/claim/cut.py" 1416)], #[]⟩),
 (803, fO (nS 57 pB) "_law_told" "_law_told" 3 .none .none .none (S "law_te0060_05" 1242) (.ref 802) .none 0),
 (809, ⟨(.type "code"), none, .fields #[(S "_law_after" 1418), (S "_law_after" 1419), (S "/claim/cut.py" 1420), (I 704 0), (I 2 0), (I 0 0), (I 0 0), (I 3 0), (.ref 804), (.bool true), (I 181 0), (.ref 805), .none, (.ref 806), (.ref 807), (.ref 808), (I 1427 0), (I 704 0), (S "/claim/cut.py" 1428)], #[]⟩),
 (810, fO (nS 58 pB) "_law_after" "_law_after" 3 .none .none .none (S "law_te0060_05" 1242) (.ref 809) .none 0),
 (816, ⟨(.type "code"), none, .fields #[(S "law" 1430), (S "law" 1431), (S "/claim/cut.py" 1432), (I 716 0), (I 1 0), (I 0 0), (I 0 0), (I 3 0), (.ref 811), (.bool true), (I 181 0), (.ref 812), .none, (.ref 813), (.ref 814), (.ref 815), (I 1446 0), (I 716 0), (S "/claim/cut.py" 1447)], #[]⟩),
 (817, fO (nS 59 pB) "law" "law" 3 .none .none .none (S "law_te0060_05" 1242) (.ref 816) .none 0)]
noncomputable def HX (P : Params) : Frag := (29, ⟨.none, none, .fields #[], #[]⟩) :: (36, ⟨.none, none, .fields #[], #[]⟩) :: HK P
noncomputable def hkA : List Addr := [29, 36, 2, 3, 4, 20, 21, 25, 26, 27, 33, 34, 40, 41, 55, 56, 62, 63, 69, 70, 73, 74, 75, 76, 92, 93, 99, 100, 103, 104, 105, 106, 122, 123, 129, 130, 133, 134, 135, 151, 152, 158, 159, 162, 163, 164, 180, 181, 187, 188, 194, 195, 201, 202, 205, 206, 207, 223, 224, 230, 231, 234, 235, 236, 237, 253, 254, 260, 261, 264, 265, 266, 267, 283, 284, 290, 291, 294, 295, 296, 297, 313, 314, 320, 321, 324, 325, 326, 327, 343, 344, 350, 351, 354, 355, 356, 357, 467, 468, 474, 475, 478, 479, 480, 481, 482, 483, 484, 485, 588, 589, 595, 596, 599, 600, 601, 602, 603, 606, 612, 613, 619, 620, 621, 627, 628, 634, 635, 641, 642, 648, 649, 655, 656, 662, 663, 669, 670, 683, 684, 690, 691, 697, 698, 704, 705, 711, 712, 718, 719, 725, 726, 732, 733, 739, 740, 746, 747, 753, 754, 760, 761, 767, 768, 774, 775, 781, 782, 788, 789, 795, 796, 802, 803, 809, 810, 816, 817]
theorem zfQ (P : Params) : hkA = (HX P).map (·.1) := by kernel_rfl
noncomputable def mkT (l : List Obj) : BT := (l.foldl (fun (p : BT × Nat) o => (p.1.ins p.2 o, p.2 + 1)) (.nil, 0)).1
noncomputable def trA (P : Params) : BT := mkT [boot_o_0 P, boot_o_1 P, boot_o_2 P, boot_o_3 P, boot_o_4 P, boot_o_5 P, boot_o_6 P, boot_o_7 P, boot_o_8 P, boot_o_9 P, boot_o_10 P, ⟨(.type "tuple"), none, .seq #[] 0, #[]⟩, ⟨.none, none, .fields #[], #[]⟩, ⟨(.type "code"), none, .fields #[(S "<module>" 182), (S "<module>" 183), (S "/claim/cut.py" 184), (I 1 0), (I 0 0), (I 0 0), (I 0 0), (I 0 0), (.ref 11), (.bool false), (I 181 0), (.ref 12), .none, .none, .none, .none, (I 185 0), (I 1 0), (S "/claim/cut.py" 186)], #[]⟩, ⟨(.type "frame"), none, .plain, #[some (.ref 13), some (.ref 3), some (.ref 3), none, some (S "__main__" 164), none, some (.ref 0)]⟩]
noncomputable def trM (P : Params) : BT := mkT [boot_o_0 P, boot_o_1 P, boot_o_2 P, ⟨(.type "dict"), none, .dict #[D P "__name__" 165 (S "tinycss2.serializer" 202), D P "__doc__" 166 .none, D P "__package__" 167 .none, D P "__loader__" 168 (.builtin "__main__.__loader__#opaque"), D P "__spec__" 169 .none, D P "__annotations__" 170 (.ref 6), D P "__builtins__" 171 (.ref 4), D P "__file__" 173 (S "/claim/cut.py" 172), D P "__cached__" 174 .none, D P "_wall" 193 (.ref 21), D P "ascii_lower" 201 (.ref 26), D P "_replacement_string_value" 219 (.ref 27)] 12, #[]⟩, boot_o_4 P, boot_o_5 P, boot_o_6 P, boot_o_7 P, boot_o_8 P, boot_o_9 P, boot_o_10 P, ⟨(.type "tuple"), none, .seq #[] 0, #[]⟩, ⟨.none, none, .fields #[(I 1 0), (I 0 0), (.ref 20), (I 5 0), (I 0 0), (.ref 25)], #[]⟩, ⟨(.type "code"), none, .fields #[(S "<module>" 182), (S "<module>" 183), (S "/claim/cut.py" 184), (I 1 0), (I 0 0), (I 0 0), (I 0 0), (I 0 0), (.ref 11), (.bool false), (I 181 0), (.ref 12), .none, .none, .none, .none, (I 185 0), (I 1 0), (S "/claim/cut.py" 186)], #[]⟩, ⟨(.type "frame"), none, .plain, #[some (.ref 13), some (.ref 3), some (.ref 3), none, some (S "__main__" 164), none, some (.ref 0)]⟩, ⟨(.type "tuple"), none, .seq #[] 0, #[]⟩, ⟨.none, none, .fields #[], #[]⟩, ⟨(.type "tuple"), none, .seq #[(S "k" 190)] 0, #[]⟩, ⟨(.type "tuple"), none, .seq #[] 0, #[]⟩, kO (nS 0 pB) "_wall" "_wall" 0 .none .none .none .none .none .none 0, ⟨(.type "code"), none, .fields #[(S "_wall" 187), (S "_wall" 188), (S "/claim/cut.py" 189), (I 1 0), (I 1 0), (I 0 0), (I 0 0), (I 3 0), (.ref 15), (.bool true), (I 181 0), (.ref 16), .none, (.ref 17), (.ref 18), (.ref 19), (I 191 0), (I 1 0), (S "/claim/cut.py" 192)], #[]⟩, fO (nS 0 pB) "_wall" "_wall" 3 .none .none .none (S "__main__" 164) (.ref 20) .none 0, ⟨(.type "tuple"), none, .seq #[] 0, #[]⟩, ⟨.none, none, .fields #[], #[]⟩, kO (nS 2 pB) "ascii_lower" "ascii_lower" 0 .none .none .none .none .none .none 0, ⟨(.type "code"), none, .fields #[(S "ascii_lower" 196), (S "ascii_lower" 197), (S "/claim/cut.py" 198), (I 5 0), (I 1 0), (I 0 0), (I 0 0), (I 3 0), (.ref 22), (.bool true), (I 181 0), (.ref 23), .none, .none, .none, (.ref 24), (I 199 0), (I 5 0), (S "/claim/cut.py" 200)], #[]⟩, fO (nS 2 pB) "ascii_lower" "ascii_lower" 3 .none .none .none (S "tinycss2.ast" 194) (.ref 25) .none 0, ⟨(.type "dict"), none, .dict #[D P "\"" 204 (S "\\\"" 205), D P "\\" 206 (S "\\\\" 207), D P "\n" 208 (S "\\A " 209), D P "\x0d" 210 (S "\\D " 211), D P "\x0c" 212 (S "\\C " 213)] 5, #[]⟩]
noncomputable def zgt : Env := { scope := pw.main.scope, locals := mainNs, globals := mainNs, cells := [], code := (.ref 13), frame := some 14 }
noncomputable def cE : Code := .body (behindTheImports pw) zgt
noncomputable def p0 : Pos := default
noncomputable def sA (w : World) (os : OsState) : SharedT := ⟨trA w.params, 15, {}, #[], {}, 187, os⟩
noncomputable def sM (w : World) (os : OsState) : SharedT := ⟨trM w.params, 28, {}, #[], {}, 220, os⟩
noncomputable def pM : Pos := ⟨8, 0, 8, 25⟩
noncomputable abbrev st1 : List Stmt := (behindTheImports pw).take 5
noncomputable abbrev st2 : List Stmt := (behindTheImports pw).drop 5
noncomputable abbrev tb := treeTable
theorem zer {p : Program} {w : World} {n₀ : Nat} {ann : Option Value} {c : Code} {ps : Pos} {env : Env} {s : Shared} : topRun treeTable p w n₀ ann 2 s (restOf [] env c ps [topFrame p0]) = some s := by
 rfl
theorem zee {p q : Program} {loose : List Str} {Xt : Shared -> Bool} {α : Type} {Yf : Shared -> α} {Ya : World -> α} {N : Nat} {g0 : Bool} {H₀ : Params -> Heap} {gs₀ : Array GenState} {d₀ : Drawn} {k₀ : Nat} {m₀ : Nat} {ann : Option Value} {M : Nat}
  (open_ : ∀ w : World, (fencedOpening treeTable p w N).map (fun s => (s.heap, s.gens, s.drawn, s.toks)) = some (H₀ w.params, gs₀, d₀, k₀))
  (size : ∀ w : World, ((H₀ w.params).isNs mainGlobals && gs₀.size == 0, (H₀ w.params).objs.size, (H₀ w.params).nsMap mainGlobals "__annotations__") = (true,m₀,ann))
  (run:∀ (w:World) (os:OsState),∃ s,topRun treeTable p w m₀ ann M ⟨H₀ w.params,gs₀,d₀,k₀,os⟩ (topStub p) = some s /\
   ((staticsOk (importedModules p.main.body) (H₀ w.params) s.heap && namesBound p s.heap && gensDone s && laidKept (H₀ w.params) s.heap),openSeen q loose (importedModules p.main.body) Xt g0 s,Yf s) = (true,openGood q loose,Ya w)) (le:Nat.ble M N = true):LeftO p q loose Xt Yf Ya N g0:=fun w=>by
 obtain ⟨⟨h,gs,d,k,os⟩,e,e'⟩:=Option.map_eq_some_iff.mp (open_ w)
 obtain ⟨rfl,rfl,rfl,rfl⟩:h = H₀ w.params /\ gs = gs₀ /\ d = d₀ /\ k = k₀:=by simpa using e'
 obtain ⟨z1,z2,z3⟩:_ /\ _ /\ _:=by simpa only [Prod.mk.injEq] using size w
 obtain ⟨s,r,l⟩:=run w os
 obtain ⟨l1,l2,l3⟩:_ /\ _ /\ _:=by simpa only [Prod.mk.injEq] using l
 have r:=topRun_mono (N - M) _ _ _ _ r
 rw [show M + (N - M) = N by have:=Nat.le_of_ble_eq_true le; omega] at r
 have t:topFrom treeTable p w N ⟨H₀ w.params,gs,d,k,os⟩ = some s:=by
  unfold topFrom
  dsimp only
  rw [z1,z2,z3,r]
  show (match staticsOk (importedModules p.main.body) (H₀ w.params) s.heap && namesBound p s.heap && gensDone s && laidKept (H₀ w.params) s.heap with | true=>_ | false=>_) = _
  rw [l1]
 unfold openEnds
 rw [e]
 show (topFrom treeTable p w N _).map _ = _
 rw [t]
 exact congrArg some (Prod.ext l2 l3)
noncomputable def ze7:Option Value:=some (.ref 6)
noncomputable abbrev qL:Program:=view pw [59]
noncomputable def Yf0 (s:Shared):List (Option Obj):=hkA.map s.heap.get?
noncomputable def Ya0 (w:World):List (Option Obj):=(HX w.params).map fun p=>some p.2
noncomputable def pS:List Str:=["_wall", "ascii_lower", "_replacement_string_value", "serialize_string_value", "serialize_url", "Node", "ParseError", "Comment", "WhitespaceToken", "LiteralToken", "IdentToken", "AtKeywordToken", "HashToken", "StringToken", "URLToken", "UnicodeRangeToken", "NumberToken", "PercentageToken", "DimensionToken", "ParenthesesBlock", "SquareBracketsBlock", "CurlyBracketsBlock", "FunctionBlock", "_DIGITS", "_number_end", "_hex_end", "parse_component_value_list", "_is_name_start", "_is_ident_start", "_consume_ident", "_consume_quoted_string", "_consume_escape", "_consume_url", "_consume_unicode_range", "_law_SIGNS", "_law_LETTERS", "_law_TAILS", "_law_LINE_ENDS", "_law_BLANKS", "_law_ADDRESSES", "_law_NUMBERS", "_law_SEPARATORS", "_law_head", "_law_opens", "_law_lower", "_law_spell", "_law_name", "_law_string", "_law_address", "_law_token", "_law_tokens", "_law_mark", "_law_told", "_law_after"].map Str.ofString
noncomputable def Xt0 (s:Shared):Bool:=recOk (RowW.records (OpenRow.toRowW rwL.row)) s
theorem zgJ (N:Nat) (h:Nat.ble 600 N = true):∀ w:World,(fencedOpening treeTable pw w N).map (fun s=>(s.heap,s.gens,s.drawn,s.toks)) = some (boot_heap w.params,#[],boot_drawn,boot_toks):=
 boot_open (by kernel_rfl) h (fun s=>by rfl)
theorem zgG (w:World):((boot_heap w.params).isNs mainGlobals && (#[]:Array GenState).size == 0,(boot_heap w.params).objs.size,(boot_heap w.params).nsMap mainGlobals "__annotations__") = (true,11,ze7):=by kernel_rfl
theorem pre0 (w:World) (os:OsState):topGo treeTable pw w 11 ze7 12 ⟨boot_heap w.params,#[],boot_drawn,boot_toks,os⟩ (topStub pw) = some ((sA w os).abs,⟨denote treeTable cE,cE,p0,[topFrame p0]⟩):=by
 rw [PySem.W.Fast.te15667345088766844465,PySem.W.Fast.te14364793385576792824,PySem.W.Fast.te11892475500146522536]
 kernel_rfl
theorem zgd (w:World) (os:OsState):segRun treeTable pw w 11 ze7 1 1 (sA w os).abs (blockOf (behindTheImports pw) zgt cE p0 [topFrame p0]) = some (.next,(sA w os).abs,cE,p0):=by
 rw [PySem.W.Fast.te14374325043358763698,PySem.W.Fast.te14364793385576792824]
 kernel_rfl
theorem zfU (w:World) (os:OsState):segRunT treeTable pw w 11 ze7 1 159 (sA w os) (piecesOf st1 zgt cE p0 [topFrame p0]) = some (.next,sM w os,cE,pM):=by
 rw [PySem.W.Fast.te10110043849684766642,PySem.W.Fast.te14364793385576792824]
 revert w
 refine byRow2 "special-get-raises" (fun w=>?_) (fun w=>?_) <;> kernel_rfl
noncomputable def zgK (w:World) (s:Shared):=((staticsOk (importedModules pw.main.body) (boot_heap w.params) s.heap && namesBound pw s.heap && gensDone s && laidKept (boot_heap w.params) s.heap),openSeen qL pS (importedModules pw.main.body) Xt0 true s,Yf0 s)
theorem zgQ (w:World) (os:OsState):(segRunT treeTable pw w 11 ze7 1 7277 (sM w os) (piecesOf st2 zgt cE pM [topFrame p0])).map (fun r=>(r.1,r.2.2.1,zgK w r.2.1.abs)) = some (.next,cE,true,openGood qL pS,Ya0 w):=by
 unfold zgK
 rw [PySem.W.Fast.te10110043849684766642,PySem.W.Fast.te14364793385576792824,PySem.W.Fast.te4187177175401517315]
 kernel_rfl
theorem zft:behindTheImports pw = st1 ++ (st2 ++ []):=by rw [List.append_nil]; exact (List.take_append_drop _ _).symm
theorem run0 (w:World) (os:OsState):∃ s,topRun treeTable pw w 11 ze7 (12 + (1 + (159 + (7277 + 2)))) ⟨boot_heap w.params,#[],boot_drawn,boot_toks,os⟩ (topStub pw) = some s /\ zgK w s = (true,openGood qL pS,Ya0 w):=by
 obtain ⟨⟨f,s',c,p⟩,e,e'⟩:=Option.map_eq_some_iff.mp (zgQ w os)
 obtain ⟨rfl,e'⟩:=Prod.mk.inj e'
 obtain ⟨h1,h2⟩:=Prod.mk.inj e'
 dsimp only at h1 h2
 subst h1
 refine ⟨s'.abs,go_top (pre0 w os) (piece_block (zgd w os) ?_),h2⟩
 rw [zft]
 exact piece_app (segRun_of (zfU w os)) (piece_app (segRun_of e) zer)
theorem zgP:LeftO (OpenRow.toRowW rwL.row).prog qL pS Xt0 Yf0 Ya0 8000:=
 zee (p:=pw) (zgJ 8000 (by decide +kernel)) zgG run0 (by decide +kernel)
noncomputable def zfL:Stmt->DefRec
 | .FunctionDef n a b _ _ _ s _ _ p=>⟨n,a,b,s,p⟩
 | _=>⟨Z "",⟨[],[],none,[],[],none,[]⟩,[],⟨.function,[],false,false,[]⟩,default⟩
noncomputable def dL:DefRec:=zfL (nS 59 pB)
theorem hd (call:WalkO qL pS (fun _ _=>True) (fun w h=>(HX w.params).In h) (OpenRow.toRowW rwL.row) dL [] fun f vs=>PySem.call f vs):rwL.Holds:=
 holds_law (by rw [PySem.W.Fast.te9446332074065402090]; kernel_rfl) fun said=>holds_open (hRf:=fun s e=>recFacts_of e) zgP (fun w s e=>Frag.in_of (zfQ _) e) (fun w h h' x k=>x.keeps k) (fun _ _=>trivial) (fun _ _ _ _ _=>trivial)
  (by kernel_rfl) (by kernel_rfl) (by kernel_rfl) (by rfl) said (by kernel_rfl) ⟨rfl,rfl,rfl,rfl,rfl,by decide +kernel⟩ ⟨[.list [.int 3,.int 1]],by kernel_rfl,by kernel_rfl⟩ call
end MH
end
section
open PySem PySem.W PyProof.Rows
set_option Elab.async false
set_option maxRecDepth 100000
set_option maxHeartbeats 4000000
set_option linter.unusedSimpArgs false
set_option linter.unusedVariables false
namespace Mine
noncomputable def HMb (mb:Str->Option Value):Prop:=∀ x:Str,x ≠ Str.ofString "__name__" ->mb x = bootBuiltins x
variable {prog:Program} {w:World} {h:Heap} {mb:Str->Option Value}
noncomputable def HK (p:Params):Frag:=MH.HK p
noncomputable def alphaL:List Nat:=[1,9,10,32,34,35,37,39,40,41,42,43,45,46,47,48,49,50,51,52,53,54,55,56,57,59,64,65,66,67,68,69,70,76,82,85,90,92,95,97,98,99,100,101,102,103,108,114,117,123,127,128,233,65533,119987,1114111]
noncomputable def cV (c:Nat):Bool:=alphaL.contains c
noncomputable abbrev Al (x:List Nat):Prop:=∀ c ∈ x,cV c = true
theorem zaT {P:Nat->Bool} (h:alphaL.all P = true) {c:Nat} (hc:cV c = true):P c = true:=List.all_eq_true.mp h c (by simpa [cV] using hc)
theorem eH {f g:Nat->Bool} (h:(alphaL.all fun c=>f c == g c) = true) {c:Nat} (hc:cV c = true):f c = g c:=beq_iff_eq.mp (zaT (P:=fun c=>f c == g c) h hc)
theorem Al.get {x:List Nat} (h:Al x) {i:Nat} (hi:i < x.length):cV x[i] = true:=h _ (List.getElem_mem hi)
theorem Al.drop {x:List Nat} (h:Al x) (n:Nat):Al (x.drop n):=fun c hc=>h c (List.mem_of_mem_drop hc)
theorem Al.at {x:List Nat} (h:Al x) {i c:Nat} (hi:x[i]? = some c):cV c = true:=h c (List.mem_of_getElem? hi)
noncomputable def tab {α:Type}:List (String × α)->Str->Option α
 | [],_=>none
 | (a,x) :: r,s=>if s = Str.ofString a then some x else tab r s
theorem zbo {α:Type} (a:String) (x:α) (r:List (String × α)) (b:String):tab ((a,x) :: r) (Str.ofString b) = if b = a then some x else tab r (Str.ofString b):=by
 show (if Str.ofString b = Str.ofString a then some x else tab r (Str.ofString b)) = _
 simp only [sEq]
theorem gD {α:Type}:∀ {l:List (String × α)} {s:Str} {x:α},tab l s = some x->∃ a,s = Str.ofString a /\ (a,x) ∈ l
 | [],s,x,h=>by cases h
 | (a,y) :: r,s,x,h=>by
  unfold tab at h
  split at h
  ·rename_i e; cases h; exact ⟨a,e,by simp⟩
  ·obtain ⟨b,h1,h2⟩:=gD h; exact ⟨b,h1,List.mem_cons_of_mem _ h2⟩
noncomputable def slotsOf:List (Nat × List String):=[
 (74,["source_column", "source_line"]),(104,["kind", "message", "source_column", "source_line"]),(134,["value", "source_column", "source_line"]),
 (163,["value", "source_column", "source_line"]),(206,["value", "source_column", "source_line"]),(235,["lower_value", "value", "source_column", "source_line"]),
 (265,["lower_value", "value", "source_column", "source_line"]),(295,["is_identifier", "value", "source_column", "source_line"]),
 (325,["representation", "value", "source_column", "source_line"]),(355,["representation", "value", "source_column", "source_line"]),
 (479,["int_value", "is_integer", "lower_unit", "representation", "unit", "value", "source_column", "source_line"]),(600,["arguments", "lower_name", "name", "source_column", "source_line"])]
noncomputable def typesOf:List (Nat × String):=[(104, "error"),(134, "comment"),(163, "whitespace"),(206, "literal"),(235, "ident"),(265, "at-keyword"),(295, "hash"),(325, "string"),(355, "url"),
 (479, "dimension"),(600, "function")]
noncomputable def zeI (l:List String):List (String × Nat):=l.zipIdx
noncomputable def sgP (s:String):PV:=.str (Str.ofString s).cps.toList
noncomputable def lV:PV:=.tup (["0", "1", "2", "3", "4", "5", "6", "7", "8", "9"].map sgP)
noncomputable def l4:List (String × Unit):=["len", "ord", "chr", "int", "range"].map fun s=>(s,())
noncomputable def mkC (fns clss:List (String × Fn)) (ini:Bool) (vals:List (String × PV)) (ls:List Nat):Ctx where
 val:=tab vals
 fn:=tab fns
 bi:=fun s=>(tab l4 s).isSome
 slot:=fun c s=>(slotsOf.lookup c).bind fun l=>tab (zeI l) s
 cval:=fun c s=>if s = Str.ofString "type" then (typesOf.lookup c).map sgP else none
 mutL:=fun n=>ls.contains n
 cls:=tab clss
 ini:=ini
theorem bP {fns clss:List (String × Fn)} {ini:Bool} {vals:List (String × PV)} {ls:List Nat} (h1:∀ e ∈ fns,bD e.2) (h2:∀ e ∈ clss,bD e.2):CtxMono (mkC fns clss ini vals ls):=
 ⟨fun x F h=>by obtain ⟨a,_,h⟩:=gD h; exact h1 _ h,fun x F h=>by obtain ⟨a,_,h⟩:=gD h; exact h2 _ h⟩
structure World0 (prog:Program) (w:World) (B:Bs):Prop where
 ok:BsOk B
 k:B.K = HK w.params
 mg:∀ x,B.mg x = (match (HK w.params).lookup 3 with
  | some ⟨_,_,.dict es _,_⟩=>nsFind es x
  | _=>none)
 mb:∀ x:Str,x ≠ Str.ofString "__name__" ->B.mb x = bootBuiltins x
noncomputable def rL (K:Frag) (c:Nat) (name:Str) (i:Nat):Bool:=
 findIn K (.ref c) "__getattribute__" == some (some (.builtin "object.__getattribute__")) && findIn K (.ref c) "__getattr__" == some none && findIn K (.ref c) "__setattr__" == some (some (.builtin "object.__setattr__")) && plainOver K c && decide (i < 1000) &&
 match findObj K c (some iG) name with
  | some (.bind (.builtin g) (.ref p))=>g == "member_descriptor.__get__" && slotIn K p c == some i && takerIn K c name == some (some (.ref p)) && typeIn K (.ref p) == some (.type "member_descriptor")
  | _=>false
theorem zbG {K:Frag} {c:Nat} {name:Str} {i:Nat} (h:rL K c name i = true):zdA K c name i:=by
 unfold rL at h
 simp only [Bool.and_eq_true,beq_iff_eq,decide_eq_true_eq] at h
 obtain ⟨⟨⟨⟨⟨h1,h2⟩,h3⟩,h4⟩,h5⟩,h6⟩:=h
 split at h6
 ·rename_i g p e
  simp only [Bool.and_eq_true,beq_iff_eq] at h6
  obtain ⟨⟨⟨rfl,h7⟩,h8⟩,h9⟩:=h6
  exact ⟨h1,h2,p,e,h7,h3,h4,h8,h9,h5⟩
 ·cases h6
noncomputable def zaC (K:Frag) (c:Nat) (x:String):Bool:=
 findIn K (.ref c) "__getattribute__" == some (some (.builtin "object.__getattribute__")) && match findObj K c (some iG) (Str.ofString "type") with
  | some (.value (.str s _))=>s == Str.ofString x
  | _=>false
set_option maxRecDepth 1000000 in
theorem yR (p:Params):(slotsOf.all fun e=>(zeI e.2).all fun f=>rL (HK p) e.1 (Str.ofString f.1) f.2) = true:=by kernel_rfl
theorem zaB (p:Params):(typesOf.all fun e=>zaC (HK p) e.1 e.2) = true:=by kernel_rfl
noncomputable def mgK (p:Params):Str->Option Value:=fun x=>match (HK p).lookup 3 with
 | some ⟨_,_,.dict es _,_⟩=>nsFind es x
 | _=>none
noncomputable def tX (K:Frag) (a:Addr):Bool:=match K.lookup a with
 | some ⟨_,_,.dict es _,_⟩=>es.toList.all fun e=>match e.key with
  | .str _ _=>true
  | _=>false
 | _=>false
theorem zgL {K:Frag} {h:Heap} {a:Addr} (X:K.In h) (e:tX K a = true):h.Ns a (fun x=>match K.lookup a with
  | some ⟨_,_,.dict es _,_⟩=>nsFind es x
  | _=>none):=by
 unfold tX at e
 split at e
 ·rename_i c d es n sl ho
  refine ⟨_,es,n,X _ _ ho,rfl,fun en hen=>?_,fun name=>rfl⟩
  have:=List.all_eq_true.mp e en (Array.mem_toList_iff.mpr hen)
  split at this
  ·rename_i x t q; exact ⟨x,t,q⟩
  ·cases this
 ·cases e
noncomputable def bs (p:Params) (h:Heap) (mb:Str->Option Value):Bs:=⟨HK p,h,mgK p,mb⟩
theorem zcC {p:Params} {h:Heap} {mb:Str->Option Value} (X:(HK p).In h) (hb:h.Ns builtinsNs mb) (hl:h.NoLimit):BsOk (bs p h mb):=
 ⟨X,zgL X (by kernel_rfl),hb,hl⟩
noncomputable def qC (K:Frag) (a:Addr):Bool:=match uN K a with
 | some fd=>(match fd.body with
  | .stmts _=>true
  | _=>false) && fd.closure.isEmpty && (fd.globals == mainGlobals) && (fd.builtins == builtinsNs) && codeIn K fd.code fd.qualname && !fd.scope.isCoroutine && !fd.scope.isGenerator && (fd.scope.kind == .function) && fd.scope.names.all (fun n=>!(n.2 == .free))
 | none=>false
theorem j6 {K:Frag} {a:Addr} (h:qC K a = true):∃ fd,FunAt K a fd (bC K a) /\ uN K a = some fd /\ fd.scope.names = aL K a:=by
 unfold qC at h
 split at h
 ·rename_i fd e
  simp only [Bool.and_eq_true,beq_iff_eq,Bool.not_eq_true'] at h
  obtain ⟨⟨⟨⟨⟨⟨⟨⟨h1,h2⟩,h3⟩,h4⟩,h5⟩,h6⟩,h7⟩,h8⟩,h9⟩:=h
  refine ⟨fd,⟨?_,?_,by simpa using h2,h3,h4,h5,h6,h7,h8,h9⟩,e,by unfold aL; rw [e]⟩
  ·unfold uN at e
   split at e
   ·rename_i c d fd' sl q; cases e; exact ⟨c,d,sl,q⟩
   ·cases e
  ·unfold bC
   rw [e]
   dsimp only
   split at h1
   ·rename_i b q; rw [q]
   ·cases h1
 ·cases h
theorem zeS:∀ e ∈ l4,bootBuiltins (Str.ofString e.1) = some (gQ (Str.ofString e.1)) /\ Str.ofString e.1 ≠ Str.ofString "__name__" :=by
 intro e he
 simp only [l4,List.map_cons,List.map_nil,List.mem_cons,List.not_mem_nil,or_false] at he
 rcases he with rfl | rfl | rfl | rfl | rfl <;> exact ⟨by kernel_rfl,by rw [Ne,sEq]; decide⟩
theorem dX {n:Nat} {fns clss:List (String × Fn)} {ini:Bool} {vals:List (String × PV)} {ls:List Nat} (hmb:HMb mb)
  (m1:∀ e ∈ fns,bD e.2) (m2:∀ e ∈ clss,bD e.2)
  (hv:∀ e ∈ vals,∃ u,mgK w.params (Str.ofString e.1) = some u /\ VRel w.params (fun a=>h.get? a) u e.2)
  (h1:∀ e ∈ fns,∃ u,mgK w.params (Str.ofString e.1) = some u /\ Meets prog w (bs w.params h mb) n u e.2)
  (h2:∀ e ∈ clss,∃ u,mgK w.params (Str.ofString e.1) = some u /\ Meets prog w (bs w.params h mb) n u e.2)
  (hi:ini = true->u9 prog w (bs w.params h mb) (mkC fns clss ini vals ls) n):CtxOk prog w (bs w.params h mb) (mkC fns clss ini vals ls) n where
 mono:=bP m1 m2
 val:=fun x v e=>by obtain ⟨a,rfl,q⟩:=gD e; exact hv _ q
 fn:=fun x v e=>by obtain ⟨a,rfl,q⟩:=gD e; exact h1 _ q
 cls:=fun x v e=>by obtain ⟨a,rfl,q⟩:=gD e; exact h2 _ q
 bi:=fun x e=>by
  obtain ⟨u,hu⟩:=Option.isSome_iff_exists.mp (show (tab l4 x).isSome = true from e)
  obtain ⟨a,rfl,q⟩:=gD hu
  obtain ⟨b1,b2⟩:=zeS _ q
  refine ⟨?_,(hmb _ b2).trans b1⟩
  show mgK w.params _ = none
  simp only [l4,List.map_cons,List.map_nil,List.mem_cons,List.not_mem_nil,or_false,Prod.mk.injEq,and_true] at q
  rcases q with rfl | rfl | rfl | rfl | rfl <;> kernel_rfl
 slot:=fun c x i e=>by
  have e:(slotsOf.lookup c).bind (fun l=>tab (zeI l) x) = some i:=e
  obtain ⟨l,e1,e2⟩:=Option.bind_eq_some_iff.mp e
  obtain ⟨a,rfl,q⟩:=gD e2
  have hm:(c,l) ∈ slotsOf:=by
   clear e e2 q
   revert e1
   generalize slotsOf = L
   intro e1
   induction L with
   | nil=>cases e1
   | cons y r ih=>
    rw [List.lookup_cons] at e1
    split at e1
    ·rename_i hh; cases e1; have:=beq_iff_eq.mp hh; subst this; simp
    ·exact List.mem_cons_of_mem _ (ih e1)
  exact zbG (List.all_eq_true.mp (List.all_eq_true.mp (yR w.params) _ hm) _ q)
 cval:=fun c x v e=>by
  have e:(if x = Str.ofString "type" then (typesOf.lookup c).map sgP else none) = some v:=e
  split at e
  ·rename_i hx; subst hx
   obtain ⟨l,e1,rfl⟩:=Option.map_eq_some_iff.mp e
   have hm:(c,l) ∈ typesOf:=by
    clear e
    revert e1
    generalize typesOf = L
    intro e1
    induction L with
    | nil=>cases e1
    | cons y r ih=>
     rw [List.lookup_cons] at e1
     split at e1
     ·rename_i hh; cases e1; have:=beq_iff_eq.mp hh; subst this; simp
     ·exact List.mem_cons_of_mem _ (ih e1)
   have hc:=List.all_eq_true.mp (zaB w.params) _ hm
   unfold zaC at hc
   simp only [Bool.and_eq_true,beq_iff_eq] at hc
   obtain ⟨c1,c2⟩:=hc
   split at c2
   ·rename_i s t q
    have:=beq_iff_eq.mp c2; subst this
    refine ⟨c1,_,q,rfl,?_⟩
    simp only [sgP,VRel]
    refine ⟨t,by simp,?_⟩
    have:(typesOf.all fun e=>(Str.ofString e.2).cps.toList.all (· < 1114112) && decide ((Str.ofString e.2).cps.toList.length <= 1000)) = true:=by decide +kernel
    have:=List.all_eq_true.mp this _ hm
    simp only [Bool.and_eq_true,List.all_eq_true,decide_eq_true_eq] at this
    exact ⟨this.1,by unfold aO; omega⟩
   ·cases c2
  ·cases e
 ini:=hi
theorem aY {n k:Nat} {C:Ctx} {a:Addr} {params:List String} {dv:List Value} {dp:List PV} {F:Fn} (hB:BsOk (bs w.params h mb)) (hC:CtxOk prog w (bs w.params h mb) C n)
  (hf:qC (HK w.params) a = true) (hok:pH (bC (HK w.params) a) = true)
  (hpar:(params.all fun x=>(aL (HK w.params) a).lookup (Str.ofString x) == some .local || (aL (HK w.params) a).lookup (Str.ofString x) == some .cell) = true)
  (hlen:params.length = k + dp.length) (hd:∀ G,VRels w.params G dv dp)
  (hbind:∀ S vals,vals.length = k->(uN (HK w.params) a).map (fun fd=>peek (HK w.params) S (bindArgs fd ⟨vals,[]⟩)) = some (some ((params.map Str.ofString).zip (vals ++ dv))))
  (hF:∀ ps K,F ps K->ps.length = k /\ wSs C (eA (aL (HK w.params) a)) (bC (HK w.params) a) (jY K) ⟨bA ((params.map Str.ofString).zip (ps ++ dp)) fun _=>none,fun _=>none⟩):
  Meets prog w (bs w.params h mb) (n + 1) (.ref a) F:=by
 obtain ⟨fd,h1,h2,h3⟩:=j6 hf
 refine (zae (C:=C) (params:=params.map Str.ofString) (k:=k) (dv:=dv) (dp:=dp) hB hC h1 hok (fun x hx=>?_) (by simpa using hlen) hd (fun s vals X hl=>?_)).weaken fun ps K hp=>?_
 ·obtain ⟨y,hy,rfl⟩:=List.mem_map.mp hx
  have:=List.all_eq_true.mp hpar y hy
  rw [h3]
  simpa using this
 ·refine kp_binds X fun S=>?_
  have:=hbind S vals hl
  rw [h2] at this
  show peek (HK w.params) S _ = _
  simpa using this
 ·rw [h3]; exact hF ps K hp
theorem jS {α:Type} {n:Nat}:∀ {l:List α},l.length = n + 1->∃ a r,l = a :: r /\ r.length = n
 | a :: r,h=>⟨a,r,rfl,Nat.succ.inj h⟩
theorem t7 {α:Type} {l:List α} (h:l.length = 1):∃ a,l = [a]:=List.length_eq_one_iff.mp h
theorem hZ {α:Type} {l:List α} (h:l.length = 2):∃ a b,l = [a,b]:=by obtain ⟨a,r,e,h⟩:=jS h; obtain ⟨b,q⟩:=t7 h; exact ⟨a,b,by rw [e,q]⟩
theorem iU {α:Type} {l:List α} (h:l.length = 3):∃ a b c,l = [a,b,c]:=by obtain ⟨a,r,e,h⟩:=jS h; obtain ⟨b,c,q⟩:=hZ h; exact ⟨a,b,c,by rw [e,q]⟩
theorem zda {α:Type} {l:List α} (h:l.length = 4):∃ a b c d,l = [a,b,c,d]:=by obtain ⟨a,r,e,h⟩:=jS h; obtain ⟨b,c,d,q⟩:=iU h; exact ⟨a,b,c,d,by rw [e,q]⟩
theorem zfT {α:Type} {l:List α} (h:l.length = 5):∃ a b c d e,l = [a,b,c,d,e]:=by obtain ⟨a,r,e,h⟩:=jS h; obtain ⟨b,c,d,f,q⟩:=zda h; exact ⟨a,b,c,d,f,by rw [e,q]⟩
theorem six {α:Type} {l:List α} (h:l.length = 6):∃ a b c d e f,l = [a,b,c,d,e,f]:=by obtain ⟨a,r,e,h⟩:=jS h; obtain ⟨b,c,d,f,g,q⟩:=zfT h; exact ⟨a,b,c,d,f,g,by rw [e,q]⟩
theorem zgH {α:Type} {l:List α} (h:l.length = 7):∃ a b c d e f g,l = [a,b,c,d,e,f,g]:=by obtain ⟨a,r,e,h⟩:=jS h; obtain ⟨b,c,d,f,g,i,q⟩:=six h; exact ⟨a,b,c,d,f,g,i,by rw [e,q]⟩
section
variable {C:Ctx} {κ:Kn}
theorem i8 {e e':Expr} {es:List Expr} {p:Pos} {st:St} {c d:Bool} (M:CtxMono C) (h:ev C κ e st (.bool c)) (h':c = false->ev C κ (.BoolOp .Or (e' :: es) p) st (.bool d)):ev C κ (.BoolOp .Or (e :: e' :: es) p) st (.bool (c || d)):=by
 refine aX (e:=e) M h ?_
 cases c with
 | true=>exact ⟨rfl,rfl⟩
 | false=>exact h' rfl
theorem gC {e e':Expr} {es:List Expr} {p:Pos} {st:St} {c d:Bool} (M:CtxMono C) (h:ev C κ e st (.bool c)) (h':c = true->ev C κ (.BoolOp .And (e' :: es) p) st (.bool d)):ev C κ (.BoolOp .And (e :: e' :: es) p) st (.bool (c && d)):=by
 refine aX (e:=e) M h ?_
 cases c with
 | false=>exact ⟨rfl,rfl⟩
 | true=>exact h' rfl
noncomputable def evs (C:Ctx) (κ:Kn) (es:List Expr) (st:St) (vs:List PV):Prop:=wEs C es κ (fun rs st1=>rs = vs /\ st1 = st) st
theorem aD {st:St}:evs C κ [] st []:=⟨rfl,rfl⟩
theorem aB {e:Expr} {es:List Expr} {st:St} {v:PV} {vs:List PV} (M:CtxMono C) (h:ev C κ e st v) (hs:evs C κ es st vs):evs C κ (e :: es) st (v :: vs):=
 aX (e:=e) M h (cM M es (fun rs st1 ⟨h1,h2⟩=>⟨congrArg _ h1,h2⟩) hs)
theorem aT {es:List Expr} {k:Nat} {p:Pos} {st:St} {vs:List PV} (M:CtxMono C) (h:evs C κ es st vs):ev C κ (.Tuple es k p) st (.tup vs):=
 cM M es (fun rs st1 ⟨h1,h2⟩=>⟨congrArg _ h1,h2⟩) h
theorem dM {t b o:Expr} {p:Pos} {st:St} {c:Bool} {v:PV} (M:CtxMono C) (h:tv C κ t st c) (hb:c = true->ev C κ b st v) (ho:c = false->ev C κ o st v):ev C κ (.IfExp t b o p) st v:=by
 refine tQ (e:=t) (K:=fun c st1=>if c = true then wE C b κ (fun r st1=>r = v /\ st1 = st) st1 else wE C o κ (fun r st1=>r = v /\ st1 = st) st1) M h ?_
 cases c
 ·exact ho rfl
 ·exact hb rfl
theorem eB {op:BoolOp} {e:Expr} {p:Pos} {st:St} {v:PV} (h:ev C κ e st v):ev C κ (.BoolOp op [e] p) st v:=h
theorem bE {e:Expr} {st:St} {c:Bool} (M:CtxMono C) (h:ev C κ e st (.bool c)):tv C κ e st c:=zfk M h rfl
theorem zap {e:Expr} {p:Pos} {st:St} {c:Bool} (M:CtxMono C) (h:ev C κ e st (.bool c)):ev C κ (.UnaryOp .Not e p) st (.bool !c):=aX (e:=e) M h ⟨rfl,rfl⟩
theorem zaq {e:Expr} {p:Pos} {st:St} {i:Int} (M:CtxMono C) (h:ev C κ e st (.int i)):ev C κ (.UnaryOp .USub e p) st (.int (-i)):=aX (e:=e) M h ⟨rfl,rfl⟩
theorem aJ {x:Str} {p:Pos} {st:St} {v:PV} (k:κ x = some .local) (h:st.ρ x = some v):ev C κ (.Name x p) st v:=by
 show (if κ x = some .globalImplicit then opt (C.val x) _ else opt (st.ρ x) _)
 rw [k,jK,h]; exact ⟨rfl,rfl⟩
theorem aG {x:Str} {p:Pos} {st:St} {v:PV} (k:κ x = some .local:=by kernel_rfl!) (h:st.ρ x = some v:=by kernel_rfl!):ev C κ (.Name x p) st v:=aJ k h
theorem oB {x:Str} {p:Pos} {st:St} {v:PV} (k:κ x = some .globalImplicit) (h:C.val x = some v):ev C κ (.Name x p) st v:=by
 show (if κ x = some .globalImplicit then opt (C.val x) _ else opt (st.ρ x) _)
 rw [k,zfO,h]; exact ⟨rfl,rfl⟩
theorem c9 {l r:Expr} {p:Pos} {st:St} {i j:Int} (M:CtxMono C) (h:ev C κ l st (.int i)) (h':ev C κ r st (.int j)):ev C κ (.BinOp l .Add r p) st (.int (i + j)):=
 aX (e:=l) M h (aX (e:=r) M h' ⟨rfl,rfl⟩)
theorem mZ {o l u:Expr} {p q:Pos} {st:St} {x:List Nat} {i j:Int} (M:CtxMono C) (h:ev C κ o st (.str x)) (hl:ev C κ l st (.int i)) (hu:ev C κ u st (.int j)) (b:-4611686018427387904 < i /\ i < 4611686018427387904 /\ -4611686018427387904 < j /\ j < 4611686018427387904):
  ev C κ (.Subscript o (.Slice (some l) (some u) none q) p) st (.str (slc x (some i) (some j))):=
 aX (e:=o) M h ⟨rfl,aX (e:=l) M hl ⟨b.1,b.2.1,aX (e:=u) M hu ⟨b.2.2.1,b.2.2.2,rfl,rfl⟩⟩⟩
theorem o3 {l r:Expr} {op:CmpOp} {p:Pos} {st:St} {a b:PV} {d:Bool} (M:CtxMono C) (h:ev C κ l st a) (h':ev C κ r st b) (k:za1 st.σ op a b fun c=>true = true /\ c = d /\ st = st):tv C κ (.Compare l [op] [r] p) st d:=
 aX (e:=l) M h (aX (e:=r) M h' k)
theorem bX {x:Str} {es:List Expr} {vs:List PV} {v:PV} {F:Fn} {p q:Pos} {st:St} (M:CtxMono C) (k:κ x = some .globalImplicit) (hf:C.fn x = some F) (hs:evs C κ es st vs) (h:F (vs.map (der st.σ)) fun r=>(vs.any lK = false \/ fX r = true) /\ r = v):ev C κ (.Call (.Name x q) es [] p) st v:=by
 refine ⟨rfl,k,by unfold nX; rw [hf]; rfl,cM M es (fun rs st1 ⟨h1,h2⟩=>?_) hs⟩
 subst h1 h2
 unfold f7
 rw [hf]
 exact M.1 x F hf _ _ _ (fun r ⟨a,b⟩=>⟨a,b,rfl⟩) h
theorem zdg {o i:Expr} {p:Pos} {st:St} {a b v:PV} (M:CtxMono C) (hs:wY i = false) (h:ev C κ o st a) (h':ev C κ i st b) (k:zem (der st.σ a) b fun r=>r = v):ev C κ (.Subscript o i p) st v:=by
 refine aX (e:=o) M h ?_
 show (if wY i = true then _ else wE C i κ _ st)
 rw [hs,pV]
 exact aX (e:=i) M h' (pW (fun r e=>⟨e,rfl⟩) k)
theorem gN {l r:Expr} {p:Pos} {st:St} {i j:Int} (M:CtxMono C) (h:ev C κ l st (.int i)) (h':ev C κ r st (.int j)):ev C κ (.BinOp l .Sub r p) st (.int (i - j)):=
 aX (e:=l) M h (aX (e:=r) M h' ⟨rfl,rfl⟩)
theorem iN {x:Str} {es:List Expr} {vs:List PV} {v:PV} {p q:Pos} {st:St} (M:CtxMono C) (k:κ x = some .globalImplicit) (hf:C.fn x = none) (hc:C.cls x = none) (hb:C.bi x = true) (hs:evs C κ es st vs) (h:biP x (vs.map (der st.σ)) fun r=>r = v):ev C κ (.Call (.Name x q) es [] p) st v:=by
 refine ⟨rfl,k,by unfold nX; rw [hf,hc,hb]; rfl,cM M es (fun rs st1 ⟨h1,h2⟩=>?_) hs⟩
 subst h1 h2
 unfold f7
 rw [hf,hc]
 exact ⟨hb,u5 (fun r e=>⟨e,rfl⟩) h⟩
theorem e6 {es:List Expr} {vs:List PV} {p:Pos} {st:St} (M:CtxMono C) (hm:C.mutL p.line = false) (hs:evs C κ es st vs):ev C κ (.List es p) st (.list vs):=
 cM M es (fun rs st1 ⟨h1,h2⟩=>by
  subst h1 h2
  unfold d4
  rw [hm,pV]
  exact ⟨rfl,rfl⟩) hs
theorem zau {l r:Expr} {p:Pos} {st:St} {x y:List PV} (M:CtxMono C) (h:ev C κ l st (.list x)) (h':ev C κ r st (.list y)) (hl:x.length + y.length <= aO):ev C κ (.BinOp l .Add r p) st (.list (x ++ y)):=
 aX (e:=l) M h (aX (e:=r) M h' ⟨hl,rfl,rfl⟩)
theorem zar {l r:Expr} {p:Pos} {st:St} {i j:Int} (M:CtxMono C) (h:ev C κ l st (.int i)) (h':ev C κ r st (.int j)) (hj:0 < j):ev C κ (.BinOp l .Mod r p) st (.int (i % j)):=
 aX (e:=l) M h (aX (e:=r) M h' ⟨hj,rfl,rfl⟩)
theorem zeu {o u:Expr} {p q:Pos} {st:St} {x:List PV} {j:Int} (M:CtxMono C) (h:ev C κ o st (.list x)) (hu:ev C κ u st (.int j)) (h0:-4611686018427387904 < j) (h1:j < 4611686018427387904):ev C κ (.Subscript o (.Slice none (some u) none q) p) st (.list (slc x none (some j))):=
 aX (e:=o) M h ⟨rfl,aX (e:=u) M hu ⟨h0,h1,rfl,rfl⟩⟩
theorem bL {l r:Expr} {op:CmpOp} {p:Pos} {st:St} {a b:PV} {d:Bool} (M:CtxMono C) (h1:ev C κ l st a) (h2:ev C κ r st b) (h3:za1 st.σ op a b fun c=>c = d):ev C κ (.Compare l [op] [r] p) st (.bool d):=
 aX (e:=l) M h1 (aX (e:=r) M h2 (lY (fun c h=>⟨rfl,congrArg PV.bool h,rfl⟩) h3))
theorem gO {l r:Expr} {p:Pos} {st:St} {a b:Nat} (M:CtxMono C) (h:ev C κ l st (.int a)) (h':ev C κ r st (.int b)):ev C κ (.Compare l [.Lt] [r] p) st (.bool (decide (a < b))):=bL M h h' (decide_eq_decide.mpr Int.ofNat_lt)
theorem dW {l:Expr} {q:String} {k:Nat} {p p':Pos} {st:St} {x:List Nat} (M:CtxMono C) (h:ev C κ l st (.str x)):ev C κ (.Compare l [.Eq] [.Constant (.str (Str.ofString q)) k p] p') st (.bool (decide (x = (Str.ofString q).cps.toList))):=bL M h (aC rfl) rfl
theorem uP {l:Expr} {q:String} {k:Nat} {p p':Pos} {st:St} {x:List Nat} (M:CtxMono C) (h:ev C κ l st (.str x)):ev C κ (.Compare l [.NotEq] [.Constant (.str (Str.ofString q)) k p] p') st (.bool (!decide (x = (Str.ofString q).cps.toList))):=bL M h (aC rfl) rfl
theorem d7 {l:Expr} {q:Str} {k:Nat} {p p':Pos} {st:St} {c d:Nat} (M:CtxMono C) (h:ev C κ l st (.str [c])) (hq:q.cps.toList = [d]):ev C κ (.Compare l [.Eq] [.Constant (.str q) k p] p') st (.bool (decide (c = d))):=
 bL (b:=.str [d]) M h (aC (by rw [lX,hq])) (decide_eq_decide.mpr ⟨fun h=>(List.cons.inj h).1,fun h=>congrArg (fun n=>[n]) h⟩)
theorem iD {l:Expr} {q:Str} {k:Nat} {p p':Pos} {st:St} {c:Nat} (M:CtxMono C) (h:ev C κ l st (.str [c])):ev C κ (.Compare l [.In] [.Constant (.str q) k p] p') st (.bool (decide (c ∈ q.cps.toList))):=bL M h (aC rfl) (gZ _ _)
theorem m7 {e:Expr} {k:Nat} {p p' p2 p3:Pos} {st:St} {c n:Nat} (M:CtxMono C) (k1:κ "ord" = some .globalImplicit) (hf:C.fn "ord" = none) (hc:C.cls "ord" = none) (hb:C.bi "ord" = true) (h:ev C κ e st (.str [c])):ev C κ (.Compare (.Call (.Name (Str.ofString "ord") p) [e] [] p2) [.Gt] [.Constant (.int n) k p3] p') st (.bool (decide (n < c))):=
 bL (a:=.int c) (b:=.int n) M (iN M k1 hf hc hb (aB M h aD) (of_eq (B:=PV.int c = .int c) (by kernel_rfl) rfl)) (aC rfl) (decide_eq_decide.mpr Int.ofNat_lt)
theorem dK {o i:Expr} {p:Pos} {st:St} {x:List Nat} {n c:Nat} (M:CtxMono C) (hs:wY i = false) (h:ev C κ o st (.str x)) (h':ev C κ i st (.int n)) (hc:x[n]? = some c):ev C κ (.Subscript o i p) st (.str [c]):=
 zdg M hs h h' (by show opt (uK x (n:Int)) _; rw [zcf,hc]; rfl)
theorem zfK (n:Nat):(-4611686018427387904:Int) < n:=Int.lt_of_lt_of_le (by decide) (Int.natCast_nonneg n)
theorem xH {n:Nat} (h:n < 2000000):(n:Int) < 4611686018427387904:=Int.lt_trans (Int.ofNat_lt.mpr h) (by decide)
theorem lQ {o l u:Expr} {p q:Pos} {st:St} {x:List Nat} {i j:Nat} (M:CtxMono C) (h:ev C κ o st (.str x)) (hl:ev C κ l st (.int i)) (hu:ev C κ u st (.int j)) (hij:i <= j) (hj:j < 2000000):ev C κ (.Subscript o (.Slice (some l) (some u) none q) p) st (.str ((x.drop i).take (j - i))):=
 yT x i j hij ▸ mZ M h hl hu ⟨zfK i,xH (Nat.lt_of_le_of_lt hij hj),zfK j,xH hj⟩
theorem zH {σ:Nat->Option Cell} {x y:List Nat} {i:Int} {K:PV->(Nat->Option Cell)->Prop}:hW σ "startswith" (.str x) [.str y,.int i] K = okI i (K (.bool (decide (i <= x.length) && y.isPrefixOf (x.drop i.toNat))) σ):=by kernel_rfl
theorem v9 {σ:Nat->Option Cell} {x y:List Nat} {i:Int} {K:PV->(Nat->Option Cell)->Prop}:hW σ "find" (.str x) [.str y,.int i] K = okI i (K (.int (sK x y i.toNat)) σ):=by kernel_rfl
theorem iF {x:Str} {es:List Expr} {vs:List PV} {v:PV} {F:Fn} {p q:Pos} {st:St} (M:CtxMono C) (k:κ x = some .globalImplicit) (hf:C.fn x = none) (hc:C.cls x = some F) (hs:evs C κ es st vs) (h:F vs fun r=>r = v):ev C κ (.Call (.Name x q) es [] p) st v:=by
 refine ⟨rfl,k,by unfold nX; rw [hf,hc]; rfl,cM M es (fun rs st1 ⟨h1,h2⟩=>?_) hs⟩
 subst h1 h2
 unfold f7
 rw [hf,hc]
 exact M.2 x F hc _ _ _ (fun r e=>⟨e,rfl⟩) h
theorem gB {x:Str} {p q p2:Pos} {st:St} {y:List Nat} (M:CtxMono C) (k:κ "len" = some .globalImplicit) (hf:C.fn "len" = none) (hc:C.cls "len" = none) (hb:C.bi "len" = true) (h:ev C κ (.Name x p) st (.str y)):ev C κ (.Call (.Name (Str.ofString "len") q) [.Name x p] [] p2) st (.int y.length):=
 iN M k hf hc hb (aB M h aD) (of_eq (B:=PV.int y.length = .int y.length) (by kernel_rfl) rfl)
theorem lR {o:Expr} {es:List Expr} {vs:List PV} {n:Str} {p p2:Pos} {st:St} {x:List Nat} {v:PV} (M:CtxMono C) (h:ev C κ o st (.str x)) (hs:evs C κ es st vs) (hr:c8 es = none) (hm:mOk st.σ n (.str x) = true) (hv:hW st.σ n (.str x) vs fun r σ'=>r = v /\ σ' = st.σ):
  ev C κ (.Call (.Attribute o n p) es [] p2) st v:=by
 rw [ev,jH,hr,gH]
 exact ⟨rfl,aX (e:=o) M h ⟨hm,cM M es (fun rs st1 ⟨h1,h2⟩=>by subst h1 h2; exact mW (fun r σ' ⟨e1,e2⟩=>⟨e1,congrArg (St.mk _) e2⟩) hv) hs⟩⟩
theorem jN {o i:Expr} {q:Str} {k:Nat} {p p1 p2:Pos} {st:St} {x:List Nat} {e:Nat} (M:CtxMono C) (h:ev C κ o st (.str x)) (hi:ev C κ i st (.int e)) (he:e <= x.length) (hx:x.length < 2000000) (hc:csE i = none):
  ev C κ (.Call (.Attribute o (Str.ofString "startswith") p) [.Constant (.str q) k p1,i] [] p2) st (.bool (q.cps.toList.isPrefixOf (x.drop e))):=by
 refine lR M h (aB M (aC rfl) (aB M hi aD)) ?_ (by kernel_rfl) ?_
 ·show ((some q).bind fun p=>(csE i).map fun q=>(p,q)) = none
  rw [hc]; rfl
 ·rw [zH]
  refine ⟨Int.natCast_nonneg e,xH (Nat.lt_of_le_of_lt he hx),?_,rfl⟩
  rw [decide_eq_true (Int.ofNat_le.mpr he),Bool.true_and]; rfl
end
mutual
noncomputable def zch:PV->Bool
 | .none=>true
 | .bool _=>true
 | .int _=>true
 | .str _=>true
 | .tup xs=>qD xs
 | .list xs=>qD xs
 | .inst _ xs=>qD xs
 | .rng _ _=>true
 | .ptr _=>false
 | .dict _=>true
noncomputable def qD:List PV->Bool
 | []=>true
 | x :: xs=>zch x && qD xs
end
mutual
theorem aW (σ:Nat->Option Cell):∀ v:PV,zch v = true->Res σ v v
 | .none,_=>rfl
 | .bool _,_=>rfl
 | .int _,_=>rfl
 | .str _,_=>rfl
 | .tup xs,h=>⟨xs,rfl,eJ σ xs h⟩
 | .list xs,h=>.inl ⟨xs,rfl,eJ σ xs h⟩
 | .inst _ xs,h=>⟨xs,rfl,eJ σ xs h⟩
 | .rng _ _,_=>rfl
 | .ptr _,h=>Bool.noConfusion h
 | .dict _,_=>rfl
theorem eJ (σ:Nat->Option Cell):∀ vs:List PV,qD vs = true->kP σ vs vs
 | [],_=>rfl
 | v :: vs,h=>⟨v,vs,rfl,aW σ v (Bool.and_eq_true_iff.mp h).1,eJ σ vs (Bool.and_eq_true_iff.mp h).2⟩
end
theorem eG (σ:Nat->Option Cell) (b:Bool):Res σ (.bool b) (.bool b):=rfl
noncomputable def aU (c:Nat):Bool:=(97 <= c && c <= 122) || (65 <= c && c <= 90) || c == 95 || 127 < c
theorem rW {c:Nat} (h:cV c = true):(decide (c ∈ (Str.ofString "abcdefghijklmnopqrstuvwxyzABCDEFGHIJKLMNOPQRSTUVWXYZ_").cps.toList) || decide (127 < c)) = aU c:=
 eH (f:=fun c=>decide (c ∈ (Str.ofString "abcdefghijklmnopqrstuvwxyzABCDEFGHIJKLMNOPQRSTUVWXYZ_").cps.toList) || decide (127 < c)) (by decide +kernel) h
noncomputable def zgw:Fn:=fun ps K=>∃ (css:List Nat) (pos c:Nat),ps = [.str css,.int pos] /\ css[pos]? = some c /\ cV c = true /\ K (.bool (aU c))
theorem qV:bD zgw:=fun _ _ _ h=>e3 fun _ _ _=>c3 (h _)
theorem zd7 (p:Params) (css:List Nat) (pos c:Nat) (K:PV->Prop) (hc:css[pos]? = some c) (ha:cV c = true) (hK:K (.bool (aU c))):
  wSs (mkC [] [] false [] []) (eA (aL (HK p) 635)) (bC (HK p) 635) (jY K) ⟨bA [("css",.str css),("pos",.int pos)] (fun _=>none),fun _=>none⟩:=by
 have M:CtxMono (mkC [] [] false [] []):=bP (by simp) (by simp)
 apply nfe
 case h=>
  show ?nl1 = ?nr1
  refine (?f:∀ _:(?nl1 = ?nr1),(?nl1 = ?nr1)) ?d
  case d=>conv=>lhs; whnf; dsimp only [cH,erS,erE,bR,erO]
  case f=>exact fun _=>by kernel_rfl!
 refine aA (aE M (.str [c]) (dK M rfl aG aG hc) (by kernel_rfl) ?_)
 rw [<- rW ha] at hK
 exact aA (aP M (.bool _) (i8 M (iD M aG) fun _=>eB (m7 M (by kernel_rfl!) rfl rfl (by kernel_rfl) aG)) ⟨_,eG _ _,hK⟩)
theorem zb0 (hB:BsOk (bs w.params h mb)) (hmb:HMb mb):Meets prog w (bs w.params h mb) 1 (.ref 635) zgw:=by
 have hC:CtxOk prog w (bs w.params h mb) (mkC [] [] false [] []) 0:=dX hmb (by simp) (by simp) (by simp) (by simp) (by simp) (by simp)
 refine aY (k:=2) (params:=["css", "pos"]) (dv:=[]) (dp:=[]) hB hC (by kernel_rfl) (by kernel_rfl) (by kernel_rfl) rfl (fun _=>.nil) (fun S vals hl=>?_) fun ps K=>x3 fun css pos c=>a4 fun h1 h2 h3 h4=>?_
 ·obtain ⟨a,b,rfl⟩:=hZ hl
  kernel_rfl
 ·subst h1
  exact ⟨rfl,zd7 _ css pos c K h2 h3 h4⟩
theorem zdD (ρ:f9) (x:Str) (a b:PV):upd (upd ρ x a) x b = upd ρ x b:=by
 funext y; unfold upd; by_cases h:y = x <;> simp [h]
theorem zba {ρ:f9} {x:Str} {a:PV} (h:ρ x = some a):upd ρ x a = ρ:=by
 funext y; unfold upd
 by_cases e:y = x
 ·subst e; rw [if_pos rfl,h]
 ·rw [if_neg e]
theorem zcW (ρ:f9) (x:Str) (a:PV):upd ρ x a x = some a:=by unfold upd; rw [if_pos rfl]
theorem zfj (ρ:f9) {x y:Str} (h:y ≠ x) (a:PV):upd ρ x a y = ρ y:=by unfold upd; rw [if_neg h]
noncomputable def lL (c:Nat):Bool:=48 <= c && c <= 57
noncomputable def jA (x:List Nat):Nat:=(x.takeWhile lL).length
theorem zcG {x:List Nat} {i:Nat} (h:i < x.length):(x.drop i).take 1 = [x[i]]:=by rw [List.drop_eq_getElem_cons h]; rfl
theorem zeV {x:List Nat} {i:Nat} (h:x.length <= i):(x.drop i).take 1 = []:=by rw [List.drop_of_length_le h]; rfl
theorem lU:fN (["0", "1", "2", "3", "4", "5", "6", "7", "8", "9"].map sgP) = some [[48],[49],[50],[51],[52],[53],[54],[55],[56],[57]]:=by decide +kernel
noncomputable def eT (x:List Nat) (i:Nat):Bool:=(x[i]?).any lL
theorem u6 (x:List Nat) (i:Nat):at1 x i = (x[i]?).toList:=by
 by_cases h:i < x.length
 ·rw [at1,zcG h,List.getElem?_eq_getElem h]; rfl
 ·rw [at1,zeV (Nat.le_of_not_lt h),List.getElem?_eq_none (Nat.le_of_not_lt h)]; rfl
theorem zdq {x:List Nat} (ha:Al x) (i:Nat):decide (at1 x i ∈ ([[48],[49],[50],[51],[52],[53],[54],[55],[56],[57]]:List (List Nat))) = eT x i:=by
 rw [u6,eT]
 cases h:x[i]? with
 | none=>rfl
 | some c=>exact eH (g:=lL) (f:=fun c=>decide ([c] ∈ ([[48],[49],[50],[51],[52],[53],[54],[55],[56],[57]]:List (List Nat)))) (by decide +kernel) (ha.at h)
theorem qI {x:List Nat} {i:Nat} (h:eT x i = true):i < x.length /\ jA (x.drop i) = jA (x.drop (i + 1)) + 1:=by
 by_cases hl:i < x.length
 ·rw [eT,List.getElem?_eq_getElem hl] at h
  refine ⟨hl,?_⟩
  rw [List.drop_eq_getElem_cons hl,jA,List.takeWhile_cons_of_pos (p:=lL) h]; rfl
 ·rw [eT,List.getElem?_eq_none (Nat.le_of_not_lt hl)] at h; cases h
theorem zay {x:List Nat} {i:Nat} (h:eT x i = false):jA (x.drop i) = 0:=by
 by_cases hl:i < x.length
 ·rw [eT,List.getElem?_eq_getElem hl] at h
  rw [List.drop_eq_getElem_cons hl,jA,List.takeWhile_cons_of_neg (fun q=>by rw [Option.any_some,q] at h; cases h)]; rfl
 ·rw [List.drop_of_length_le (Nat.le_of_not_lt hl)]; rfl
section
variable {C:Ctx} {κ:Kn}
theorem sl1 (x:List Nat) (i:Nat):slc x (some (i:Int)) (some ((i:Int) + 1)) = at1 x i:=by
 rw [show (i:Int) + 1 = ((i + 1:Nat):Int) from rfl,yT _ _ _ (Nat.le_succ i),Nat.succ_sub (Nat.le_refl i),Nat.sub_self]; rfl
theorem o9 {i:Nat} (h:i < 1000000):-4611686018427387904 < (i:Int) /\ (i:Int) < 4611686018427387904 /\ -4611686018427387904 < (i:Int) + 1 /\ (i:Int) + 1 < 4611686018427387904:=
 ⟨zfK i,xH (Nat.lt_trans h (by decide)),zfK (i + 1),xH (n:=i + 1) (Nat.lt_of_le_of_lt h (by decide))⟩
theorem tU {a i d:Str} {p1 p2 p3 p4 p5 p6 p7 p8 p9:Pos} {k:Nat} {st:St} {x:List Nat} {e:Nat} (M:CtxMono C) (hD:C.val d = some lV) (k1:κ d = some .globalImplicit) (k2:κ a = some .local) (k3:κ i = some .local)
  (h1:st.ρ a = some (.str x)) (h2:st.ρ i = some (.int e)) (hx:x.length < 1000000) (ha:Al x) (he:e <= x.length):
  tv C κ (.Compare (.Subscript (.Name a p1) (.Slice (some (.Name i p2)) (some (.BinOp (.Name i p3) .Add (.Constant (.int 1) k p4) p5)) none p6) p7) [.In] [.Name d p8] p9) st (eT x e):=by
 refine o3 M (mZ M (aJ k2 h1) (aJ k3 h2) (c9 M (aJ k3 h2) (aC rfl)) (o9 (Nat.lt_of_le_of_lt he hx))) (oB k1 hD) ⟨_,lU,rfl,?_,rfl⟩
 rw [sl1]
 exact zdq ha e
theorem nL {a i d:Str} {p1 p2 p3 p4 p5 p6 p7 p8 p9 q1 q2 q3 q4:Pos} {k k':Nat} {st:St} {x:List Nat} {e:Nat} {Q:Fl->St->Prop} (M:CtxMono C) (hD:C.val d = some lV) (k1:κ d = some .globalImplicit) (k2:κ a = some .local) (k3:κ i = some .local) (hai:a ≠ i)
  (h1:st.ρ a = some (.str x)) (h2:st.ρ i = some (.int e)) (hx:x.length < 1000000) (ha:Al x) (he:e <= x.length)
  (hQ:Q .next ⟨upd st.ρ i (.int ((e + jA (x.drop e):Nat))),st.σ⟩):
  wS C κ (.While (.Compare (.Subscript (.Name a p1) (.Slice (some (.Name i p2)) (some (.BinOp (.Name i p3) .Add (.Constant (.int 1) k p4) p5)) none p6) p7) [.In] [.Name d p8] p9)
   [.AugAssign (.Name i q1) .Add (.Constant (.int 1) k' q2) q3] [] q4) Q st:=by
 refine fE M (fun n s=>∃ f:Nat,s = ⟨upd st.ρ i (.int f),st.σ⟩ /\ f <= x.length /\ n = x.length - f /\ f + jA (x.drop f) = e + jA (x.drop e)) ?_ (x.length - e) st ⟨e,by rw [zba h2],he,rfl,rfl⟩
 rintro n s ⟨f,rfl,hf,rfl,hs⟩
 have g1:(upd st.ρ i (.int f)) a = some (.str x):=by rw [zfj _ hai]; exact h1
 refine ⟨eT x f,tU M hD k1 k2 k3 g1 (zcW _ _ _) hx ha hf,fun hc=>?_,fun hc=>?_⟩
 ·obtain ⟨hl,hd⟩:=qI hc
  refine aA (dP M (.int f) (.int 1) (zcW _ _ _) (aC rfl) (by unfold dB; rw [k3]; decide) (of_eq cF ?_))
  exact ⟨x.length - (f + 1),Nat.sub_lt_sub_left hl (Nat.lt_succ_self f),f + 1,congrArg (St.mk · st.σ) (zdD _ _ _ _),hl,rfl,by rw [<- hs,hd,Nat.add_right_comm]; rfl⟩
 ·rw [zay hc] at hs
  rw [<- hs] at hQ
  exact hQ
end
noncomputable def eI (x:List Nat):Nat:=if x[0]? = some 45 \/ x[0]? = some 43 then 1 else 0
noncomputable def w5 (x:List Nat):Option Nat:=if x[0]? = some 46 /\ eT x 1 = true then some (jA (x.drop 2) + 2) else none
noncomputable def zck (x:List Nat):Option Nat:=if x[0]? = some 101 \/ x[0]? = some 69 then (if eT x (eI (x.drop 1) + 1) = true then some (jA (x.drop (eI (x.drop 1) + 1)) + (eI (x.drop 1) + 1)) else none) else none
noncomputable def zfE (x:List Nat) (z k:Nat):Option (Nat × Bool):=
 (w5 (x.drop k)).elim (if z = 0 then none else some ((zck (x.drop k)).elim (k,true) fun g=>(g + k,false))) fun f=>some ((zck (x.drop (f + k))).getD 0 + (f + k),false)
noncomputable def j3 (x:List Nat):Option (Nat × Bool):=zfE x (jA (x.drop (eI x))) (jA (x.drop (eI x)) + eI x)
theorem cG (x:List Nat) (i:Nat):(x.drop i)[0]? = x[i]?:=List.getElem?_drop
theorem yV {x:List Nat} {i:Nat} (h:i <= x.length):i + eI (x.drop i) <= x.length:=by
 unfold eI
 split
 ·rename_i q
  rw [cG] at q
  exact q.elim (fun q=>(List.getElem?_eq_some_iff.mp q).1) fun q=>(List.getElem?_eq_some_iff.mp q).1
 ·exact h
theorem zdp {x:List Nat} {i:Nat} (h:i <= x.length):i + jA (x.drop i) <= x.length:=by
 have:jA (x.drop i) <= (x.drop i).length:=(List.takeWhile_sublist _).length_le
 rw [List.length_drop] at this
 exact Nat.add_sub_cancel' h ▸ Nat.add_le_add_left this i
theorem zaR (x:List Nat) (i c:Nat):(at1 x i = [c]) = (x[i]? = some c):=by
 rw [u6]
 exact propext (match x[i]? with
 | none=>⟨fun h=>(by cases h),fun h=>(by cases h)⟩
 | some d=>⟨fun h=>congrArg some (List.cons.inj h).1,fun h=>congrArg (Option.toList) h⟩)
theorem sX (x:List Nat) (i c d:Nat):decide (at1 x i ∈ ([[c],[d]]:List (List Nat))) = decide (x[i]? = some c \/ x[i]? = some d):=
 decide_eq_decide.mpr (by rw [List.mem_cons,List.mem_singleton,zaR,zaR])
theorem fD {x:List Nat} {i c:Nat} (h:x[i]? = some c):i < x.length:=(List.getElem?_eq_some_iff.mp h).1
theorem zdo {x:List Nat} {i:Nat} (h:eT x i = true):i < x.length:=(qI h).1
theorem gU (x:List Nat) (i:Nat):eI (x.drop i) = if x[i]? = some 45 \/ x[i]? = some 43 then 1 else 0:=by
 rw [eI,cG]
theorem gK {x:List Nat} {n m:Nat} (h:n <= x.length) (h':m <= (x.drop n).length):n + m <= x.length:=by
 rw [List.length_drop] at h'
 exact Nat.add_sub_cancel' h ▸ Nat.add_le_add_left h' n
noncomputable def ze3 (x:List Nat) (i:Nat) (b:Bool):Nat × Bool:=if x[i]? = some 101 \/ x[i]? = some 69 then (if eT x (i + 1 + eI (x.drop (i + 1))) = true then (i + 1 + eI (x.drop (i + 1)) + jA (x.drop (i + 1 + eI (x.drop (i + 1)))),false) else (i,b)) else (i,b)
noncomputable def y5 (x:List Nat) (i j:Nat):Option (Nat × Bool):=if x[j]? = some 46 /\ eT x (j + 1) = true then some (ze3 x (j + 2 + jA (x.drop (j + 2))) false) else if j = i then none else some (ze3 x j true)
noncomputable def zfF (x:List Nat) (i:Nat):Option (Nat × Bool):=y5 x (i + eI (x.drop i)) (i + eI (x.drop i) + jA (x.drop (i + eI (x.drop i))))
theorem m9 (x:List Nat) (i j:Nat):eT (x.drop i) j = eT x (i + j):=by rw [eT,List.getElem?_drop,eT]
theorem zdc (x:List Nat) (i:Nat) (b:Bool):ze3 x i b = (zck (x.drop i)).elim (i,b) fun g=>(g + i,false):=by
 rw [ze3,zck,m9,cG,List.drop_drop,List.drop_drop,Nat.add_comm (eI _) 1,<- Nat.add_assoc]
 split
 ·split
  ·exact congrArg (·,false) (by omega)
  ·rfl
 ·rfl
theorem zag (x:List Nat) (j:Nat):w5 (x.drop j) = if x[j]? = some 46 /\ eT x (j + 1) = true then some (jA (x.drop (j + 2)) + 2) else none:=by rw [w5,m9,cG,List.drop_drop]
theorem zfD (x:List Nat) (i:Nat):zfF x i = (j3 (x.drop i)).map fun e=>(i + e.1,e.2):=by
 rw [zfF,y5,j3,zfE]
 generalize eI (x.drop i) = s
 rw [show (x.drop i).drop s = x.drop (i + s) from List.drop_drop]
 generalize jA (x.drop (i + s)) = d
 have hj:i + (d + s) = i + s + d:=by rw [Nat.add_comm d s,Nat.add_assoc]
 have hf:∀ f,i + (f + (d + s)) = f + (i + s + d):=fun f=>by rw [<- hj,Nat.add_left_comm]
 simp only [List.drop_drop,hj,hf,zag]
 split
 ·rw [Option.elim_some,Option.map_some,zdc,Nat.add_assoc,Nat.add_comm _ (2 + _),Nat.add_comm 2]
  cases zck (x.drop (jA (x.drop (i + s + d + 2)) + 2 + (i + s + d))) with
  | none=>rw [Option.elim_none,Option.getD_none,Nat.zero_add,hf]
  | some g=>exact congrArg (fun n=>some (n,false)) (by rw [<- hf,Option.getD_some,Nat.add_left_comm])
 ·simp only [Option.elim_none,Nat.add_eq_left]
  split
  ·rfl
  ·rw [Option.map_some,zdc]
   cases zck (x.drop (i + s + d)) with
   | none=>rw [Option.elim_none,Option.elim_none,hj]
   | some g=>exact congrArg (fun n=>some (n,false)) (show _ = i + (g + (d + s)) by rw [<- hj,Nat.add_left_comm])
noncomputable def za0 (o:Option (Nat × Bool)):PV:=o.elim (.tup [.none,.bool false]) fun e=>.tup [.int e.1,.bool e.2]
theorem yY (σ:Nat->Option Cell) (o:Option (Nat × Bool)):Res σ (za0 o) (za0 o):=by cases o <;> exact aW _ _ rfl
noncomputable def cN:Ctx:=mkC [] [] false [("_DIGITS",lV)] []
theorem zeQ:CtxMono cN:=bP (by simp) (by simp)
theorem qN:cN.val (Str.ofString "_DIGITS") = some lV:=by simp [cN,mkC,zbo]
theorem tT {C:Ctx} {κ:Kn} {a i:Str} {p1 p2 p3 p4 p5 p6 p7 p9:Pos} {k:Nat} {st:St} {x:List Nat} {e:Nat} {r:Expr} {op:CmpOp} {b:PV} {d:Bool} (M:CtxMono C) (k2:κ a = some .local) (k3:κ i = some .local)
  (h1:st.ρ a = some (.str x)) (h2:st.ρ i = some (.int e)) (he:e < 1000000) (h':ev C κ r st b) (h:za1 st.σ op (.str (at1 x e)) b fun c=>true = true /\ c = d /\ st = st):
  tv C κ (.Compare (.Subscript (.Name a p1) (.Slice (some (.Name i p2)) (some (.BinOp (.Name i p3) .Add (.Constant (.int 1) k p4) p5)) none p6) p7) [op] [r] p9) st d:=
 o3 M (mZ M (aJ k2 h1) (aJ k3 h2) (c9 M (aJ k3 h2) (aC rfl)) (o9 he)) h' ((sl1 x e).symm ▸ h)
theorem zbQ (p:Params) (css:List Nat) (pos:Nat) (K:PV->Prop) (hx:css.length < 1000000) (ha:Al css) (hp:pos <= css.length) (hK:K (za0 (zfF css pos))):
  wSs cN (eA (aL (HK p) 613)) (bC (HK p) 613) (jY K) ⟨bA [("css",.str css),("pos",.int pos)] (fun _=>none),fun _=>none⟩:=by
 have M:=zeQ
 have lt:∀ {i},i <= css.length->i < 1000000:=fun h=>Nat.lt_of_le_of_lt h hx
 apply nfe
 case h=>
  show ?nl1 = ?nr1
  refine (?f:∀ _:(?nl1 = ?nr1),(?nl1 = ?nr1)) ?d
  case d=>conv=>lhs; whnf; dsimp only [cH,erS,erE,bR,erO]
  case f=>exact fun _=>by kernel_rfl!
 conv in (aL _ _)=>whnf
 refine aA (aE M (.int pos) (aJ (by kernel_rfl!) (by kernel_rfl!)) (by decide +kernel) ?_)
 rw [zfF] at hK
 let R1:St->Prop:=fun s=>∃ e0:Nat,bV [("css",.str css),("end",.int e0)] s.ρ /\ e0 <= css.length /\ K (za0 (y5 css e0 (e0 + jA (css.drop e0))))
 refine b8 M R1
  (bS M (decide (css[pos]? = some 45 \/ css[pos]? = some 43)) (tT M (by kernel_rfl!) (by kernel_rfl!) (by kernel_rfl!) (by kernel_rfl!) (lt hp) (aT M (aB M (aC rfl) (aB M (aC rfl) aD))) ⟨[[45],[43]],by decide +kernel,rfl,sX css pos 45 43,rfl⟩) (fun hc=>?_) (fun hc=>?_)) ?_
 ·have hs:eI (css.drop pos) = 1:=by rw [gU,if_pos (of_decide_eq_true hc)]
  have hl:=yV hp
  rw [hs] at hK hl
  exact aA (dP M (.int pos) (.int 1) (by kernel_rfl!) (aC rfl) (by decide +kernel) (of_eq cF ⟨pos + 1,by (show _ = _; first | kernel_rfl! | (rw [<- Nat.add_assoc]; kernel_rfl!) | (rw [<- Nat.add_assoc,<- Nat.add_assoc]; kernel_rfl!)),hl,hK⟩))
 ·have hs:eI (css.drop pos) = 0:=by rw [gU,if_neg (of_decide_eq_false hc)]
  rw [hs] at hK
  exact ⟨pos,by (show _ = _; first | kernel_rfl! | (rw [<- Nat.add_assoc]; kernel_rfl!) | (rw [<- Nat.add_assoc,<- Nat.add_assoc]; kernel_rfl!)),hp,hK⟩
 refine fun st=>x1 fun e0=>a3 fun h1 b0 hK=>b7 h1 ?_
 refine aA (aE M (.int e0) (aJ (by kernel_rfl!) (by kernel_rfl!)) (by decide +kernel) ?_)
 refine aA (nL (x:=css) (e:=e0) M qN (by kernel_rfl!) (by kernel_rfl!) (by kernel_rfl!) (by rw [Ne,sEq]; decide) (by kernel_rfl!) (by kernel_rfl!) hx ha b0 ?_)
 have b1:=zdp b0
 generalize e0 + jA (css.drop e0) = e1 at hK b1
 refine aA (aE M (.bool true) (aC rfl) (by decide +kernel) ?_)
 let R2:St->Prop:=fun s=>∃ (e2:Nat) (pl:Bool),bV [("css",.str css),("end",.int e2),("plain",.bool pl)] s.ρ /\ e2 <= css.length /\ K (za0 (some (ze3 css e2 pl)))
 refine b8 M R2 (bS M (decide (css[e1]? = some 46) && eT css (e1 + 1)) ?_ (fun hc=>?_) (fun hc=>?_)) ?_
 ·refine dU M (tT M (by kernel_rfl!) (by kernel_rfl!) (by kernel_rfl!) (by kernel_rfl!) (lt b1) (aC rfl) ⟨rfl,decide_eq_decide.mpr (iff_of_eq (zaR css e1 46)),rfl⟩) fun h=>dZ ?_
  have b2:e1 + 1 <= css.length:=fD (of_decide_eq_true h)
  refine o3 (a:=.str (slc css (some ((e1:Int) + 1)) (some ((e1:Int) + 2)))) M (mZ (x:=css) M (aJ (by kernel_rfl!) (by kernel_rfl!)) (c9 (i:=e1) (j:=1) M (aJ (by kernel_rfl!) (by kernel_rfl!)) (aC rfl)) (c9 (i:=e1) (j:=2) M (aJ (by kernel_rfl!) (by kernel_rfl!)) (aC rfl)) (o9 (lt b2))) (oB (by kernel_rfl!) qN) ⟨_,lU,rfl,?_,rfl⟩
  exact (congrArg (fun y=>decide (y ∈ _)) (sl1 css (e1 + 1))).trans (zdq ha (e1 + 1))
 ·obtain ⟨c1,c2⟩:=Bool.and_eq_true_iff.mp hc
  rw [y5,if_pos ⟨of_decide_eq_true c1,c2⟩] at hK
  refine aA (aE M (.bool false) (aC rfl) (by decide +kernel) ?_)
  refine aA (dP M (.int e1) (.int 2) (by kernel_rfl!) (aC rfl) (by decide +kernel) (of_eq cF ?_))
  exact aA (nL (x:=css) (e:=e1 + 2) M qN (by kernel_rfl!) (by kernel_rfl!) (by kernel_rfl!) (by rw [Ne,sEq]; decide) (by kernel_rfl!) (by kernel_rfl!) hx ha (zdo c2) ⟨_,false,by (show _ = _; first | kernel_rfl! | (rw [<- Nat.add_assoc]; kernel_rfl!) | (rw [<- Nat.add_assoc,<- Nat.add_assoc]; kernel_rfl!)),zdp (zdo c2),hK⟩)
 ·rw [y5,if_neg (fun q=>by rw [q.2,decide_eq_true q.1] at hc; cases hc)] at hK
  refine aA (bS M (decide (e1 = e0)) ?_ (fun hz=>?_) (fun hz=>?_))
  ·exact o3 (a:=.int e1) (b:=.int e0) M (aJ (by kernel_rfl!) (by kernel_rfl!)) (aJ (by kernel_rfl!) (by kernel_rfl!)) ⟨rfl,decide_eq_decide.mpr Int.ofNat_inj,rfl⟩
  ·rw [if_pos (of_decide_eq_true hz)] at hK
   exact aA (aP M (za0 none) (aT M (aB M (aC rfl) (aB M (aC rfl) aD))) ⟨_,yY _ _,hK⟩)
  ·rw [if_neg (of_decide_eq_false hz)] at hK
   exact ⟨e1,true,by (show _ = _; first | kernel_rfl! | (rw [<- Nat.add_assoc]; kernel_rfl!) | (rw [<- Nat.add_assoc,<- Nat.add_assoc]; kernel_rfl!)),b1,hK⟩
 refine fun st=>x2 fun e2 pl=>a3 fun h1 b2 hK=>b7 h1 ?_
 rw [ze3] at hK
 let R3:St->Prop:=fun s=>∃ (e3:Nat) (pl3:Bool),bV [("end",.int e3),("plain",.bool pl3)] s.ρ /\ K (za0 (some (e3,pl3)))
 refine b8 M R3
  (bS M (decide (css[e2]? = some 101 \/ css[e2]? = some 69)) (tT M (by kernel_rfl!) (by kernel_rfl!) (by kernel_rfl!) (by kernel_rfl!) (lt b2) (aT M (aB M (aC rfl) (aB M (aC rfl) aD))) ⟨[[101],[69]],by decide +kernel,rfl,sX css e2 101 69,rfl⟩) (fun hc=>?_) (fun hc=>?_)) ?_
 ·have hc:=of_decide_eq_true hc
  rw [if_pos hc] at hK
  have b4:e2 + 1 <= css.length:=hc.elim fD fD
  refine aA (aE M (.int (e2 + 1:Nat)) (c9 (i:=e2) (j:=1) M (aJ (by kernel_rfl!) (by kernel_rfl!)) (aC rfl)) (by decide +kernel) ?_)
  let R4:St->Prop:=fun s=>∃ pw:Nat,bV [("css",.str css),("end",.int e2),("plain",.bool pl),("power",.int pw)] s.ρ /\ pw <= css.length /\ K (za0 (some (if eT css pw = true then (pw + jA (css.drop pw),false) else (e2,pl))))
  refine b8 M R4
   (bS M (decide (css[e2 + 1]? = some 45 \/ css[e2 + 1]? = some 43)) (tT M (by kernel_rfl!) (by kernel_rfl!) (by kernel_rfl!) (by kernel_rfl!) (lt b4) (aT M (aB M (aC rfl) (aB M (aC rfl) aD))) ⟨[[45],[43]],by decide +kernel,rfl,sX css (e2 + 1) 45 43,rfl⟩) (fun hs=>?_) (fun hs=>?_)) ?_
  ·have hs:eI (css.drop (e2 + 1)) = 1:=by rw [gU,if_pos (of_decide_eq_true hs)]
   have hl:=yV b4
   rw [hs] at hK hl
   exact aA (dP M (.int (e2 + 1:Nat)) (.int 1) (by kernel_rfl!) (aC rfl) (by decide +kernel) (of_eq cF ⟨e2 + 1 + 1,by (show _ = _; first | kernel_rfl! | (rw [<- Nat.add_assoc]; kernel_rfl!) | (rw [<- Nat.add_assoc,<- Nat.add_assoc]; kernel_rfl!)),hl,hK⟩))
  ·have hs:eI (css.drop (e2 + 1)) = 0:=by rw [gU,if_neg (of_decide_eq_false hs)]
   rw [hs] at hK
   exact ⟨e2 + 1,by (show _ = _; first | kernel_rfl! | (rw [<- Nat.add_assoc]; kernel_rfl!) | (rw [<- Nat.add_assoc,<- Nat.add_assoc]; kernel_rfl!)),b4,hK⟩
  refine fun st=>x1 fun pw=>a3 fun h1 b5 hK=>b7 h1 ?_
  refine aA (bS M (eT css pw) (tU M qN (by kernel_rfl!) (by kernel_rfl!) (by kernel_rfl!) (by kernel_rfl!) (by kernel_rfl!) hx ha b5) (fun hd=>?_) (fun hd=>?_))
  ·rw [if_pos hd] at hK
   refine aA (aE M (.bool false) (aC rfl) (by decide +kernel) ?_)
   refine aA (aE M (.int pw) (aJ (by kernel_rfl!) (by kernel_rfl!)) (by decide +kernel) ?_)
   exact aA (nL (x:=css) (e:=pw) M qN (by kernel_rfl!) (by kernel_rfl!) (by kernel_rfl!) (by rw [Ne,sEq]; decide) (by kernel_rfl!) (by kernel_rfl!) hx ha b5 ⟨_,false,by (show _ = _; first | kernel_rfl! | (rw [<- Nat.add_assoc]; kernel_rfl!) | (rw [<- Nat.add_assoc,<- Nat.add_assoc]; kernel_rfl!)),hK⟩)
  ·rw [if_neg (by rw [hd]; decide)] at hK
   exact ⟨e2,pl,by (show _ = _; first | kernel_rfl! | (rw [<- Nat.add_assoc]; kernel_rfl!) | (rw [<- Nat.add_assoc,<- Nat.add_assoc]; kernel_rfl!)),hK⟩
 ·rw [if_neg (of_decide_eq_false hc)] at hK
  exact ⟨e2,pl,by (show _ = _; first | kernel_rfl! | (rw [<- Nat.add_assoc]; kernel_rfl!) | (rw [<- Nat.add_assoc,<- Nat.add_assoc]; kernel_rfl!)),hK⟩
 refine fun st=>x2 fun e3 pl3=>a2 fun h1 hK=>b7 h1 ?_
 exact aA (aP M (za0 (some (e3,pl3))) (aT M (aB M (aJ (by kernel_rfl!) (by kernel_rfl!)) (aB M (aJ (by kernel_rfl!) (by kernel_rfl!)) aD))) ⟨_,yY _ _,hK⟩)
noncomputable def zcQ:Fn:=fun ps K=>∃ (css:List Nat) (pos:Nat),ps = [.str css,.int pos] /\ css.length < 1000000 /\ Al css /\ pos <= css.length /\
 K (za0 (zfF css pos))
theorem xF:bD zcQ:=fun _ _ _ h=>e2 fun _ _=>c4 (h _)
theorem zeK {w:World} {h:Heap} {mb:Str->Option Value} (hB:BsOk (bs w.params h mb)):∃ u,mgK w.params (Str.ofString "_DIGITS") = some u /\ VRel w.params (fun a=>h.get? a) u lV:=by
 obtain ⟨o,ho⟩:∃ o,(HK w.params).lookup 606 = some o:=⟨_,rfl⟩
 have ho':=ho
 conv at ho'=>lhs; whnf
 cases ho'
 have d:∀ (c:Nat) (t:Tok),decide (c < 100) = true->VRel w.params (fun a=>h.get? a) (.str ⟨#[c]⟩ t) (.str [c]):=fun c t q=>⟨t,rfl,k9 (Nat.lt_trans (of_decide_eq_true q) (by decide))⟩
 exact ⟨.ref 606,by kernel_rfl,606,_,_,_,rfl,hB.kin _ _ ho,rfl,rfl,Nat.le_of_ble_eq_true rfl,.cons (d 48 _ rfl) (.cons (d 49 _ rfl) (.cons (d 50 _ rfl) (.cons (d 51 _ rfl) (.cons (d 52 _ rfl) (.cons (d 53 _ rfl) (.cons (d 54 _ rfl) (.cons (d 55 _ rfl) (.cons (d 56 _ rfl) (.cons (d 57 _ rfl) .nil)))))))))⟩
theorem zP (hB:BsOk (bs w.params h mb)) (hmb:HMb mb):Meets prog w (bs w.params h mb) 1 (.ref 613) zcQ:=by
 have hC:CtxOk prog w (bs w.params h mb) cN 0:=dX hmb (by simp) (by simp) (fun e he=>by
  simp only [List.mem_singleton] at he; subst he
  exact zeK hB) (by simp) (by simp) (by simp)
 refine aY (k:=2) (params:=["css", "pos"]) (dv:=[]) (dp:=[]) hB hC (by kernel_rfl) (by kernel_rfl) (by kernel_rfl) rfl (fun _=>.nil) (fun S vals hl=>?_) fun ps K=>x2 fun css pos=>a5 fun h1 h2 h3 h5 h4=>?_
 ·obtain ⟨a,b,rfl⟩:=hZ hl
  kernel_rfl
 ·subst h1
  exact ⟨rfl,zbQ _ css pos K h2 h3 h5 h4⟩
noncomputable def zgX (x:List Nat):Bool:=[92].isPrefixOf x && !([92,10].isPrefixOf x)
noncomputable def eL:List Nat->Bool
 | d :: r=>(aU d || d == 45) || zgX (d :: r)
 | []=>false
noncomputable def aR:List Nat->Bool
 | []=>false
 | c :: r=>aU c || ((c == 45 && eL r) || (c == 92 && !([92,10].isPrefixOf (c :: r))))
theorem zfG {x:List Nat} (ha:Al x) {k:Nat} (hk:cV k = false) (q:List Nat) (i:Nat):(k :: q).isPrefixOf (x.drop i) = false:=by
 cases h:x.drop i with
 | nil=>rfl
 | cons c r=>
  have hc:=(ha.drop i) c (by rw [h]; exact List.mem_cons_self)
  show ((k == c) && _) = false
  rw [beq_eq_false_iff_ne.mpr (fun e=>by rw [<- e,hk] at hc; cases hc)]; rfl
theorem zdd {C:Ctx} {κ:Kn} {o i:Expr} {q:Str} {n:Nat} {p p1 p2:Pos} {st:St} {x:List Nat} {e k:Nat} (M:CtxMono C) (h:ev C κ o st (.str x)) (hi:ev C κ i st (.int e)) (he:e <= x.length) (hx:x.length < 2000000) (hc:csE i = none) (ha:Al x) (hq:q.cps.toList.head? = some k) (hk:cV k = false):
  ev C κ (.Call (.Attribute o (Str.ofString "startswith") p) [.Constant (.str q) n p1,i] [] p2) st (.bool false):=by
 have:=jN (q:=q) (k:=n) (p:=p) (p1:=p1) (p2:=p2) M h hi he hx hc
 cases e:q.cps.toList with
 | nil=>rw [e] at hq; cases hq
 | cons a r=>rw [e] at hq this; cases hq; rwa [zfG ha hk] at this
noncomputable def cI:Ctx:=mkC [("_is_name_start",zgw)] [] false [] []
theorem oG:CtxMono cI:=bP (by simp [qV]) (by simp)
theorem zfX {κ:Kn} {st:St} {css:List Nat} {i c:Nat} {p1 p2 p3 p4:Pos} (k1:κ "_is_name_start" = some .globalImplicit) (k2:κ "css" = some .local) (k3:κ "pos" = some .local) (h1:st.ρ "css" = some (.str css)) (h2:st.ρ "pos" = some (.int i)) (hc:css[i]? = some c) (ha:Al css):
  ev cI κ (.Call (.Name (Str.ofString "_is_name_start") p1) [.Name (Str.ofString "css") p2,.Name (Str.ofString "pos") p3] [] p4) st (.bool (aU c)):=
 bX (F:=zgw) oG k1 rfl (aB oG (aJ k2 h1) (aB oG (aJ k3 h2) aD)) ⟨css,i,c,rfl,hc,ha.at hc,.inl rfl,rfl⟩
theorem sV (a b:Nat):(a == b) = decide (a = b):=rfl
theorem zei (p:Params) (css:List Nat) (pos c:Nat) (K:PV->Prop) (hx:css.length < 1000000) (ha:Al css) (hc:css[pos]? = some c) (hK:K (.bool (aR (css.drop pos)))):
  wSs cI (eA (aL (HK p) 642)) (bC (HK p) 642) (jY K) ⟨bA [("css",.str css),("pos",.int pos)] (fun _=>none),fun _=>none⟩:=by
 have M:=oG
 have hx2:=Nat.lt_trans hx (show 1000000 < 2000000 by decide)
 obtain ⟨hl,hcc⟩:=List.getElem?_eq_some_iff.mp hc
 have hd:css.drop pos = c :: css.drop (pos + 1):=by rw [List.drop_eq_getElem_cons hl,hcc]
 rw [hd,aR] at hK
 clear hcc
 apply nfe
 case h=>
  show ?nl1 = ?nr1
  refine (?f:∀ _:(?nl1 = ?nr1),(?nl1 = ?nr1)) ?d
  case d=>conv=>lhs; whnf; dsimp only [cH,erS,erE,bR,erO]
  case f=>exact fun _=>by kernel_rfl!
 refine aA (bS M (aU c) (bE M (zfX (by kernel_rfl!) (by kernel_rfl!) (by kernel_rfl!) (by kernel_rfl!) (by kernel_rfl!) hc ha)) (fun hn=>?_) (fun hn=>?_))
 ·rw [hn] at hK
  exact aA (aP M (.bool true) (aC rfl) ⟨_,eG _ _,hK⟩)
 rw [hn,Bool.false_or] at hK
 refine aA (bS M (decide (c = 45)) (bE M (d7 M (dK M rfl aG aG hc) (by kernel_rfl))) (fun h1=>?_) (fun h1=>?_))
 ·rw [of_decide_eq_true h1,show ((45:Nat) == 45) = true from rfl,Bool.true_and,show ((45:Nat) == 92) = false from rfl,Bool.false_and,Bool.or_false] at hK
  refine aA (dP M (.int pos) (.int 1) (by kernel_rfl!) (aC rfl) (by kernel_rfl) (of_eq cF ?_))
  by_cases hq:pos + 1 < css.length
  ·have hg:css[pos + 1]? = some css[pos + 1]:=List.getElem?_eq_getElem hq
   have hd2:css.drop (pos + 1) = css[pos + 1] :: css.drop (pos + 2):=List.drop_eq_getElem_cons hq
   refine aA (aP M (.bool ((decide (pos + 1 < css.length) && (aU css[pos + 1] || decide (css[pos + 1] = 45))) || ([92].isPrefixOf (css.drop (pos + 1)) && !([92,10].isPrefixOf (css.drop (pos + 1)))))) (i8 M (gC M (gO M aG (gB M (by kernel_rfl!) rfl rfl (by kernel_rfl) aG)) fun _=>eB (i8 M (zfX (by kernel_rfl!) (by kernel_rfl!) (by kernel_rfl!) (by kernel_rfl!) (by kernel_rfl!) hg ha) fun _=>eB (d7 M (dK M rfl aG aG hg) (by kernel_rfl)))) fun _=>eB (gC M (jN (q:=Str.ofString "\\") M aG aG hl hx2 rfl) fun _ => eB (zap M (jN (q := Str.ofString "\\\n") M aG aG hl hx2 rfl)))) ⟨_, eG _ _, ?_⟩)
   rw [decide_eq_true hq, Bool.true_and, <- sV]
   rw [hd2, eL, <- hd2] at hK
   exact hK
  ·rw [List.drop_of_length_le (Nat.le_of_not_lt hq)] at hK
   have hn : ∀ q : Str, q.cps.toList ≠ [] -> (q.cps.toList.isPrefixOf (css.drop (pos + 1))) = false := fun q h => by
    rw [List.drop_of_length_le (Nat.le_of_not_lt hq)]
    cases e : q.cps.toList with
    | nil => exact absurd e h
    | cons => rfl
   refine aA (aP M (.bool ((decide (pos + 1 < css.length) && false) || (false && false))) (i8 M (gC M (gO M aG (gB M (by kernel_rfl!) rfl rfl (by kernel_rfl) aG)) fun h => absurd (of_decide_eq_true h) hq) fun _ => eB (gC M (hn (Str.ofString "\\") (by decide +kernel) ▸ jN (q := Str.ofString "\\") M aG aG hl hx2 rfl) fun h => by cases h)) ⟨_, eG _ _, ?_⟩)
   rw [Bool.and_false]; exact hK
 ·have h1 := of_decide_eq_false h1
  rw [show (c == 45) = false from beq_eq_false_iff_ne.mpr h1, Bool.false_and, Bool.false_or, <- hd] at hK
  refine aA (bS M (decide (c = 92)) (bE M (d7 M (dK M rfl aG aG hc) (by kernel_rfl))) (fun h2 => ?_) (fun h2 => ?_))
  ·rw [sV, h2, Bool.true_and] at hK
   exact aA (aP M (.bool (!([92, 10].isPrefixOf (css.drop pos)))) (zap M (jN (q := Str.ofString "\\\n") M aG aG (Nat.le_of_lt hl) hx2 rfl)) ⟨_,eG _ _,hK⟩)
  ·rw [sV,h2,Bool.false_and] at hK
   exact aA (aP M (.bool false) (aC rfl) ⟨_,eG _ _,hK⟩)
noncomputable def zgx:Fn:=fun ps K=>∃ (css:List Nat) (pos c:Nat),ps = [.str css,.int pos] /\ css.length < 1000000 /\ Al css /\ css[pos]? = some c /\ K (.bool (aR (css.drop pos)))
theorem zaX:bD zgx:=fun _ _ _ h=>e3 fun _ _ _=>c4 (h _)
theorem zb1 (hB:BsOk (bs w.params h mb)) (hmb:HMb mb):Meets prog w (bs w.params h mb) 2 (.ref 642) zgx:=by
 have hC:CtxOk prog w (bs w.params h mb) cI 1:=dX hmb (by simp [qV]) (by simp) (by simp) (fun e he=>by
  simp only [List.mem_singleton] at he; subst he
  exact ⟨.ref 635,by kernel_rfl,zb0 hB hmb⟩) (by simp) (by simp)
 refine aY (k:=2) (params:=["css", "pos"]) (dv:=[]) (dp:=[]) hB hC (by kernel_rfl) (by kernel_rfl) (by kernel_rfl) rfl (fun _=>.nil) (fun S vals hl=>?_) fun ps K=>x3 fun css pos c=>a5 fun h1 h2 h3 h5 h4=>?_
 ·obtain ⟨a,b,rfl⟩:=hZ hl
  kernel_rfl
 ·subst h1
  exact ⟨rfl,zei _ css pos c K h2 h3 h5 h4⟩
noncomputable def dQ (c:Nat):Bool:=(48 <= c && c <= 57) || (65 <= c && c <= 70) || (97 <= c && c <= 102)
noncomputable def kC:Nat->List Nat->Nat
 | 0,_=>0
 | k + 1,x=>x.casesOn 0 fun c r=>if dQ c = true then kC k r + 1 else 0
theorem zeb {c:Nat} (h:cV c = true):decide (c ∈ (Str.ofString "0123456789abcdefABCDEF").cps.toList) = dQ c:=
 eH (f:=fun c=>decide (c ∈ (Str.ofString "0123456789abcdefABCDEF").cps.toList)) (by decide +kernel) h
theorem pX {x:List Nat} {i k:Nat} (hl:i < x.length):kC (k + 1) (x.drop i) = if dQ x[i] = true then kC k (x.drop (i + 1)) + 1 else 0:=by
 rw [List.drop_eq_getElem_cons hl]; rfl
theorem zcd {x:List Nat} {i k:Nat} (hl:x.length <= i):kC k (x.drop i) = 0:=by
 rw [List.drop_of_length_le hl]; cases k <;> rfl
theorem sI:∀ (k:Nat) (x:List Nat),kC k x <= x.length
 | 0,x=>Nat.zero_le _
 | k + 1,[]=>Nat.le_refl _
 | k + 1,c :: r=>by
  show (if dQ c = true then kC k r + 1 else 0) <= _
  split
  ·exact Nat.succ_le_succ (sI k r)
  ·exact Nat.zero_le _
theorem uI:∀ (k:Nat) (x:List Nat),kC k x <= k
 | 0,x=>Nat.le_refl _
 | k + 1,[]=>Nat.zero_le _
 | k + 1,c :: r=>by
  show (if dQ c = true then kC k r + 1 else 0) <= _
  split
  ·exact Nat.succ_le_succ (uI k r)
  ·exact Nat.zero_le _
theorem zcc (p:Params) (css:List Nat) (pos:Nat) (K:PV->Prop) (hx:css.length < 1000000) (ha:Al css) (hp:pos <= css.length) (hK:K (.int ((pos + kC 6 (css.drop pos):Nat)))):
  wSs (mkC [] [] false [] []) (eA (aL (HK p) 620)) (bC (HK p) 620) (jY K) ⟨bA [("css",.str css),("pos",.int pos)] (fun _=>none),fun _=>none⟩:=by
 have M:CtxMono (mkC [] [] false [] []):=bP (by simp) (by simp)
 apply nfe
 case h=>
  show ?nl1 = ?nr1
  refine (?f:∀ _:(?nl1 = ?nr1),(?nl1 = ?nr1)) ?d
  case d=>conv=>lhs; whnf; dsimp only [cH,erS,erE,bR,erO]
  case f=>exact fun _=>by kernel_rfl!
 refine aA (aE M (.int pos) aG (by kernel_rfl) ?_)
 generalize hT:pos + kC 6 (css.drop pos) = T at hK
 let R:St->Prop:=fun st=>bV [("end",.int T)] st.ρ
 let I:Nat->St->Prop:=fun k st=>∃ e:Nat,bV [("css",.str css),("pos",.int pos),("end",.int e)] st.ρ /\ e <= css.length /\ e + k = pos + 6 /\ e + kC k (css.drop e) = T
 refine b8 M R (fE M I ?_ 6 _ ⟨pos,by (show _ = _; first | kernel_rfl! | (rw [<- Nat.add_assoc]; kernel_rfl!) | (rw [<- Nat.add_assoc,<- Nat.add_assoc]; kernel_rfl!)),hp,rfl,hT⟩) ?_
 ·refine fun k st=>x1 fun e=>a4 fun h1 h6 h7 h8=>keepP st h1 ?_
  have he:e < 1000000:=Nat.lt_of_le_of_lt h6 hx
  have hn:(!decide (slc css (some (e:Int)) (some ((e:Int) + 1)) = [])) = decide (e < css.length):=by
   rw [sl1,u6,<- decide_not]
   refine decide_eq_decide.mpr ?_
   by_cases hl:e < css.length
   ·rw [List.getElem?_eq_getElem hl]; exact ⟨fun _=>hl,fun _ q=>by cases q⟩
   ·rw [List.getElem?_eq_none (Nat.le_of_not_lt hl)]; exact ⟨fun q=>absurd rfl q,fun q=>absurd q hl⟩
  refine ⟨decide (e < pos + 6) && (decide (e < css.length) && (css[e]?).any dQ),dU M (bE M (gO (b:=pos + 6) M aG (c9 (i:=pos) (j:=6) M aG (aC rfl)))) fun _=>?_,fun hc=>?_,fun hc=>?_⟩
  ·refine hn ▸ dU M (bE M (uP (q:= "") M (mZ M aG aG (c9 (i:=e) (j:=1) M aG (aC rfl)) (o9 he)))) fun h=>dZ ?_
   have hl:e < css.length:=of_decide_eq_true (hn ▸ h)
   have hg:=List.getElem?_eq_getElem hl
   rw [hg,Option.any_some,<- zeb (ha.get hl)]
   exact bE M (iD M (dK M rfl aG aG hg))
  ·obtain ⟨c1,c2⟩:=Bool.and_eq_true_iff.mp hc
   obtain ⟨c2,c3⟩:=Bool.and_eq_true_iff.mp c2
   have c2:=of_decide_eq_true c2
   rw [List.getElem?_eq_getElem c2,Option.any_some] at c3
   obtain ⟨k',rfl⟩:∃ k',k = k' + 1:=⟨k - 1,by have:=of_decide_eq_true c1; omega⟩
   rw [pX c2,if_pos c3] at h8
   exact aA (dP M (.int e) (.int 1) (by kernel_rfl!) (aC rfl) (by kernel_rfl) (of_eq cF ⟨k',Nat.lt_succ_self k',e + 1,by (show _ = _; first | kernel_rfl! | (rw [<- Nat.add_assoc]; kernel_rfl!) | (rw [<- Nat.add_assoc,<- Nat.add_assoc]; kernel_rfl!)),c2,by rw [<- h7,Nat.add_assoc,Nat.add_comm 1],by rw [<- h8,Nat.add_assoc,Nat.add_comm 1]⟩))
  ·have h0:kC k (css.drop e) = 0:=by
    cases k with
    | zero=>rfl
    | succ k=>
     by_cases hl:e < css.length
     ·rw [pX hl,if_neg]
      intro q
      rw [List.getElem?_eq_getElem hl,Option.any_some,q,decide_eq_true hl,decide_eq_true (show e < pos + 6 by omega)] at hc
      cases hc
     ·exact zcd (Nat.le_of_not_lt hl)
   rw [h0] at h8
   subst h8
   exact by (show _ = _; first | kernel_rfl! | (rw [<- Nat.add_assoc]; kernel_rfl!) | (rw [<- Nat.add_assoc,<- Nat.add_assoc]; kernel_rfl!))
 ·exact fun st h1=>b7 h1 (aA (aP M (.int T) aG ⟨_,aW _ _ rfl,hK⟩))
noncomputable def zcR:Fn:=fun ps K=>∃ (css:List Nat) (pos:Nat),ps = [.str css,.int pos] /\ css.length < 1000000 /\ Al css /\ pos <= css.length /\ K (.int ((pos + kC 6 (css.drop pos):Nat)))
theorem nD:bD zcR:=fun _ _ _ h=>e2 fun _ _=>c4 (h _)
theorem zQ (hB:BsOk (bs w.params h mb)) (hmb:HMb mb):Meets prog w (bs w.params h mb) 1 (.ref 620) zcR:=by
 have hC:CtxOk prog w (bs w.params h mb) (mkC [] [] false [] []) 0:=dX hmb (by simp) (by simp) (by simp) (by simp) (by simp) (by simp)
 refine aY (k:=2) (params:=["css", "pos"]) (dv:=[]) (dp:=[]) hB hC (by kernel_rfl) (by kernel_rfl) (by kernel_rfl) rfl (fun _=>.nil) (fun S vals hl=>?_) fun ps K=>x2 fun css pos=>a5 fun h1 h2 h3 h5 h4=>?_
 ·obtain ⟨a,b,rfl⟩:=hZ hl
  kernel_rfl
 ·subst h1
  exact ⟨rfl,zcc _ css pos K h2 h3 h5 h4⟩
noncomputable def a0 (c:Nat):Bool:=c == 32 || c == 10 || c == 9
noncomputable def fY (x:List Nat):Nat:=x.casesOn 0 fun c _=>if a0 c = true then 1 else 0
noncomputable def jC (k:Nat):Nat:=if (decide (0 < k) && decide (k <= 1114111)) = true then k else 65533
inductive EscAt (x:List Nat):Nat->Nat->Prop
 | hex (k:Nat):0 < kC 6 x->eE 16 0 (x.take (kC 6 x)) = some k->EscAt x (jC k) (kC 6 x + fY (x.drop (kC 6 x)))
 | sign (s:Nat):kC 6 x = 0->x[0]? = some s->EscAt x s 1
 | eof:x = []->EscAt x 65533 0
theorem EscAt.le {x:List Nat} {s n:Nat} (h:EscAt x s n):n <= x.length:=by
 cases h with
 | hex _ h1=>
  have h2:=sI 6 x
  generalize kC 6 x = n at *
  cases hd:x.drop n with
  | nil=>exact h2
  | cons c r=>
   have h3:=congrArg List.length hd
   rw [List.length_drop] at h3
   have h3:x.length - n = r.length + 1:=h3
   show n + (if a0 c = true then 1 else 0) <= _
   split <;> omega
 | sign _ _ h=>exact (List.getElem?_eq_some_iff.mp h).1
 | eof h=>exact Nat.zero_le _
theorem zcD {x:List Nat} (ha:Al x) (i:Nat):decide (at1 x i ∈ ([[32],[10],[9]]:List (List Nat))) = decide (fY (x.drop i) = 1):=by
 rw [u6]
 by_cases h:i < x.length
 ·rw [List.drop_eq_getElem_cons h,List.getElem?_eq_getElem h]
  exact eH (f:=fun c=>decide ([c] ∈ ([[32],[10],[9]]:List (List Nat)))) (g:=fun c=>decide ((if a0 c = true then 1 else 0) = 1)) (by decide +kernel) (ha.get h)
 ·rw [List.drop_of_length_le (Nat.le_of_not_lt h),List.getElem?_eq_none (Nat.le_of_not_lt h)]; rfl
theorem rQ (x:List Nat) (h:fY x ≠ 1):fY x = 0:=by
 cases x with
 | nil=>rfl
 | cons c r=>
  show (if a0 c = true then 1 else 0) = 0
  split
  ·rename_i q; exact absurd (if_pos q) h
  ·rfl
theorem zdE {C:Ctx} {κ:Kn} {l m r:Expr} {p:Pos} {st:St} {i j k:Nat} (M:CtxMono C) (h1:ev C κ l st (.int i)) (h2:ev C κ m st (.int j)) (h3:ev C κ r st (.int k)):tv C κ (.Compare l [.Lt,.LtE] [m,r] p) st (decide (i < j) && decide (j <= k)):=by
 refine aX (e:=l) M h1 (aX (e:=m) M h2 ?_)
 show if decide ((i:Int) < j) = true then wCh C [r] [.LtE] κ (.int j) _ st else _
 rw [decide_eq_decide.mpr (Int.ofNat_lt (n:=i) (m:=j))]
 cases decide (i < j)
 ·exact ⟨rfl,rfl⟩
 ·exact aX (e:=r) M h3 ⟨rfl,decide_eq_decide.mpr Int.ofNat_le,rfl⟩
noncomputable def cE:Ctx:=mkC [("_hex_end",zcR)] [] false [] []
theorem zeR:CtxMono cE:=bP (by simp [nD]) (by simp)
theorem zcl (p:Params) (css:List Nat) (pos s n:Nat) (K:PV->Prop) (hx:css.length < 1000000) (ha:Al css) (hp:pos <= css.length) (he:EscAt (css.drop pos) s n) (hK:K (.tup [.str [s],.int ((pos + n:Nat))])):
  wSs cE (eA (aL (HK p) 663)) (bC (HK p) 663) (jY K) ⟨bA [("css",.str css),("pos",.int pos)] (fun _=>none),fun _=>none⟩:=by
 have M:=zeR
 apply nfe
 case h=>
  show ?nl2 = ?nr2
  refine (?f:∀ _:(?nl2 = ?nr2),(?nl2 = ?nr2)) ?d
  case d=>conv=>lhs; whnf; dsimp only [cH,erS,erE,bR,erO]
  case f=>exact fun _=>by kernel_rfl!
 have hle:pos + kC 6 (css.drop pos) <= css.length:=gK hp (sI _ _)
 have h6:=uI 6 (css.drop pos)
 refine aA (aE M (.int ((pos + kC 6 (css.drop pos):Nat))) (bX (F:=zcR) M (by kernel_rfl!) rfl (aB M (v:=.str css) aG (aB M (v:=.int pos) aG aD)) ⟨css,pos,rfl,hx,ha,hp,.inl rfl,rfl⟩) (by kernel_rfl) ?_)
 cases he with
 | hex s g1 g2=>
  rw [List.drop_drop] at hK
  generalize hh:kC 6 (css.drop pos) = h at *
  have ht:(css.drop pos).take (pos + h - pos) = (css.drop pos).take h:=by rw [Nat.add_sub_cancel_left]
  have hlt:((css.drop pos).take h).length = h:=List.length_take_of_le (by rw [List.length_drop]; omega)
  have lt2:pos + h < 1000000:=Nat.lt_of_le_of_lt hle hx
  refine aA (bS M true (bE M (bL (a:=.int (pos + h:Nat)) (b:=.int pos) M aG aG (decide_eq_true (Int.ofNat_lt.mpr (Nat.lt_add_of_pos_right g1))))) (fun _=>?_) (fun h=>by cases h))
  refine aA (aE M (.int s) (iN M (by kernel_rfl!) rfl rfl (by kernel_rfl) (aB M (v:=.str ((css.drop pos).take h)) (ht ▸ lQ M aG aG aG (Nat.le_add_right _ _) (Nat.lt_trans lt2 (by decide))) (aB M (v:=.int 16) (aC rfl) aD)) (of_eq (B:=(16:Int) = 16 /\ (css.drop pos).take h ≠ [] /\ ((css.drop pos).take h).length <= 640 /\ ∃ n,eE 16 0 ((css.drop pos).take h) = some n /\ PV.int n = .int s) (by kernel_rfl) ⟨rfl,fun q=>by rw [q] at hlt; rw [<- hlt] at g1; exact absurd g1 (Nat.lt_irrefl 0),by rw [hlt]; exact Nat.le_trans h6 (by decide),s,g2,rfl⟩)) (by kernel_rfl) ?_)
  refine aA (aP M (.tup [.str [jC s],.int ((pos + (h + fY (css.drop (pos + h))):Nat))]) ?_ ⟨_,aW _ _ rfl,hK⟩)
  refine aT M (aB M (dM (c:=decide (0 < s) && decide (s <= 1114111)) M ?_ (fun q=>?_) (fun q=>?_)) (aB M (dM (c:=decide (fY (css.drop (pos + h)) = 1)) M ?_ (fun hc=>?_) (fun hc=>?_)) aD))
  ·exact zdE M (i:=0) (k:=1114111) (aC rfl) aG (aC rfl)
  ·have g4:s <= 1114111:=of_decide_eq_true (Bool.and_eq_true_iff.mp q).2
   rw [jC,if_pos q]
   exact iN M (by kernel_rfl!) rfl rfl (by kernel_rfl) (aB M (v:=.int s) aG aD) (of_eq (B:=0 <= (s:Int) /\ (s:Int) < 0x110000 /\ PV.str [s] = .str [s]) (by kernel_rfl) ⟨Int.natCast_nonneg s,Int.ofNat_lt.mpr (Nat.lt_succ_of_le g4),rfl⟩)
  ·rw [jC,if_neg (by rw [q]; decide)]; exact aC rfl
  ·rw [<- zcD ha]
   exact o3 M (mZ (x:=css) M aG aG (c9 (i:=(pos + h:Nat)) (j:=1) M aG (aC rfl)) (o9 lt2)) (aT M (aB M (aC rfl) (aB M (aC rfl) (aB M (aC rfl) aD)))) ⟨[[32],[10],[9]],by decide +kernel,rfl,by rw [sl1],rfl⟩
  ·rw [of_decide_eq_true hc]
   show ev _ _ _ _ (.int (((pos + h:Nat):Int) + 1))
   exact c9 (i:=(pos + h:Nat)) (j:=1) M aG (aC rfl)
  ·rw [rQ _ (of_decide_eq_false hc)]
   exact aG
 | eof g=>
  rw [g] at hle ⊢
  have hl:css.length <= pos:=by
   have:=congrArg List.length g
   rw [List.length_drop] at this; exact Nat.le_of_sub_eq_zero this
  refine aA (bS M false (bE M (bL (a:=.int (pos + 0:Nat)) (b:=.int pos) M aG aG (decide_eq_false (fun q=>Int.lt_irrefl _ q)))) (fun h=>by cases h) (fun _=>?_))
  refine aA (bS M false ((decide_eq_false (Nat.not_lt.mpr hl)) ▸ bE M (gO M aG (gB M (by kernel_rfl!) rfl rfl (by kernel_rfl) aG))) (fun h=>by cases h) (fun _=>?_))
  exact aA (aP M (.tup [.str [65533],.int pos]) (aT M (aB M (aC rfl) (aB M aG aD))) ⟨_,aW _ _ rfl,hK⟩)
 | sign s g1 g2=>
  rw [g1] at hle ⊢
  rw [cG] at g2
  have hl:=(List.getElem?_eq_some_iff.mp g2).1
  refine aA (bS M false (bE M (bL (a:=.int (pos + 0:Nat)) (b:=.int pos) M aG aG (decide_eq_false (fun q=>Int.lt_irrefl _ q)))) (fun h=>by cases h) (fun _=>?_))
  refine aA (bS M true (decide_eq_true hl ▸ bE M (gO M aG (gB M (by kernel_rfl!) rfl rfl (by kernel_rfl) aG))) (fun _=>?_) (fun h=>by cases h))
  exact aA (aP M (.tup [.str [s],.int ((pos + 1:Nat))]) (aT M (aB M (dK M rfl aG aG g2) (aB M (c9 (i:=pos) (j:=1) M aG (aC rfl)) aD))) ⟨_,aW _ _ rfl,hK⟩)
noncomputable def tJ:Fn:=fun ps K=>∃ (css:List Nat) (pos s n:Nat),ps = [.str css,.int pos] /\ css.length < 1000000 /\ Al css /\ pos <= css.length /\ EscAt (css.drop pos) s n /\ K (.tup [.str [s],.int ((pos + n:Nat))])
theorem hH:bD tJ:=fun _ _ _ h=>e4 fun _ _ _ _=>c5 (h _)
theorem pQ (hB:BsOk (bs w.params h mb)) (hmb:HMb mb):Meets prog w (bs w.params h mb) 2 (.ref 663) tJ:=by
 have hC:CtxOk prog w (bs w.params h mb) cE 1:=dX hmb (by simp [nD]) (by simp) (by simp) (fun e he=>by
  simp only [List.mem_singleton] at he; subst he
  exact ⟨.ref 620,by kernel_rfl,zQ hB hmb⟩) (by simp) (by simp)
 refine aY (k:=2) (params:=["css", "pos"]) (dv:=[]) (dp:=[]) hB hC (by kernel_rfl) (by kernel_rfl) (by kernel_rfl) rfl (fun _=>.nil) (fun S vals hl=>?_) fun ps K=>x4 fun css pos s n=>a6 fun h1 h2 h3 h5 h6 h4=>?_
 ·obtain ⟨a,b,rfl⟩:=hZ hl
  kernel_rfl
 ·subst h1
  exact ⟨rfl,zcl _ css pos s n K h2 h3 h5 h6 h4⟩
noncomputable def adv (lc:Nat × Nat):List Nat->Nat × Nat
 | []=>lc
 | c :: r=>adv (if c = 10 then (lc.1 + 1,1) else (lc.1,lc.2 + 1)) r
noncomputable def qZ (lc:Nat × Nat):PV:=.tup [.int lc.1,.int lc.2]
theorem fS (lc:Nat × Nat):∀ (x y:List Nat),adv lc (x ++ y) = adv (adv lc x) y
 | [],y=>rfl
 | c :: x,y=>fS (if c = 10 then (lc.1 + 1,1) else (lc.1,lc.2 + 1)) x y
theorem u8 (lc:Nat × Nat):∀ (y:List Nat),(adv lc y).1 = lc.1 + y.count 10
 | []=>rfl
 | c :: x=>by
  unfold adv
  rw [u8 _ x,List.count_cons]
  by_cases h:c = 10
  ·subst h; simp; omega
  ·simp [h]
noncomputable def gL (x:List Nat):Nat × Nat:=adv (1,1) x
theorem pT (c:Nat) (x:List Nat):∀ (n i:Nat) (st:Option Nat),pU c x (n + 1) i st = if x[i + n]? = some c then some (i + n) else pU c x n i st
 | 0,i,st=>rfl
 | n + 1,i,st=>by
  have h:=pT c x n (i + 1) (if x[i]? = some c then some i else st)
  rw [Nat.add_assoc,Nat.add_comm 1] at h
  exact h
theorem vX {c:Nat} {x:List Nat} {i j:Nat} (h:i <= j) (hl:j < x.length):fA c x i (j + 1) = if x[j] = c then (j:Int) else fA c x i j:=by
 unfold fA
 rw [Nat.min_eq_left (show j + 1 <= x.length from hl),Nat.min_eq_left (Nat.le_of_lt hl),Nat.succ_sub h,pT,Nat.add_sub_cancel' h,List.getElem?_eq_getElem hl]
 by_cases hc:x[j] = c
 ·rw [if_pos hc,if_pos (congrArg some hc)]; rfl
 ·rw [if_neg hc,if_neg fun q=>hc (Option.some.inj q)]
theorem zef {x:List Nat} {j:Nat} (hl:j < x.length):gL (x.take (j + 1)) = if x[j] = 10 then ((gL (x.take j)).1 + 1,1) else ((gL (x.take j)).1,(gL (x.take j)).2 + 1):=by
 rw [List.take_succ_eq_append_getElem hl,gL,fS]; rfl
theorem zeg {x:List Nat} {t p:Nat} (h:t <= p):(gL (x.take p)).1 = (gL (x.take t)).1 + ((x.take p).drop t).count 10:=by
 have:=List.take_append_drop t (x.take p)
 rw [List.take_take,Nat.min_eq_left h] at this
 rw [<- u8,gL,gL,<- fS,this]
theorem uB {css:List Nat} {t:Nat}:∀ (d:Nat),t + d <= css.length->
  (fA 10 css t (t + d) = -1 /\ (gL (css.take (t + d))).1 = (gL (css.take t)).1 /\ (gL (css.take (t + d))).2 = (gL (css.take t)).2 + d) \/
  ∃ m:Nat,fA 10 css t (t + d) = m /\ (gL (css.take (t + d))).1 = (gL (css.take t)).1 + (1 + ((css.take m).drop t).count 10) /\ m + (gL (css.take (t + d))).2 = t + d
 | 0,h=>.inl ⟨by unfold fA; rw [Nat.min_eq_left h,Nat.add_sub_cancel_left]; rfl,rfl,rfl⟩
 | d + 1,h=>by
  rw [<- Nat.add_assoc,vX (Nat.le_add_right t d) h,zef (show t + d < css.length from h)]
  by_cases hc:css[t + d] = 10
  ·rw [if_pos hc,if_pos hc]
   exact .inr ⟨t + d,rfl,by rw [Nat.add_comm 1,<- Nat.add_assoc,zeg (Nat.le_add_right t d)],rfl⟩
  ·rw [if_neg hc,if_neg hc]
   rcases uB d (Nat.le_of_lt h) with ⟨h1,h2,h3⟩ | ⟨m,h1,h2,h3⟩
   ·exact .inl ⟨h1,h2,congrArg Nat.succ h3⟩
   ·exact .inr ⟨m,h1,h2,congrArg Nat.succ h3⟩
noncomputable def bW (c:Nat):Bool:=aU c || c == 45 || lL c
theorem zbY {c:Nat} (h:cV c = true):(decide (c ∈ (Str.ofString "abcdefghijklmnopqrstuvwxyz-_0123456789ABCDEFGHIJKLMNOPQRSTUVWXYZ").cps.toList) || decide (127 < c)) = bW c:=
 eH (f:=fun c=>decide (c ∈ (Str.ofString "abcdefghijklmnopqrstuvwxyz-_0123456789ABCDEFGHIJKLMNOPQRSTUVWXYZ").cps.toList) || decide (127 < c)) (by decide +kernel) h
inductive NameAt:List Nat->List Nat->Nat->Prop
 | stop (x:List Nat):(∀ c r,x = c :: r->bW c = false /\ c ≠ 92)->NameAt x [] 0
 | sign (c:Nat) (r v:List Nat) (n:Nat):bW c = true->NameAt r v n->NameAt (c :: r) (c :: v) (n + 1)
 | esc (r v:List Nat) (s k n:Nat):[92,10].isPrefixOf (92 :: r) = false->EscAt r s k->NameAt (r.drop k) v n->NameAt (92 :: r) (s :: v) (n + (k + 1))
theorem NameAt.le {x v:List Nat} {n:Nat} (h:NameAt x v n):n <= x.length /\ v.length <= n:=by
 induction h with
 | stop=>exact ⟨Nat.zero_le _,Nat.le_refl _⟩
 | sign c r v n _ _ ih=>exact ⟨Nat.succ_le_succ ih.1,Nat.succ_le_succ ih.2⟩
 | esc r v s k n _ he _ ih=>
  have h2:=he.le
  rw [List.length_drop] at ih
  simp only [List.length_cons]
  omega
noncomputable def zg9 (x v:List Nat) (n:Nat):Prop:=
 List.casesOn (motive:=fun _=>Prop) x (v = [] /\ n = 0) fun c r=>(bW c = true /\ ∃ w k,v = c :: w /\ n = k + 1 /\ NameAt r w k) \/ ((c = 92 /\ [92,10].isPrefixOf (c :: r) = false) /\ ∃ s w k m,v = s :: w /\ n = m + (k + 1) /\ EscAt r s k /\ NameAt (r.drop k) w m) \/ ((bW c = false /\ c ≠ 92) /\ v = [] /\ n = 0)
theorem NameAt.d {x v:List Nat} {n:Nat} (h:NameAt x v n):zg9 x v n:=by
 cases h with
 | stop _ h=>
  cases x with
  | nil=>exact ⟨rfl,rfl⟩
  | cons c r=>exact .inr (.inr ⟨h c r rfl,rfl,rfl⟩)
 | sign c r w k hb h=>exact .inl ⟨hb,w,k,rfl,rfl,h⟩
 | esc r w s k m hp he h=>exact .inr (.inl ⟨⟨rfl,hp⟩,s,w,k,m,rfl,rfl,he,h⟩)
theorem NameAt.iv_name {c:Nat} {r v:List Nat} {n:Nat} (h:NameAt (c :: r) v n) (hb:bW c = true):∃ w k,v = c :: w /\ n = k + 1 /\ NameAt r w k:=
 h.d.elim (fun g=>g.2) fun g=>g.elim (fun g=>by rw [g.1.1] at hb; cases hb) fun g=>by rw [g.1.1] at hb; cases hb
theorem NameAt.iv_esc {r v:List Nat} {n:Nat} (h:NameAt (92 :: r) v n):∃ s w k m,v = s :: w /\ n = m + (k + 1) /\ EscAt r s k /\ NameAt (r.drop k) w m:=
 h.d.elim (fun g=>by cases g.1) fun g=>g.elim (fun g=>g.2) fun g=>absurd rfl g.1.2
theorem NameAt.iv_stop {c:Nat} {r v:List Nat} {n:Nat} (h:NameAt (c :: r) v n) (hb:bW c = false) (hq:(decide (c = 92) && !([92,10].isPrefixOf (c :: r))) = false):v = [] /\ n = 0:=
 h.d.elim (fun g=>by rw [hb] at g; cases g.1) fun g=>g.elim (fun g=>by rw [g.1.2,decide_eq_true g.1.1] at hq; cases hq) fun g=>g.2
theorem NameAt.iv_nil {v:List Nat} {n:Nat} (h:NameAt [] v n):v = [] /\ n = 0:=h.d
theorem oM {x:List Nat} {i k:Nat} (hi:i <= x.length) (h:k <= (x.drop i).length):i + k <= x.length:=by
 rw [List.length_drop] at h; omega
theorem uW {ch:List (List Nat)} {s n:Nat} (h:ch.length <= 2 * s) (hs:s <= n) (hn:n < 1000000):(ch.map PV.str).length < aO:=by
 rw [List.length_map]; unfold aO; omega
theorem sQ {ch:List (List Nat)} {s n:Nat} {x:PV} (h:ch.length <= 2 * s) (hs:s <= n) (hn:n < 1000000):(ch.map PV.str ++ [x]).length < aO:=by
 rw [List.length_append,List.length_map]; show ch.length + 1 < _; unfold aO; omega
theorem sP {ch:List (List Nat)} {x y:List Nat} {s e k:Nat} (h:ch.length <= 2 * s) (hs:s <= e):(ch ++ [x] ++ [y]).length <= 2 * (e + 1 + k):=by
 simp only [List.length_append,List.length_cons,List.length_nil]; omega
theorem rF (e k n:Nat):e + 1 + k + n = e + (n + (k + 1)):=by omega
theorem zeC {css v:List Nat} {p n:Nat} (h:NameAt (css.drop p) v n):v.length <= css.length:=Nat.le_trans h.le.2 (Nat.le_trans h.le.1 (by rw [List.length_drop]; exact Nat.sub_le _ _))
noncomputable def cD:Ctx:=mkC [("_consume_escape",tJ)] [] false [] [272,274,327,363,370,377,437,458,507]
theorem zaK:CtxMono cD:=bP (by simp [hH]) (by simp)
theorem kW {x:List Nat} {s p:Nat} (h1:s <= p) (h2:p < x.length):(x.drop s).take (p + 1 - s) = (x.drop s).take (p - s) ++ [x[p]]:=by
 rw [Nat.succ_sub h1,List.take_succ_eq_append_getElem (by rw [List.length_drop]; omega)]
 congr 2
 rw [List.getElem_drop]; congr 1; omega
theorem d6 (zs:List (List Nat)) (a:List Nat):(zs ++ [a]).flatten = zs.flatten ++ a:=by rw [List.flatten_append]; exact congrArg _ (List.append_nil a)
theorem w0 (p:Params) (css:List Nat) (pos:Nat) (v:List Nat) (m:Nat) (K:PV->Prop) (hx:css.length < 1000000) (ha:Al css) (hp:pos <= css.length) (hv:NameAt (css.drop pos) v m) (hK:K (.tup [.str v,.int ((pos + m:Nat))])):
  wSs cD (eA (aL (HK p) 649)) (bC (HK p) 649) (jY K) ⟨bA [("css",.str css),("pos",.int pos)] (fun _=>none),fun _=>none⟩:=by
 have M:=zaK
 have hx2:=Nat.lt_trans hx (show 1000000 < 2000000 by decide)
 apply nfe
 case h=>
  show ?nl1 = ?nr1
  refine (?f:∀ _:(?nl1 = ?nr1),(?nl1 = ?nr1)) ?d
  case d=>conv=>lhs; whnf; dsimp only [cH,erS,erE,bR,erO]
  case f=>exact fun _=>by kernel_rfl!
 refine aA (iV (by kernel_rfl) (by kernel_rfl) fun a _=>?_)
 refine aA (aE M (.int css.length) (gB M (by kernel_rfl!) rfl rfl (by kernel_rfl) aG) (by kernel_rfl) ?_)
 refine aA (aE M (.int pos) aG (by kernel_rfl) ?_)
 generalize e0:pos + m = T at hK
 have hvl:=zeC hv
 let R:St->Prop:=fun st=>∃ (s:Nat) (ch:List (List Nat)),bV [("css",.str css),("start_pos",.int s),("pos",.int T),("chunks",.ptr a)] st.ρ /\ st.σ a = some (.lst (ch.map .str)) /\ s <= T /\ T <= css.length /\ ch.length <= 2 * s /\ ch.flatten ++ (css.drop s).take (T - s) = v
 let I:Nat->St->Prop:=fun n st=>∃ (s e:Nat) (ch:List (List Nat)) (w:List Nat) (k:Nat),n = css.length - e /\ bV [("css",.str css),("length",.int css.length),("start_pos",.int s),("pos",.int e),("chunks",.ptr a)] st.ρ /\ st.σ a = some (.lst (ch.map .str)) /\ s <= e /\ e <= css.length /\ ch.length <= 2 * s /\
   NameAt (css.drop e) w k /\ e + k = T /\ ch.flatten ++ (css.drop s).take (e - s) ++ w = v
 refine b8 M R (fE M I ?_ (css.length - pos) _ ⟨pos,pos,[],v,m,rfl,by (show _ = _; first | kernel_rfl! | (rw [<- Nat.add_assoc]; kernel_rfl!) | (rw [<- Nat.add_assoc,<- Nat.add_assoc]; kernel_rfl!)),aQ _ _ _,Nat.le_refl _,hp,Nat.zero_le _,hv,e0,by rw [Nat.sub_self]; rfl⟩) ?_
 ·refine fun n st=>x5 fun s e ch w k=>a9 fun hnn h1 h6 h7 h8 h9 hn hT hw=>keepP st h1 ?_
  refine ⟨decide (e < css.length),bE M (gO M aG aG),fun hc=>?_,fun hc=>?_⟩
  ·have hc:=of_decide_eq_true hc
   have hd:css.drop e = css[e] :: css.drop (e + 1):=List.drop_eq_getElem_cons hc
   rw [hd] at hn
   refine aA (aE M (.str [css[e]]) (dK M rfl aG aG (List.getElem?_eq_getElem hc)) (by kernel_rfl) ?_)
   refine aA (bS M (bW css[e]) (zbY (ha.get hc) ▸ bE M (i8 M (iD M aG) fun _=>eB (m7 M (by kernel_rfl!) rfl rfl (by kernel_rfl) aG))) (fun hb=>?_) (fun hb=>?_))
   ·refine x2 (fun w' k'=>a3 fun hv' hk' hn'=>?_) (hn.iv_name hb)
    refine aA (dP M (.int e) (.int 1) (by kernel_rfl!) (aC rfl) (by kernel_rfl) (of_eq cF ⟨css.length - (e + 1),hnn ▸ Nat.sub_lt_sub_left hc (Nat.lt_succ_self e),s,e + 1,ch,w',k',rfl,by (show _ = _; first | kernel_rfl! | (rw [<- Nat.add_assoc]; kernel_rfl!) | (rw [<- Nat.add_assoc,<- Nat.add_assoc]; kernel_rfl!)),h6,Nat.le_succ_of_le h7,hc,h9,hn',by rw [<- hT,hk',Nat.add_assoc,Nat.add_comm 1],?_⟩))
    rw [kW h7 hc,<- hw,hv']
    simp only [List.append_assoc]; rfl
   ·refine aA (bS M (decide (css[e] = 92) && !([92,10].isPrefixOf (css.drop e))) (dU M (bE M (d7 M aG (by kernel_rfl))) fun _=>dZ (jW M (bE M (jN (q:=Str.ofString "\\\n") M aG aG h8 hx2 rfl)))) (fun hq=>?_) (fun hq=>?_))
    ·rw [hd] at hq
     rw [of_decide_eq_true (Bool.and_eq_true_iff.mp hq).1] at hn
     refine x4 (fun z w' k' n'=>a4 fun hv' hk' he hn'=>?_) hn.iv_esc
     rw [List.drop_drop] at hn'
     have le:e + 1 + k' <= css.length:=oM hc he.le
     refine aA (bO M (.str ((css.drop s).take (e - s))) (by kernel_rfl) (by kernel_rfl!) h6 (lQ M aG aG aG h7 (Nat.lt_of_le_of_lt h8 hx2)) rfl (uW h9 (Nat.le_trans h7 h8) hx) ?_)
     refine aA (bZ M (.str [z]) (.int ((e + 1 + k':Nat))) (bX (F:=tJ) M (by kernel_rfl!) rfl (aB M (v:=.str css) aG (aB M (v:=.int (e + 1:Nat)) (c9 (i:=e) (j:=1) M aG (aC rfl)) aD)) ⟨css,e + 1,z,k',rfl,hx,ha,hc,he,.inl rfl,rfl⟩) (by kernel_rfl) (by kernel_rfl) ?_)
     refine aA (bO M (.str [z]) (by kernel_rfl) (by kernel_rfl!) (aQ _ _ _) aG rfl (sQ h9 (Nat.le_trans h7 h8) hx) ?_)
     refine aA (aE M (.int ((e + 1 + k':Nat))) aG (by kernel_rfl) ?_)
     refine ⟨css.length - (e + 1 + k'),hnn ▸ Nat.sub_lt_sub_left hc (Nat.lt_of_lt_of_le (Nat.lt_succ_self e) (Nat.le_add_right _ _)),e + 1 + k',e + 1 + k',ch ++ [(css.drop s).take (e - s)] ++ [[z]],w',n',rfl,by (show _ = _; first | kernel_rfl! | (rw [<- Nat.add_assoc]; kernel_rfl!) | (rw [<- Nat.add_assoc,<- Nat.add_assoc]; kernel_rfl!)),?_,Nat.le_refl _,le,sP h9 h7,hn',by rw [<- hT,hk']; exact rF _ _ _,?_⟩
     ·dsimp only
      rw [q9,aQ,List.map_append,List.map_append]; rfl
     ·rw [d6,d6,Nat.sub_self,List.take_zero,List.append_nil,<- hw,hv']
      simp only [List.append_assoc]; rfl
    ·have hz:=hn.iv_stop hb (hd ▸ hq)
     rw [hz.1,List.append_nil] at hw
     rw [hz.2] at hT
     exact aA (rN ⟨s,ch,by rw [<- hT]; (show _ = _; first | kernel_rfl! | (rw [<- Nat.add_assoc]; kernel_rfl!) | (rw [<- Nat.add_assoc,<- Nat.add_assoc]; kernel_rfl!)),h6,hT ▸ h7,hT ▸ h8,h9,hT ▸ hw⟩)
  ·rw [List.drop_of_length_le (Nat.le_of_not_lt (of_decide_eq_false hc))] at hn
   have hz:=hn.iv_nil
   rw [hz.1,List.append_nil] at hw
   rw [hz.2] at hT
   exact ⟨s,ch,by rw [<- hT]; (show _ = _; first | kernel_rfl! | (rw [<- Nat.add_assoc]; kernel_rfl!) | (rw [<- Nat.add_assoc,<- Nat.add_assoc]; kernel_rfl!)),h6,hT ▸ h7,hT ▸ h8,h9,hT ▸ hw⟩
 ·refine fun st=>x2 fun s ch=>a6 fun h1 h5 h6 h7 h9 hw=>keepP st h1 ?_
  refine aA (bO M (.str ((css.drop s).take (T - s))) (by kernel_rfl) (by kernel_rfl!) h5 (lQ M aG aG aG h6 (Nat.lt_of_le_of_lt h7 hx2)) rfl (uW h9 (Nat.le_trans h6 h7) hx) ?_)
  refine aA (aP M (.tup [.str v,.int T]) (aT M (aB M (oA (a:=a) (ch ++ [(css.drop s).take (T - s)]) (by kernel_rfl) (by kernel_rfl!) (by dsimp only; rw [aQ,List.map_append]; rfl) (by rw [d6]; exact hw) (Nat.le_trans hvl (Nat.le_trans (Nat.le_of_lt hx) (by decide)))) (aB M aG aD))) ⟨_,aW _ _ rfl,hK⟩)
noncomputable def zgy:Fn:=fun ps K=>∃ (css:List Nat) (pos:Nat) (v:List Nat) (m:Nat),ps = [.str css,.int pos] /\ css.length < 1000000 /\ Al css /\ pos <= css.length /\ NameAt (css.drop pos) v m /\ K (.tup [.str v,.int ((pos + m:Nat))])
theorem zaY:bD zgy:=fun _ _ _ h=>e4 fun _ _ _ _=>c5 (h _)
theorem zga (hB:BsOk (bs w.params h mb)) (hmb:HMb mb):CtxOk prog w (bs w.params h mb) cD 2:=
 dX hmb (by simp [hH]) (by simp) (by simp) (fun e he=>by
  simp only [List.mem_singleton] at he; subst he
  exact ⟨.ref 663,by kernel_rfl,pQ hB hmb⟩) (by simp) (by simp)
theorem zb2 (hB:BsOk (bs w.params h mb)) (hmb:HMb mb):Meets prog w (bs w.params h mb) 3 (.ref 649) zgy:=by
 refine aY (k:=2) (params:=["css", "pos"]) (dv:=[]) (dp:=[]) hB (zga hB hmb) (by kernel_rfl) (by kernel_rfl) (by kernel_rfl) rfl (fun _=>.nil) (fun S vals hl=>?_) fun ps K=>x4 fun css pos v m=>a6 fun h1 h2 h3 h5 h6 h4=>?_
 ·obtain ⟨a,b,rfl⟩:=hZ hl
  kernel_rfl
 ·subst h1
  exact ⟨rfl,w0 _ css pos v m K h2 h3 h5 h6 h4⟩
inductive StrAt (q:Nat):List Nat->List Nat->Nat->Prop
 | close (r:List Nat):StrAt q (q :: r) [] 1
 | cont (r v:List Nat) (n:Nat):StrAt q r v n->StrAt q (92 :: 10 :: r) v (n + 2)
 | esc (c:Nat) (r v:List Nat) (s k n:Nat):c ≠ 10->EscAt (c :: r) s k->StrAt q ((c :: r).drop k) v n->StrAt q (92 :: c :: r) (s :: v) (n + (k + 1))
 | plain (c:Nat) (r v:List Nat) (n:Nat):c ≠ q->c ≠ 92->c ≠ 10->StrAt q r v n->StrAt q (c :: r) (c :: v) (n + 1)
noncomputable def zgm (q:Nat) (x v:List Nat) (n:Nat):Prop:=
 List.casesOn (motive:=fun _=>Prop) x False fun c r=>
  if c = q then v = [] /\ n = 1
  else if c = 92 then ∃ d t,r = d :: t /\ ((d = 10 /\ ∃ m,n = m + 2 /\ StrAt q t v m) \/ (d ≠ 10 /\ ∃ s w k m,v = s :: w /\ n = m + (k + 1) /\ EscAt r s k /\ StrAt q (r.drop k) w m))
  else c ≠ 10 /\ ∃ w m,v = c :: w /\ n = m + 1 /\ StrAt q r w m
theorem StrAt.d {q:Nat} {x v:List Nat} {n:Nat} (h:StrAt q x v n) (hq:q ≠ 92):zgm q x v n:=by
 cases h with
 | close r=>exact (if_pos rfl:zgm q (q :: r) [] 1 = _).mpr ⟨rfl,rfl⟩
 | cont r w m h=>exact (if_neg (Ne.symm hq):zgm q (92 :: 10 :: r) v _ = _).mpr ((if_pos rfl:(if (92:Nat) = 92 then _ else _) = _).mpr ⟨10,r,rfl,.inl ⟨rfl,m,rfl,h⟩⟩)
 | esc c r w s k m h1 h2 h=>exact (if_neg (Ne.symm hq):zgm q (92 :: c :: r) (s :: w) _ = _).mpr ((if_pos rfl:(if (92:Nat) = 92 then _ else _) = _).mpr ⟨c,r,rfl,.inr ⟨h1,s,w,k,m,rfl,rfl,h2,h⟩⟩)
 | plain c r w m h1 h2 h3 h=>exact (if_neg h1:zgm q (c :: r) (c :: w) _ = _).mpr ((if_neg h2:(if c = 92 then _ else _) = _).mpr ⟨h3,w,m,rfl,rfl,h⟩)
theorem StrAt.le {q:Nat} {x v:List Nat} {n:Nat} (h:StrAt q x v n):n <= x.length /\ v.length <= n:=by
 induction h with
 | close=>exact ⟨Nat.succ_le_succ (Nat.zero_le _),Nat.zero_le _⟩
 | cont r v n _ ih=>exact ⟨Nat.succ_le_succ (Nat.succ_le_succ ih.1),Nat.le_trans ih.2 (Nat.le_add_right _ 2)⟩
 | plain c r v n _ _ _ _ ih=>exact ⟨Nat.succ_le_succ ih.1,Nat.succ_le_succ ih.2⟩
 | esc c r v s k n _ he _ ih=>
  have h2:=he.le
  rw [List.length_drop] at ih
  simp only [List.length_cons] at *
  omega
theorem StrAt.len {q:Nat} {css v:List Nat} {p n:Nat} (h:StrAt q (css.drop p) v n):v.length <= css.length:=Nat.le_trans h.le.2 (Nat.le_trans h.le.1 (by rw [List.length_drop]; exact Nat.sub_le _ _))
theorem pF (c:Nat):decide ([c] ∈ ([[34],[39]]:List (List Nat))) = (decide (c = 34) || decide (c = 39)):=by
 rw [<- Bool.decide_or]
 exact decide_eq_decide.mpr ⟨fun h=>by simpa using h,fun h=>by simpa using h⟩
theorem zao {C:Ctx} {κ:Kn} {o:Expr} {p2 p3 p4 p:Pos} {k1 k2 k3:Nat} {st:St} {c:Nat} (M:CtxMono C) (h:ev C κ o st (.str [c])):
  ev C κ (.Compare o [.In] [.Tuple [.Constant (.str (Str.ofString "\"")) k1 p2,.Constant (.str (Str.ofString "'")) k2 p3] k3 p4] p) st (.bool (decide (c = 34) || decide (c = 39))):=
 bL (a:=.str [c]) M h (aT M (aB M (aC rfl) (aB M (aC rfl) aD))) ⟨[[34],[39]],by decide +kernel,pF c⟩
theorem zbL {C:Ctx} {κ:Kn} {t:Expr} {m:Option Expr} {p:Pos} {Q:Fl->St->Prop} {st:St} (M:CtxMono C) (h:tv C κ t st true) (k:Q .next st):wS C κ (.Assert t m p) Q st:=
 tQ (K:=fun c st1=>c = true /\ Q .next st1) M h ⟨rfl,k⟩
theorem zfZ {C:Ctx} {κ:Kn} {l r:Expr} {p':Pos} {st:St} {c d:Nat} (M:CtxMono C) (h:ev C κ l st (.str [c])) (h':ev C κ r st (.str [d])):ev C κ (.Compare l [.Eq] [r] p') st (.bool (decide (c = d))):=
 bL M h h' (decide_eq_decide.mpr ⟨fun h=>(List.cons.inj h).1,fun h=>congrArg (fun n=>[n]) h⟩)
theorem zgB (e n:Nat):e + 1 + 1 + n = e + (n + 2):=by omega
theorem zeM {ch:List (List Nat)} {x:List Nat} {s e:Nat} (h:ch.length <= 2 * s) (hs:s <= e):(ch ++ [x]).length <= 2 * (e + 1 + 1):=by
 simp only [List.length_append,List.length_cons,List.length_nil]; omega
theorem zbO (p:Params) (css:List Nat) (pos q:Nat) (V:List Nat) (n:Nat) (K:PV->Prop) (hx:css.length < 1000000) (ha:Al css) (hg:css[pos]? = some q) (hq:q = 34 \/ q = 39) (hv:StrAt q (css.drop (pos + 1)) V n) (hK:K (.tup [.str V,.int ((pos + 1 + n:Nat)),.none])):
  wSs cD (eA (aL (HK p) 656)) (bC (HK p) 656) (jY K) ⟨bA [("css",.str css),("pos",.int pos)] (fun _=>none),fun _=>none⟩:=by
 have M:=zaK
 have hx2:=Nat.lt_trans hx (show 1000000 < 2000000 by decide)
 have q92:q ≠ 92:=by rcases hq with rfl | rfl <;> decide
 have q10:q ≠ 10:=by rcases hq with rfl | rfl <;> decide
 have hqt:(decide (q = 34) || decide (q = 39)) = true:=by rcases hq with rfl | rfl <;> rfl
 apply nfe
 case h=>
  show ?nl1 = ?nr1
  refine (?f:∀ _:(?nl1 = ?nr1),(?nl1 = ?nr1)) ?d
  case d=>conv=>lhs; whnf; dsimp only [cH,erS,erE,bR,erO]
  case f=>exact fun _=>by kernel_rfl!
 refine aA (aE M .none (aC rfl) (by kernel_rfl) ?_)
 refine aA (aE M (.str [q]) (dK M rfl aG aG hg) (by kernel_rfl) ?_)
 refine aA (zbL M (hqt ▸ bE M (zao M aG)) ?_)
 refine aA (dP M (.int pos) (.int 1) (by kernel_rfl!) (aC rfl) (by kernel_rfl) (of_eq cF ?_))
 refine aA (iV (by kernel_rfl) (by kernel_rfl) fun a _=>?_)
 refine aA (aE M (.int css.length) (gB M (by kernel_rfl!) rfl rfl (by kernel_rfl) aG) (by kernel_rfl) ?_)
 refine aA (aE M (.int (pos + 1:Nat)) aG (by kernel_rfl) ?_)
 have hp:pos + 1 <= css.length:=fD hg
 have hT:pos + 1 + n <= css.length:=gK (n:=pos + 1) hp hv.le.1
 have hVl:=hv.len
 generalize hTe:pos + 1 + n = T at hK hT
 let R:St->Prop:=fun st=>∃ ch:List (List Nat),bV [("pos",.int T),("chunks",.ptr a),("error",.none)] st.ρ /\ st.σ a = some (.lst (ch.map .str)) /\ ch.flatten = V
 let I:Nat->St->Prop:=fun m st=>∃ (s e:Nat) (ch:List (List Nat)) (w:List Nat) (k:Nat),m = css.length - e /\ bV [("css",.str css),("length",.int css.length),("start_pos",.int s),("pos",.int e),("chunks",.ptr a),("quote",.str [q]),("error",.none)] st.ρ /\ st.σ a = some (.lst (ch.map .str)) /\ s <= e /\ e <= css.length /\ ch.length <= 2 * s /\
  StrAt q (css.drop e) w k /\ e + k = T /\ ch.flatten ++ (css.drop s).take (e - s) ++ w = V
 refine b8 M R (fE M I ?_ (css.length - (pos + 1)) _ ⟨pos + 1,pos + 1,[],V,n,rfl,by (show _ = _; first | kernel_rfl! | (rw [<- Nat.add_assoc]; kernel_rfl!) | (rw [<- Nat.add_assoc,<- Nat.add_assoc]; kernel_rfl!)),aQ _ _ _,Nat.le_refl _,hp,Nat.zero_le _,hv,hTe,by rw [Nat.sub_self]; rfl⟩) ?_
 ·refine fun m st=>x5 fun s e ch w k=>a9 fun hnn h1 h6 h7 h8 h9 hn hT' hw=>keepP st h1 ?_
  clear h1
  have hn:=hn.d q92
  have hc:e < css.length:=by
   refine Nat.lt_of_le_of_ne h8 fun q=>?_
   rw [List.drop_of_length_le (Nat.le_of_eq q.symm)] at hn; exact hn
  have cl:=uW h9 (Nat.le_trans h7 h8) hx
  refine ⟨true,bE M (decide_eq_true hc ▸ gO M aG aG),fun _=>?_,fun h=>by cases h⟩
  have hd:css.drop e = css[e] :: css.drop (e + 1):=List.drop_eq_getElem_cons hc
  rw [hd] at hn
  have hn:if css[e] = q then w = [] /\ k = 1 else if css[e] = 92 then ∃ d t,css.drop (e + 1) = d :: t /\ ((d = 10 /\ ∃ m,k = m + 2 /\ StrAt q t w m) \/ (d ≠ 10 /\ ∃ s w' k' m,w = s :: w' /\ k = m + (k' + 1) /\ EscAt (css.drop (e + 1)) s k' /\ StrAt q ((css.drop (e + 1)).drop k') w' m))
   else css[e] ≠ 10 /\ ∃ w' m,w = css[e] :: w' /\ k = m + 1 /\ StrAt q (css.drop (e + 1)) w' m:=hn
  refine aA (aE M (.str [css[e]]) (dK M rfl aG aG (List.getElem?_eq_getElem hc)) (by kernel_rfl) ?_)
  refine aA (bS M (decide (css[e] = q)) (bE M (zfZ M aG aG)) (fun hb=>?_) (fun hb=>?_))
  ·rw [if_pos (of_decide_eq_true hb)] at hn
   rw [hn.1,List.append_nil] at hw
   rw [hn.2] at hT'
   refine aA (bO M (.str ((css.drop s).take (e - s))) (by kernel_rfl) (by kernel_rfl!) h6 (lQ M aG aG aG h7 (Nat.lt_of_le_of_lt h8 hx2)) rfl cl ?_)
   refine aA (dP M (.int e) (.int 1) (by kernel_rfl!) (aC rfl) (by kernel_rfl) (of_eq cF ?_))
   exact aA (rN ⟨ch ++ [(css.drop s).take (e - s)],by rw [<- hT']; (show _ = _; first | kernel_rfl! | (rw [<- Nat.add_assoc]; kernel_rfl!) | (rw [<- Nat.add_assoc,<- Nat.add_assoc]; kernel_rfl!)),by dsimp only; rw [aQ,List.map_append]; rfl,by rw [d6]; exact hw⟩)
  rw [if_neg (of_decide_eq_false hb)] at hn
  refine aA (bS M (decide (css[e] = 92)) (bE M (d7 M aG (by kernel_rfl))) (fun h4=>?_) (fun h4=>?_))
  ·rw [if_pos (of_decide_eq_true h4)] at hn
   refine aA (bO M (.str ((css.drop s).take (e - s))) (by kernel_rfl) (by kernel_rfl!) h6 (lQ M aG aG aG h7 (Nat.lt_of_le_of_lt h8 hx2)) rfl cl ?_)
   refine aA (dP M (.int e) (.int 1) (by kernel_rfl!) (aC rfl) (by kernel_rfl) (of_eq cF ?_))
   refine x2 (fun d t=>a2 fun hr hn=>?_) hn
   have hl1:e + 1 < css.length:=by
    have:=congrArg List.length hr
    rw [List.length_drop,List.length_cons] at this; omega
   have hg1:css[e + 1]? = some d:=by rw [<- cG,hr]; rfl
   have ht:t = css.drop (e + 2):=by rw [<- List.drop_drop (i:=1) (j:=e + 1),hr]; rfl
   refine aA (bS M true (decide_eq_true hl1 ▸ bE M (gO M aG aG)) (fun _=>?_) (fun h=>by cases h))
   refine hn.elim (a2 fun h10=>x1 fun m'=>a2 fun hk hs=>?_) (a2 fun h10=>x4 fun z w' k' m'=>a4 fun hv' hk' he hs=>?_)
   ·rw [ht] at hs
    refine aA (bS M true (decide_eq_true h10 ▸ bE M (d7 M (dK (n:=e + 1) M rfl aG aG hg1) (by kernel_rfl))) (fun _=>?_) (fun h=>by cases h))
    refine aA (dP M (.int (e + 1:Nat)) (.int 1) (by kernel_rfl!) (aC rfl) (by kernel_rfl) (of_eq cF ?_))
    (repeat (first | refine bQ ?_ | dsimp only [c7]))
    refine aA (aE M (.int (e + 1 + 1:Nat)) aG (by kernel_rfl) ?_)
    refine ⟨css.length - (e + 1 + 1),hnn ▸ Nat.sub_lt_sub_left hc (Nat.lt_succ_of_lt (Nat.lt_succ_self e)),e + 1 + 1,e + 1 + 1,ch ++ [(css.drop s).take (e - s)],w,m',rfl,by (show _ = _; first | kernel_rfl! | (rw [<- Nat.add_assoc]; kernel_rfl!) | (rw [<- Nat.add_assoc,<- Nat.add_assoc]; kernel_rfl!)),by dsimp only; rw [aQ,List.map_append]; rfl,Nat.le_refl _,hl1,zeM h9 h7,hs,by rw [<- hT',hk]; exact zgB e m',?_⟩
    rw [d6,Nat.sub_self,List.take_zero,List.append_nil]; exact hw
   ·rw [List.drop_drop] at hs
    have le:e + 1 + k' <= css.length:=oM hc he.le
    refine aA (bS M false (decide_eq_false h10 ▸ bE M (d7 M (dK (n:=e + 1) M rfl aG aG hg1) (by kernel_rfl))) (fun h=>by cases h) (fun _=>?_))
    refine aA (bZ M (.str [z]) (.int ((e + 1 + k':Nat))) (bX (F:=tJ) M (by kernel_rfl!) rfl (aB M (v:=.str css) aG (aB M (v:=.int (e + 1:Nat)) aG aD)) ⟨css,e + 1,z,k',rfl,hx,ha,hc,he,.inl rfl,rfl⟩) (by kernel_rfl) (by kernel_rfl) ?_)
    refine aA (bO M (.str [z]) (by kernel_rfl) (by kernel_rfl!) (aQ _ _ _) aG rfl (sQ h9 (Nat.le_trans h7 h8) hx) ?_)
    (repeat (first | refine bQ ?_ | dsimp only [c7]))
    refine aA (aE M (.int ((e + 1 + k':Nat))) aG (by kernel_rfl) ?_)
    refine ⟨css.length - (e + 1 + k'),hnn ▸ Nat.sub_lt_sub_left hc (Nat.lt_of_lt_of_le (Nat.lt_succ_self e) (Nat.le_add_right _ _)),e + 1 + k',e + 1 + k',ch ++ [(css.drop s).take (e - s)] ++ [[z]],w',m',rfl,by (show _ = _; first | kernel_rfl! | (rw [<- Nat.add_assoc]; kernel_rfl!) | (rw [<- Nat.add_assoc,<- Nat.add_assoc]; kernel_rfl!)),?_,Nat.le_refl _,le,sP h9 h7,hs,by rw [<- hT',hk']; exact rF _ _ _,?_⟩
    ·dsimp only
     rw [q9,aQ,List.map_append,List.map_append]; rfl
    ·rw [d6,d6,Nat.sub_self,List.take_zero,List.append_nil,<- hw,hv']
     simp only [List.append_assoc]; rfl
  ·rw [if_neg (of_decide_eq_false h4)] at hn
   obtain ⟨h10,w',k',hv',hk',hs⟩:=hn
   refine aA (bS M false (decide_eq_false h10 ▸ bE M (d7 M aG (by kernel_rfl))) (fun h=>by cases h) (fun _=>?_))
   refine aA (dP M (.int e) (.int 1) (by kernel_rfl!) (aC rfl) (by kernel_rfl) (of_eq cF ⟨css.length - (e + 1),hnn ▸ Nat.sub_lt_sub_left hc (Nat.lt_succ_self e),s,e + 1,ch,w',k',rfl,by (show _ = _; first | kernel_rfl! | (rw [<- Nat.add_assoc]; kernel_rfl!) | (rw [<- Nat.add_assoc,<- Nat.add_assoc]; kernel_rfl!)),h6,Nat.le_succ_of_le h7,hc,h9,hs,by rw [<- hT',hk',Nat.add_assoc,Nat.add_comm 1],?_⟩))
   rw [kW h7 hc,<- hw,hv']
   simp only [List.append_assoc]; rfl
 ·refine fun st=>x1 fun ch=>a3 fun h1 h5 hw=>keepP st h1 ?_
  exact aA (aP M (.tup [.str V,.int T,.none]) (aT M (aB M (oA (a:=a) ch (by kernel_rfl) (by kernel_rfl!) h5 hw (Nat.le_trans hVl (Nat.le_trans (Nat.le_of_lt hx) (by decide)))) (aB M aG (aB M aG aD)))) ⟨_,aW _ _ rfl,hK⟩)
noncomputable def zcP:Fn:=fun ps K=>∃ (css:List Nat) (pos q:Nat) (v:List Nat) (n:Nat),ps = [.str css,.int pos] /\ css.length < 1000000 /\ Al css /\ css[pos]? = some q /\ (q = 34 \/ q = 39) /\ StrAt q (css.drop (pos + 1)) v n /\ K (.tup [.str v,.int ((pos + 1 + n:Nat)),.none])
theorem xE:bD zcP:=fun _ _ _ h=>e5 fun _ _ _ _ _=>c6 (h _)
theorem zO (hB:BsOk (bs w.params h mb)) (hmb:HMb mb):Meets prog w (bs w.params h mb) 3 (.ref 656) zcP:=by
 refine aY (k:=2) (params:=["css", "pos"]) (dv:=[]) (dp:=[]) hB (zga hB hmb) (by kernel_rfl) (by kernel_rfl) (by kernel_rfl) rfl (fun _=>.nil) (fun S vals hl=>?_) fun ps K=>x5 fun css pos q v n=>a7 fun h1 h2 h3 h5 h6 h7 h4=>?_
 ·obtain ⟨a,b,rfl⟩:=hZ hl
  kernel_rfl
 ·subst h1
  exact ⟨rfl,zbO _ css pos q v n K h2 h3 h5 h6 h7 h4⟩
noncomputable def cR:Ctx:=mkC [] [] false [] []
theorem zeP:CtxMono cR:=bP (by simp) (by simp)
theorem jV:bD l8:=fun _ _ _ h=>e1 fun _=>c2 (h _)
theorem pP (hB:BsOk (bs w.params h mb)) (hmb:HMb mb):Meets prog w (bs w.params h mb) 1 (.ref 26) l8:=by
 obtain ⟨fd,h1,h2,h3⟩:=j6 (K:=HK w.params) (a:=26) (by kernel_rfl)
 have hl:fd.scope.names.lookup (Str.ofString "text") = some NameKind.local:=by rw [h3]; kernel_rfl
 conv at h1=>arg 4; whnf
 refine zT (n:=0) (v:=Str.ofString "text") (c:=Str.ofString "c") hB h1 rfl (by decide +kernel) (by decide +kernel) rfl (by decide +kernel) (by kernel_rfl) (fun env C hE=>?_) hl (by decide +kernel) (fun s vals X hl=>?_)
 ·exact zed rfl (by kernel_rfl) (by decide +kernel) (by kernel_rfl!) (by kernel_rfl!) (show h.Ns env.globals _ by rw [hE.glob]; exact hB.g) (show h.Ns env.builtins _ by rw [hE.bi]; exact hB.b) (show mgK w.params _ = _ by kernel_rfl) ((hmb _ (by rw [Ne,sEq]; decide)).trans (by kernel_rfl)) (show mgK w.params _ = _ by kernel_rfl) ((hmb _ (by rw [Ne,sEq]; decide)).trans (by kernel_rfl))
 ·refine kp_binds X fun S=>?_
  obtain ⟨a,rfl⟩:=t7 hl
  have:(uN (HK w.params) 26).map (fun fd=>peek (HK w.params) S (bindArgs fd ⟨[a],[]⟩)) = some (some ((["text"].map Str.ofString).zip [a])):=by kernel_rfl
  rw [h2] at this
  show peek (HK w.params) S _ = _
  simpa using this
theorem fL {n k m:Nat} {C:Ctx} {Ca fI:Addr} {params:List String} {F:Fn} (hB:BsOk (bs w.params h mb)) (hC:CtxOk prog w (bs w.params h mb) C n)
  (hm:makesIn (HK w.params) Ca = true) (hin:findIn (HK w.params) (.ref Ca) "__init__" = some (some (.ref fI))) (hty:typeIn (HK w.params) (.ref fI) = some (.type "function")) (hkp:keepIn (HK w.params) (.ref Ca) = true)
  (hf:qC (HK w.params) fI = true) (hok:pH (bC (HK w.params) fI) = true)
  (hpar:(params.all fun x=>(aL (HK w.params) fI).lookup (Str.ofString x) == some .local || (aL (HK w.params) fI).lookup (Str.ofString x) == some .cell) = true)
  (hlen:params.length = k + 1)
  (hbind:∀ S vals,vals.length = k + 1->(uN (HK w.params) fI).map (fun fd=>peek (HK w.params) S (bindArgs fd ⟨vals,[]⟩)) = some (some ((params.map Str.ofString).zip vals)))
  (hF:∀ ps K,F ps K->ps.length = k /\ ∀ x:Nat,wSs C (eA (aL (HK w.params) fI)) (bC (HK w.params) fI) (sN fun p σ'=>p = .none /\ ∃ fs:List PV,σ' x = some (.ins Ca (fs.map some)) /\ K (.inst Ca fs))
   ⟨bA ((params.map Str.ofString).zip (.ptr x :: ps)) fun _=>none,aZ (fun _=>none) x (.ins Ca (List.replicate m none))⟩):
  Meets prog w (bs w.params h mb) (n + 2) (.ref Ca) F:=by
 obtain ⟨fd,h1,h2,h3⟩:=j6 hf
 have hk:KeepsAt prog w h (.ref Ca):=by
  obtain ⟨q,_,e⟩:=looks_keep (M:=model prog w) hkp (show (HK w.params).In h from hB.kin)
  exact ⟨q,e⟩
 refine (zaF (C:=C) (params:=params.map Str.ofString) (k:=k) (m:=m) hB hC hm hin hty hk h1 hok (fun x hx=>?_) (by simpa using hlen) (fun s vals X hl=>?_)).weaken fun ps K hp=>?_
 ·obtain ⟨y,hy,rfl⟩:=List.mem_map.mp hx
  have:=List.all_eq_true.mp hpar y hy
  rw [h3]
  simpa using this
 ·refine kp_binds X fun S=>?_
  have:=hbind S vals hl
  rw [h2] at this
  show peek (HK w.params) S _ = _
  simpa using this
 ·rw [h3]; exact hF ps K hp
theorem zA {C:Ctx} (hB:BsOk (bs w.params h mb)) (hmb:HMb mb) (hs:C.slot = cR.slot):u9 prog w (bs w.params h mb) C 1:=by
 have hC:CtxOk prog w (bs w.params h mb) cR 0:=dX hmb (by simp) (by simp) (by simp) (by simp) (by simp) (by simp)
 obtain ⟨fd,h1,h2,h3⟩:=j6 (K:=HK w.params) (a:=56) (by kernel_rfl)
 refine zej (Cn:=74) (f:=56) (mc:=.type "type") (params:=["self", "source_line", "source_column"].map Str.ofString) hB hC (by kernel_rfl) (by kernel_rfl) (by kernel_rfl) (by kernel_rfl) h1 (by kernel_rfl) (fun x hx=>?_) rfl (fun s vals X hl=>?_) fun ad pa pb st K hK=>?_
 ·rw [h3]
  have:∀ x ∈ ["self", "source_line", "source_column"].map Str.ofString,(aL (HK w.params) 56).lookup x = some .local:=by
   intro x hx
   simp only [List.map_cons,List.map_nil,List.mem_cons,List.not_mem_nil,or_false] at hx
   rcases hx with rfl | rfl | rfl <;> kernel_rfl
  exact .inl (this x hx)
 ·refine kp_binds X fun S=>?_
  obtain ⟨a,b,c,rfl⟩:=iU hl
  have:(uN (HK w.params) 56).map (fun fd=>peek (HK w.params) S (bindArgs fd ⟨[a,b,c],[]⟩)) = some (some ((["self", "source_line", "source_column"].map Str.ofString).zip [a,b,c])):=by kernel_rfl
  rw [h2] at this
  show peek (HK w.params) S _ = _
  simpa using this
 ·rw [h3]
  obtain ⟨c,fs,i,g1,g2,g3,c',fs',j,g4,g5,g6,g7⟩:=hK
  rw [hs] at g2 g5
  apply nfe
  case h=>
   show ?nl1 = ?nr1
   refine (?f:∀ _:(?nl1 = ?nr1),(?nl1 = ?nr1)) ?d
   case d=>conv=>lhs; whnf; dsimp only [cH,erS,erE,bR,erO]
   case f=>exact fun _=>by kernel_rfl!
  conv in (aL _ _)=>whnf
  have M:=zeP
  refine aA (eQ M pa ?_ (by kernel_rfl!) g1 g2 g3 ?_)
  ·exact aJ (by kernel_rfl!) (by kernel_rfl!)
  dsimp only [c7]
  refine aA (eQ M pb ?_ (by kernel_rfl!) g4 g5 g6 ?_)
  ·exact aJ (by kernel_rfl!) (by kernel_rfl!)
  dsimp only [c7]
  refine bQ ⟨rfl,g7⟩
noncomputable def cT:Ctx:=mkC [("ascii_lower",l8)] [] true [] []
theorem fM:CtxMono cT:=bP (by simp [jV]) (by simp)
theorem mH (hB:BsOk (bs w.params h mb)) (hmb:HMb mb):CtxOk prog w (bs w.params h mb) cT 1:=
 dX hmb (by simp [jV]) (by simp) (by simp) (fun e he=>by
  simp only [List.mem_singleton] at he; subst he
  exact ⟨.ref 26,by kernel_rfl,pP hB hmb⟩) (by simp) (fun _=>zA hB hmb rfl)
noncomputable def zce:PV->Option Bool
 | .none=>some false
 | .int _=>some true
 | _=>none
theorem zez {C:Ctx} {κ:Kn} {e:Expr} {p p2:Pos} {k:Nat} {st:St} {v:PV} {b:Bool} (M:CtxMono C) (hb:zce v = some b) (h:ev C κ e st v):ev C κ (.Compare e [.IsNot] [.Constant .none k p] p2) st (.bool b):=by
 refine bL M h (aC rfl) ?_
 cases v <;> cases hb <;> rfl
noncomputable def vF:Fn:=fun ps K=>∃ (vl:PV) (vk:PV) (vv:PV),ps = [vl,vk,vv] /\ K (.inst 134 [vv,vk,vl])
theorem tF:bD vF:=fun _ _ _ h=>e3 fun _ _ _=>c1 (h _)
theorem x9 (p:Params) (vl:PV) (vk:PV) (vv:PV) (K:PV->Prop) (x:Nat) (hK:K (.inst 134 [vv,vk,vl])):
  wSs cT (eA (aL (HK p) 123)) (bC (HK p) 123) (sN fun p σ'=>p = .none /\ ∃ fs:List PV,σ' x = some (.ins 134 (fs.map some)) /\ K (.inst 134 fs))
   ⟨bA ((["self", "line", "column", "value"].map Str.ofString).zip (.ptr x :: [vl,vk,vv])) fun _=>none,aZ (fun _=>none) x (.ins 134 (List.replicate 3 none))⟩:=by
 have M:=fM
 apply nfe
 case h=>
  show ?nl1 = ?nr1
  refine (?f:∀ _:(?nl1 = ?nr1),(?nl1 = ?nr1)) ?d
  case d=>conv=>lhs; whnf; dsimp only [cH,erS,erE,bR,erO]
  case f=>exact fun _=>by kernel_rfl!
 conv in (aL _ _)=>whnf
 refine aA (iC (a:=x) (c:=134) (fs:=List.replicate 3 none) (i:=2) (j:=1) M vl vk rfl (by decide +kernel) ?_ ?_ ?_ (by dsimp only; exact aQ _ _ _) (by decide +kernel) (by simp) (by decide +kernel) (by simp) ?_)
 ·(first | exact aC rfl | exact aJ (by kernel_rfl!) (by kernel_rfl!))
 ·(first | exact aC rfl | exact aJ (by kernel_rfl!) (by kernel_rfl!))
 ·(first | exact aC rfl | exact aJ (by kernel_rfl!) (by kernel_rfl!))
 dsimp only [c7]
 refine aA (eQ (a:=x) (c:=134) (i:=0) M vv ?_ (by kernel_rfl!) (aQ _ _ _) (by decide +kernel) (by simp) ?_)
 ·(first | exact aC rfl | exact aJ (by kernel_rfl!) (by kernel_rfl!))
 dsimp only [c7]
 (repeat (first | refine bQ ?_ | dsimp only [c7]))
 exact ⟨rfl,[vv,vk,vl],by dsimp only; rw [aQ]; rfl,hK⟩
theorem wI (hB:BsOk (bs w.params h mb)) (hmb:HMb mb):Meets prog w (bs w.params h mb) 3 (.ref 134) vF:=by
 refine fL (k:=3) (m:=3) (fI:=123) (params:=["self", "line", "column", "value"]) hB (mH hB hmb) (by kernel_rfl) (by kernel_rfl) (by kernel_rfl) (by kernel_rfl) (by kernel_rfl) (by kernel_rfl) (by kernel_rfl) rfl (fun S vals hl=>?_) fun ps K=>x3 fun vl vk vv=>a2 fun h1 hk=>?_
 ·obtain ⟨a,b,c,d,rfl⟩:=zda hl
  kernel_rfl
 ·subst h1
  exact ⟨rfl,fun x=>x9 _ vl vk vv K x hk⟩
noncomputable def vD:Fn:=fun ps K=>∃ (vl:PV) (vk:PV) (vv:PV),ps = [vl,vk,vv] /\ K (.inst 206 [vv,vk,vl])
theorem tD:bD vD:=fun _ _ _ h=>e3 fun _ _ _=>c1 (h _)
theorem x0 (p:Params) (vl:PV) (vk:PV) (vv:PV) (K:PV->Prop) (x:Nat) (hK:K (.inst 206 [vv,vk,vl])):
  wSs cT (eA (aL (HK p) 181)) (bC (HK p) 181) (sN fun p σ'=>p = .none /\ ∃ fs:List PV,σ' x = some (.ins 206 (fs.map some)) /\ K (.inst 206 fs))
   ⟨bA ((["self", "line", "column", "value"].map Str.ofString).zip (.ptr x :: [vl,vk,vv])) fun _=>none,aZ (fun _=>none) x (.ins 206 (List.replicate 3 none))⟩:=by
 have M:=fM
 apply nfe
 case h=>
  show ?nl2 = ?nr2
  refine (?f:∀ _:(?nl2 = ?nr2),(?nl2 = ?nr2)) ?d
  case d=>conv=>lhs; whnf; dsimp only [cH,erS,erE,bR,erO]
  case f=>exact fun _=>by kernel_rfl!
 conv in (aL _ _)=>whnf
 refine aA (iC (a:=x) (c:=206) (fs:=List.replicate 3 none) (i:=2) (j:=1) M vl vk rfl (by decide +kernel) ?_ ?_ ?_ (by dsimp only; exact aQ _ _ _) (by decide +kernel) (by simp) (by decide +kernel) (by simp) ?_)
 ·(first | exact aC rfl | exact aJ (by kernel_rfl!) (by kernel_rfl!))
 ·(first | exact aC rfl | exact aJ (by kernel_rfl!) (by kernel_rfl!))
 ·(first | exact aC rfl | exact aJ (by kernel_rfl!) (by kernel_rfl!))
 dsimp only [c7]
 refine aA (eQ (a:=x) (c:=206) (i:=0) M vv ?_ (by kernel_rfl!) (aQ _ _ _) (by decide +kernel) (by simp) ?_)
 ·(first | exact aC rfl | exact aJ (by kernel_rfl!) (by kernel_rfl!))
 dsimp only [c7]
 (repeat (first | refine bQ ?_ | dsimp only [c7]))
 exact ⟨rfl,[vv,vk,vl],by dsimp only; rw [aQ]; rfl,hK⟩
theorem wG (hB:BsOk (bs w.params h mb)) (hmb:HMb mb):Meets prog w (bs w.params h mb) 3 (.ref 206) vD:=by
 refine fL (k:=3) (m:=3) (fI:=181) (params:=["self", "line", "column", "value"]) hB (mH hB hmb) (by kernel_rfl) (by kernel_rfl) (by kernel_rfl) (by kernel_rfl) (by kernel_rfl) (by kernel_rfl) (by kernel_rfl) rfl (fun S vals hl=>?_) fun ps K=>x3 fun vl vk vv=>a2 fun h1 hk=>?_
 ·obtain ⟨a,b,c,d,rfl⟩:=zda hl
  kernel_rfl
 ·subst h1
  exact ⟨rfl,fun x=>x0 _ vl vk vv K x hk⟩
noncomputable def kR:Fn:=fun ps K=>∃ (vl:PV) (vk:PV) (xvalue:List Nat),ps = [vl,vk,(.str xvalue)] /\ xvalue.length < 1000000 /\ K (.inst 235 [(.str (xvalue.map cW)),(.str xvalue),vk,vl])
theorem oS:bD kR:=fun _ _ _ h=>e3 fun _ _ _=>c2 (h _)
theorem rC (p:Params) (vl:PV) (vk:PV) (xvalue:List Nat) (K:PV->Prop) (x:Nat) (h2:xvalue.length < 1000000) (hK:K (.inst 235 [(.str (xvalue.map cW)),(.str xvalue),vk,vl])):
  wSs cT (eA (aL (HK p) 224)) (bC (HK p) 224) (sN fun p σ'=>p = .none /\ ∃ fs:List PV,σ' x = some (.ins 235 (fs.map some)) /\ K (.inst 235 fs))
   ⟨bA ((["self", "line", "column", "value"].map Str.ofString).zip (.ptr x :: [vl,vk,(.str xvalue)])) fun _=>none,aZ (fun _=>none) x (.ins 235 (List.replicate 4 none))⟩:=by
 have M:=fM
 apply nfe
 case h=>
  show ?nl3 = ?nr3
  refine (?f:∀ _:(?nl3 = ?nr3),(?nl3 = ?nr3)) ?d
  case d=>conv=>lhs; whnf; dsimp only [cH,erS,erE,bR,erO]
  case f=>exact fun _=>by kernel_rfl!
 conv in (aL _ _)=>whnf
 refine aA (iC (a:=x) (c:=235) (fs:=List.replicate 4 none) (i:=3) (j:=2) M vl vk rfl (by decide +kernel) ?_ ?_ ?_ (by dsimp only; exact aQ _ _ _) (by decide +kernel) (by simp) (by decide +kernel) (by simp) ?_)
 ·(first | exact aC rfl | exact aJ (by kernel_rfl!) (by kernel_rfl!))
 ·(first | exact aC rfl | exact aJ (by kernel_rfl!) (by kernel_rfl!))
 ·(first | exact aC rfl | exact aJ (by kernel_rfl!) (by kernel_rfl!))
 dsimp only [c7]
 refine aA (eQ (a:=x) (c:=235) (i:=1) M (.str xvalue) ?_ (by kernel_rfl!) (aQ _ _ _) (by decide +kernel) (by simp) ?_)
 ·(first | exact aC rfl | exact aJ (by kernel_rfl!) (by kernel_rfl!))
 dsimp only [c7]
 refine aA (vW (aA (eQ (a:=x) (c:=235) (i:=0) M (.str (xvalue.map cW)) ?_ (by kernel_rfl!) (aQ _ _ _) (by decide +kernel) (by simp) ?_)))
 ·exact bX (F:=l8) M (by kernel_rfl!) rfl (aB M (v:=.str xvalue) aG aD) ⟨xvalue,rfl,h2,.inl rfl,rfl⟩
 (repeat (first | refine bQ ?_ | dsimp only [c7]))
 (repeat (first | refine bQ ?_ | dsimp only [c7]))
 exact ⟨rfl,[(.str (xvalue.map cW)),(.str xvalue),vk,vl],by dsimp only; rw [aQ]; rfl,hK⟩
theorem pN (hB:BsOk (bs w.params h mb)) (hmb:HMb mb):Meets prog w (bs w.params h mb) 3 (.ref 235) kR:=by
 refine fL (k:=3) (m:=4) (fI:=224) (params:=["self", "line", "column", "value"]) hB (mH hB hmb) (by kernel_rfl) (by kernel_rfl) (by kernel_rfl) (by kernel_rfl) (by kernel_rfl) (by kernel_rfl) (by kernel_rfl) rfl (fun S vals hl=>?_) fun ps K=>x3 fun vl vk xvalue=>a3 fun h1 h2 hk=>?_
 ·obtain ⟨a,b,c,d,rfl⟩:=zda hl
  kernel_rfl
 ·subst h1
  exact ⟨rfl,fun x=>rC _ vl vk xvalue K x h2 hk⟩
noncomputable def zcO:Fn:=fun ps K=>∃ (vl:PV) (vk:PV) (xvalue:List Nat),ps = [vl,vk,(.str xvalue)] /\ xvalue.length < 1000000 /\ K (.inst 265 [(.str (xvalue.map cW)),(.str xvalue),vk,vl])
theorem xD:bD zcO:=fun _ _ _ h=>e3 fun _ _ _=>c2 (h _)
theorem zbk (p:Params) (vl:PV) (vk:PV) (xvalue:List Nat) (K:PV->Prop) (x:Nat) (h2:xvalue.length < 1000000) (hK:K (.inst 265 [(.str (xvalue.map cW)),(.str xvalue),vk,vl])):
  wSs cT (eA (aL (HK p) 254)) (bC (HK p) 254) (sN fun p σ'=>p = .none /\ ∃ fs:List PV,σ' x = some (.ins 265 (fs.map some)) /\ K (.inst 265 fs))
   ⟨bA ((["self", "line", "column", "value"].map Str.ofString).zip (.ptr x :: [vl,vk,(.str xvalue)])) fun _=>none,aZ (fun _=>none) x (.ins 265 (List.replicate 4 none))⟩:=by
 have M:=fM
 apply nfe
 case h=>
  show ?nl4 = ?nr4
  refine (?f:∀ _:(?nl4 = ?nr4),(?nl4 = ?nr4)) ?d
  case d=>conv=>lhs; whnf; dsimp only [cH,erS,erE,bR,erO]
  case f=>exact fun _=>by kernel_rfl!
 conv in (aL _ _)=>whnf
 refine aA (iC (a:=x) (c:=265) (fs:=List.replicate 4 none) (i:=3) (j:=2) M vl vk rfl (by decide +kernel) ?_ ?_ ?_ (by dsimp only; exact aQ _ _ _) (by decide +kernel) (by simp) (by decide +kernel) (by simp) ?_)
 ·(first | exact aC rfl | exact aJ (by kernel_rfl!) (by kernel_rfl!))
 ·(first | exact aC rfl | exact aJ (by kernel_rfl!) (by kernel_rfl!))
 ·(first | exact aC rfl | exact aJ (by kernel_rfl!) (by kernel_rfl!))
 dsimp only [c7]
 refine aA (eQ (a:=x) (c:=265) (i:=1) M (.str xvalue) ?_ (by kernel_rfl!) (aQ _ _ _) (by decide +kernel) (by simp) ?_)
 ·(first | exact aC rfl | exact aJ (by kernel_rfl!) (by kernel_rfl!))
 dsimp only [c7]
 refine aA (vW (aA (eQ (a:=x) (c:=265) (i:=0) M (.str (xvalue.map cW)) ?_ (by kernel_rfl!) (aQ _ _ _) (by decide +kernel) (by simp) ?_)))
 ·exact bX (F:=l8) M (by kernel_rfl!) rfl (aB M (v:=.str xvalue) aG aD) ⟨xvalue,rfl,h2,.inl rfl,rfl⟩
 (repeat (first | refine bQ ?_ | dsimp only [c7]))
 (repeat (first | refine bQ ?_ | dsimp only [c7]))
 exact ⟨rfl,[(.str (xvalue.map cW)),(.str xvalue),vk,vl],by dsimp only; rw [aQ]; rfl,hK⟩
theorem zN (hB:BsOk (bs w.params h mb)) (hmb:HMb mb):Meets prog w (bs w.params h mb) 3 (.ref 265) zcO:=by
 refine fL (k:=3) (m:=4) (fI:=254) (params:=["self", "line", "column", "value"]) hB (mH hB hmb) (by kernel_rfl) (by kernel_rfl) (by kernel_rfl) (by kernel_rfl) (by kernel_rfl) (by kernel_rfl) (by kernel_rfl) rfl (fun S vals hl=>?_) fun ps K=>x3 fun vl vk xvalue=>a3 fun h1 h2 hk=>?_
 ·obtain ⟨a,b,c,d,rfl⟩:=zda hl
  kernel_rfl
 ·subst h1
  exact ⟨rfl,fun x=>zbk _ vl vk xvalue K x h2 hk⟩
noncomputable def oT:Fn:=fun ps K=>∃ (vl:PV) (vk:PV) (vv:PV) (vb:PV),ps = [vl,vk,vv,vb] /\ K (.inst 295 [vb,vv,vk,vl])
theorem qT:bD oT:=fun _ _ _ h=>e4 fun _ _ _ _=>c1 (h _)
theorem vM (p:Params) (vl:PV) (vk:PV) (vv:PV) (vb:PV) (K:PV->Prop) (x:Nat) (hK:K (.inst 295 [vb,vv,vk,vl])):
  wSs cT (eA (aL (HK p) 284)) (bC (HK p) 284) (sN fun p σ'=>p = .none /\ ∃ fs:List PV,σ' x = some (.ins 295 (fs.map some)) /\ K (.inst 295 fs))
   ⟨bA ((["self", "line", "column", "value", "is_identifier"].map Str.ofString).zip (.ptr x :: [vl,vk,vv,vb])) fun _=>none,aZ (fun _=>none) x (.ins 295 (List.replicate 4 none))⟩:=by
 have M:=fM
 apply nfe
 case h=>
  show ?nl5 = ?nr5
  refine (?f:∀ _:(?nl5 = ?nr5),(?nl5 = ?nr5)) ?d
  case d=>conv=>lhs; whnf; dsimp only [cH,erS,erE,bR,erO]
  case f=>exact fun _=>by kernel_rfl!
 conv in (aL _ _)=>whnf
 refine aA (iC (a:=x) (c:=295) (fs:=List.replicate 4 none) (i:=3) (j:=2) M vl vk rfl (by decide +kernel) ?_ ?_ ?_ (by dsimp only; exact aQ _ _ _) (by decide +kernel) (by simp) (by decide +kernel) (by simp) ?_)
 ·(first | exact aC rfl | exact aJ (by kernel_rfl!) (by kernel_rfl!))
 ·(first | exact aC rfl | exact aJ (by kernel_rfl!) (by kernel_rfl!))
 ·(first | exact aC rfl | exact aJ (by kernel_rfl!) (by kernel_rfl!))
 dsimp only [c7]
 refine aA (eQ (a:=x) (c:=295) (i:=1) M vv ?_ (by kernel_rfl!) (aQ _ _ _) (by decide +kernel) (by simp) ?_)
 ·(first | exact aC rfl | exact aJ (by kernel_rfl!) (by kernel_rfl!))
 dsimp only [c7]
 refine aA (eQ (a:=x) (c:=295) (i:=0) M vb ?_ (by kernel_rfl!) (aQ _ _ _) (by decide +kernel) (by simp) ?_)
 ·(first | exact aC rfl | exact aJ (by kernel_rfl!) (by kernel_rfl!))
 dsimp only [c7]
 (repeat (first | refine bQ ?_ | dsimp only [c7]))
 exact ⟨rfl,[vb,vv,vk,vl],by dsimp only; rw [aQ]; rfl,hK⟩
theorem rY (hB:BsOk (bs w.params h mb)) (hmb:HMb mb):Meets prog w (bs w.params h mb) 3 (.ref 295) oT:=by
 refine fL (k:=4) (m:=4) (fI:=284) (params:=["self", "line", "column", "value", "is_identifier"]) hB (mH hB hmb) (by kernel_rfl) (by kernel_rfl) (by kernel_rfl) (by kernel_rfl) (by kernel_rfl) (by kernel_rfl) (by kernel_rfl) rfl (fun S vals hl=>?_) fun ps K=>x4 fun vl vk vv vb=>a2 fun h1 hk=>?_
 ·obtain ⟨a,b,c,d,e,rfl⟩:=zfT hl
  kernel_rfl
 ·subst h1
  exact ⟨rfl,fun x=>vM _ vl vk vv vb K x hk⟩
noncomputable def vE:Fn:=fun ps K=>∃ (vl:PV) (vk:PV) (vv:PV) (vi:PV) (vr:PV) (xunit:List Nat) (b:Bool),ps = [vl,vk,vv,vi,vr,(.str xunit)] /\ xunit.length < 1000000 /\ zce vi = some b /\ K (.inst 479 [vi,(.bool b),(.str (xunit.map cW)),vr,(.str xunit),vv,vk,vl])
theorem tE:bD vE:=fun _ _ _ h=>e7 fun _ _ _ _ _ _ _=>c3 (h _)
theorem x8 (p:Params) (vl:PV) (vk:PV) (vv:PV) (vi:PV) (vr:PV) (xunit:List Nat) (b:Bool) (K:PV->Prop) (x:Nat) (h2:xunit.length < 1000000) (h3:zce vi = some b) (hK:K (.inst 479 [vi,(.bool b),(.str (xunit.map cW)),vr,(.str xunit),vv,vk,vl])):
  wSs cT (eA (aL (HK p) 468)) (bC (HK p) 468) (sN fun p σ'=>p = .none /\ ∃ fs:List PV,σ' x = some (.ins 479 (fs.map some)) /\ K (.inst 479 fs))
   ⟨bA ((["self", "line", "column", "value", "int_value", "representation", "unit"].map Str.ofString).zip (.ptr x :: [vl,vk,vv,vi,vr,(.str xunit)])) fun _=>none,aZ (fun _=>none) x (.ins 479 (List.replicate 8 none))⟩:=by
 have M:=fM
 apply nfe
 case h=>
  show ?nl6 = ?nr6
  refine (?f:∀ _:(?nl6 = ?nr6),(?nl6 = ?nr6)) ?d
  case d=>conv=>lhs; whnf; dsimp only [cH,erS,erE,bR,erO]
  case f=>exact fun _=>by kernel_rfl!
 conv in (aL _ _)=>whnf
 refine aA (iC (a:=x) (c:=479) (fs:=List.replicate 8 none) (i:=7) (j:=6) M vl vk rfl (by decide +kernel) ?_ ?_ ?_ (by dsimp only; exact aQ _ _ _) (by decide +kernel) (by simp) (by decide +kernel) (by simp) ?_)
 ·(first | exact aC rfl | exact aJ (by kernel_rfl!) (by kernel_rfl!))
 ·(first | exact aC rfl | exact aJ (by kernel_rfl!) (by kernel_rfl!))
 ·(first | exact aC rfl | exact aJ (by kernel_rfl!) (by kernel_rfl!))
 dsimp only [c7]
 refine aA (eQ (a:=x) (c:=479) (i:=5) M vv ?_ (by kernel_rfl!) (aQ _ _ _) (by decide +kernel) (by simp) ?_)
 ·(first | exact aC rfl | exact aJ (by kernel_rfl!) (by kernel_rfl!))
 dsimp only [c7]
 refine aA (eQ (a:=x) (c:=479) (i:=0) M vi ?_ (by kernel_rfl!) (aQ _ _ _) (by decide +kernel) (by simp) ?_)
 ·(first | exact aC rfl | exact aJ (by kernel_rfl!) (by kernel_rfl!))
 dsimp only [c7]
 refine aA (eQ (a:=x) (c:=479) (i:=1) M (.bool b) ?_ (by kernel_rfl!) (aQ _ _ _) (by decide +kernel) (by simp) ?_)
 ·exact zez M h3 aG
 dsimp only [c7]
 refine aA (eQ (a:=x) (c:=479) (i:=3) M vr ?_ (by kernel_rfl!) (aQ _ _ _) (by decide +kernel) (by simp) ?_)
 ·(first | exact aC rfl | exact aJ (by kernel_rfl!) (by kernel_rfl!))
 dsimp only [c7]
 refine aA (eQ (a:=x) (c:=479) (i:=4) M (.str xunit) ?_ (by kernel_rfl!) (aQ _ _ _) (by decide +kernel) (by simp) ?_)
 ·(first | exact aC rfl | exact aJ (by kernel_rfl!) (by kernel_rfl!))
 dsimp only [c7]
 refine aA (vW (aA (eQ (a:=x) (c:=479) (i:=2) M (.str (xunit.map cW)) ?_ (by kernel_rfl!) (aQ _ _ _) (by decide +kernel) (by simp) ?_)))
 ·exact bX (F:=l8) M (by kernel_rfl!) rfl (aB M (v:=.str xunit) aG aD) ⟨xunit,rfl,h2,.inl rfl,rfl⟩
 (repeat (first | refine bQ ?_ | dsimp only [c7]))
 (repeat (first | refine bQ ?_ | dsimp only [c7]))
 exact ⟨rfl,[vi,(.bool b),(.str (xunit.map cW)),vr,(.str xunit),vv,vk,vl],by dsimp only; rw [aQ]; rfl,hK⟩
theorem wH (hB:BsOk (bs w.params h mb)) (hmb:HMb mb):Meets prog w (bs w.params h mb) 3 (.ref 479) vE:=by
 refine fL (k:=6) (m:=8) (fI:=468) (params:=["self", "line", "column", "value", "int_value", "representation", "unit"]) hB (mH hB hmb) (by kernel_rfl) (by kernel_rfl) (by kernel_rfl) (by kernel_rfl) (by kernel_rfl) (by kernel_rfl) (by kernel_rfl) rfl (fun S vals hl=>?_) fun ps K=>x7 fun vl vk vv vi vr xunit b=>a4 fun h1 h2 h3 hk=>?_
 ·obtain ⟨a,b,c,d,e,f,g,rfl⟩:=zgH hl
  kernel_rfl
 ·subst h1
  exact ⟨rfl,fun x=>x8 _ vl vk vv vi vr xunit b K x h2 h3 hk⟩
noncomputable def zcN:Fn:=fun ps K=>∃ (vl:PV) (vk:PV) (xname:List Nat) (va:PV),ps = [vl,vk,(.str xname),va] /\ xname.length < 1000000 /\ K (.inst 600 [va,(.str (xname.map cW)),(.str xname),vk,vl])
theorem xC:bD zcN:=fun _ _ _ h=>e4 fun _ _ _ _=>c2 (h _)
theorem zbj (p:Params) (vl:PV) (vk:PV) (xname:List Nat) (va:PV) (K:PV->Prop) (x:Nat) (h2:xname.length < 1000000) (hK:K (.inst 600 [va,(.str (xname.map cW)),(.str xname),vk,vl])):
  wSs cT (eA (aL (HK p) 589)) (bC (HK p) 589) (sN fun p σ'=>p = .none /\ ∃ fs:List PV,σ' x = some (.ins 600 (fs.map some)) /\ K (.inst 600 fs))
   ⟨bA ((["self", "line", "column", "name", "arguments"].map Str.ofString).zip (.ptr x :: [vl,vk,(.str xname),va])) fun _=>none,aZ (fun _=>none) x (.ins 600 (List.replicate 5 none))⟩:=by
 have M:=fM
 apply nfe
 case h=>
  show ?nl7 = ?nr7
  refine (?f:∀ _:(?nl7 = ?nr7),(?nl7 = ?nr7)) ?d
  case d=>conv=>lhs; whnf; dsimp only [cH,erS,erE,bR,erO]
  case f=>exact fun _=>by kernel_rfl!
 conv in (aL _ _)=>whnf
 refine aA (iC (a:=x) (c:=600) (fs:=List.replicate 5 none) (i:=4) (j:=3) M vl vk rfl (by decide +kernel) ?_ ?_ ?_ (by dsimp only; exact aQ _ _ _) (by decide +kernel) (by simp) (by decide +kernel) (by simp) ?_)
 ·(first | exact aC rfl | exact aJ (by kernel_rfl!) (by kernel_rfl!))
 ·(first | exact aC rfl | exact aJ (by kernel_rfl!) (by kernel_rfl!))
 ·(first | exact aC rfl | exact aJ (by kernel_rfl!) (by kernel_rfl!))
 dsimp only [c7]
 refine aA (eQ (a:=x) (c:=600) (i:=2) M (.str xname) ?_ (by kernel_rfl!) (aQ _ _ _) (by decide +kernel) (by simp) ?_)
 ·(first | exact aC rfl | exact aJ (by kernel_rfl!) (by kernel_rfl!))
 dsimp only [c7]
 refine aA (vW (aA (eQ (a:=x) (c:=600) (i:=1) M (.str (xname.map cW)) ?_ (by kernel_rfl!) (aQ _ _ _) (by decide +kernel) (by simp) ?_)))
 ·exact bX (F:=l8) M (by kernel_rfl!) rfl (aB M (v:=.str xname) aG aD) ⟨xname,rfl,h2,.inl rfl,rfl⟩
 (repeat (first | refine bQ ?_ | dsimp only [c7]))
 refine aA (eQ (a:=x) (c:=600) (i:=0) M va ?_ (by kernel_rfl!) (aQ _ _ _) (by decide +kernel) (by simp) ?_)
 ·(first | exact aC rfl | exact aJ (by kernel_rfl!) (by kernel_rfl!))
 dsimp only [c7]
 (repeat (first | refine bQ ?_ | dsimp only [c7]))
 exact ⟨rfl,[va,(.str (xname.map cW)),(.str xname),vk,vl],by dsimp only; rw [aQ]; rfl,hK⟩
theorem zM (hB:BsOk (bs w.params h mb)) (hmb:HMb mb):Meets prog w (bs w.params h mb) 3 (.ref 600) zcN:=by
 refine fL (k:=4) (m:=5) (fI:=589) (params:=["self", "line", "column", "name", "arguments"]) hB (mH hB hmb) (by kernel_rfl) (by kernel_rfl) (by kernel_rfl) (by kernel_rfl) (by kernel_rfl) (by kernel_rfl) (by kernel_rfl) rfl (fun S vals hl=>?_) fun ps K=>x4 fun vl vk xname va=>a3 fun h1 h2 hk=>?_
 ·obtain ⟨a,b,c,d,e,rfl⟩:=zfT hl
  kernel_rfl
 ·subst h1
  exact ⟨rfl,fun x=>zbj _ vl vk xname va K x h2 hk⟩
noncomputable def zcM:Fn:=fun ps K=>∃ (vl:PV) (vk:PV) (vv:PV),ps = [vl,vk,vv] /\ K (.inst 163 [vv,vk,vl])
theorem xB:bD zcM:=fun _ _ _ h=>e3 fun _ _ _=>c1 (h _)
theorem zbd (p:Params) (vl:PV) (vk:PV) (vv:PV) (K:PV->Prop) (x:Nat) (hK:K (.inst 163 [vv,vk,vl])):
  wSs cT (eA (aL (HK p) 152)) (bC (HK p) 152) (sN fun p σ'=>p = .none /\ ∃ fs:List PV,σ' x = some (.ins 163 (fs.map some)) /\ K (.inst 163 fs))
   ⟨bA ((["self", "line", "column", "value"].map Str.ofString).zip (.ptr x :: [vl,vk,vv])) fun _=>none,aZ (fun _=>none) x (.ins 163 (List.replicate 3 none))⟩:=by
 have M:=fM
 apply nfe
 case h=>
  show ?nl8 = ?nr8
  refine (?f:∀ _:(?nl8 = ?nr8),(?nl8 = ?nr8)) ?d
  case d=>conv=>lhs; whnf; dsimp only [cH,erS,erE,bR,erO]
  case f=>exact fun _=>by kernel_rfl!
 conv in (aL _ _)=>whnf
 refine aA (iC (a:=x) (c:=163) (fs:=List.replicate 3 none) (i:=2) (j:=1) M vl vk rfl (by decide +kernel) ?_ ?_ ?_ (by dsimp only; exact aQ _ _ _) (by decide +kernel) (by simp) (by decide +kernel) (by simp) ?_)
 ·(first | exact aC rfl | exact aJ (by kernel_rfl!) (by kernel_rfl!))
 ·(first | exact aC rfl | exact aJ (by kernel_rfl!) (by kernel_rfl!))
 ·(first | exact aC rfl | exact aJ (by kernel_rfl!) (by kernel_rfl!))
 dsimp only [c7]
 refine aA (eQ (a:=x) (c:=163) (i:=0) M vv ?_ (by kernel_rfl!) (aQ _ _ _) (by decide +kernel) (by simp) ?_)
 ·(first | exact aC rfl | exact aJ (by kernel_rfl!) (by kernel_rfl!))
 dsimp only [c7]
 (repeat (first | refine bQ ?_ | dsimp only [c7]))
 exact ⟨rfl,[vv,vk,vl],by dsimp only; rw [aQ]; rfl,hK⟩
theorem zL (hB:BsOk (bs w.params h mb)) (hmb:HMb mb):Meets prog w (bs w.params h mb) 3 (.ref 163) zcM:=by
 refine fL (k:=3) (m:=3) (fI:=152) (params:=["self", "line", "column", "value"]) hB (mH hB hmb) (by kernel_rfl) (by kernel_rfl) (by kernel_rfl) (by kernel_rfl) (by kernel_rfl) (by kernel_rfl) (by kernel_rfl) rfl (fun S vals hl=>?_) fun ps K=>x3 fun vl vk vv=>a2 fun h1 hk=>?_
 ·obtain ⟨a,b,c,d,rfl⟩:=zda hl
  kernel_rfl
 ·subst h1
  exact ⟨rfl,fun x=>zbd _ vl vk vv K x hk⟩
noncomputable def vA:Fn:=fun ps K=>∃ (vl:PV) (vk:PV) (vv:PV) (vb:PV),ps = [vl,vk,vv,vb] /\ K (.inst 355 [vb,vv,vk,vl])
theorem sY:bD vA:=fun _ _ _ h=>e4 fun _ _ _ _=>c1 (h _)
theorem xR (p:Params) (vl:PV) (vk:PV) (vv:PV) (vb:PV) (K:PV->Prop) (x:Nat) (hK:K (.inst 355 [vb,vv,vk,vl])):
  wSs cT (eA (aL (HK p) 344)) (bC (HK p) 344) (sN fun p σ'=>p = .none /\ ∃ fs:List PV,σ' x = some (.ins 355 (fs.map some)) /\ K (.inst 355 fs))
   ⟨bA ((["self", "line", "column", "value", "representation"].map Str.ofString).zip (.ptr x :: [vl,vk,vv,vb])) fun _=>none,aZ (fun _=>none) x (.ins 355 (List.replicate 4 none))⟩:=by
 have M:=fM
 apply nfe
 case h=>
  show ?nl9 = ?nr9
  refine (?f:∀ _:(?nl9 = ?nr9),(?nl9 = ?nr9)) ?d
  case d=>conv=>lhs; whnf; dsimp only [cH,erS,erE,bR,erO]
  case f=>exact fun _=>by kernel_rfl!
 conv in (aL _ _)=>whnf
 refine aA (iC (a:=x) (c:=355) (fs:=List.replicate 4 none) (i:=3) (j:=2) M vl vk rfl (by decide +kernel) ?_ ?_ ?_ (by dsimp only; exact aQ _ _ _) (by decide +kernel) (by simp) (by decide +kernel) (by simp) ?_)
 ·(first | exact aC rfl | exact aJ (by kernel_rfl!) (by kernel_rfl!))
 ·(first | exact aC rfl | exact aJ (by kernel_rfl!) (by kernel_rfl!))
 ·(first | exact aC rfl | exact aJ (by kernel_rfl!) (by kernel_rfl!))
 dsimp only [c7]
 refine aA (eQ (a:=x) (c:=355) (i:=1) M vv ?_ (by kernel_rfl!) (aQ _ _ _) (by decide +kernel) (by simp) ?_)
 ·(first | exact aC rfl | exact aJ (by kernel_rfl!) (by kernel_rfl!))
 dsimp only [c7]
 refine aA (eQ (a:=x) (c:=355) (i:=0) M vb ?_ (by kernel_rfl!) (aQ _ _ _) (by decide +kernel) (by simp) ?_)
 ·(first | exact aC rfl | exact aJ (by kernel_rfl!) (by kernel_rfl!))
 dsimp only [c7]
 (repeat (first | refine bQ ?_ | dsimp only [c7]))
 exact ⟨rfl,[vb,vv,vk,vl],by dsimp only; rw [aQ]; rfl,hK⟩
theorem wC (hB:BsOk (bs w.params h mb)) (hmb:HMb mb):Meets prog w (bs w.params h mb) 3 (.ref 355) vA:=by
 refine fL (k:=4) (m:=4) (fI:=344) (params:=["self", "line", "column", "value", "representation"]) hB (mH hB hmb) (by kernel_rfl) (by kernel_rfl) (by kernel_rfl) (by kernel_rfl) (by kernel_rfl) (by kernel_rfl) (by kernel_rfl) rfl (fun S vals hl=>?_) fun ps K=>x4 fun vl vk vv vb=>a2 fun h1 hk=>?_
 ·obtain ⟨a,b,c,d,e,rfl⟩:=zfT hl
  kernel_rfl
 ·subst h1
  exact ⟨rfl,fun x=>xR _ vl vk vv vb K x hk⟩
noncomputable def vB:Fn:=fun ps K=>∃ (vl:PV) (vk:PV) (vv:PV) (vb:PV),ps = [vl,vk,vv,vb] /\ K (.inst 325 [vb,vv,vk,vl])
theorem sZ:bD vB:=fun _ _ _ h=>e4 fun _ _ _ _=>c1 (h _)
theorem xT (p:Params) (vl:PV) (vk:PV) (vv:PV) (vb:PV) (K:PV->Prop) (x:Nat) (hK:K (.inst 325 [vb,vv,vk,vl])):
  wSs cT (eA (aL (HK p) 314)) (bC (HK p) 314) (sN fun p σ'=>p = .none /\ ∃ fs:List PV,σ' x = some (.ins 325 (fs.map some)) /\ K (.inst 325 fs))
   ⟨bA ((["self", "line", "column", "value", "representation"].map Str.ofString).zip (.ptr x :: [vl,vk,vv,vb])) fun _=>none,aZ (fun _=>none) x (.ins 325 (List.replicate 4 none))⟩:=by
 have M:=fM
 apply nfe
 case h=>
  show ?nl10 = ?nr10
  refine (?f:∀ _:(?nl10 = ?nr10),(?nl10 = ?nr10)) ?d
  case d=>conv=>lhs; whnf; dsimp only [cH,erS,erE,bR,erO]
  case f=>exact fun _=>by kernel_rfl!
 conv in (aL _ _)=>whnf
 refine aA (iC (a:=x) (c:=325) (fs:=List.replicate 4 none) (i:=3) (j:=2) M vl vk rfl (by decide +kernel) ?_ ?_ ?_ (by dsimp only; exact aQ _ _ _) (by decide +kernel) (by simp) (by decide +kernel) (by simp) ?_)
 ·(first | exact aC rfl | exact aJ (by kernel_rfl!) (by kernel_rfl!))
 ·(first | exact aC rfl | exact aJ (by kernel_rfl!) (by kernel_rfl!))
 ·(first | exact aC rfl | exact aJ (by kernel_rfl!) (by kernel_rfl!))
 dsimp only [c7]
 refine aA (eQ (a:=x) (c:=325) (i:=1) M vv ?_ (by kernel_rfl!) (aQ _ _ _) (by decide +kernel) (by simp) ?_)
 ·(first | exact aC rfl | exact aJ (by kernel_rfl!) (by kernel_rfl!))
 dsimp only [c7]
 refine aA (eQ (a:=x) (c:=325) (i:=0) M vb ?_ (by kernel_rfl!) (aQ _ _ _) (by decide +kernel) (by simp) ?_)
 ·(first | exact aC rfl | exact aJ (by kernel_rfl!) (by kernel_rfl!))
 dsimp only [c7]
 (repeat (first | refine bQ ?_ | dsimp only [c7]))
 exact ⟨rfl,[vb,vv,vk,vl],by dsimp only; rw [aQ]; rfl,hK⟩
theorem wD (hB:BsOk (bs w.params h mb)) (hmb:HMb mb):Meets prog w (bs w.params h mb) 3 (.ref 325) vB:=by
 refine fL (k:=4) (m:=4) (fI:=314) (params:=["self", "line", "column", "value", "representation"]) hB (mH hB hmb) (by kernel_rfl) (by kernel_rfl) (by kernel_rfl) (by kernel_rfl) (by kernel_rfl) (by kernel_rfl) (by kernel_rfl) rfl (fun S vals hl=>?_) fun ps K=>x4 fun vl vk vv vb=>a2 fun h1 hk=>?_
 ·obtain ⟨a,b,c,d,e,rfl⟩:=zfT hl
  kernel_rfl
 ·subst h1
  exact ⟨rfl,fun x=>xT _ vl vk vv vb K x hk⟩
theorem zc7 {w:World} {h:Heap} {mb:Str->Option Value} (hB:BsOk (bs w.params h mb)):zeZ (bs w.params h mb):=by
 have e:(HK w.params).lookup 4 = some { cls:=.type "module",dict:=some 0,data:=.plain }:=by kernel_rfl
 exact ⟨4,_,(by kernel_rfl),(by decide),hB.kin _ _ e,rfl,rfl,rfl⟩
theorem zaE {w:World} {h:Heap} {mb:Str->Option Value} (hB:BsOk (bs w.params h mb)):CodeAt h 40 36:=by
 obtain ⟨o,e⟩:∃ o,(HK w.params).lookup 40 = some o:=⟨_,rfl⟩
 have e':=e
 conv at e'=>lhs; whnf
 cases e'
 exact ⟨_,_,_,_,_,_,_,_,_,hB.kin _ _ e,rfl,rfl,rfl,rfl,rfl,rfl,rfl,by decide⟩
theorem uV {w:World} {h:Heap} {mb:Str->Option Value} (hB:BsOk (bs w.params h mb)):CodeAt h 33 29:=by
 obtain ⟨o,e⟩:∃ o,(HK w.params).lookup 33 = some o:=⟨_,rfl⟩
 have e':=e
 conv at e'=>lhs; whnf
 cases e'
 exact ⟨_,_,_,_,_,_,_,_,_,hB.kin _ _ e,rfl,rfl,rfl,rfl,rfl,rfl,rfl,by decide⟩
theorem wK (hB:BsOk (bs w.params h mb)):Meets prog w (bs w.params h mb) 1 (.ref 41) tI:=by
 obtain ⟨fd,h1,h2,h3⟩:=j6 (K:=HK w.params) (a:=41) (by kernel_rfl)
 have hcode:fd.code = .ref 40:=by
  have e:(uN (HK w.params) 41).map (·.code) = some (.ref 40):=by kernel_rfl
  rw [h2] at e; exact Option.some.inj e
 have hl:fd.scope.names.lookup (Str.ofString "value") = some NameKind.local:=by rw [h3]; kernel_rfl
 conv at h1=>arg 4; whnf
 refine qB (n:=0) (cX:=40) (v:=Str.ofString "value") (c:=Str.ofString "c") hB (zc7 hB) (.inr rfl) (zaE hB) h1 hcode rfl rfl (by decide +kernel) (by decide +kernel) (by kernel_rfl) (by kernel_rfl) rfl (fun env C code _=>?_) hl (by decide +kernel) (fun s vals X hl=>?_)
 ·repeat' refine zf7 rfl (by kernel_rfl) (by decide +kernel) (by decide +kernel) ?_
  exact zcn rfl (by kernel_rfl) (by decide +kernel)
 ·refine kp_binds X fun S=>?_
  obtain ⟨a,rfl⟩:=t7 hl
  have:(uN (HK w.params) 41).map (fun fd=>peek (HK w.params) S (bindArgs fd ⟨[a],[]⟩)) = some (some ((["value"].map Str.ofString).zip [a])):=by kernel_rfl
  rw [h2] at this
  show peek (HK w.params) S _ = _
  simpa using this
noncomputable def replD:List (List Nat × List Nat):=[([34],[92,34]),([92],[92,92]),([10],[92,65,32]),([13],[92,68,32]),([12],[92,67,32])]
theorem wL (hB:BsOk (bs w.params h mb)):Meets prog w (bs w.params h mb) 1 (.ref 34) tI:=by
 obtain ⟨fd,h1,h2,h3⟩:=j6 (K:=HK w.params) (a:=34) (by kernel_rfl)
 have hcode:fd.code = .ref 33:=by
  have e:(uN (HK w.params) 34).map (·.code) = some (.ref 33):=by kernel_rfl
  rw [h2] at e; exact Option.some.inj e
 have hl:fd.scope.names.lookup (Str.ofString "value") = some NameKind.local:=by rw [h3]; kernel_rfl
 conv at h1=>arg 4; whnf
 obtain ⟨o,ho⟩:∃ o,(HK w.params).lookup 27 = some o:=⟨_,rfl⟩
 have ho':=ho
 conv at ho'=>lhs; whnf
 cases ho'
 have hm:mgK w.params (Str.ofString "_replacement_string_value") = some (.ref 27):=by kernel_rfl
 refine qB (n:=0) (cX:=33) (v:=Str.ofString "value") (c:=Str.ofString "c") hB (zc7 hB) (.inl rfl) (uV hB) h1 hcode rfl rfl (by decide +kernel) (by decide +kernel) (by kernel_rfl) (by kernel_rfl) rfl (fun env C code hE=>?_) hl (by decide +kernel) (fun s vals X hl=>?_)
 ·refine zeJ (D:=Str.ofString "_replacement_string_value") (es:=replD) rfl (by kernel_rfl) (by decide +kernel) (by decide +kernel) (by kernel_rfl!) (show h.Ns env.globals _ by rw [hE.glob]; exact hB.g) hm (hB.kin _ _ ho) (by decide) ?_ (by decide +kernel) rfl
  have ok:∀ y ∈ replD,okStr y.2:=by
   have:replD.all (fun y=>y.2.all (fun c=>decide (c < 1114112)) && decide (y.2.length <= 10)) = true:=by decide +kernel
   intro y hy
   obtain ⟨g1,g2⟩:=Bool.and_eq_true_iff.mp (List.all_eq_true.mp this y hy)
   exact ⟨fun c hc=>of_decide_eq_true (List.all_eq_true.mp g1 c hc),Nat.le_trans (of_decide_eq_true g2) (by decide)⟩
  exact ⟨_,_,_,_,rfl,rfl,rfl,rfl,ok _ (.head _),_,_,_,_,rfl,rfl,rfl,rfl,ok _ (.tail _ (.head _)),_,_,_,_,rfl,rfl,rfl,rfl,ok _ (.tail _ (.tail _ (.head _))),_,_,_,_,rfl,rfl,rfl,rfl,ok _ (.tail _ (.tail _ (.tail _ (.head _)))),_,_,_,_,rfl,rfl,rfl,rfl,ok _ (.tail _ (.tail _ (.tail _ (.tail _ (.head _))))),rfl⟩
 ·refine kp_binds X fun S=>?_
  obtain ⟨a,rfl⟩:=t7 hl
  have:(uN (HK w.params) 34).map (fun fd=>peek (HK w.params) S (bindArgs fd ⟨[a],[]⟩)) = some (some ((["value"].map Str.ofString).zip [a])):=by kernel_rfl
  rw [h2] at this
  show peek (HK w.params) S _ = _
  simpa using this
noncomputable def bG (x:List Nat):Nat:=(x.takeWhile a0).length
noncomputable def oH (x:List Nat) (i:Nat):Bool:=(x[i]?).any a0
theorem zeT (x:List Nat) (i:Nat):([[32],[10],[9]]:List (List Nat)).any (fun p=>p.isPrefixOf (x.drop i)) = oH x i:=by
 unfold oH
 by_cases h:i < x.length
 ·rw [List.drop_eq_getElem_cons h,List.getElem?_eq_getElem h,Option.any_some]
  show ((32 == x[i] && true) || ((10 == x[i] && true) || ((9 == x[i] && true) || false))) = _
  rw [Bool.and_true,Bool.and_true,Bool.and_true,Bool.or_false,BEq.comm,BEq.comm (a:=10),BEq.comm (a:=9),<- Bool.or_assoc]; rfl
 ·rw [List.drop_of_length_le (Nat.le_of_not_lt h),List.getElem?_eq_none (Nat.le_of_not_lt h)]; rfl
theorem sT {x:List Nat} {i:Nat} (h:oH x i = true):i < x.length /\ bG (x.drop i) = bG (x.drop (i + 1)) + 1:=by
 by_cases hl:i < x.length
 ·rw [oH,List.getElem?_eq_getElem hl] at h
  refine ⟨hl,?_⟩
  rw [List.drop_eq_getElem_cons hl,bG,List.takeWhile_cons_of_pos (p:=a0) h]; rfl
 ·rw [oH,List.getElem?_eq_none (Nat.le_of_not_lt hl)] at h; cases h
theorem sS {x:List Nat} {i:Nat} (h:oH x i = false):bG (x.drop i) = 0:=by
 by_cases hl:i < x.length
 ·rw [oH,List.getElem?_eq_getElem hl] at h
  rw [List.drop_eq_getElem_cons hl,bG,List.takeWhile_cons_of_neg (fun q=>by rw [Option.any_some,q] at h; cases h)]; rfl
 ·rw [List.drop_of_length_le (Nat.le_of_not_lt hl)]; rfl
theorem zaN (x:List Nat):bG x <= x.length:=(List.takeWhile_sublist a0).length_le
theorem updU (ρ:f9) (x:Str) (a b:PV):upd (upd ρ x a) x b = upd ρ x b:=by
 funext y; unfold upd; by_cases h:y = x <;> simp [h]
section
variable {C:Ctx} {κ:Kn}
theorem zG {σ:Nat->Option Cell} {x:List Nat} {i:Int} {ps:List PV} {K:PV->(Nat->Option Cell)->Prop}:hW σ "startswith" (.str x) [.tup ps,.int i] K = okI i (∃ zs,fN ps = some zs /\ K (.bool (decide (i <= x.length) && zs.any fun p=>p.isPrefixOf (x.drop i.toNat))) σ):=by kernel_rfl
theorem zfW {a i:Str} {p p1 p2 p3 p4 p5 p6 p7:Pos} {k1 k2 k3 k4:Nat} {st:St} {x:List Nat} {e:Nat} (M:CtxMono C) (k1':κ a = some .local) (k2':κ i = some .local) (h1:st.ρ a = some (.str x)) (h2:st.ρ i = some (.int e)) (he:e <= x.length) (hx:x.length < 1000000):
  ev C κ (.Call (.Attribute (.Name a p1) (Str.ofString "startswith") p2) [.Tuple [.Constant (.str (Str.ofString " ")) k1 p3,.Constant (.str (Str.ofString "\n")) k2 p4, .Constant (.str (Str.ofString "\t")) k3 p5] k4 p6, .Name i p7] [] p) st (.bool (oH x e)) := by
 rw [<- zeT]
 refine lR M (aJ k1' h1) (aB M (aT M (aB M (aC rfl) (aB M (aC rfl) (aB M (aC rfl) aD)))) (aB M (aJ k2' h2) aD)) rfl (by kernel_rfl) (of_eq zG ⟨Int.natCast_nonneg e, xH (Nat.lt_of_le_of_lt he (Nat.lt_trans hx (by decide))), [[32], [10], [9]], by decide +kernel, ?_, rfl⟩)
 exact congrArg PV.bool (by rw [decide_eq_true (Int.ofNat_le.mpr he)]; rfl)
theorem kF {a i : Str} {p p1 p2 p3 p4 p5 p6 p7 q1 q2 q3 q4 : Pos} {k1 k2 k3 k4 k5 : Nat} {st : St} {x : List Nat} {e : Nat} {Q : Fl -> St -> Prop} (M : CtxMono C) (k1' : κ a = some .local) (k2' : κ i = some .local) (hai : a ≠ i)
  (h1 : st.ρ a = some (.str x)) (h2 : st.ρ i = some (.int e)) (hx : x.length < 1000000) (he : e <= x.length)
  (hQ : Q .next ⟨upd st.ρ i (.int ((e + bG (x.drop e) : Nat))), st.σ⟩) :
  wS C κ (.While (.Call (.Attribute (.Name a p1) (Str.ofString "startswith") p2) [.Tuple [.Constant (.str (Str.ofString " ")) k1 p3, .Constant (.str (Str.ofString "\n")) k2 p4, .Constant (.str (Str.ofString "\t")) k3 p5] k4 p6,.Name i p7] [] p)
   [.AugAssign (.Name i q1) .Add (.Constant (.int 1) k5 q2) q3] [] q4) Q st:=by
 have us:∀ {ρ:f9} {v:PV},ρ i = some v->upd ρ i v = ρ:=fun {ρ v} h=>by
  funext y; unfold upd; split
  ·rename_i q; rw [q,h]
  ·rfl
 let I:Nat->St->Prop:=fun n s=>∃ f:Nat,s = ⟨upd st.ρ i (.int f),st.σ⟩ /\ f <= x.length /\ n = x.length - f /\ f + bG (x.drop f) = e + bG (x.drop e)
 refine fE M I ?_ (x.length - e) st ⟨e,by rw [us h2],he,rfl,rfl⟩
 rintro n s ⟨f,rfl,hf,rfl,hs⟩
 have g1:(upd st.ρ i (.int f)) a = some (.str x):=by unfold upd; rw [if_neg hai]; exact h1
 have g2:(upd st.ρ i (.int f)) i = some (.int f):=by unfold upd; rw [if_pos rfl]
 refine ⟨oH x f,bE M (zfW M k1' k2' g1 g2 hf hx),fun hc=>?_,fun hc=>?_⟩
 ·obtain ⟨hl,hd⟩:=sT hc
  refine aA (dP M (.int f) (.int 1) g2 (aC rfl) (by unfold dB; rw [k2']; decide) (of_eq cF ?_))
  exact ⟨x.length - (f + 1),Nat.sub_lt_sub_left hl (Nat.lt_succ_self f),f + 1,congrArg (St.mk · st.σ) (updU _ _ _ _),hl,rfl,by rw [<- hs,hd,Nat.add_right_comm]; rfl⟩
 ·rw [sS hc] at hs
  rw [<- hs] at hQ
  exact hQ
end
noncomputable def zeU (c:Nat):Bool:=c == 34 || c == 39 || c == 40 || c == 11 || c == 127 || decide (c < 9) || (decide (13 < c) && decide (c < 32))
theorem zbZ {c:Nat} (h:cV c = true):decide (c ∈ (Str.ofString "\"'(\x00\x01\x02\x03\x04\x05\x06\x07\x08\x0b\x0e\x0f\x10\x11\x12\x13\x14\x15\x16\x17\x18\x19\x1a\x1b\x1c\x1d\x1e\x1f\x7f").cps.toList) = zeU c :=
 eH (f := fun c => decide (c ∈ (Str.ofString "\"'(\x00\x01\x02\x03\x04\x05\x06\x07\x08\x0b\x0e\x0f\x10\x11\x12\x13\x14\x15\x16\x17\x18\x19\x1a\x1b\x1c\x1d\x1e\x1f\x7f").cps.toList)) (by decide +kernel) h
theorem wB {c : Nat} (h : cV c = true) : decide (c ∈ (Str.ofString " \n\t").cps.toList) = a0 c :=
 eH (f := fun c => decide (c ∈ (Str.ofString " \n\t").cps.toList)) (by decide +kernel) h
inductive UrlG:List Nat->List Nat->Nat->Prop
 | close (r:List Nat):UrlG (41 :: r) [] 1
 | blank (c:Nat) (r t:List Nat):a0 c = true->r.drop (bG r) = 41 :: t->UrlG (c :: r) [] (bG r + 2)
 | plain (c:Nat) (r v:List Nat) (n:Nat):c ≠ 41->a0 c = false->c ≠ 92->zeU c = false->UrlG r v n->UrlG (c :: r) (c :: v) (n + 1)
 | esc (r v:List Nat) (s k n:Nat):[92,10].isPrefixOf (92 :: r) = false->EscAt r s k->UrlG (r.drop k) v n->UrlG (92 :: r) (s :: v) (n + (k + 1))
noncomputable def UrlD (x v:List Nat) (n:Nat):Prop:=
 List.casesOn (motive:=fun _=>Prop) x False fun c r=>
  if c = 41 then v = [] /\ n = 1
  else if a0 c = true then v = [] /\ ∃ t,r.drop (bG r) = 41 :: t /\ n = bG r + 2
  else if c = 92 then [92,10].isPrefixOf (c :: r) = false /\ ∃ s w k m,v = s :: w /\ n = m + (k + 1) /\ EscAt r s k /\ UrlG (r.drop k) w m
  else zeU c = false /\ ∃ w m,v = c :: w /\ n = m + 1 /\ UrlG r w m
theorem sR (c:Nat) (h:a0 c = true):c ≠ 41 /\ c ≠ 92:=⟨fun e=>(by subst e; cases h),fun e=>(by subst e; cases h)⟩
theorem UrlG.d {x v:List Nat} {n:Nat} (h:UrlG x v n):UrlD x v n:=by
 cases h with
 | close r=>exact ⟨rfl,rfl⟩
 | blank c r t hb ht=>show if c = 41 then _ else _; rw [if_neg (sR c hb).1,if_pos hb]; exact ⟨rfl,t,ht,rfl⟩
 | plain c r w m h1 h2 h3 h4 h=>show if c = 41 then _ else _; rw [if_neg h1,if_neg (by rw [h2]; decide),if_neg h3]; exact ⟨h4,w,m,rfl,rfl,h⟩
 | esc r w s k m hp he h=>exact ⟨hp,s,w,k,m,rfl,rfl,he,h⟩
theorem UrlG.le {x v:List Nat} {n:Nat} (h:UrlG x v n):n <= x.length /\ v.length <= n:=by
 induction h with
 | close=>exact ⟨Nat.succ_le_succ (Nat.zero_le _),Nat.zero_le _⟩
 | blank c r t _ ht=>
  refine ⟨?_,Nat.zero_le _⟩
  have:=congrArg List.length ht
  rw [List.length_drop,List.length_cons] at this
  rw [List.length_cons]; omega
 | plain c r v n _ _ _ _ _ ih=>exact ⟨Nat.succ_le_succ ih.1,Nat.succ_le_succ ih.2⟩
 | esc r v s k n _ he _ ih=>
  have h2:=he.le
  rw [List.length_drop] at ih
  simp only [List.length_cons]
  omega
theorem UrlG.len {css v:List Nat} {p n:Nat} (h:UrlG (css.drop p) v n):v.length <= css.length:=Nat.le_trans h.le.2 (Nat.le_trans h.le.1 (by rw [List.length_drop]; exact Nat.sub_le _ _))
theorem UrlG.noq {c:Nat} {r v:List Nat} {n:Nat} (h:UrlG (c :: r) v n):c ≠ 34 /\ c ≠ 39:=by
 have h:=h.d
 exact ⟨fun e=>(by subst e; cases h.1),fun e=>(by subst e; cases h.1)⟩
theorem zeA {C:Ctx} {κ:Kn} {l r:Expr} {p:Pos} {st:St} {a b:Nat} (M:CtxMono C) (h:ev C κ l st (.int a)) (h':ev C κ r st (.int b)):ev C κ (.Compare l [.GtE] [r] p) st (.bool (decide (b <= a))):=bL M h h' (decide_eq_decide.mpr Int.ofNat_le)
noncomputable def zaW:Fn:=fun _ _=>False
theorem l6:bD zaW:=fun _ _ _ _ h=>h
noncomputable def cU:Ctx:=mkC [("_consume_escape",tJ),("_consume_quoted_string",zaW)] [] false [] [307,327,363,370,377,437,458,507]
theorem zeO:CtxMono cU:=bP (by simp [hH,l6]) (by simp)
theorem zgC (e b:Nat):e + 1 + b + 1 = e + (b + 2):=by omega
theorem za9 (p:Params) (css:List Nat) (pos:Nat) (V:List Nat) (m:Nat) (K:PV->Prop) (hx:css.length < 1000000) (ha:Al css) (hp:pos <= css.length) (hu:UrlG (css.drop (pos + bG (css.drop pos))) V m) (hK:K (.tup [.str V,.int ((pos + bG (css.drop pos) + m:Nat)),.none])):
  wSs cU (eA (aL (HK p) 670)) (bC (HK p) 670) (jY K) ⟨bA [("css",.str css),("pos",.int pos)] (fun _=>none),fun _=>none⟩:=by
 have M:=zeO
 have hx2:=Nat.lt_trans hx (show 1000000 < 2000000 by decide)
 apply nfe
 case h=>
  show ?nl1 = ?nr1
  refine (?f:∀ _:(?nl1 = ?nr1),(?nl1 = ?nr1)) ?d
  case d=>conv=>lhs; whnf; dsimp only [cH,erS,erE,bR,erO]
  case f=>exact fun _=>by kernel_rfl!
 refine aA (aE M .none (aC rfl) (by kernel_rfl) ?_)
 refine aA (aE M (.int css.length) (gB M (by kernel_rfl!) rfl rfl (by kernel_rfl) aG) (by kernel_rfl) ?_)
 refine aA (kF M (by kernel_rfl!) (by kernel_rfl!) (by rw [Ne,sEq]; decide) (by kernel_rfl!) (by kernel_rfl!) hx hp ?_)
 have hle:=gK hp (zaN (css.drop pos))
 generalize pos + bG (css.drop pos) = q at hu hK hle ⊢
 have hl:q < css.length:=Nat.lt_of_not_le fun h=>by
  rw [List.drop_of_length_le h] at hu
  exact hu.d
 have hd:css.drop q = css[q] :: css.drop (q + 1):=List.drop_eq_getElem_cons hl
 have hqq:=UrlG.noq (hd ▸ hu)
 refine aA (bS M false (decide_eq_false (Nat.not_le.mpr hl) ▸ bE M (zeA M aG aG)) (fun h=>by cases h) (fun _=>?_))
 refine aA (aE M (.str [css[q]]) (dK M rfl aG aG (List.getElem?_eq_getElem hl)) (by kernel_rfl) ?_)
 have hT:q + m <= css.length:=gK hle hu.le.1
 generalize hTe:q + m = T at hT hK
 have hVl:=hu.len
 let Rr:St->Prop:=fun st=>∃ (f:Nat) (t:List Nat),bV [("css",.str css),("length",.int css.length),("pos",.int f),("value",.str V),("error",.none)] st.ρ /\ f <= css.length /\ (css.drop f).drop (bG (css.drop f)) = 41 :: t /\ f + bG (css.drop f) + 1 = T
 refine b8 M Rr (bS M (decide (css[q] = 34) || decide (css[q] = 39)) (bE M (zao M aG)) (fun h=>?_) (fun h=>?_)) ?_
 ·rw [decide_eq_false hqq.1,decide_eq_false hqq.2] at h; cases h
 ·refine aA (bS M (decide (css[q] = 41)) (bE M (d7 M aG (by kernel_rfl))) (fun h4=>?_) (fun h4=>?_))
  ·rw [hd,of_decide_eq_true h4] at hu
   have z:V = [] /\ m = 1:=hu.d
   rw [z.1,<- hTe,z.2] at hK
   exact aA (aP M (.tup [.str [],.int ((q + 1:Nat)),.none]) (aT M (aB M (aC rfl) (aB M (c9 (i:=q) (j:=1) M aG (aC rfl)) (aB M aG aD)))) ⟨_,aW _ _ rfl,hK⟩)
  ·clear h h4 hqq hd
   refine aA (iV (by kernel_rfl) (by kernel_rfl) fun a _=>?_)
   refine aA (aE M (.int q) aG (by kernel_rfl) ?_)
   let I:Nat->St->Prop:=fun n st=>∃ (s e:Nat) (ch:List (List Nat)) (w:List Nat) (k:Nat),n = css.length - e /\ bV [("css",.str css),("length",.int css.length),("start_pos",.int s),("pos",.int e),("chunks",.ptr a),("error",.none)] st.ρ /\ st.σ a = some (.lst (ch.map .str)) /\ s <= e /\ e <= css.length /\ ch.length <= 2 * s /\
    UrlG (css.drop e) w k /\ e + k = T /\ ch.flatten ++ (css.drop s).take (e - s) ++ w = V
   refine aA (fE M I ?_ (css.length - q) _ ⟨q,q,[],V,m,rfl,by (show _ = _; first | kernel_rfl! | (rw [<- Nat.add_assoc]; kernel_rfl!) | (rw [<- Nat.add_assoc,<- Nat.add_assoc]; kernel_rfl!)),aQ _ _ _,Nat.le_refl _,hle,Nat.zero_le _,hu,hTe,by rw [Nat.sub_self]; rfl⟩)
   refine fun n st=>x5 fun s e ch w k=>a9 fun hnn h1 h6 h7 h8 h9 hn hT' hw=>keepP st h1 ?_
   clear h1
   refine ⟨true,zfk M (aC rfl) rfl,fun _=>?_,fun h=>by cases h⟩
   have sl:∀ ρ,ρ "css" = some (.str css)->ρ "start_pos" = some (.int s)->ρ "pos" = some (.int e)->∀ σ p1 p2 p3 p4 p5,ev cU (eA (aL (HK p) 670)) (.Subscript (.Name "css" p1) (.Slice (some (.Name "start_pos" p2)) (some (.Name "pos" p3)) none p4) p5) ⟨ρ,σ⟩ (.str ((css.drop s).take (e - s))):=fun ρ g1 g2 g3 σ p1 p2 p3 p4 p5=>lQ M (aJ (by kernel_rfl!) g1) (aJ (by kernel_rfl!) g2) (aJ (by kernel_rfl!) g3) h7 (Nat.lt_of_le_of_lt h8 hx2)
   have vl:V.length <= aO:=Nat.le_trans hVl (Nat.le_trans (Nat.le_of_lt hx) (by decide))
   have cl:=uW h9 (Nat.le_trans h7 h8) hx
   have hn:=hn.d
   have hc:e < css.length:=by
    refine Nat.lt_of_le_of_ne h8 fun q=>?_
    rw [List.drop_of_length_le (Nat.le_of_eq q.symm)] at hn; exact hn
   have hd:css.drop e = css[e] :: css.drop (e + 1):=List.drop_eq_getElem_cons hc
   rw [hd] at hn
   have hn:if css[e] = 41 then w = [] /\ k = 1 else if a0 css[e] = true then w = [] /\ ∃ t,(css.drop (e + 1)).drop (bG (css.drop (e + 1))) = 41 :: t /\ k = bG (css.drop (e + 1)) + 2
    else if css[e] = 92 then [92,10].isPrefixOf (css[e] :: css.drop (e + 1)) = false /\ ∃ s w' k' m,w = s :: w' /\ k = m + (k' + 1) /\ EscAt (css.drop (e + 1)) s k' /\ UrlG ((css.drop (e + 1)).drop k') w' m
    else zeU css[e] = false /\ ∃ w' m,w = css[e] :: w' /\ k = m + 1 /\ UrlG (css.drop (e + 1)) w' m:=hn
   refine aA (bS M false (decide_eq_false (Nat.not_le.mpr hc) ▸ bE M (zeA M aG aG)) (fun h=>by cases h) (fun _=>?_))
   have hac:=ha.get hc
   refine aA (aE M (.str [css[e]]) (dK M rfl aG aG (List.getElem?_eq_getElem hc)) (by kernel_rfl) ?_)
   refine aA (bS M (decide (css[e] = 41)) (bE M (d7 M aG (by kernel_rfl))) (fun h4=>?_) (fun h4=>?_))
   ·rw [if_pos (of_decide_eq_true h4)] at hn
    rw [hn.1,List.append_nil] at hw
    rw [hn.2] at hT'
    rw [<- hT'] at hK
    refine aA (bO M (.str ((css.drop s).take (e - s))) (by kernel_rfl) (by kernel_rfl!) h6 (sl _ (by kernel_rfl!) (by kernel_rfl!) (by kernel_rfl!) _ _ _ _ _ _) rfl cl ?_)
    refine aA (dP M (.int e) (.int 1) (by kernel_rfl!) (aC rfl) (by kernel_rfl) (of_eq cF ?_))
    exact aA (aP M (.tup [.str V,.int ((e + 1:Nat)),.none]) (aT M (aB M (oA (a:=a) (ch ++ [(css.drop s).take (e - s)]) (by kernel_rfl) (by kernel_rfl!) (by dsimp only; rw [aQ,List.map_append]; rfl) (by rw [d6]; exact hw) vl) (aB M aG (aB M aG aD)))) ⟨_,aW _ _ rfl,hK⟩)
   rw [if_neg (of_decide_eq_false h4)] at hn
   refine aA (bS M (a0 css[e]) (wB hac ▸ bE M (iD M aG)) (fun h5=>?_) (fun h5=>?_))
   ·rw [if_pos h5] at hn
    obtain ⟨z1,t,z2,z3⟩:=hn
    rw [z1,List.append_nil] at hw
    rw [z3] at hT'
    refine aA (bO M (.str ((css.drop s).take (e - s))) (by kernel_rfl) (by kernel_rfl!) h6 (sl _ (by kernel_rfl!) (by kernel_rfl!) (by kernel_rfl!) _ _ _ _ _ _) rfl cl ?_)
    refine aA (aE M (.str V) (oA (a:=a) (ch ++ [(css.drop s).take (e - s)]) (by kernel_rfl) (by kernel_rfl!) (by dsimp only; rw [aQ,List.map_append]; rfl) (by rw [d6]; exact hw) vl) (by kernel_rfl) ?_)
    refine aA (dP M (.int e) (.int 1) (by kernel_rfl!) (aC rfl) (by kernel_rfl) (of_eq cF ?_))
    exact aA (rN ⟨e + 1,t,by (show _ = _; first | kernel_rfl! | (rw [<- Nat.add_assoc]; kernel_rfl!) | (rw [<- Nat.add_assoc,<- Nat.add_assoc]; kernel_rfl!)),hc,z2,by rw [<- hT']; exact zgC _ _⟩)
   rw [if_neg (by rw [h5]; decide)] at hn
   refine aA (bS M (decide (css[e] = 92) && !([92,10].isPrefixOf (css.drop e))) (dU M (bE M (d7 M aG (by kernel_rfl))) fun _=>dZ (jW M (bE M (jN (q:=Str.ofString "\\\n") M aG aG h8 hx2 rfl)))) (fun hq=>?_) (fun hq=>?_))
   ·rw [if_pos (of_decide_eq_true (Bool.and_eq_true_iff.mp hq).1)] at hn
    refine x4 (fun z w' k' n'=>a4 fun hv' hk' he hn'=>?_) hn.2
    rw [List.drop_drop] at hn'
    have le:e + 1 + k' <= css.length:=oM hc he.le
    refine aA (bO M (.str ((css.drop s).take (e - s))) (by kernel_rfl) (by kernel_rfl!) h6 (sl _ (by kernel_rfl!) (by kernel_rfl!) (by kernel_rfl!) _ _ _ _ _ _) rfl cl ?_)
    refine aA (bZ M (.str [z]) (.int ((e + 1 + k':Nat))) (bX (F:=tJ) M (by kernel_rfl!) rfl (aB M (v:=.str css) aG (aB M (v:=.int (e + 1:Nat)) (c9 (i:=e) (j:=1) M aG (aC rfl)) aD)) ⟨css,e + 1,z,k',rfl,hx,ha,hc,he,.inl rfl,rfl⟩) (by kernel_rfl) (by kernel_rfl) ?_)
    refine aA (bO M (.str [z]) (by kernel_rfl) (by kernel_rfl!) (aQ _ _ _) aG rfl (sQ h9 (Nat.le_trans h7 h8) hx) ?_)
    refine aA (aE M (.int ((e + 1 + k':Nat))) aG (by kernel_rfl) ?_)
    refine ⟨css.length - (e + 1 + k'),hnn ▸ Nat.sub_lt_sub_left hc (Nat.lt_of_lt_of_le (Nat.lt_succ_self e) (Nat.le_add_right _ _)),e + 1 + k',e + 1 + k',ch ++ [(css.drop s).take (e - s)] ++ [[z]],w',n',rfl,by (show _ = _; first | kernel_rfl! | (rw [<- Nat.add_assoc]; kernel_rfl!) | (rw [<- Nat.add_assoc,<- Nat.add_assoc]; kernel_rfl!)),?_,Nat.le_refl _,le,sP h9 h7,hn',by rw [<- hT',hk']; exact rF _ _ _,?_⟩
    ·dsimp only
     rw [q9,aQ,List.map_append,List.map_append]; rfl
    ·rw [d6,d6,Nat.sub_self,List.take_zero,List.append_nil,<- hw,hv']
     simp only [List.append_assoc]; rfl
   have h92:css[e] ≠ 92:=fun e92=>by
    rw [if_pos e92] at hn
    rw [hd,hn.1,decide_eq_true e92] at hq; cases hq
   rw [if_neg h92] at hn
   obtain ⟨hb,w',k',hv',hk',hn'⟩:=hn
   refine aA (bS M false (hb ▸ zbZ hac ▸ bE M (iD M aG)) (fun h=>by cases h) (fun _=>?_))
   refine aA (dP M (.int e) (.int 1) (by kernel_rfl!) (aC rfl) (by kernel_rfl) (of_eq cF ⟨css.length - (e + 1),hnn ▸ Nat.sub_lt_sub_left hc (Nat.lt_succ_self e),s,e + 1,ch,w',k',rfl,by (show _ = _; first | kernel_rfl! | (rw [<- Nat.add_assoc]; kernel_rfl!) | (rw [<- Nat.add_assoc,<- Nat.add_assoc]; kernel_rfl!)),h6,Nat.le_succ_of_le h7,hc,h9,hn',by rw [<- hT',hk',Nat.add_assoc,Nat.add_comm 1],?_⟩))
   rw [kW h7 hc,<- hw,hv']
   simp only [List.append_assoc]; rfl
 ·refine fun st=>x2 fun f t=>a4 fun h1 hf ht hTf=>b7 h1 ?_
  refine aA (bS M true (bE M (bL (a:=.str V) (b:=.none) M aG (aC rfl) rfl)) (fun _=>?_) (fun h=>by cases h))
  refine aA (kF M (by kernel_rfl!) (by kernel_rfl!) (by rw [Ne,sEq]; decide) (by kernel_rfl!) (by kernel_rfl!) hx hf ?_)
  rw [List.drop_drop] at ht
  generalize f + bG (css.drop f) = g at ht hTf
  have hg:css[g]? = some 41:=by rw [<- cG,ht]; rfl
  subst hTf
  refine aA (bS M true (decide_eq_true (fD hg) ▸ bE M (gO M aG aG)) (fun _=>?_) (fun h=>by cases h))
  refine aA (bS M true ((show decide ((41:Nat) = 41) = true from rfl) ▸ bE M (d7 M (dK M rfl aG aG hg) (by kernel_rfl))) (fun _=>?_) (fun h=>by cases h))
  exact aA (aP M (.tup [.str V,.int ((g + 1:Nat)),.none]) (aT M (aB M aG (aB M (c9 (i:=g) (j:=1) M aG (aC rfl)) (aB M aG aD)))) ⟨_,aW _ _ rfl,hK⟩)
noncomputable def zaV:Fn:=fun ps K=>∃ (css:List Nat) (pos:Nat) (w:List Nat) (n:Nat),ps = [.str css,.int pos] /\ css.length < 1000000 /\ Al css /\ pos <= css.length /\ UrlG (css.drop (pos + bG (css.drop pos))) w n /\ K (.tup [.str w,.int ((pos + bG (css.drop pos) + n:Nat)),.none])
theorem xA:bD zaV:=fun _ _ _ h=>e4 fun _ _ _ _=>c5 (h _)
theorem r9 (hB:BsOk (bs w.params h mb)) {n:Nat} {a:Addr} (hf:qC (HK w.params) a = true):Meets prog w (bs w.params h mb) n (.ref a) zaW:=by
 obtain ⟨fd,h1,_⟩:=j6 hf
 exact ⟨fP hB h1,fun _ _ _ _ _ _ _ _ _ _ _ _ h=>h.elim⟩
theorem zK (hB:BsOk (bs w.params h mb)) (hmb:HMb mb):Meets prog w (bs w.params h mb) 4 (.ref 670) zaV:=by
 have hC:CtxOk prog w (bs w.params h mb) cU 3:=dX hmb (by simp [hH,l6]) (by simp) (by simp) (fun e he=>by
  simp only [List.mem_cons,List.not_mem_nil,or_false] at he
  rcases he with rfl | rfl
  ·exact ⟨.ref 663,by kernel_rfl,(pQ hB hmb).le (by decide)⟩
  ·exact ⟨.ref 656,by kernel_rfl,r9 hB (by kernel_rfl)⟩) (by simp) (by simp)
 refine aY (k:=2) (params:=["css", "pos"]) (dv:=[]) (dp:=[]) hB hC (by kernel_rfl) (by kernel_rfl) (by kernel_rfl) rfl (fun _=>.nil) (fun S vals hl=>?_) fun ps K=>x4 fun css pos R n=>a6 fun h1 h2 h3 h5 h6 h4=>?_
 ·obtain ⟨a,b,rfl⟩:=hZ hl
  kernel_rfl
 ·subst h1
  exact ⟨rfl,za9 _ css pos R n K h2 h3 h5 h6 h4⟩
noncomputable def uH (os:List Nat) (σ:Nat->Option Cell):Nat->Option Cell:=fun b=>if b ∈ os then none else σ b
noncomputable def LeC (σ σ':Nat->Option Cell):Prop:=∀ b c,σ b = some c->σ' b = some c
mutual
theorem zfz {σ σ':Nat->Option Cell} (h:LeC σ σ'):∀ (t:PV) {v:PV},Res σ v t->Res σ' v t
 | .tup ts,v,⟨xs,e,r⟩=>⟨xs,e,eD h ts r⟩
 | .list ts,v,.inl ⟨xs,e,r⟩=>.inl ⟨xs,e,eD h ts r⟩
 | .list ts,v,.inr ⟨a,xs,e,q,r⟩=>.inr ⟨a,xs,e,h _ _ q,eD h ts r⟩
 | .inst _ ts,v,⟨xs,e,r⟩=>⟨xs,e,eD h ts r⟩
 | .none,_,r=>r
 | .bool _,_,r=>r
 | .int _,_,r=>r
 | .str _,_,r=>r
 | .rng _ _,_,r=>r
 | .dict _,_,r=>r
 | .ptr _,_,r=>r
theorem eD {σ σ':Nat->Option Cell} (h:LeC σ σ'):∀ (ts:List PV) {vs:List PV},kP σ vs ts->kP σ' vs ts
 | [],_,r=>r
 | t :: ts,_,⟨y,ys,e,r,rs⟩=>⟨y,ys,e,zfz h t r,eD h ts rs⟩
end
theorem kG {σ:Nat->Option Cell} {v t:PV} (h:Res σ v t):∀ {ts vs:List PV},kP σ vs ts->kP σ (vs ++ [v]) (ts ++ [t])
 | [],_,r=>by cases r; exact ⟨v,[],rfl,h,rfl⟩
 | _ :: _,_,⟨y,ys,e,r,rs⟩=>by subst e; exact ⟨y,_,rfl,r,kG h rs⟩
theorem t5 {σ:Nat->Option Cell}:∀ {ts vs:List PV},kP σ vs ts->vs.length = ts.length
 | [],_,r=>by cases r; rfl
 | _ :: _,_,⟨y,ys,e,r,rs⟩=>by subst e; exact congrArg Nat.succ (t5 rs)
theorem lM {os:List Nat} {σ:Nat->Option Cell} {b:Nat} {c:Cell} (h:uH os σ b = some c):b ∉ os /\ σ b = some c:=by
 unfold uH at h
 split at h
 ·cases h
 ·rename_i q; exact ⟨q,h⟩
theorem jL {os:List Nat} {σ:Nat->Option Cell} {b:Nat} {c:Cell} (h:b ∉ os) (e:σ b = some c):uH os σ b = some c:=by unfold uH; rw [if_neg h]; exact e
theorem n0 {os:List Nat} {σ:Nat->Option Cell} {a:Nat} {c:Cell} (h:a ∈ os):LeC (uH os σ) (uH os (aZ σ a c)):=fun b d e=>by
 obtain ⟨h1,h2⟩:=lM e
 exact jL h1 (by rw [d8 _ (fun q=>h1 (by rw [q]; exact h))]; exact h2)
theorem z9 (os:List Nat) (σ:Nat->Option Cell):LeC (uH os σ) σ:=fun x d e=>(lM e).2
structure Row (σ:Nat->Option Cell) (sb root:Nat) (xs ts:List PV):Prop where
 cell:σ root = some (.lst xs)
 res:kP (uH [sb,root] σ) xs ts
 ne:sb ≠ root
 sbx:(σ sb).isSome = true
section
variable {σ:Nat->Option Cell} {sb root:Nat} {xs ts:List PV}
theorem Row.push {w t:PV} (h:Row σ sb root xs ts) (ht:∀ s,Res s w t):Row (aZ σ root (.lst (xs ++ [w]))) sb root (xs ++ [w]) (ts ++ [t]):=
 ⟨aQ _ _ _,kG (ht _) (eD (n0 (.tail _ (.head _))) _ h.res),h.ne,by rw [d8 _ h.ne]; exact h.sbx⟩
theorem Row.set (h:Row σ sb root xs ts) (c:Cell):Row (aZ σ sb c) sb root xs ts:=
 ⟨by rw [d8 _ (Ne.symm h.ne)]; exact h.cell,eD (n0 (.head _)) _ h.res,h.ne,by rw [aQ]; rfl⟩
theorem Row.fn {w t:PV} {b:Nat} (h:Row σ sb root xs ts) (hb:σ b = none) (ht:∀ s,Res s (.ptr b) (.list [])->Res s w t):Row (aZ (aZ σ b (.lst [])) root (.lst (xs ++ [w]))) sb root (xs ++ [w]) (ts ++ [t]):=by
 have br:b ≠ root:=fun e=>by rw [e,h.cell] at hb; cases hb
 have bs:b ≠ sb:=fun e=>by have:=h.sbx; rw [<- e,hb] at this; cases this
 have le:LeC (uH [sb,root] σ) (uH [sb,root] (aZ (aZ σ b (.lst [])) root (.lst (xs ++ [w])))):=fun x d e=>by
  obtain ⟨q1,q2⟩:=lM e
  have xb:x ≠ b:=fun e=>by rw [e,hb] at q2; cases q2
  have xr:x ≠ root:=fun e=>q1 (e ▸ .tail _ (.head _))
  exact jL q1 (by rw [d8 _ xr,d8 _ xb]; exact q2)
 refine ⟨aQ _ _ _,kG (ht _ (.inr ⟨b,[],rfl,jL (fun m=>?_) (by rw [d8 _ br,aQ]),rfl⟩)) (eD le _ h.res),h.ne,by rw [d8 _ h.ne,d8 _ (Ne.symm bs)]; exact h.sbx⟩
 rcases List.mem_cons.mp m with e | m
 ·exact bs e
 ·exact br (List.mem_singleton.mp m)
end
noncomputable def lcS (s:String):List Nat:=(Str.ofString s).cps.toList
noncomputable def v2 (v:Option Int):PV:=v.elim .none .int
inductive Tk where
 | ws | lit | com | ident (v:List Nat) | atk (v:List Nat) | hash (v:List Nat) (b:Bool) | str (v:List Nat) | url (v:List Nat) | dim (iv:Option Int) (r u:List Nat) | fn (v:List Nat)
noncomputable def fnP (lc:Nat × Nat) (v:List Nat) (p:PV):PV:=.inst 600 [p,.str (v.map cW),.str v,.int lc.2,.int lc.1]
noncomputable def tkP (lc:Nat × Nat) (rep:List Nat) (t:Tk):PV:=
 Tk.casesOn (motive:=fun _=>PV) t (.inst 163 [.str [10],.int lc.2,.int lc.1]) (.inst 206 [.str [59],.int lc.2,.int lc.1]) (.inst 134 [.str [],.int lc.2,.int lc.1])
  (fun v=>.inst 235 [.str (v.map cW),.str v,.int lc.2,.int lc.1]) (fun v=>.inst 265 [.str (v.map cW),.str v,.int lc.2,.int lc.1]) (fun v b=>.inst 295 [.bool b,.str v,.int lc.2,.int lc.1])
  (fun v=>.inst 325 [.str rep,.str v,.int lc.2,.int lc.1]) (fun v=>.inst 355 [.str rep,.str v,.int lc.2,.int lc.1])
  (fun iv r u=>.inst 479 [v2 iv,.bool iv.isSome,.str (u.map cW),.str r,.str u,.str r,.int lc.2,.int lc.1]) (fun v=>fnP lc v (.list []))
theorem zdN (lc:Nat × Nat) (rep:List Nat) (t:Tk):zch (tkP lc rep t) = true:=by
 cases t with
 | dim iv r u=>cases iv <;> rfl
 | _=>rfl
noncomputable def pY (r:List Nat):Bool:=(r[0]?).any fun c=>bW c || (c == 92 && !([92,10].isPrefixOf r))
noncomputable def zcV:List Nat:=[117,114,108]
noncomputable def zg8 (x:List Nat) (t:Tk) (n:Nat):Prop:=∃ v k,NameAt x v k /\ ((x[k]? ≠ some 40 /\ x[k]? ≠ some 43 /\ t = .ident v /\ n = k) \/ (∃ s,x.drop k = 40 :: 41 :: s /\ t = .fn v /\ n = k + 2 /\ v.map cW ≠ zcV) \/
 ∃ y w m,x.drop k = 40 :: y /\ v.map cW = zcV /\ t = .url w /\ UrlG (y.drop (bG y)) w m /\ n = k + 1 + bG y + m)
noncomputable def DimK (x:List Nat) (t:Tk) (n z:Nat) (b:Bool):Prop:=∃ v k iv,t = .dim iv (x.take z) v /\ n = z + k /\ (b = true->∃ i,iv = some i /\ zb9 (x.take z) fun z=>z = .int i) /\ (b = false->iv = none) /\ aR (x.drop z) = true /\ NameAt (x.drop z) v k
noncomputable def SignK (c:Nat) (r:List Nat) (t:Tk) (n:Nat):Prop:=
 if c = 64 then ∃ v k,t = .atk v /\ n = 1 + k /\ aR r = true /\ NameAt r v k
 else if c = 35 then ∃ v k,t = .hash v (aR r) /\ n = 1 + k /\ pY r = true /\ NameAt r v k
 else if c = 34 \/ c = 39 then ∃ v k,t = .str v /\ n = 1 + k /\ StrAt c r v k
 else if c = 47 then ∃ s,r = 42 :: 42 :: 47 :: s /\ t = .com /\ n = 4
 else c = 59 /\ t = .lit /\ n = 1
noncomputable def Nx (x:List Nat) (t:Tk) (n:Nat):Prop:=
 List.casesOn (motive:=fun _=>Prop) x False fun c r=>(c = 10 /\ bG r = 0 /\ t = .ws /\ n = 1) \/
  (a0 c = false /\ ((aR (c :: r) = true /\ zg8 (c :: r) t n) \/ (aR (c :: r) = false /\ ((∃ z b,j3 (c :: r) = some (z,b) /\ DimK (c :: r) t n z b) \/ (j3 (c :: r) = none /\ SignK c r t n)))))
inductive Rd:Nat × Nat->List Nat->List ((Nat × Nat) × Tk)->Prop
 | nil (lc:Nat × Nat):Rd lc [] []
 | cons (n:Nat) (lc:Nat × Nat) (x:List Nat) (t:Tk) (E:List ((Nat × Nat) × Tk)):Nx x t n->1 <= n->n <= x.length->Rd (adv lc (x.take n)) (x.drop n) E->Rd lc x ((lc,t) :: E)
theorem Rd.iv {lc:Nat × Nat} {x:List Nat} {E:List ((Nat × Nat) × Tk)} (h:Rd lc x E):(x = [] /\ E = []) \/ ∃ n t E',E = (lc,t) :: E' /\ Nx x t n /\ 1 <= n /\ n <= x.length /\ Rd (adv lc (x.take n)) (x.drop n) E':=by
 cases h with
 | nil=>exact .inl ⟨rfl,rfl⟩
 | cons n _ _ t E h1 h2 h3 h4=>exact .inr ⟨n,t,E,rfl,h1,h2,h3,h4⟩
noncomputable def zgl:List ((Nat × Nat) × Tk)->List PV->Prop
 | [],R=>R = []
 | e :: E,R=>∃ rep R',R = tkP e.1 rep e.2 :: R' /\ zgl E R'
noncomputable def cPf:List (String × Fn):=[("_is_ident_start",zgx),("_consume_ident",zgy),("_number_end",zcQ),("ascii_lower",l8),("_consume_url",zaV),("_consume_quoted_string",zcP),("serialize_url",tI),("serialize_string_value",tI)]
noncomputable def cPc:List (String × Fn):=[("LiteralToken",vD),("IdentToken",kR),("DimensionToken",vE),("AtKeywordToken",zcO),("HashToken",oT),("Comment",vF),("FunctionBlock",zcN),("WhitespaceToken",zcM),("StringToken",vB),("URLToken",vA)]
noncomputable def cP:Ctx:=mkC cPf cPc false [] [272,274,327,363,370,377,437,458,507]
theorem xG:bD tI:=fun _ _ _ h=>e1 fun _=>c2 fun k y h1 h2=>h _ (k y h1 h2)
theorem uZ:∀ e ∈ cPf,bD e.2:=by simp only [cPf,List.mem_cons,List.not_mem_nil,or_false]; rintro e (rfl | rfl | rfl | rfl | rfl | rfl | rfl | rfl); all_goals first | exact zaX | exact zaY | exact xF | exact jV | exact xA | exact xE | exact xG
theorem uY:∀ e ∈ cPc,bD e.2:=by
 simp only [cPc,List.mem_cons,List.not_mem_nil,or_false]; rintro e (rfl | rfl | rfl | rfl | rfl | rfl | rfl | rfl | rfl | rfl)
 all_goals first | exact tD | exact oS | exact tE | exact xD | exact qT | exact tF | exact xC | exact xB | exact sZ | exact sY
theorem bM:CtxMono cP:=bP uZ uY
noncomputable def stD {α:Sort _} (d:α) (iff:List Stmt->List Stmt->α) (whl fr:List Stmt->α) (s:Stmt):α:=Stmt.casesOn (motive_2:=fun _=>α) s (fun _ _ _ _ _ _ _ _ _ _=>d) (fun _ _ _ _ _ _ _ _ _ _=>d) (fun _ _ _ _ _ _ _ _ _ _ _=>d) (fun _ _=>d) (fun _ _=>d) (fun _ _ _=>d) (fun _ _ _ _ _ _ _=>d) (fun _ _ _ _=>d) (fun _ _ _ _ _=>d) (fun _ _ b _ _=>fr b) (fun _ _ _ _ _=>d) (fun _ b _ _=>whl b) (fun _ b o _=>iff b o) (fun _ _ _=>d) (fun _ _ _=>d) (fun _ _ _=>d) (fun _ _ _=>d) (fun _ _ _ _ _=>d) (fun _ _ _ _ _=>d) (fun _ _ _=>d) (fun _ _=>d) (fun _ _ _ _=>d) (fun _ _=>d) (fun _ _=>d) (fun _ _=>d) (fun _=>d) (fun _=>d) (fun _=>d)
noncomputable def iR:List Stmt->List Stmt
 | []=>[]
 | s :: r=>stD (iR r) (fun _ _=>iR r) id (fun _=>iR r) s
noncomputable def hJ:Nat->List Stmt->Stmt
 | 0,s :: _=>s
 | n + 1,_ :: r=>hJ n r
 | _,[]=>.Pass ⟨0,0,0,0⟩
noncomputable def zaL:Nat->Stmt->List Stmt
 | 0,s=>stD [] (fun b _=>b) (fun _=>[]) (fun _=>[]) s
 | n + 1,s=>stD [] (fun _ o=>stD o (fun _ _=>zaL n (o.headD s)) (fun _=>o) (fun _=>o) (o.headD s)) (fun _=>[]) (fun _=>[]) s
noncomputable def knP (P:Params):Kn:=eA (aL (HK P) 628)
noncomputable def eS (P:Params):List Stmt:=iR (cH (bC (HK P) 628))
noncomputable def br1 (P:Params) (j:Nat):List Stmt:=zaL j (hJ 5 (eS P))
noncomputable def br2 (P:Params) (j:Nat):List Stmt:=zaL j (hJ 7 (eS P))
noncomputable def LZ (css:List Nat) (root sb q t l:Nat) (n:Int) (k:Nat) (e:PV):List (Str × PV):=[("css",.str css),("length",.int css.length),("skip_comments",.bool false),("pos",.int q),("token_start_pos",.int t),("line",.int l),("last_newline",.int n),
 ("root",.ptr root),("tokens",.ptr k),("end_char",e),("stack",.ptr sb)]
noncomputable def LX (css:List Nat) (root sb p:Nat) (lc:Nat × Nat) (c k:Nat) (e:PV):List (Str × PV):=("c",.str [c]) :: ("column",.int lc.2) :: LZ css root sb p p lc.1 ((p:Int) - lc.2) k e
noncomputable def zfa (K:PV->Prop) (ts:List PV) (E:List ((Nat × Nat) × Tk)):Prop:=∀ R',zgl E R'->K (.list (ts ++ R'))
noncomputable def Inv (css:List Nat) (root sb:Nat) (K:PV->Prop) (n:Nat) (st:St):Prop:=
 ∃ (p t k:Nat) (e:PV) (xs ts:List PV) (E:List ((Nat × Nat) × Tk)),n = css.length - p /\ t <= p /\ p <= css.length /\ bV (LZ css root sb p t (gL (css.take t)).1 ((t:Int) - (gL (css.take t)).2) k e) st.ρ /\ Row st.σ sb root xs ts /\ xs.length <= p /\ zfa K ts E /\
  ((k = root /\ e = .none /\ st.σ sb = some (.lst []) /\ Rd (gL (css.take p)) (css.drop p) E) \/ (e = .str [41] /\ st.σ sb = some (.lst [.tup [.ptr root,.none]]) /\ css[p]? = some 41 /\ Rd (gL (css.take (p + 1))) (css.drop (p + 1)) E))
noncomputable def oY (css:List Nat) (root sb:Nat) (K:PV->Prop) (p:Nat) (st:St):Prop:=∃ m,m < css.length - p /\ Inv css root sb K m st
structure Mid (css:List Nat) (root sb:Nat) (K:PV->Prop) (st:St) (p c:Nat) (r:List Nat) (lc:Nat × Nat) (xs ts:List PV) (t:Tk) (n:Nat):Prop where
 hlen:css.length <= 10000
 ha:Al css
 lt:p < css.length
 drop:css.drop p = c :: r
 at_:css[p]? = some c
 hlc:lc = gL (css.take p)
 core:bV (LX css root sb p lc c root .none) st.ρ
 row:Row st.σ sb root xs ts
 stk:st.σ sb = some (.lst [])
 wt:xs.length <= p
 n1:1 <= n
 n2:p + n <= css.length
 next:∃ E,Rd (adv lc ((c :: r).take n)) ((c :: r).drop n) E /\ ∀ rep,zfa K (ts ++ [tkP lc rep t]) E
section
variable {css:List Nat} {root sb:Nat} {K:PV->Prop} {st st':St} {p c:Nat} {r:List Nat} {lc:Nat × Nat} {xs ts:List PV} {t:Tk} {n:Nat}
theorem zbl {x:List Nat} (n:Nat) (hd:css.drop p = x):gL (css.take (p + n)) = adv (gL (css.take p)) (x.take n):=by
 unfold gL
 rw [List.take_add,fS,hd]
theorem Mid.lt2 (m:Mid css root sb K st p c r lc xs ts t n):css.length < 1000000:=Nat.lt_of_le_of_lt m.hlen (by decide)
theorem Mid.few (m:Mid css root sb K st p c r lc xs ts t n):xs.length < aO:=Nat.lt_of_le_of_lt m.wt (Nat.lt_trans m.lt (Nat.lt_trans m.lt2 (by decide)))
theorem Mid.nxt (m:Mid css root sb K st p c r lc xs ts t n):∃ E,Rd (gL (css.take (p + n))) (css.drop (p + n)) E /\ ∀ rep,zfa K (ts ++ [tkP lc rep t]) E:=by
 obtain ⟨E,h1,h2⟩:=m.next
 refine ⟨E,?_,h2⟩
 rw [zbl n m.drop,<- m.hlc,<- List.drop_drop,m.drop]; exact h1
theorem w1 {a p n:Nat} (h:p < a) (h1:1 <= n) (h2:p + n <= a):a - (p + n) < a - p:=by omega
theorem w2 {x p n:Nat} (h:x <= p) (h1:1 <= n):x + 1 <= p + n:=by omega
theorem eP {rep:List Nat} (m:Mid css root sb K st p c r lc xs ts t n) (hc:bV (LZ css root sb (p + n) p lc.1 ((p:Int) - lc.2) root .none) st'.ρ) (hσ:st'.σ = aZ st.σ root (.lst (xs ++ [tkP lc rep t]))):oY css root sb K p st':=by
 obtain ⟨E,h1,h2⟩:=m.nxt
 refine ⟨_,w1 m.lt m.n1 m.n2,p + n,p,root,.none,xs ++ [tkP lc rep t],ts ++ [tkP lc rep t],E,rfl,Nat.le_add_right _ _,m.n2,?_,?_,?_,h2 rep,.inl ⟨rfl,rfl,?_,h1⟩⟩
 ·rw [<- m.hlc]; exact hc
 ·rw [hσ]; exact m.row.push fun s=>aW _ _ (zdN _ _ _)
 ·rw [List.length_append]; exact w2 m.wt m.n1
 ·rw [hσ,d8 _ m.row.ne]; exact m.stk
theorem zbe {v:List Nat} {b k:Nat} (m:Mid css root sb K st p c r lc xs ts (.fn v) (k + 2)) (h41:css[p + (k + 1)]? = some 41) (hc:bV (LZ css root sb (p + (k + 1)) p lc.1 ((p:Int) - lc.2) b (.str [41])) st'.ρ)
  (hb:st.σ b = none) (hσ:st'.σ = aZ (aZ (aZ st.σ b (.lst [])) root (.lst (xs ++ [fnP lc v (.ptr b)]))) sb (.lst [.tup [.ptr root,.none]])):oY css root sb K p st':=by
 obtain ⟨E,h1,h2⟩:=m.nxt
 have hle:p + (k + 1) <= css.length:=Nat.le_of_lt (fD h41)
 refine ⟨_,w1 m.lt (Nat.le_add_left 1 k) hle,p + (k + 1),p,b,.str [41],xs ++ [fnP lc v (.ptr b)],ts ++ [fnP lc v (.list [])],E,rfl,Nat.le_add_right _ _,hle,?_,?_,?_,h2 [],.inr ⟨rfl,?_,h41,h1⟩⟩
 ·rw [<- m.hlc]; exact hc
 ·rw [hσ]
  exact (m.row.fn (w:=fnP lc v (.ptr b)) (t:=fnP lc v (.list [])) hb fun s h=>⟨_,rfl,.ptr b,_,rfl,h,eJ s _ rfl⟩).set _
 ·rw [List.length_append]; exact w2 m.wt (Nat.le_add_left 1 k)
 ·rw [hσ,aQ]
end
section
variable {κ:Kn} {st:St} {css:List Nat} {i c:Nat} {p0 p1 p2 p3 p4 p5 p6:Pos}
theorem zey (k1:κ "_is_ident_start" = some .globalImplicit) (k2:κ "css" = some .local) (k3:κ "pos" = some .local) (h1:st.ρ "css" = some (.str css)) (h2:st.ρ "pos" = some (.int i)) (hx:css.length < 1000000) (ha:Al css) (hc:css[i]? = some c):
  ev cP κ (.Call (.Name (Str.ofString "_is_ident_start") p1) [.Name (Str.ofString "css") p2,.Name (Str.ofString "pos") p3] [] p4) st (.bool (aR (css.drop i))):=
 bX (F:=zgx) bM k1 rfl (aB bM (aJ k2 h1) (aB bM (aJ k3 h2) aD)) ⟨css,i,c,rfl,hx,ha,hc,.inl rfl,rfl⟩
theorem zas {v:List Nat} {n:Nat} (k1:κ "_consume_ident" = some .globalImplicit) (k2:κ "css" = some .local) (k3:κ "pos" = some .local) (h1:st.ρ "css" = some (.str css)) (h2:st.ρ "pos" = some (.int i)) (hx:css.length < 1000000) (ha:Al css) (hi:i <= css.length) (hv:NameAt (css.drop i) v n):
  ev cP κ (.Call (.Name (Str.ofString "_consume_ident") p1) [.Name (Str.ofString "css") p2,.Name (Str.ofString "pos") p3] [] p4) st (.tup [.str v,.int (i + n:Nat)]):=
 bX (F:=zgy) bM k1 rfl (aB bM (aJ k2 h1) (aB bM (aJ k3 h2) aD)) ⟨css,i,v,n,rfl,hx,ha,hi,hv,.inl rfl,rfl⟩
theorem zcX (k1:κ "_is_ident_start" = some .globalImplicit) (k2:κ "css" = some .local) (k3:κ "pos" = some .local) (k4:κ "length" = some .local) (h1:st.ρ "css" = some (.str css)) (h2:st.ρ "pos" = some (.int i)) (h3:st.ρ "length" = some (.int css.length)) (hx:css.length < 1000000) (ha:Al css):
  tv cP κ (.BoolOp .And [.Compare (.Name (Str.ofString "pos") p5) [.Lt] [.Name (Str.ofString "length") p6] p0,.Call (.Name (Str.ofString "_is_ident_start") p1) [.Name (Str.ofString "css") p2,.Name (Str.ofString "pos") p3] [] p4] p) st (aR (css.drop i)):=by
 have e:aR (css.drop i) = (decide (i < css.length) && aR (css.drop i)):=by
  by_cases h:i < css.length
  ·rw [decide_eq_true h,Bool.true_and]
  ·rw [List.drop_of_length_le (Nat.le_of_not_lt h)]; exact (Bool.and_false _).symm
 rw [e]
 exact dU bM (bE bM (gO bM (aJ k3 h2) (aJ k4 h3))) fun h=>dZ (bE bM (zey k1 k2 k3 h1 h2 hx ha (List.getElem?_eq_getElem (of_decide_eq_true h))))
theorem zev {C:Ctx} {o:Expr} {p2 p3 p4 p:Pos} {k1 k2 k3:Nat} {c:Nat} (M:CtxMono C) (h:ev C κ o st (.str [c])):
  ev C κ (.Compare o [.NotIn] [.Tuple [.Constant (.str (Str.ofString "\"")) k1 p2,.Constant (.str (Str.ofString "'")) k2 p3] k3 p4] p) st (.bool (!(decide (c = 34) || decide (c = 39)))):=
 bL (a:=.str [c]) M h (aT M (aB M (aC rfl) (aB M (aC rfl) aD))) ⟨[[34],[39]],by decide +kernel,congrArg _ (pF c)⟩
theorem zc4 {C:Ctx} {x v f a b:Str} {w:List Nat} {k1 k2:Nat} {p p7:Pos} {Q:Fl->St->Prop} (M:CtxMono C) (hk:κ f = some .globalImplicit) (hf:C.fn f = some tI) (kv:κ v = some .local) (hv:st.ρ v = some (.str w)) (hw:w.length <= 100000) (hs:dB κ x = true) (hab:(decide (a.cps.toList.length <= 10) && decide (b.cps.toList.length <= 10)) = true)
  (hQ:∀ y:List Nat,Q .next ⟨upd st.ρ x (.str y),st.σ⟩):
  wS C κ (.Assign [.Name x p0] (.JoinedStr [.Constant (.str a) k1 p1,.FormattedValue (.Call (.Name f p2) [.Name v p3] [] p4) (-1) none p5,.Constant (.str b) k2 p6] p7) p) Q st:=by
 obtain ⟨h1,h2⟩:=Bool.and_eq_true_iff.mp hab
 have h1:=of_decide_eq_true h1
 have h2:=of_decide_eq_true h2
 have fin:∀ y:List Nat,dT C κ [.Name x p0] (.str y) st fun st2=>Q .next st2:=fun y=>⟨bN (bN hs rfl) rfl,hQ y⟩
 refine ⟨Nat.le_succ 2,?_⟩
 refine aX (e:=.Constant (.str a) k1 p1) M (aC rfl) ⟨Nat.le_trans h1 (by decide),?_⟩
 refine ⟨rfl,rfl,?_⟩
 rw [nE]
 refine ⟨rfl,hk,by unfold nX; rw [hf]; rfl,?_⟩
 rw [iS]
 refine aX M (aJ kv hv) ?_
 rw [jG]
 unfold f7
 rw [hf]
 refine ⟨w,rfl,hw,fun y _ hy=>⟨.inl rfl,?_,?_⟩⟩
 ·rw [List.length_append,List.nil_append]
  unfold aO; omega
 ·refine aX (e:=.Constant (.str b) k2 p6) M (aC rfl) ⟨?_,fin _⟩
  rw [List.length_append,List.length_append,List.nil_append]
  unfold aO; omega
end
theorem mE {κ:Kn} {e:Expr} {a:Nat} {p1 p2 p3 p4:Pos} {xs:List PV} {Q:Fl->St->Prop} {st:St} (M:CtxMono cP) (v:PV) (hk:κ "tokens" = some .local) (hx:st.ρ "tokens" = some (.ptr a)) (hc:st.σ a = some (.lst xs)) (hl:xs.length < aO) (he:ev cP κ e st v)
  (hr:c8 [e] = none) (k:Q .next ⟨st.ρ,aZ st.σ a (.lst (xs ++ [v]))⟩):
  wS cP κ (.Expr (.Call (.Attribute (.Name (Str.ofString "tokens") p1) (Str.ofString "append") p2) [e] [] p3) p4) Q st:=
 bO M v hk hx hc he hr hl k
section
variable {P:Params} {Q:Fl->St->Prop} {css:List Nat} {root sb:Nat} {K:PV->Prop} {st:St} {p c k:Nat} {r:List Nat} {lc:Nat × Nat} {xs ts:List PV} {v:List Nat}
theorem zdy {t:Tk} {n:Nat} (m:Mid css root sb K st p c r lc xs ts t n) (hv:NameAt (c :: r) v k) (hs:((c :: r)[k]? ≠ some 40 /\ t = .ident v /\ n = k) \/ (∃ s,(c :: r).drop k = 40 :: 41 :: s /\ t = .fn v /\ n = k + 2 /\ v.map cW ≠ zcV)) (hQ:∀ st',oY css root sb K p st'->Q .cont st'):wSs cP (knP P) (br1 P 3) Q st:=by
 have M:=bM
 obtain ⟨ρ,σ⟩:=st
 have ha:=m.ha
 have hlt:=m.lt
 have hd:=m.drop
 have hx2:=m.lt2
 have hx3:=Nat.lt_trans hx2 (show 1000000 < 2000000 by decide)
 have hn2:=m.n2
 have hcell:=m.row.cell
 have few:=m.few
 have hco:=m.core
 have hd1:css.drop (p + 1) = r:=by rw [<- List.drop_drop,hd]; rfl
 refine b7 (L:=LX css root sb p lc c root .none) hco ?_
 clear hco
 apply nfs
 case h=>
  show ?nl1 = ?nr1
  refine (?f:∀ _:(?nl1 = ?nr1),(?nl1 = ?nr1)) ?d
  case d=>conv=>lhs; whnf; dsimp only [cH,erS,erE,bR,erO]
  case f=>exact fun _=>by kernel_rfl!
 unfold knP
 rw [<- hd] at hv hs
 have hkl:p + k <= css.length:=gK (Nat.le_of_lt hlt) hv.le.1
 have hvl:v.length < 1000000:=Nat.lt_of_le_of_lt (Nat.le_trans hv.le.2 (Nat.le_trans (Nat.le_add_left _ p) hkl)) hx2
 refine aA (bZ M (.str v) (.int (p + k:Nat)) (zas (by kernel_rfl!) (by kernel_rfl!) (by kernel_rfl!) (by kernel_rfl!) (by kernel_rfl!) hx2 ha (Nat.le_of_lt hlt) hv) (by kernel_rfl) (by kernel_rfl) ?_)
 refine aA (bS M (![40].isPrefixOf (css.drop (p + k))) (jW M (bE M (jN (q:=Str.ofString "(") M aG aG hkl hx3 rfl))) (fun h=>?_) (fun h=>?_))
 ·refine hs.elim (a3 fun h1 e1 e2=>?_) (x1 fun s=>a4 fun h1 _ _ _=>?_)
  ·subst e1; subst e2
   refine aA (mE M (tkP lc [] (.ident v)) (by kernel_rfl) (by kernel_rfl!) hcell few (iF (F:=kR) M (by kernel_rfl!) rfl rfl (aB M (v:=.int lc.1) aG (aB M (v:=.int lc.2) aG (aB M (v:=.str v) aG aD))) ⟨_,_,_,rfl,hvl,rfl⟩) rfl ?_)
   exact aA (gV (hQ _ (eP m (by (show _ = _; first | kernel_rfl! | (rw [<- Nat.add_assoc]; kernel_rfl!) | (rw [<- Nat.add_assoc,<- Nat.add_assoc]; kernel_rfl!))) rfl)))
  ·rw [List.drop_drop] at h1
   rw [h1] at h; cases h
 ·refine hs.elim (a3 fun h1 _ _=>?_) (x1 fun s=>a4 fun h1 e1 e2 hu=>?_)
  ·rw [List.getElem?_drop] at h1
   refine absurd ?_ h1
   cases hx:css.drop (p + k) with
   | nil=>rw [hx] at h; cases h
   | cons d t=>
    rw [hx] at h
    have h:(!((40 == d) && true)) = false:=h
    have hd:40 = d:=by
     cases q:(40 == d) with
     | true=>exact eq_of_beq q
     | false=>rw [q] at h; cases h
    rw [<- cG,hx,hd]; rfl
  ·subst e1; subst e2
   rw [List.drop_drop] at h1
   refine aA (dP M (.int (p + k:Nat)) (.int 1) (by kernel_rfl!) (aC rfl) (by kernel_rfl) (of_eq cF ?_))
   refine aA (vW (aA (aE M (.bool false) ?_ (by kernel_rfl) ?_)))
   ·exact (decide_eq_false (p:=v.map cW = (Str.ofString "url").cps.toList) (by rw [show (Str.ofString "url").cps.toList = zcV by decide +kernel]; exact hu)) ▸ dW (q:= "url") M (bX (F:=l8) M (by kernel_rfl!) rfl (aB M (v:=.str v) aG aD) ⟨v,rfl,hvl,.inl rfl,rfl⟩)
   (repeat (first | refine bQ ?_ | dsimp only [c7]))
   refine aA (bS M false (bE M aG) (fun h=>by cases h) (fun _=>?_))
   (repeat (first | refine bQ ?_ | dsimp only [c7]))
   refine aA (iV (by kernel_rfl) (by kernel_rfl) fun b hb=>?_)
   have hb:σ b = none:=hb
   have hcell:σ root = _:=hcell
   have hstk:σ sb = _:=m.stk
   have rb:root ≠ b:=fun e=>by rw [<- e,hcell] at hb; cases hb
   have bs:sb ≠ b:=fun e=>by rw [<- e,hstk] at hb; cases hb
   have h41:css[p + (k + 1)]? = some 41:=by
    rw [<- cG,<- Nat.add_assoc,<- List.drop_drop,h1]; rfl
   refine aA (mE (a:=root) (xs:=xs) M (fnP lc v (.ptr b)) (by kernel_rfl) (by kernel_rfl!) (by dsimp only; rw [d8 _ rb]; exact hcell) few (iF (F:=zcN) M (by kernel_rfl!) rfl rfl (aB M (v:=.int lc.1) aG (aB M (v:=.int lc.2) aG (aB M (v:=.str v) aG (aB M (v:=.ptr b) aG aD)))) ⟨_,_,_,_,rfl,hvl,rfl⟩) rfl ?_)
   refine aA (bO (a:=sb) (xs:=[]) M (.tup [.ptr root,.none]) (by kernel_rfl) (by kernel_rfl!) (by dsimp only; rw [d8 _ m.row.ne,d8 _ bs]; exact hstk) (aT M (aB M aG (aB M aG aD))) rfl (by decide) ?_)
   refine aA (aE M (.str [41]) (aC rfl) (by kernel_rfl) ?_)
   refine aA (aE M (.ptr b) aG (by kernel_rfl) ?_)
   exact aA (gV (hQ _ (zbe m h41 (by rw [<- Nat.add_assoc]; (show _ = _; first | kernel_rfl! | (rw [<- Nat.add_assoc]; kernel_rfl!) | (rw [<- Nat.add_assoc,<- Nat.add_assoc]; kernel_rfl!))) hb rfl)))
theorem zg2 {w y:List Nat} {j n:Nat} (m:Mid css root sb K st p c r lc xs ts (.url w) n) (hv:NameAt (c :: r) v k) (h40:(c :: r).drop k = 40 :: y) (hu:v.map cW = zcV) (hA:UrlG (y.drop (bG y)) w j) (hn:n = k + 1 + bG y + j) (hQ:∀ st',oY css root sb K p st'->Q .cont st'):wSs cP (knP P) (br1 P 3) Q st:=by
 have M:=bM
 obtain ⟨ρ,σ⟩:=st
 have ha:=m.ha
 have hlt:=m.lt
 have hd:=m.drop
 have hx2:=m.lt2
 have hx3:=Nat.lt_trans hx2 (show 1000000 < 2000000 by decide)
 have hn2:=m.n2
 have hcell:=m.row.cell
 have few:=m.few
 have hco:=m.core
 have hd1:css.drop (p + 1) = r:=by rw [<- List.drop_drop,hd]; rfl
 refine b7 (L:=LX css root sb p lc c root .none) hco ?_
 clear hco
 apply nfs
 case h=>
  show ?nl2 = ?nr2
  refine (?f:∀ _:(?nl2 = ?nr2),(?nl2 = ?nr2)) ?d
  case d=>conv=>lhs; whnf; dsimp only [cH,erS,erE,bR,erO]
  case f=>exact fun _=>by kernel_rfl!
 unfold knP
 rw [<- hd] at hv h40
 rw [List.drop_drop] at h40
 have hg40:css[p + k]? = some 40:=by rw [<- cG,h40]; rfl
 have hy:y = css.drop (p + k + 1):=by rw [<- List.drop_drop,h40]; rfl
 have hkl:p + k < css.length:=fD hg40
 have hvl:v.length < 1000000:=Nat.lt_of_le_of_lt (Nat.le_trans hv.le.2 (Nat.le_trans (Nat.le_add_left _ p) (Nat.le_of_lt hkl))) hx2
 have h41:[40].isPrefixOf (css.drop (p + k)) = true:=by rw [h40]; rfl
 rw [hy] at hA hn
 rw [List.drop_drop] at hA
 clear h40 hy
 refine aA (bZ M (.str v) (.int (p + k:Nat)) (zas (by kernel_rfl!) (by kernel_rfl!) (by kernel_rfl!) (by kernel_rfl!) (by kernel_rfl!) hx2 ha (Nat.le_of_lt hlt) hv) (by kernel_rfl) (by kernel_rfl) ?_)
 refine aA (bS M (!true) (jW M (bE M (h41 ▸ jN (q:=Str.ofString "(") M aG aG (Nat.le_of_lt hkl) hx3 rfl))) (fun h=>by cases h) (fun _=>?_))
 refine aA (dP M (.int (p + k:Nat)) (.int 1) (by kernel_rfl!) (aC rfl) (by kernel_rfl) (of_eq cF ?_))
 refine aA (vW (aA (aE M (.bool true) ?_ (by kernel_rfl) ?_)))
 ·exact (decide_eq_true (p:=v.map cW = (Str.ofString "url").cps.toList) (by rw [show (Str.ofString "url").cps.toList = zcV by decide +kernel]; exact hu)) ▸ dW (q:= "url") M (bX (F:=l8) M (by kernel_rfl!) rfl (aB M (v:=.str v) aG aD) ⟨v,rfl,hvl,.inl rfl,rfl⟩)
 (repeat (first | refine bQ ?_ | dsimp only [c7]))
 refine aA (bS M true (bE M aG) (fun _=>?_) (fun h=>by cases h))
 refine aA (aE M (.int (p + k + 1:Nat)) aG (by kernel_rfl) ?_)
 refine aA (kF M (by kernel_rfl!) (by kernel_rfl!) (by rw [Ne,sEq]; decide) (by kernel_rfl!) (by kernel_rfl!) hx2 hkl ?_)
 have hw:w.length <= 100000:=Nat.le_trans hA.len (Nat.le_trans m.hlen (by decide))
 have hl:p + k + 1 + bG (css.drop (p + k + 1)) < css.length:=Nat.lt_of_not_le fun h=>by
  rw [List.drop_of_length_le h] at hA; exact hA.d
 have hqq:=UrlG.noq (List.drop_eq_getElem_cons hl ▸ hA)
 have hF:zaV [.str css,.int ((p + k + 1:Nat))] fun r=>(([PV.str css,PV.int ((p + k + 1:Nat))].any lK) = false \/ fX r = true) /\ r = .tup [.str w,.int ((p + k + 1 + bG (css.drop (p + k + 1)) + j:Nat)),.none]:=⟨css,p + k + 1,w,j,rfl,hx2,ha,hkl,hA,.inl rfl,rfl⟩
 have hn':p + k + 1 + bG (css.drop (p + k + 1)) + j = p + n:=by rw [hn]; simp only [Nat.add_assoc]
 rw [hn'] at hF
 clear hn hn' hA
 generalize p + k + 1 + bG (css.drop (p + k + 1)) = q at hl hqq hF ⊢
 refine aA (bS M (decide (css.length <= q) || !(decide (css[q] = 34) || decide (css[q] = 39))) (xP M (bE M (zeA M aG aG)) fun _=>dZ (bE M (zev M (dK M rfl aG aG (List.getElem?_eq_getElem hl))))) (fun _=>?_) (fun h=>?_))
 ·refine aA (k0 M (.str w) (.int (p + n:Nat)) .none (bX (F:=zaV) M (by kernel_rfl!) rfl (aB M (v:=.str css) aG (aB M (v:=.int (p + k + 1:Nat)) aG aD)) hF) (by kernel_rfl) (by kernel_rfl) (by kernel_rfl) ?_)
  refine aA (bS M true (bE M (bL (a:=.str w) (b:=.none) M aG (aC rfl) rfl)) (fun _=>?_) (fun h=>by cases h))
  refine aA (zc4 M (by kernel_rfl!) rfl (by kernel_rfl!) (by kernel_rfl!) hw (by kernel_rfl) (by decide +kernel) fun y=>?_)
  refine aA (bS M false (bE M (bL (a:=.none) (b:=.none) M aG (aC rfl) rfl)) (fun h=>by cases h) (fun _=>?_))
  (repeat (first | refine bQ ?_ | dsimp only [c7]))
  refine aA (mE M (tkP lc y (.url w)) (by kernel_rfl) (by kernel_rfl!) hcell few (iF (F:=vA) M (by kernel_rfl!) rfl rfl (aB M (v:=.int lc.1) aG (aB M (v:=.int lc.2) aG (aB M (v:=.str w) aG (aB M (v:=.str y) aG aD)))) ⟨_,_,_,_,rfl,rfl⟩) rfl ?_)
  (repeat (first | refine bQ ?_ | dsimp only [c7]))
  refine aA (bS M false (bE M (bL (a:=.none) (b:=.none) M aG (aC rfl) rfl)) (fun h=>by cases h) (fun _=>?_))
  (repeat (first | refine bQ ?_ | dsimp only [c7]))
  exact aA (gV (hQ _ (eP m (by (show _ = _; first | kernel_rfl! | (rw [<- Nat.add_assoc]; kernel_rfl!) | (rw [<- Nat.add_assoc,<- Nat.add_assoc]; kernel_rfl!))) rfl)))
 ·rw [decide_eq_false hqq.1,decide_eq_false hqq.2,show (!(false || false)) = true from rfl,Bool.or_true] at h; cases h
theorem brWs (m:Mid css root sb K st p 10 r lc xs ts .ws 1) (hr:bG r = 0) (hQ:∀ st',oY css root sb K p st'->Q .cont st'):wSs cP (knP P) (br1 P 0) Q st:=by
 obtain ⟨c,hc⟩:∃ c,c = 10:=⟨_,rfl⟩
 rw [<- hc] at m
 have M:=bM
 obtain ⟨ρ,σ⟩:=st
 have ha:=m.ha
 have hlt:=m.lt
 have hd:=m.drop
 have hx2:=m.lt2
 have hx3:=Nat.lt_trans hx2 (show 1000000 < 2000000 by decide)
 have hn2:=m.n2
 have hcell:=m.row.cell
 have few:=m.few
 have hco:=m.core
 have hd1:css.drop (p + 1) = r:=by rw [<- List.drop_drop,hd]; rfl
 refine b7 (L:=LX css root sb p lc c root .none) hco ?_
 clear hco
 apply nfs
 case h=>
  show ?nl3 = ?nr3
  refine (?f:∀ _:(?nl3 = ?nr3),(?nl3 = ?nr3)) ?d
  case d=>conv=>lhs; whnf; dsimp only [cH,erS,erE,bR,erO]
  case f=>exact fun _=>by kernel_rfl!
 unfold knP
 rw [<- hd1] at hr
 have h10:(css.drop p).take (p + 1 - p) = [10]:=by rw [hd,hc,Nat.add_sub_cancel_left]; rfl
 refine aA (dP M (.int p) (.int 1) (by kernel_rfl!) (aC rfl) (by kernel_rfl) (of_eq cF ?_))
 refine aA (kF (e:=p + 1) M (by kernel_rfl!) (by kernel_rfl!) (by rw [Ne,sEq]; decide) (by kernel_rfl!) (by kernel_rfl!) hx2 hlt ?_)
 rw [hr]
 refine aA (aE M (.str [10]) (h10 ▸ lQ M aG aG (aJ (v:=.int (p + 1:Nat)) (by kernel_rfl!) (by kernel_rfl!)) (Nat.le_succ p) (Nat.lt_of_le_of_lt hlt hx3)) (by kernel_rfl) ?_)
 refine aA (mE M (tkP lc [] .ws) (by kernel_rfl) (by kernel_rfl!) hcell few (iF (F:=zcM) M (by kernel_rfl!) rfl rfl (aB M (v:=.int lc.1) aG (aB M (v:=.int lc.2) aG (aB M (v:=.str [10]) aG aD))) ⟨_,_,_,rfl,rfl⟩) rfl ?_)
 exact aA (gV (hQ _ (eP m (by (show _ = _; first | kernel_rfl! | (rw [<- Nat.add_assoc]; kernel_rfl!) | (rw [<- Nat.add_assoc,<- Nat.add_assoc]; kernel_rfl!))) rfl)))
end
theorem zI {c:Nat} (h:cV c = true):(decide (c ∈ (Str.ofString "0123456789abcdefghijklmnopqrstuvwxyz-_ABCDEFGHIJKLMNOPQRSTUVWXYZ").cps.toList) || decide (127 < c)) = bW c:=
 eH (f:=fun c=>decide (c ∈ (Str.ofString "0123456789abcdefghijklmnopqrstuvwxyz-_ABCDEFGHIJKLMNOPQRSTUVWXYZ").cps.toList) || decide (127 < c)) (by decide +kernel) h
theorem zak {x:List Nat} {i:Nat} (hi:i <= x.length) (h:[42,47].isPrefixOf (x.drop i) = true):sK x [42,47] i = i:=by
 unfold sK
 rw [Nat.succ_sub hi]
 unfold qE
 rw [if_pos h]
theorem zfY {κ:Kn} {st:St} {css:List Nat} {p:Nat} {p1 p2 p3 p4 p5 p6 p7:Pos} {k k':Nat} (hp:p + 2 <= css.length) (hx:css.length < 1000000) (h:[42,47].isPrefixOf (css.drop (p + 2)) = true) (k1:κ "css" = some .local) (k2:κ "pos" = some .local) (h1:st.ρ "css" = some (.str css)) (h2:st.ρ "pos" = some (.int p)):
  ev cP κ (.Call (.Attribute (.Name (Str.ofString "css") p1) (Str.ofString "find") p2) [.Constant (.str (Str.ofString "*/")) k p3,.BinOp (.Name (Str.ofString "pos") p4) .Add (.Constant (.int 2) k' p5) p6] [] p7) st (.int ((p + 2:Nat):Int)):=
 lR bM (aJ k1 h1) (aB bM (aC rfl) (aB bM (c9 (i:=p) (j:=2) bM (aJ k2 h2) (aC rfl)) aD)) rfl (by kernel_rfl) (by rw [v9]; exact ⟨Int.natCast_nonneg (p + 2),xH (n:=p + 2) (Nat.lt_of_le_of_lt hp (Nat.lt_trans hx (by decide))),congrArg PV.int (zak hp h),rfl⟩)
theorem zfy {C:Ctx} {κ:Kn} {x y s:Str} {px py pt p p1 p2 p3:Pos} {kk a:Nat} {v w:PV} {xs:List PV} {Q:Fl->St->Prop} {st:St} (hk:κ s = some .local) (hx:st.ρ s = some (.ptr a)) (hc:st.σ a = some (.lst (xs ++ [.tup [v,w]]))) (hs:dB κ x = true) (hs':dB κ y = true)
  (k:Q .next ⟨upd (upd st.ρ x v) y w,aZ st.σ a (.lst xs)⟩):wS C κ (.Assign [.Tuple [.Name x px,.Name y py] kk pt] (.Call (.Attribute (.Name s p1) (Str.ofString "pop") p2) [] [] p3) p) Q st:=by
 show wE C _ κ _ st
 rw [jH,show c8 [] = none from rfl,gH]
 refine ⟨rfl,?_⟩
 rw [iJ,hk,jK,hx,gW]
 refine ⟨?_,?_⟩
 ·show (fR (st.σ a)).isSome = true
  rw [hc]; rfl
 ·rw [jG]
  have hn:∀ y,y ≠ "pop" ->¬ (Str.ofString "pop" = Str.ofString y):=fun y h q=>h ((sEq _ _).mp q).symm
  show hW st.σ (Str.ofString "pop") (.ptr a) [] _
  unfold hW
  rw [if_neg (hn _ (by decide)),if_neg (hn _ (by decide)),if_neg (hn _ (by decide)),if_neg (hn _ (by decide)),if_neg (hn _ (by decide)),if_neg (hn _ (by decide)),if_pos rfl]
  exact ⟨rfl,xs,_,hc,bN (bN hs (bN hs' rfl)) rfl,k⟩
theorem zgW (iv:Option Int):zce (v2 iv) = some iv.isSome:=by cases iv <;> rfl
section
variable {P:Params} {Q:Fl->St->Prop} {css:List Nat} {root sb:Nat} {K:PV->Prop} {st st':St} {p c k n:Nat} {r:List Nat} {lc:Nat × Nat} {xs ts:List PV} {v:List Nat}
theorem brAt (m:Mid css root sb K st p c r lc xs ts (.atk v) (1 + k)) (h0:aR r = true) (hv:NameAt r v k) (hQ:∀ st',oY css root sb K p st'->Q .next st'):wSs cP (knP P) (br2 P 1) Q st:=by
 have M:=bM
 obtain ⟨ρ,σ⟩:=st
 have ha:=m.ha
 have hlt:=m.lt
 have hd:=m.drop
 have hx2:=m.lt2
 have hx3:=Nat.lt_trans hx2 (show 1000000 < 2000000 by decide)
 have hn2:=m.n2
 have hcell:=m.row.cell
 have few:=m.few
 have hco:=m.core
 have hd1:css.drop (p + 1) = r:=by rw [<- List.drop_drop,hd]; rfl
 refine b7 (L:=LX css root sb p lc c root .none) hco ?_
 clear hco
 apply nfs
 case h=>
  show ?nl1 = ?nr1
  refine (?f:∀ _:(?nl1 = ?nr1),(?nl1 = ?nr1)) ?d
  case d=>conv=>lhs; whnf; dsimp only [cH,erS,erE,bR,erO]
  case f=>exact fun _=>by kernel_rfl!
 unfold knP
 rw [<- hd1] at hv h0
 have hvl:v.length < 1000000:=Nat.lt_of_le_of_lt (Nat.le_trans hv.le.2 (Nat.le_trans (Nat.le_add_left _ (p + 1)) (gK hlt hv.le.1))) hx2
 refine aA (dP M (.int p) (.int 1) (by kernel_rfl!) (aC rfl) (by kernel_rfl) (of_eq cF ?_))
 refine aA (bS M true (h0 ▸ zcX (i:=p + 1) (by kernel_rfl!) (by kernel_rfl!) (by kernel_rfl!) (by kernel_rfl!) (by kernel_rfl!) (by kernel_rfl!) (by kernel_rfl!) hx2 ha) (fun _=>?_) (fun h=>by cases h))
 refine aA (bZ M (.str v) (.int (p + 1 + k:Nat)) (zas (i:=p + 1) (by kernel_rfl!) (by kernel_rfl!) (by kernel_rfl!) (by kernel_rfl!) (by kernel_rfl!) hx2 ha hlt hv) (by kernel_rfl) (by kernel_rfl) ?_)
 refine aA (mE M (tkP lc [] (.atk v)) (by kernel_rfl) (by kernel_rfl!) hcell few (iF (F:=zcO) M (by kernel_rfl!) rfl rfl (aB M (v:=.int lc.1) aG (aB M (v:=.int lc.2) aG (aB M (v:=.str v) aG aD))) ⟨_,_,_,rfl,hvl,rfl⟩) rfl ?_)
 exact hQ _ (eP m (by (show _ = _; first | kernel_rfl! | (rw [<- Nat.add_assoc]; kernel_rfl!) | (rw [<- Nat.add_assoc,<- Nat.add_assoc]; kernel_rfl!))) rfl)
theorem zgb (m:Mid css root sb K st p c r lc xs ts (.hash v (aR r)) (1 + k)) (h0:pY r = true) (hv:NameAt r v k) (hQ:∀ st',oY css root sb K p st'->Q .next st'):wSs cP (knP P) (br2 P 2) Q st:=by
 have M:=bM
 obtain ⟨ρ,σ⟩:=st
 have ha:=m.ha
 have hlt:=m.lt
 have hd:=m.drop
 have hx2:=m.lt2
 have hx3:=Nat.lt_trans hx2 (show 1000000 < 2000000 by decide)
 have hn2:=m.n2
 have hcell:=m.row.cell
 have few:=m.few
 have hco:=m.core
 have hd1:css.drop (p + 1) = r:=by rw [<- List.drop_drop,hd]; rfl
 refine b7 (L:=LX css root sb p lc c root .none) hco ?_
 clear hco
 apply nfs
 case h=>
  show ?nl2 = ?nr2
  refine (?f:∀ _:(?nl2 = ?nr2),(?nl2 = ?nr2)) ?d
  case d=>conv=>lhs; whnf; dsimp only [cH,erS,erE,bR,erO]
  case f=>exact fun _=>by kernel_rfl!
 unfold knP
 rw [<- hd1] at hv h0 m
 have hl:p + 1 < css.length:=by
  rw [pY,cG] at h0
  cases hg:css[p + 1]? with
  | none=>rw [hg] at h0; cases h0
  | some c=>exact fD hg
 have hg:css[p + 1]? = some css[p + 1]:=List.getElem?_eq_getElem hl
 rw [pY,cG,hg,Option.any_some] at h0
 refine aA (dP M (.int p) (.int 1) (by kernel_rfl!) (aC rfl) (by kernel_rfl) (of_eq cF ?_))
 refine aA (bS M (decide (p + 1 < css.length) && true) (dU M (bE M (gO M aG aG)) fun h1=>dZ ?_) (fun h=>?_) (fun h=>?_))
 ·rw [<- h0,<- zI (ha.get hl),Bool.or_assoc]
  exact xP M (bE M (iD M (dK M rfl aG aG hg))) fun _=>xP M (bE M (m7 M (by kernel_rfl!) rfl rfl (by kernel_rfl) (dK M rfl aG aG hg))) fun _=>dZ (dU M (bE M (d7 M (dK M rfl aG aG hg) (by kernel_rfl))) fun _=>dZ (jW M (bE M (jN (q:=Str.ofString "\\\n") M aG aG hlt hx3 rfl))))
 ·refine aA (aE M (.bool (aR (css.drop (p + 1)))) (zey (by kernel_rfl!) (by kernel_rfl!) (by kernel_rfl!) (by kernel_rfl!) (by kernel_rfl!) hx2 ha hg) (by kernel_rfl) ?_)
  refine aA (bZ M (.str v) (.int (p + 1 + k:Nat)) (zas (i:=p + 1) (by kernel_rfl!) (by kernel_rfl!) (by kernel_rfl!) (by kernel_rfl!) (by kernel_rfl!) hx2 ha hlt hv) (by kernel_rfl) (by kernel_rfl) ?_)
  refine aA (mE M (tkP lc [] (.hash v (aR (css.drop (p + 1))))) (by kernel_rfl) (by kernel_rfl!) hcell few (iF (F:=oT) M (by kernel_rfl!) rfl rfl (aB M (v:=.int lc.1) aG (aB M (v:=.int lc.2) aG (aB M (v:=.str v) aG (aB M (v:=.bool (aR (css.drop (p + 1)))) aG aD)))) ⟨_,_,_,_,rfl,rfl⟩) rfl ?_)
  exact hQ _ (eP m (by (show _ = _; first | kernel_rfl! | (rw [<- Nat.add_assoc]; kernel_rfl!) | (rw [<- Nat.add_assoc,<- Nat.add_assoc]; kernel_rfl!))) rfl)
 ·rw [decide_eq_true hl] at h; cases h
theorem zg3 (m:Mid css root sb K st p c r lc xs ts (.str v) (1 + k)) (hq:c = 34 \/ c = 39) (hv:StrAt c r v k) (hQ:∀ st',oY css root sb K p st'->Q .next st'):wSs cP (knP P) (br2 P 8) Q st:=by
 have M:=bM
 obtain ⟨ρ,σ⟩:=st
 have ha:=m.ha
 have hlt:=m.lt
 have hd:=m.drop
 have hx2:=m.lt2
 have hx3:=Nat.lt_trans hx2 (show 1000000 < 2000000 by decide)
 have hn2:=m.n2
 have hcell:=m.row.cell
 have few:=m.few
 have hco:=m.core
 have hd1:css.drop (p + 1) = r:=by rw [<- List.drop_drop,hd]; rfl
 refine b7 (L:=LX css root sb p lc c root .none) hco ?_
 clear hco
 apply nfs
 case h=>
  show ?nl3 = ?nr3
  refine (?f:∀ _:(?nl3 = ?nr3),(?nl3 = ?nr3)) ?d
  case d=>conv=>lhs; whnf; dsimp only [cH,erS,erE,bR,erO]
  case f=>exact fun _=>by kernel_rfl!
 unfold knP
 rw [<- hd1] at hv
 have hw:v.length <= 100000:=Nat.le_trans hv.len (Nat.le_trans m.hlen (by decide))
 refine aA (k0 M (.str v) (.int (p + 1 + k:Nat)) .none (bX (F:=zcP) M (by kernel_rfl!) rfl (aB M (v:=.str css) aG (aB M (v:=.int p) aG aD)) ⟨css,p,c,v,k,rfl,hx2,ha,m.at_,hq,hv,.inl rfl,rfl⟩) (by kernel_rfl) (by kernel_rfl) (by kernel_rfl) ?_)
 refine aA (bS M true (bE M (bL (a:=.str v) (b:=.none) M aG (aC rfl) rfl)) (fun _=>?_) (fun h=>by cases h))
 refine aA (zc4 M (by kernel_rfl!) rfl (by kernel_rfl!) (by kernel_rfl!) hw (by kernel_rfl) (by decide +kernel) fun y=>?_)
 refine aA (bS M false (bE M (bL (a:=.none) (b:=.none) M aG (aC rfl) rfl)) (fun h=>by cases h) (fun _=>?_))
 (repeat (first | refine bQ ?_ | dsimp only [c7]))
 refine aA (mE M (tkP lc y (.str v)) (by kernel_rfl) (by kernel_rfl!) hcell few (iF (F:=vB) M (by kernel_rfl!) rfl rfl (aB M (v:=.int lc.1) aG (aB M (v:=.int lc.2) aG (aB M (v:=.str v) aG (aB M (v:=.str y) aG aD)))) ⟨_,_,_,_,rfl,rfl⟩) rfl ?_)
 (repeat (first | refine bQ ?_ | dsimp only [c7]))
 refine aA (bS M false (bE M (bL (a:=.none) (b:=.none) M aG (aC rfl) rfl)) (fun h=>by cases h) (fun _=>?_))
 (repeat (first | refine bQ ?_ | dsimp only [c7]))
 exact hQ _ (eP m (by (show _ = _; first | kernel_rfl! | (rw [<- Nat.add_assoc]; kernel_rfl!) | (rw [<- Nat.add_assoc,<- Nat.add_assoc]; kernel_rfl!))) rfl)
theorem zg5 {s:List Nat} (m:Mid css root sb K st p c r lc xs ts .com 4) (hr:r = 42 :: 42 :: 47 :: s) (hQ:∀ st',oY css root sb K p st'->Q .next st'):wSs cP (knP P) (br2 P 9) Q st:=by
 have M:=bM
 obtain ⟨ρ,σ⟩:=st
 have ha:=m.ha
 have hlt:=m.lt
 have hd:=m.drop
 have hx2:=m.lt2
 have hx3:=Nat.lt_trans hx2 (show 1000000 < 2000000 by decide)
 have hn2:=m.n2
 have hcell:=m.row.cell
 have few:=m.few
 have hco:=m.core
 have hd1:css.drop (p + 1) = r:=by rw [<- List.drop_drop,hd]; rfl
 refine b7 (L:=LX css root sb p lc c root .none) hco ?_
 clear hco
 apply nfs
 case h=>
  show ?nl4 = ?nr4
  refine (?f:∀ _:(?nl4 = ?nr4),(?nl4 = ?nr4)) ?d
  case d=>conv=>lhs; whnf; dsimp only [cH,erS,erE,bR,erO]
  case f=>exact fun _=>by kernel_rfl!
 unfold knP
 have hd2:css.drop (p + 2) = 42 :: 47 :: s:=by rw [<- List.drop_drop,hd,hr]; rfl
 have hp2:p + 2 <= css.length:=Nat.le_trans (Nat.add_le_add_left (by decide) p) hn2
 have hv:(css.drop (p + 2)).take (p + 2 - (p + 2)) = []:=by rw [Nat.sub_self]; rfl
 refine aA (aE M (.int (p + 2:Nat)) (zfY hp2 hx2 (by rw [hd2]; rfl) (by kernel_rfl!) (by kernel_rfl!) (by kernel_rfl!) (by kernel_rfl!)) (by kernel_rfl) ?_)
 refine aA (bS M false (bE M (bL (a:=.int (p + 2:Nat)) (b:=.int (-1)) M aG (zaq M (aC rfl)) (decide_eq_false (by omega)))) (fun h=>by cases h) (fun _=>?_))
 refine aA (bS M true (jW (c:=false) M (bE M aG)) (fun _=>?_) (fun h=>by cases h))
 refine aA (mE M (tkP lc [] .com) (by kernel_rfl) (by kernel_rfl!) hcell few (iF (F:=vF) M (by kernel_rfl!) rfl rfl (aB M (v:=.int lc.1) aG (aB M (v:=.int lc.2) aG (aB M (hv ▸ lQ (x:=css) (i:=p + 2) (j:=p + 2) M aG (c9 (i:=p) (j:=2) M aG (aC rfl)) aG (Nat.le_refl _) (Nat.lt_of_le_of_lt hp2 hx3)) aD))) ⟨_,_,_,rfl,rfl⟩) rfl ?_)
 refine aA (dP M (.int (p + 2:Nat)) (.int 2) (by kernel_rfl!) (aC rfl) (by kernel_rfl) (of_eq cF ?_))
 exact hQ _ (eP m (by (show _ = _; first | kernel_rfl! | (rw [<- Nat.add_assoc]; kernel_rfl!) | (rw [<- Nat.add_assoc,<- Nat.add_assoc]; kernel_rfl!))) rfl)
theorem zgc (m:Mid css root sb K st p c r lc xs ts .lit 1) (hc:c = 59) (hQ:∀ st',oY css root sb K p st'->Q .next st'):wSs cP (knP P) (br2 P 13) Q st:=by
 have M:=bM
 obtain ⟨ρ,σ⟩:=st
 have ha:=m.ha
 have hlt:=m.lt
 have hd:=m.drop
 have hx2:=m.lt2
 have hx3:=Nat.lt_trans hx2 (show 1000000 < 2000000 by decide)
 have hn2:=m.n2
 have hcell:=m.row.cell
 have few:=m.few
 have hco:=m.core
 have hd1:css.drop (p + 1) = r:=by rw [<- List.drop_drop,hd]; rfl
 refine b7 (L:=LX css root sb p lc c root .none) hco ?_
 clear hco
 apply nfs
 case h=>
  show ?nl5 = ?nr5
  refine (?f:∀ _:(?nl5 = ?nr5),(?nl5 = ?nr5)) ?d
  case d=>conv=>lhs; whnf; dsimp only [cH,erS,erE,bR,erO]
  case f=>exact fun _=>by kernel_rfl!
 unfold knP
 subst hc
 refine aA (mE M (tkP lc [] .lit) (by kernel_rfl) (by kernel_rfl!) hcell few (iF (F:=vD) M (by kernel_rfl!) rfl rfl (aB M (v:=.int lc.1) aG (aB M (v:=.int lc.2) aG (aB M (v:=.str [59]) aG aD))) ⟨_,_,_,rfl,rfl⟩) rfl ?_)
 refine aA (dP M (.int p) (.int 1) (by kernel_rfl!) (aC rfl) (by kernel_rfl) (of_eq cF ?_))
 exact hQ _ (eP m (by (show _ = _; first | kernel_rfl! | (rw [<- Nat.add_assoc]; kernel_rfl!) | (rw [<- Nat.add_assoc,<- Nat.add_assoc]; kernel_rfl!))) rfl)
theorem zg4 {b:Bool} {iv:Option Int} (m:Mid css root sb K st p c r lc xs ts (.dim iv ((c :: r).take n) v) (n + k)) (h1:b = true->∃ i,iv = some i /\ zb9 ((c :: r).take n) fun z=>z = .int i) (h2:b = false->iv = none) (h3:aR ((c :: r).drop n) = true) (hv:NameAt ((c :: r).drop n) v k)
  (vend:st.ρ "end" = some (.int ((p + n:Nat)))) (vpl:st.ρ "plain" = some (.bool b)) (hQ:∀ st',oY css root sb K p st'->Q .next st'):wSs cP (knP P) (br2 P 0) Q st:=by
 have M:=bM
 obtain ⟨ρ,σ⟩:=st
 have ha:=m.ha
 have hlt:=m.lt
 have hd:=m.drop
 have hx2:=m.lt2
 have hx3:=Nat.lt_trans hx2 (show 1000000 < 2000000 by decide)
 have hn2:=m.n2
 have hcell:=m.row.cell
 have few:=m.few
 have hco:=m.core
 have hd1:css.drop (p + 1) = r:=by rw [<- List.drop_drop,hd]; rfl
 refine b7 (L:=LX css root sb p lc c root .none) hco ?_
 clear hco
 apply nfs
 case h=>
  show ?nl6 = ?nr6
  refine (?f:∀ _:(?nl6 = ?nr6),(?nl6 = ?nr6)) ?d
  case d=>conv=>lhs; whnf; dsimp only [cH,erS,erE,bR,erO]
  case f=>exact fun _=>by kernel_rfl!
 unfold knP
 refine b7 (L:=[("end",.int ((p + n:Nat))),("plain",.bool b)]) (aF vend (aF vpl rfl)) ?_
 have hle:p + n <= css.length:=Nat.le_trans (Nat.le_add_right _ k) (by rw [Nat.add_assoc]; exact hn2)
 have htk:(css.drop p).take (p + n - p) = (c :: r).take n:=by rw [hd,Nat.add_sub_cancel_left]
 rw [show (c :: r).drop n = css.drop (p + n) by rw [<- List.drop_drop,hd]] at h3 hv
 clear hd hd1
 generalize (c :: r).take n = rp at m h1 htk
 have hvl:v.length < 1000000:=Nat.lt_of_le_of_lt (Nat.le_trans hv.le.2 (Nat.le_trans (Nat.le_add_left _ (p + n)) (gK hle hv.le.1))) hx2
 refine aA (aE M (.int (p + n:Nat)) aG (by kernel_rfl) ?_)
 refine aA (aE M (.str rp) (htk ▸ lQ M aG aG aG (Nat.le_add_right p n) (Nat.lt_of_le_of_lt hle hx3)) (by kernel_rfl) ?_)
 refine aA (aE M (.str rp) aG (by kernel_rfl) ?_)
 refine aA (aE M (v2 iv) (dM (c:=b) M (bE M aG) (fun h=>?_) (fun h=>?_)) (by kernel_rfl) ?_)
 ·obtain ⟨i,rfl,hi⟩:=h1 h
  exact iN M (by kernel_rfl!) rfl rfl (by kernel_rfl) (aB M (v:=.str rp) aG aD) (of_eq (B:=zb9 rp fun r=>r = .int i) (by kernel_rfl) hi)
 ·rw [h2 h]
  exact aC rfl
 refine aA (bS M true (h3 ▸ zcX (i:=p + n) (by kernel_rfl!) (by kernel_rfl!) (by kernel_rfl!) (by kernel_rfl!) (by kernel_rfl!) (by kernel_rfl!) (by kernel_rfl!) hx2 ha) (fun _=>?_) (fun h=>by cases h))
 refine aA (bZ M (.str v) (.int (p + n + k:Nat)) (zas (i:=p + n) (by kernel_rfl!) (by kernel_rfl!) (by kernel_rfl!) (by kernel_rfl!) (by kernel_rfl!) hx2 ha hle hv) (by kernel_rfl) (by kernel_rfl) ?_)
 refine aA (mE M (tkP lc [] (.dim iv rp v)) (by kernel_rfl) (by kernel_rfl!) hcell few (iF (F:=vE) M (by kernel_rfl!) rfl rfl (aB M (v:=.int lc.1) aG (aB M (v:=.int lc.2) aG (aB M (v:=.str rp) aG (aB M (v:=v2 iv) aG (aB M (v:=.str rp) aG (aB M (v:=.str v) aG aD)))))) ⟨_,_,_,_,_,_,iv.isSome,rfl,hvl,zgW iv,rfl⟩) rfl ?_)
 exact hQ _ (eP m (by (show _ = _; first | kernel_rfl! | (rw [<- Nat.add_assoc]; kernel_rfl!) | (rw [<- Nat.add_assoc,<- Nat.add_assoc]; kernel_rfl!))) rfl)
end
structure MidB (css:List Nat) (root sb:Nat) (K:PV->Prop) (st:St) (p k:Nat) (lc:Nat × Nat) (xs ts:List PV):Prop where
 hlen:css.length <= 10000
 ha:Al css
 at_:css[p]? = some 41
 core:bV (LX css root sb p lc 41 k (.str [41])) st.ρ
 row:Row st.σ sb root xs ts
 stk:st.σ sb = some (.lst [.tup [.ptr root,.none]])
 wt:xs.length <= p
 hlc:lc = gL (css.take p)
 next:∃ E,Rd (gL (css.take (p + 1))) (css.drop (p + 1)) E /\ zfa K ts E
section
variable {P:Params} {Q:Fl->St->Prop} {css:List Nat} {root sb:Nat} {K:PV->Prop} {st st':St} {p k:Nat} {lc:Nat × Nat} {xs ts:List PV}
theorem zbf (m:MidB css root sb K st p k lc xs ts) (hc:bV (LZ css root sb (p + 1) p lc.1 ((p:Int) - lc.2) root .none) st'.ρ) (hσ:st'.σ = aZ st.σ sb (.lst [])):oY css root sb K p st':=by
 obtain ⟨E,h1,h2⟩:=m.next
 have hl:=fD m.at_
 refine ⟨_,w1 hl (Nat.le_refl 1) hl,p + 1,p,root,.none,xs,ts,E,rfl,Nat.le_add_right _ _,hl,?_,?_,Nat.le_trans m.wt (Nat.le_succ p),h2,.inl ⟨rfl,rfl,?_,h1⟩⟩
 ·rw [<- m.hlc]; exact hc
 ·rw [hσ]; exact m.row.set _
 ·rw [hσ,aQ]
theorem zg6 (m:MidB css root sb K st p k lc xs ts) (hQ:∀ st',oY css root sb K p st'->Q .next st'):wSs cP (knP P) (br2 P 6) Q st:=by
 have M:=bM
 obtain ⟨ρ,σ⟩:=st
 refine b7 m.core ?_
 apply nfs
 case h=>
  show ?nl7 = ?nr7
  refine (?f:∀ _:(?nl7 = ?nr7),(?nl7 = ?nr7)) ?d
  case d=>conv=>lhs; whnf; dsimp only [cH,erS,erE,bR,erO]
  case f=>exact fun _=>by kernel_rfl!
 unfold knP
 refine aA (zfy (a:=sb) (xs:=[]) (v:=.ptr root) (w:=.none) (by kernel_rfl) (by kernel_rfl!) m.stk (by kernel_rfl) (by kernel_rfl) ?_)
 refine aA (dP M (.int p) (.int 1) (by kernel_rfl!) (aC rfl) (by kernel_rfl) (of_eq cF ?_))
 exact hQ _ (zbf m (by (show _ = _; first | kernel_rfl! | (rw [<- Nat.add_assoc]; kernel_rfl!) | (rw [<- Nat.add_assoc,<- Nat.add_assoc]; kernel_rfl!))) rfl)
end
theorem zJ (c:Nat):decide (c ∈ (Str.ofString " \n\t").cps.toList) = a0 c := by
 rw [show (Str.ofString " \n\t").cps.toList = [32,10,9] by decide +kernel,Bool.eq_iff_iff]
 simp only [a0,List.mem_cons,List.not_mem_nil,or_false,decide_eq_true_eq,Bool.or_eq_true,beq_iff_eq,or_assoc]
theorem uQ {C:Ctx} {κ:Kn} {l:Expr} {q:Str} {k:Nat} {p p':Pos} {st:St} {c d:Nat} (M:CtxMono C) (hc:c ≠ d) (h:ev C κ l st (.str [c])) (hq:q.cps.toList = [d]):ev C κ (.Compare l [.Eq] [.Constant (.str q) k p] p') st (.bool false):=
 decide_eq_false hc ▸ d7 M h hq
theorem zd2 {q x:List Nat} {k:Nat} (ha:Al x) (hk:k ∈ q) (hn:cV k = false):q.isPrefixOf x = false:=by
 cases h:q.isPrefixOf x with
 | false=>rfl
 | true=>have:=ha k ((List.isPrefixOf_iff_prefix.mp h).subset hk); rw [hn] at this; cases this
theorem zbT {r:List Nat} {c:Nat} {t:Tk} {n:Nat} (h:Nx (c :: r) t n) (hc:c = 85 \/ c = 117):r[0]? ≠ some 43:=fun h0=>by
 cases r with
 | nil=>cases h0
 | cons d s=>
  cases h0
  have hi:aR (c :: 43 :: s) = true:=by rcases hc with rfl | rfl <;> rfl
  have hn:bW c = true:=by rcases hc with rfl | rfl <;> rfl
  refine h.elim (fun g=>by rcases hc with rfl | rfl <;> cases g.1) fun g=>g.2.elim (fun g=>?_) fun g=>absurd (g.1.symm.trans hi) (by decide)
  refine x2 (fun v k=>a2 fun e1 e2=>?_) g.2
  refine x2 (fun w j=>a3 fun _ hk e3=>?_) (e1.iv_name hn)
  have hk0:=(e3.iv_stop rfl rfl).2
  subst hk0
  subst hk
  exact e2.elim (fun q=>q.2.1 rfl) fun q=>q.elim (x1 fun s'=>a4 fun q _ _ _=>by cases q) (x3 fun y w' m=>a5 fun q _ _ _ _=>by cases q)
section
variable {P:Params} {Q:Fl->St->Prop} {css:List Nat} {root sb:Nat} {K:PV->Prop} {st st':St} {p c k:Nat} {e:PV} {lc:Nat × Nat}
theorem zgR {L:List (Str × PV)} {f:Fl} (h:bV L st.ρ) (k:Q f st):Q f ⟨bA L st.ρ,st.σ⟩:=by
 rw [<- aV L h]; exact k
theorem nY {C:Ctx} {κ:Kn} {ss:List Stmt} {L:List (Str × PV)} (h:bV L st.ρ) (k:wSs C κ ss Q st):wSs C κ ss Q ⟨bA L st.ρ,st.σ⟩:=by
 rw [<- aV L h]; exact k
theorem zdt (hx2:css.length < 1000000) (ha:Al css) (hat:css[p]? = some c) (core:bV (LX css root sb p lc c k e) st.ρ) (hu:(c = 85 \/ c = 117)->css[p + 1]? ≠ some 43)
  (hb:a0 c = true->wSs cP (knP P) (br1 P 0) Q st) (hi:a0 c = false->aR (css.drop p) = true->wSs cP (knP P) (br1 P 3) Q st) (hn:a0 c = false->aR (css.drop p) = false->Q .next st):
  wS cP (knP P) (hJ 5 (eS P)) Q st:=by
 have M:=bM
 have hlt:=fD hat
 refine zb7 core ?_
 have hn:=fun h h'=>zgR (Q:=Q) core (hn h h')
 have hb:=fun h=>nY core (hb h)
 have hi:=fun h h'=>nY core (hi h h')
 clear core
 have hac:=ha.at hat
 apply nf1
 case h=>
  show ?nl1 = ?nr1
  refine (?f:∀ _:(?nl1 = ?nr1),(?nl1 = ?nr1)) ?d
  case d=>conv=>lhs; whnf; dsimp only [cH,erS,erE,bR,erO]
  case f=>exact fun _=>by kernel_rfl!
 unfold knP
 refine bS M (a0 c) (zJ c ▸ bE M (iD M aG)) (fun h=>hb h) (fun h1=>?_)
 have hU:decide (c ∈ (Str.ofString "Uu").cps.toList) = (decide (c = 85) || decide (c = 117)):=eH (f:=fun c=>decide (c ∈ (Str.ofString "Uu").cps.toList)) (g:=fun c=>decide (c = 85) || decide (c = 117)) (by decide +kernel) hac
 refine aA (bS M ((decide (c = 85) || decide (c = 117)) && (decide (p + 2 < css.length) && (false && false))) (dU M (bE M (hU ▸ iD M aG)) fun h=>dU M (bE M (gO (a:=p + 2) (b:=css.length) M (c9 (i:=p) (j:=2) M aG (aC rfl)) aG)) fun h'=>dU M (bE M ?_) fun h=>by cases h) (fun h2=>by rw [Bool.and_false,Bool.and_false,Bool.and_false] at h2; cases h2) (fun h2=>?_))
 ·have hl:=Nat.lt_of_succ_lt (of_decide_eq_true h')
  have hg:css[p + 1]? = some css[p + 1]:=List.getElem?_eq_getElem hl
  have hne:css[p + 1] ≠ 43:=fun q=>hu ((Bool.or_eq_true_iff.mp h).imp of_decide_eq_true of_decide_eq_true) (by rw [hg,q])
  exact uQ M hne (dK (n:=p + 1) M rfl aG (c9 (i:=p) (j:=1) M aG (aC rfl)) hg) (by kernel_rfl)
 clear hU h2
 have h3:[45,45,62].isPrefixOf (css.drop p) = false:=zd2 (k:=62) (ha.drop p) (by decide) (by decide)
 refine aA (bS M false (h3 ▸ bE M (jN (q:=Str.ofString "-->") M aG aG (Nat.le_of_lt hlt) (Nat.lt_trans hx2 (by decide)) rfl)) (fun h3=>by cases h3) (fun h3=>?_))
 exact aA (bS M (aR (css.drop p)) (bE M (zey (by kernel_rfl!) (by kernel_rfl!) (by kernel_rfl!) (by kernel_rfl!) (by kernel_rfl!) hx2 ha hat)) (fun h4=>hi h1 h4) (fun h4=>hn h1 h4))
theorem zd6 {o:Option (Nat × Bool)} {ρ:f9} (hp:bV [("end",(o.elim .none fun e=>.int (p + e.1:Nat))),("plain",(o.elim (.bool false) fun e=>.bool e.2))] ρ):
  (o = none /\ ρ "end" = some .none) \/ ∃ z b,o = some (z,b) /\ ρ "end" = some (.int ((p + z:Nat))) /\ ρ "plain" = some (.bool b):=by
 obtain ⟨h1,h2⟩:=List.cons.inj hp
 cases o with
 | none=>exact .inl ⟨rfl,h1⟩
 | some e=>exact .inr ⟨e.1,e.2,rfl,h1,(List.cons.inj h2).1⟩
theorem zds (hx2:css.length < 1000000) (ha:Al css) (hat:css[p]? = some c) (core:bV (LX css root sb p lc c k e) st.ρ)
  (hp:bV [("end",((j3 (css.drop p)).elim .none fun e=>.int (p + e.1:Nat))),("plain",((j3 (css.drop p)).elim (.bool false) fun e=>.bool e.2))] st.ρ)
  (h0:∀ z b,j3 (css.drop p) = some (z,b)->st.ρ "end" = some (.int ((p + z:Nat)))->st.ρ "plain" = some (.bool b)->wSs cP (knP P) (br2 P 0) Q st)
  (hcs:j3 (css.drop p) = none->[64,35,41,34,39,47,59].contains c = true /\ ((c = 41 /\ e = .str [41]) \/ (c ≠ 41 /\ e = .none)) /\ (c = 47->[47,42].isPrefixOf (css.drop p) = true))
  (h1:j3 (css.drop p) = none->c = 64->wSs cP (knP P) (br2 P 1) Q st) (h2:j3 (css.drop p) = none->c = 35->wSs cP (knP P) (br2 P 2) Q st) (h6:j3 (css.drop p) = none->c = 41->wSs cP (knP P) (br2 P 6) Q st)
  (h8:j3 (css.drop p) = none->c = 34 \/ c = 39->wSs cP (knP P) (br2 P 8) Q st) (h9:j3 (css.drop p) = none->c = 47->wSs cP (knP P) (br2 P 9) Q st) (h13:j3 (css.drop p) = none->c = 59->wSs cP (knP P) (br2 P 13) Q st):wS cP (knP P) (hJ 7 (eS P)) Q st:=by
 have M:=bM
 have hlt:=fD hat
 have hx3:=Nat.lt_trans hx2 (by decide:1000000 < 2000000)
 refine (zd6 hp).elim (fun h=>?_) (x2 fun z b=>a3 fun hn g1 g2=>?_)
 ·obtain ⟨hn,he⟩:=h
  have f:=aF he core
  refine zb7 f ?_
  have h1:=fun q=>nY f (h1 hn q)
  have h2:=fun q=>nY f (h2 hn q)
  have h6:=fun q=>nY f (h6 hn q)
  have h8:=fun q=>nY f (h8 hn q)
  have h9:=fun q=>nY f (h9 hn q)
  have h13:=fun q=>nY f (h13 hn q)
  obtain ⟨hc,hE,h47⟩:=hcs hn
  clear hcs f he core hp h0
  have hac:=ha.at hat
  have ne:∀ d,[64,35,41,34,39,47,59].contains d = false->c ≠ d:=fun d hd q=>by rw [q,hd] at hc; cases hc
  apply nf1
  case h=>
   show ?nl2 = ?nr2
   refine (?f:∀ _:(?nl2 = ?nr2),(?nl2 = ?nr2)) ?d
   case d=>conv=>lhs; whnf; dsimp only [cH,erS,erE,bR,erO]
   case f=>exact fun _=>by kernel_rfl!
  unfold knP
  refine bS M false (bE M (bL (a:=.none) (b:=.none) M aG (aC rfl) rfl)) (fun h=>by cases h) (fun _=>?_)
  refine aA (bS M (decide (c = 64)) (bE M (d7 M aG (by kernel_rfl))) (fun g=>h1 (of_decide_eq_true g)) (fun n1=>?_))
  refine aA (bS M (decide (c = 35)) (bE M (d7 M aG (by kernel_rfl))) (fun g=>h2 (of_decide_eq_true g)) (fun n2=>?_))
  refine aA (bS M false (bE M (uQ (d:=123) M (ne _ rfl) aG (by kernel_rfl))) (fun g=>by cases g) (fun _=>?_))
  refine aA (bS M false (bE M (uQ (d:=91) M (ne _ rfl) aG (by kernel_rfl))) (fun g=>by cases g) (fun _=>?_))
  refine aA (bS M false (bE M (uQ (d:=40) M (ne _ rfl) aG (by kernel_rfl))) (fun g=>by cases g) (fun _=>?_))
  rcases hE with ⟨g,rfl⟩ | ⟨g,rfl⟩
  ·exact aA (bS M true (bE M (bL (a:=.str [c]) (b:=.str [41]) M aG aG (by rw [g]; rfl))) (fun _=>h6 g) (fun g=>by cases g))
  refine aA (bS M false (bE M (bL (a:=.str [c]) (b:=.none) M aG aG rfl)) (fun g=>by cases g) (fun _=>?_))
  have hB:decide (c ∈ (Str.ofString "}])").cps.toList) = false:=(eH (f:=fun c=>decide (c ∈ (Str.ofString "}])").cps.toList)) (g:=fun c=>decide (c = 41)) (by decide +kernel) hac).trans (decide_eq_false g)
  refine aA (bS M false (bE M (hB ▸ iD M aG)) (fun g=>by cases g) (fun _=>?_))
  clear hB
  refine aA (bS M (decide (c = 34) || decide (c = 39)) (bE M (zao M aG)) (fun q=>h8 ((Bool.or_eq_true_iff.mp q).imp of_decide_eq_true of_decide_eq_true)) (fun n8=>?_))
  by_cases g2:c = 47
  ·exact aA (bS M true (h47 g2 ▸ bE M (jN (q:=Str.ofString "/*") M aG aG (Nat.le_of_lt hlt) hx3 rfl)) (fun _=>h9 g2) (fun g=>by cases g))
  have n8:=Bool.or_eq_false_iff.mp n8
  have h59:c = 59:=by
   simp only [List.contains_cons,List.contains_nil,Bool.or_false,Bool.or_eq_true,beq_iff_eq] at hc
   exact hc.elim (fun q=>absurd q (of_decide_eq_false n1)) fun hc=>hc.elim (fun q=>absurd q (of_decide_eq_false n2)) fun hc=>hc.elim (fun q=>absurd q g) fun hc=>hc.elim (fun q=>absurd q (of_decide_eq_false n8.1)) fun hc=>hc.elim (fun q=>absurd q (of_decide_eq_false n8.2)) fun hc=>hc.elim (fun q=>absurd q g2) id
  have h5:[47,42].isPrefixOf (css.drop p) = false:=by rw [List.drop_eq_getElem_cons hlt,show css[p] = 59 from (Option.some.inj ((List.getElem?_eq_getElem hlt).symm.trans hat)).trans h59]; rfl
  refine aA (bS M false (h5 ▸ bE M (jN (q:=Str.ofString "/*") M aG aG (Nat.le_of_lt hlt) hx3 rfl)) (fun g=>by cases g) (fun _=>?_))
  refine aA (bS M false (bE M (zdd M aG aG (Nat.le_of_lt hlt) hx3 rfl ha (k:=60) (by kernel_rfl) (by decide))) (fun g=>by cases g) (fun _=>?_))
  refine aA (bS M false (bE M (zdd M aG aG (Nat.le_of_lt hlt) hx3 rfl ha (k:=124) (by kernel_rfl) (by decide))) (fun g=>by cases g) (fun _=>?_))
  have h7:decide (c ∈ (Str.ofString "~|^$*").cps.toList) = false:=by rw [h59]; decide +kernel
  exact aA (bS M false (h7 ▸ bE M (iD M aG)) (fun g=>by cases g) (fun _=>h13 h59))
 ·have f:bV [("end",.int ((p + z:Nat))),("plain",.bool b)] st.ρ:=aF g1 (aF g2 rfl)
  have br:=nY f (h0 z b hn g1 g2)
  refine zb7 f ?_
  apply nf1
  case h=>
   show ?nl3 = ?nr3
   refine (?f:∀ _:(?nl3 = ?nr3),(?nl3 = ?nr3)) ?d
   case d=>conv=>lhs; whnf; dsimp only [cH,erS,erE,bR,erO]
   case f=>exact fun _=>by kernel_rfl!
  unfold knP
  exact bS M true (bE M (bL (a:=.int (p + z:Nat)) (b:=.none) M aG (aC rfl) rfl)) (fun _=>br) (fun h=>by cases h)
end
theorem n9 {C:Ctx} {κ:Kn} {o:Expr} {p q:Str} {x y:List Nat} {k1 k2:Nat} {p1 p2 p3 p4:Pos} {st:St} (M:CtxMono C) (h:ev C κ o st (.str x)) (hl:x.length <= 1000000) (hp:p.cps.toList ≠ []) (hq:q.cps.toList.length = 1) (hpq:p ≠ q) (hy:k6 p.cps.toList q.cps.toList x = y):
  ev C κ (.Call (.Attribute o (Str.ofString "replace") p1) [.Constant (.str p) k1 p2,.Constant (.str q) k2 p3] [] p4) st (.str y):=
 ⟨rfl,aX (e:=o) M h ⟨rfl,hl,hp,hq,hpq,congrArg _ hy,rfl⟩⟩
theorem rT {σ:Nat->Option Cell} {x:List Nat} {c:Nat} {i j:Int} {K:PV->(Nat->Option Cell)->Prop}:hW σ "rfind" (.str x) [.str [c],.int i,.int j] K = okI i (okI j (K (.int (fA c x i.toNat j.toNat)) σ)):=by kernel_rfl
theorem rU {σ:Nat->Option Cell} {x:List Nat} {c:Nat} {i j:Int} {K:PV->(Nat->Option Cell)->Prop}:hW σ "count" (.str x) [.str [c],.int i,.int j] K = okI i (okI j (K (.int ((((x.take j.toNat).drop i.toNat).count c:Nat):Int)) σ)):=by kernel_rfl
section
variable {P:Params} {Q:Fl->St->Prop} {css:List Nat} {root sb:Nat} {K:PV->Prop} {st st':St} {p t c k n:Nat} {r:List Nat} {e:PV} {lc:Nat × Nat} {xs ts:List PV} {E:List ((Nat × Nat) × Tk)} {tk tk':Tk}
theorem Mid.cast {n':Nat} (m:Mid css root sb K st p c r lc xs ts tk n) (h:tk = tk') (k:n = n'):Mid css root sb K st p c r lc xs ts tk' n':=by
 subst h; subst k; exact m
theorem SignK.mem (h:SignK c r tk n):[64,35,41,34,39,47,59].contains c = true /\ c ≠ 41 /\ (c = 47->[47,42].isPrefixOf (c :: r) = true):=by
 unfold SignK at h
 by_cases q1:c = 64
 ·subst q1; exact ⟨rfl,by decide,fun q=>absurd q (by decide)⟩
 by_cases q2:c = 35
 ·subst q2; exact ⟨rfl,by decide,fun q=>absurd q (by decide)⟩
 by_cases q3:c = 34 \/ c = 39
 ·rcases q3 with rfl | rfl <;> exact ⟨rfl,by decide,fun q=>absurd q (by decide)⟩
 by_cases q4:c = 47
 ·subst q4
  exact ⟨rfl,by decide,fun _=>x1 (fun s=>a3 fun q _ _=>by rw [q]; rfl) h⟩
 ·rw [if_neg q1,if_neg q2,if_neg q3,if_neg q4] at h
  have q:=h.1
  subst q
  exact ⟨rfl,by decide,fun q=>absurd q (by decide)⟩
theorem numS (hx2:css.length < 1000000) (ha:Al css) (hat:css[p]? = some c) (core:bV (LX css root sb p lc c k e) st.ρ)
  (h:∀ ρ,bV (LX css root sb p lc c k e) ρ->bV [("end",((j3 (css.drop p)).elim .none fun e=>.int (p + e.1:Nat))),("plain",((j3 (css.drop p)).elim (.bool false) fun e=>.bool e.2))] ρ->Q .next ⟨ρ,st.σ⟩):wS cP (knP P) (hJ 6 (eS P)) Q st:=by
 have M:=bM
 refine zb7 core ?_
 apply nf1
 case h=>
  show ?nl1 = ?nr1
  refine (?f:∀ _:(?nl1 = ?nr1),(?nl1 = ?nr1)) ?d
  case d=>conv=>lhs; whnf; dsimp only [cH,erS,erE,bR,erO]
  case f=>exact fun _=>by kernel_rfl!
 unfold knP
 refine bZ M ((j3 (css.drop p)).elim .none fun e=>.int (p + e.1:Nat)) ((j3 (css.drop p)).elim (.bool false) fun e=>.bool e.2) (bX (F:=zcQ) M (by kernel_rfl!) rfl (aB M (v:=.str css) aG (aB M (v:=.int p) aG aD)) ⟨css,p,rfl,hx2,ha,Nat.le_of_lt (fD hat),.inl rfl,?_⟩) (by kernel_rfl) (by kernel_rfl) (h _ (by (show _ = _; first | kernel_rfl! | (rw [<- Nat.add_assoc]; kernel_rfl!) | (rw [<- Nat.add_assoc,<- Nat.add_assoc]; kernel_rfl!))) (by (show _ = _; first | kernel_rfl! | (rw [<- Nat.add_assoc]; kernel_rfl!) | (rw [<- Nat.add_assoc,<- Nat.add_assoc]; kernel_rfl!))))
 rw [zfD]
 cases j3 (css.drop p) <;> rfl
theorem zfn (mid:∀ st2:St,st2.σ = st.σ->bV (LX css root sb p lc c root .none) st2.ρ->Mid css root sb K st2 p c r lc xs ts tk n) (hx:Nx (c :: r) tk n) (core:bV (LX css root sb p lc c root .none) st.ρ)
  (hC:∀ st',oY css root sb K p st'->Q .cont st') (hN:∀ st',oY css root sb K p st'->Q .next st'):wSs cP (knP P) [hJ 5 (eS P),hJ 6 (eS P),hJ 7 (eS P)] Q st:=by
 have m:=mid st rfl core
 have hd:=m.drop
 have hu:(c = 85 \/ c = 117)->css[p + 1]? ≠ some 43:=fun h=>by
  have:=zbT hx h
  rwa [show r = css.drop (p + 1) by rw [<- List.drop_drop,hd]; rfl,cG] at this
 refine aA (zdt (P:=P) m.lt2 m.ha m.at_ core hu (fun hb=>?_) (fun hb h4=>?_) fun hb h4=>?_)
 ·refine hx.elim (a4 fun h1 h2 h3 h4=>?_) fun g=>absurd (g.1.symm.trans hb) (by decide)
  subst h1
  exact brWs (P:=P) (m.cast h3 h4) h2 hC
 ·rw [hd] at h4
  refine hx.elim (fun g=>by rw [g.1] at hb; cases hb) fun g=>g.2.elim (fun g=>?_) fun g=>absurd (g.1.symm.trans h4) (by decide)
  refine x2 (fun v k=>a2 fun hv hs=>?_) g.2
  exact hs.elim (a4 fun h1 _ e1 e2=>zdy (P:=P) m hv (.inl ⟨h1,e1,e2⟩) hC) fun hs=>hs.elim (fun h=>zdy (P:=P) m hv (.inr h) hC) (x3 fun y w j=>a5 fun h1 hu e1 hA e2=>zg2 (P:=P) (m.cast e1 rfl) hv h1 hu hA e2 hC)
 ·refine aA (numS (P:=P) m.lt2 m.ha m.at_ core fun ρ core2 hp=>?_)
  have m:=mid ⟨ρ,st.σ⟩ rfl core2
  rw [hd] at h4
  have hk:=hx.elim (fun g=>by rw [g.1] at hb; cases hb) fun g=>g.2.elim (fun g=>absurd (h4.symm.trans g.1) (by decide)) fun g=>g.2
  have hs:j3 (css.drop p) = none->SignK c r tk n:=fun h=>hk.elim (x2 fun z b=>a2 fun g _=>by rw [<- hd,h] at g; cases g) fun g=>g.2
  clear hx
  refine aA (zds (P:=P) m.lt2 m.ha m.at_ core2 hp (fun z b hn g1 g2=>?_) (fun hn=>?_) (fun hn q=>?_) (fun hn q=>?_) (fun hn q=>absurd q (hs hn).mem.2.1) (fun hn q=>?_) (fun hn q=>?_) (fun hn q=>?_))
  ·rw [hd] at hn
   refine hk.elim (x2 fun z' b'=>a2 fun g=>x3 fun v k iv=>a6 fun e1 e2 i1 i2 i3 i4=>?_) fun g=>by rw [hn] at g; cases g.1
   rw [hn] at g; cases g
   exact zg4 (P:=P) (m.cast e1 e2) i1 i2 i3 i4 g1 g2 hN
  ·exact ⟨(hs hn).mem.1,.inr ⟨(hs hn).mem.2.1,rfl⟩,hd ▸ (hs hn).mem.2.2⟩
  ·have h:=hs hn
   unfold SignK at h
   rw [if_pos q] at h
   exact x2 (fun v k=>a4 fun e1 e2 e3 e4=>brAt (P:=P) (m.cast e1 e2) e3 e4 hN) h
  ·have h:=hs hn
   unfold SignK at h
   rw [if_neg (by rw [q]; decide),if_pos q] at h
   exact x2 (fun v k=>a4 fun e1 e2 e3 e4=>zgb (P:=P) (m.cast e1 e2) e3 e4 hN) h
  ·have h:=hs hn
   unfold SignK at h
   rw [if_neg (by rcases q with q | q <;> (rw [q]; decide)),if_neg (by rcases q with q | q <;> (rw [q]; decide)),if_pos q] at h
   exact x2 (fun v k=>a3 fun e1 e2 e3=>zg3 (P:=P) (m.cast e1 e2) q e3 hN) h
  ·have h:=hs hn
   unfold SignK at h
   rw [if_neg (by rw [q]; decide),if_neg (by rw [q]; decide),if_neg (by rw [q]; decide),if_pos q] at h
   exact x1 (fun s=>a3 fun e1 e2 e3=>zg5 (P:=P) (m.cast e2 e3) e1 hN) h
  ·have h:=hs hn
   unfold SignK at h
   rw [if_neg (by rw [q]; decide),if_neg (by rw [q]; decide),if_neg (by rw [q]; decide),if_neg (by rw [q]; decide)] at h
   exact zgc (P:=P) (m.cast h.2.1 h.2.2) q hN
theorem zfm (mid:∀ st2:St,st2.σ = st.σ->bV (LX css root sb p lc 41 k (.str [41])) st2.ρ->MidB css root sb K st2 p k lc xs ts) (core:bV (LX css root sb p lc 41 k (.str [41])) st.ρ)
  (hN:∀ st',oY css root sb K p st'->Q .next st'):wSs cP (knP P) [hJ 5 (eS P),hJ 6 (eS P),hJ 7 (eS P)] Q st:=by
 have m:=mid st rfl core
 have hx2:css.length < 1000000:=Nat.lt_of_le_of_lt m.hlen (by decide)
 have hl:=fD m.at_
 have hd:css.drop p = 41 :: css.drop (p + 1):=by
  rw [List.drop_eq_getElem_cons hl,Option.some.inj ((List.getElem?_eq_getElem hl).symm.trans m.at_)]
 have hn:j3 (css.drop p) = none:=by rw [hd]; rfl
 refine aA (zdt (P:=P) hx2 m.ha m.at_ core (fun h=>absurd h (by decide)) (fun hb=>by cases hb) (fun _ h4=>by rw [hd] at h4; cases h4) fun _ h4=>?_)
 refine aA (numS (P:=P) hx2 m.ha m.at_ core fun ρ core2 hp=>?_)
 have m:=mid ⟨ρ,st.σ⟩ rfl core2
 exact aA (zds (P:=P) hx2 m.ha m.at_ core2 hp (fun z b h=>by rw [hn] at h; cases h) (fun _=>⟨rfl,.inl ⟨rfl,rfl⟩,fun h=>absurd h (by decide)⟩) (fun _ h=>absurd h (by decide)) (fun _ h=>absurd h (by decide)) (fun _ _=>zg6 (P:=P) m hN) (fun _ h=>absurd h (by decide)) (fun _ h=>absurd h (by decide)) (fun _ h=>absurd h (by decide)))
theorem xQ (hlen:css.length <= 10000) (ha:Al css) (htp:t <= p) (hlt:p < css.length) (hcore:bV (LZ css root sb p t (gL (css.take t)).1 ((t:Int) - (gL (css.take t)).2) k e) st.ρ)
  (row:Row st.σ sb root xs ts) (hw:xs.length <= p) (hR:zfa K ts E)
  (hS:(k = root /\ e = .none /\ st.σ sb = some (.lst []) /\ Rd (gL (css.take p)) (css.drop p) E) \/ (e = .str [41] /\ st.σ sb = some (.lst [.tup [.ptr root,.none]]) /\ css[p]? = some 41 /\ Rd (gL (css.take (p + 1))) (css.drop (p + 1)) E))
  (hC:∀ st',oY css root sb K p st'->Q .cont st') (hN:∀ st',oY css root sb K p st'->Q .next st'):wSs cP (knP P) (eS P) Q st:=by
 have M:=bM
 have hx2:css.length < 1000000:=Nat.lt_of_le_of_lt hlen (by decide)
 have lt62:∀ {i},i <= css.length->i < 2000000:=fun h=>Nat.lt_of_le_of_lt h (Nat.lt_trans hx2 (by decide))
 obtain ⟨ρ,σ⟩:=st
 refine b7 (L:=LZ css root sb p t (gL (css.take t)).1 ((t:Int) - (gL (css.take t)).2) k e) hcore ?_
 clear hcore
 have hg:css[p]? = some css[p]:=List.getElem?_eq_getElem hlt
 have hd:css.drop p = css[p] :: css.drop (p + 1):=List.drop_eq_getElem_cons hlt
 have hnl:=uB (css:=css) (t:=t) (p - t) (by rw [Nat.add_sub_cancel' htp]; exact Nat.le_of_lt hlt)
 rw [Nat.add_sub_cancel' htp] at hnl
 generalize gL (css.take t) = lt at hnl ⊢
 generalize hLp:gL (css.take p) = lp at hnl hS
 have tA:=@zfn P
 have tB:=@zfm P
 have hB:eS P = hJ 0 (eS P) :: hJ 1 (eS P) :: hJ 2 (eS P) :: hJ 3 (eS P) :: hJ 4 (eS P) :: [hJ 5 (eS P),hJ 6 (eS P),hJ 7 (eS P)]:=by kernel_rfl
 rw [hB]
 clear hB
 generalize hT:[hJ 5 (eS P),hJ 6 (eS P),hJ 7 (eS P)] = T
 apply nfs
 case h=>
  show ?nl2 = ?nr2
  refine (?f:∀ _:(?nl2 = ?nr2),(?nl2 = ?nr2)) ?d
  case d=>conv=>lhs; (conv=>pattern (hJ 0 _); whnf); (conv=>pattern (hJ 1 _); whnf); (conv=>pattern (hJ 2 _); whnf); (conv=>pattern (hJ 3 _); whnf); (conv=>pattern (hJ 4 _); whnf); dsimp only [cH,erS,erE,bR,erO]
  case f=>exact fun _=>by kernel_rfl!
 unfold knP
 refine aA (aE M (.int (fA 10 css t p)) (lR M aG (aB M (v:=.str [10]) (aC rfl) (aB M (v:=.int t) aG (aB M (v:=.int p) aG aD))) rfl (by kernel_rfl) (of_eq rT ⟨Int.natCast_nonneg t,xH (lt62 (Nat.le_trans htp (Nat.le_of_lt hlt))),Int.natCast_nonneg p,xH (lt62 (Nat.le_of_lt hlt)),rfl,rfl⟩)) (by kernel_rfl) ?_)
 refine b8 M (fun st1=>st1.σ = σ /\ bV (LZ css root sb p t lp.1 ((p:Int) - lp.2) k e) st1.ρ)
  (bS M (!decide (fA 10 css t p = -1)) (bE M (bL (a:=.int (fA 10 css t p)) (b:=.int (-1)) M aG (zaq M (aC rfl)) rfl)) (fun h=>?_) (fun h=>?_)) ?_
 ·rcases hnl with ⟨h1,_⟩ | ⟨k,h1,h2,h3⟩
  ·rw [h1] at h; cases h
  ·have hk:k <= css.length:=Nat.le_trans (h3 ▸ Nat.le_add_right k lp.2) (Nat.le_of_lt hlt)
   rw [h1,h2,show (p:Int) - lp.2 = k by rw [<- h3]; show ((k:Int) + (lp.2:Int)) - lp.2 = k; exact Int.add_sub_cancel _ _]
   refine aA (dP M (.int lt.1) (.int (1 + (((css.take k).drop t).count 10:Nat))) (by kernel_rfl!) (c9 (i:=1) M (aC rfl) (lR M aG (aB M (v:=.str [10]) (aC rfl) (aB M (v:=.int t) aG (aB M (v:=.int k) aG aD))) rfl (by kernel_rfl) (of_eq rU ⟨Int.natCast_nonneg t,xH (lt62 (Nat.le_trans htp (Nat.le_of_lt hlt))),Int.natCast_nonneg k,xH (lt62 hk),rfl,rfl⟩))) (by kernel_rfl) (of_eq cF ?_))
   exact aA (aE M (.int k) aG (by kernel_rfl) ⟨rfl,by (show _ = _; first | kernel_rfl! | (rw [<- Nat.add_assoc]; kernel_rfl!) | (rw [<- Nat.add_assoc,<- Nat.add_assoc]; kernel_rfl!))⟩)
 ·rcases hnl with ⟨h1,h2,h3⟩ | ⟨k,h1,h2,h3⟩
  ·rw [h2,h3,show (p:Int) - ((lt.2 + (p - t):Nat):Int) = (t:Int) - lt.2 by omega]
   exact ⟨rfl,by (show _ = _; first | kernel_rfl! | (rw [<- Nat.add_assoc]; kernel_rfl!) | (rw [<- Nat.add_assoc,<- Nat.add_assoc]; kernel_rfl!))⟩
  ·rw [h1] at h; cases h
 ·clear hnl
  rintro ⟨ρ1,σ1⟩ ⟨hσ,hco⟩
  cases hσ
  refine b7 (L:=LZ css root sb p t lp.1 ((p:Int) - lp.2) k e) hco ?_
  clear hco
  refine aA (aE M (.int ((p:Int) - ((p:Int) - lp.2))) (gN (i:=p) (j:=(p:Int) - lp.2) M aG aG) (by kernel_rfl) ?_)
  rw [show (p:Int) - ((p:Int) - lp.2) = lp.2 from Int.sub_sub_self _ _]
  refine aA (aE M (.int p) aG (by kernel_rfl) ?_)
  refine aA (aE M (.str [css[p]]) (dK M rfl aG aG hg) (by kernel_rfl) ?_)
  subst hT
  refine hS.elim (a4 fun h1 h2 h3 h4=>?_) (a4 fun h1 h2 h3 h4=>?_)
  ·subst h1; subst h2
   refine h4.iv.elim (fun h=>by rw [hd] at h; cases h.1) (x3 fun n tk E'=>a5 fun e1 hnx n1 n2 hnext=>?_)
   rw [hd] at hnx hnext
   have n3:p + n <= css.length:=gK (Nat.le_of_lt hlt) n2
   have hnx':∃ E,Rd (adv lp ((css[p] :: css.drop (p + 1)).take n)) ((css[p] :: css.drop (p + 1)).drop n) E /\ ∀ rep,zfa K (ts ++ [tkP lp rep tk]) E:=⟨E',hnext,fun rep R' ht=>by
    rw [List.append_assoc]
    exact hR _ (by rw [e1]; exact ⟨rep,R',rfl,ht⟩)⟩
   exact tA (fun st2 g1 g2=>⟨hlen,ha,hlt,hd,hg,hLp.symm,g2,by rw [g1]; exact row,by rw [g1]; exact h3,hw,n1,n3,hnx'⟩) hnx (by (show _ = _; first | kernel_rfl! | (rw [<- Nat.add_assoc]; kernel_rfl!) | (rw [<- Nat.add_assoc,<- Nat.add_assoc]; kernel_rfl!))) hC hN
  ·subst h1
   have h41:css[p] = 41:=Option.some.inj (hg.symm.trans h3)
   rw [h41]
   exact tB (lc:=lp) (xs:=xs) (ts:=ts) (k:=k) (root:=root) (sb:=sb) (fun st2 g1 g2=>⟨hlen,ha,h3,g2,by rw [g1]; exact row,by rw [g1]; exact h2,hw,hLp.symm,E,h4,hR⟩) (by (show _ = _; first | kernel_rfl! | (rw [<- Nat.add_assoc]; kernel_rfl!) | (rw [<- Nat.add_assoc,<- Nat.add_assoc]; kernel_rfl!))) hN
end
noncomputable def ze0 (x css:List Nat):Prop:=∃ a b c,k6 [0] [65533] x = a /\ k6 [13,10] [10] a = b /\ k6 [13] [10] b = c /\ k6 [12] [10] c = css /\ a.length <= 10000 /\ b.length <= 10000 /\ c.length <= 10000
theorem v1 (P:Params) (x css:List Nat) (E:List ((Nat × Nat) × Tk)) (K:PV->Prop) (hx:x.length <= 10000) (hm:ze0 x css) (hc:css.length <= 10000) (ha:Al css) (hE:Rd (1,1) css E) (hK:∀ R,zgl E R->K (.list R)):
  wSs cP (eA (aL (HK P) 628)) (bC (HK P) 628) (jY K) ⟨bA [("css",.str x),("skip_comments",.bool false)] (fun _=>none),fun _=>none⟩:=by
 have M:=bM
 have tb:=@xQ P
 apply nfe
 case h=>
  show ?nl1 = ?nr1
  refine (?f:∀ _:(?nl1 = ?nr1),(?nl1 = ?nr1)) ?d
  case d=>conv=>lhs; whnf; dsimp only [cH,erS,erE,bR,erO]
  case f=>exact fun _=>by kernel_rfl!
 refine aA (aE M (.str css) ?_ (by kernel_rfl) ?_)
 ·obtain ⟨a,b,c,h1,h2,h3,h4,l1,l2,l3⟩:=hm
  have le:∀ {n:Nat},n <= 10000->n <= 1000000:=fun h=>Nat.le_trans h (by decide)
  exact n9 M (n9 M (n9 M (n9 M (aJ (by kernel_rfl!) (by kernel_rfl!)) (le hx) (by decide +kernel) (by kernel_rfl) (by decide +kernel) h1) (le l1) (by decide +kernel) (by kernel_rfl) (by decide +kernel) h2) (le l2) (by decide +kernel) (by kernel_rfl) (by decide +kernel) h3) (le l3) (by decide +kernel) (by kernel_rfl) (by decide +kernel) h4
 clear hm
 refine aA (aE M (.int css.length) (gB M (by kernel_rfl!) rfl rfl (by kernel_rfl) aG) (by kernel_rfl) ?_)
 refine aA (nM M (.int ((0:Nat):Int)) (aC rfl) (by kernel_rfl) (by kernel_rfl) ?_)
 refine aA (aE M (.int ((1:Nat):Int)) (aC rfl) (by kernel_rfl) ?_)
 refine aA (aE M (.int (-1)) (zaq M (aC rfl)) (by kernel_rfl) ?_)
 refine aA (zd0 (by rfl) (by kernel_rfl) (by kernel_rfl) fun a hna=>?_)
 refine aA (aE M .none (aC rfl) (by kernel_rfl) ?_)
 refine aA (iV (by rfl) (by kernel_rfl) fun b hb=>?_)
 have hab:b ≠ a:=fun q=>by
  subst q
  dsimp only at hb
  rw [aQ] at hb; cases hb
 refine b8 M (fun st=>bV [("root",.ptr a)] st.ρ /\ ∃ xs ts,st.σ a = some (.lst xs) /\ kP st.σ xs ts /\ K (.list ts))
  (fE M (fun n st=>Inv css a b K n st) ?_ (css.length - 0) _ ⟨0,0,a,.none,[],[],E,rfl,Nat.le_refl _,Nat.zero_le _,by (show _ = _; first | kernel_rfl! | (rw [<- Nat.add_assoc]; kernel_rfl!) | (rw [<- Nat.add_assoc,<- Nat.add_assoc]; kernel_rfl!)),⟨?_,rfl,hab,by dsimp only; rw [aQ]; rfl⟩,Nat.le_refl _,hK,.inl ⟨rfl,rfl,aQ _ _ _,hE⟩⟩) ?_
 ·rintro n ⟨ρ,σ⟩ ⟨p,t,k,e,xs,ts,E',rfl,htp,hp,hcore,row,hw,hR,hS⟩
  refine ⟨decide (p < css.length),?_,fun hc'=>?_,fun hc'=>?_⟩
  ·rw [show ρ = bA _ ρ from aV _ hcore]
   exact bE M (gO M aG aG)
  ·exact tb hc ha htp (of_decide_eq_true hc') hcore row hw hR hS (fun st' h=>h) (fun st' h=>h)
  ·have hge:=Nat.le_of_not_lt (of_decide_eq_false hc')
   have hE0:E' = []:=hS.elim (a4 fun _ _ _ h4=>by
    rw [List.drop_of_length_le hge] at h4
    exact h4.iv.elim (fun h=>h.2) (x3 fun n t E1=>a5 fun e1 h _ _ _=>h.elim)) (a4 fun _ _ h3 _=>absurd (fD h3) (Nat.not_lt_of_le hge))
   have hk:=hR [] (by rw [hE0]; rfl)
   rw [List.append_nil] at hk
   refine ⟨?_,xs,ts,row.cell,eD (z9 _ _) _ row.res,hk⟩
   show bV _ ρ
   rw [show ρ = bA _ ρ from aV _ hcore]
   (show _ = _; first | kernel_rfl! | (rw [<- Nat.add_assoc]; kernel_rfl!) | (rw [<- Nat.add_assoc,<- Nat.add_assoc]; kernel_rfl!))
 ·dsimp only
  rw [d8 _ (Ne.symm hab),aQ]
 ·rintro ⟨ρ,σ⟩ ⟨h0,xs,ts,h1,h2,h3⟩
  refine b7 h0 ?_
  exact aA (aP M (.ptr a) aG ⟨.list ts,.inr ⟨a,_,rfl,h1,h2⟩,h3⟩)
noncomputable def tG:Fn:=fun ps K=>∃ (x css:List Nat) (E:List ((Nat × Nat) × Tk)),ps = [.str x] /\ x.length <= 10000 /\ ze0 x css /\ css.length <= 10000 /\ Al css /\ Rd (1,1) css E /\ ∀ R,zgl E R->K (.list R)
theorem qU:bD tG:=fun _ _ _ h=>e3 fun _ _ _=>c6 fun k R t=>h _ (k R t)
theorem zg1 (hB:BsOk (bs w.params h mb)) (hmb:HMb mb):CtxOk prog w (bs w.params h mb) cP 4:=by
 refine dX hmb uZ uY (by simp) (fun e he=>?_) (fun e he=>?_) (by simp)
 ·simp only [cPf,List.mem_cons,List.not_mem_nil,or_false] at he
  rcases he with rfl | rfl | rfl | rfl | rfl | rfl | rfl | rfl
  ·exact ⟨.ref 642,by kernel_rfl,(zb1 hB hmb).le (by decide)⟩
  ·exact ⟨.ref 649,by kernel_rfl,(zb2 hB hmb).le (by decide)⟩
  ·exact ⟨.ref 613,by kernel_rfl,(zP hB hmb).le (by decide)⟩
  ·exact ⟨.ref 26,by kernel_rfl,(pP hB hmb).le (by decide)⟩
  ·exact ⟨.ref 670,by kernel_rfl,zK hB hmb⟩
  ·exact ⟨.ref 656,by kernel_rfl,(zO hB hmb).le (by decide)⟩
  ·exact ⟨.ref 41,by kernel_rfl,(wK hB).le (by decide)⟩
  ·exact ⟨.ref 34,by kernel_rfl,(wL hB).le (by decide)⟩
 ·simp only [cPc,List.mem_cons,List.not_mem_nil,or_false] at he
  rcases he with rfl | rfl | rfl | rfl | rfl | rfl | rfl | rfl | rfl | rfl
  ·exact ⟨.ref 206,by kernel_rfl,(wG hB hmb).le (by decide)⟩
  ·exact ⟨.ref 235,by kernel_rfl,(pN hB hmb).le (by decide)⟩
  ·exact ⟨.ref 479,by kernel_rfl,(wH hB hmb).le (by decide)⟩
  ·exact ⟨.ref 265,by kernel_rfl,(zN hB hmb).le (by decide)⟩
  ·exact ⟨.ref 295,by kernel_rfl,(rY hB hmb).le (by decide)⟩
  ·exact ⟨.ref 134,by kernel_rfl,(wI hB hmb).le (by decide)⟩
  ·exact ⟨.ref 600,by kernel_rfl,(zM hB hmb).le (by decide)⟩
  ·exact ⟨.ref 163,by kernel_rfl,(zL hB hmb).le (by decide)⟩
  ·exact ⟨.ref 325,by kernel_rfl,(wD hB hmb).le (by decide)⟩
  ·exact ⟨.ref 355,by kernel_rfl,(wC hB hmb).le (by decide)⟩
theorem r8 (hB:BsOk (bs w.params h mb)) (hmb:HMb mb):Meets prog w (bs w.params h mb) 5 (.ref 628) tG:=by
 refine aY (k:=1) (params:=["css", "skip_comments"]) (dv:=[.bool false]) (dp:=[.bool false]) hB (zg1 hB hmb) (by kernel_rfl) (by kernel_rfl) (by kernel_rfl) rfl (fun _=>.one (by simp [VRel])) (fun S vals hl=>?_) fun ps K=>x3 fun x css E=>a7 fun h1 h2 h3 h4 h5 h6 h7=>?_
 ·obtain ⟨a,rfl⟩:=List.length_eq_one_iff.mp hl
  kernel_rfl
 ·subst h1
  exact ⟨rfl,v1 _ x css E K h2 h3 h4 h5 h6 h7⟩
/-! how the reader mends zeros and line ends -/
noncomputable def md1 (c:Nat):Nat:=if c = 0 then 65533 else if c = 13 \/ c = 12 then 10 else c
noncomputable def aM:List Nat->List Nat
 | []=>[]
 | c :: r=>if c = 13 /\ r.head? = some 10 then aM r else md1 c :: aM r
noncomputable def uU:List Nat->List Nat
 | []=>[]
 | c :: r=>if c = 13 /\ r.head? = some 10 then uU r else c :: uU r
noncomputable def fK (k q c:Nat):Nat:=if k = c then q else c
theorem zfA (k q:Nat):∀ (n:Nat) (x:List Nat),x.length < n->cJ [k] [q] n x = x.map (fK k q)
 | n + 1,[],_=>rfl
 | n + 1,c :: x,h=>by
  have ih:=zfA k q n x (Nat.lt_of_succ_lt_succ h)
  show (if ((k == c) && true) = true then [q] ++ cJ [k] [q] n x else c :: cJ [k] [q] n x) = fK k q c :: x.map (fK k q)
  rw [Bool.and_true,fK]
  by_cases e:k = c
  ·rw [if_pos (beq_iff_eq.mpr e),if_pos e,ih]; rfl
  ·rw [if_neg (fun q=>e (beq_iff_eq.mp q)),if_neg e,ih]
theorem zd1:∀ (n:Nat) (x:List Nat),x.length < n->cJ [13,10] [10] n x = uU x
 | n + 1,[],_=>rfl
 | n + 1,[c],h=>by
  show (if ((13 == c) && false) = true then _ else c :: cJ [13,10] [10] n []) = if c = 13 /\ (none:Option Nat) = some 10 then _ else [c]
  rw [Bool.and_false,pV,if_neg (fun q=>by cases q.2)]
  cases n <;> rfl
 | n + 1,c :: d :: x,h=>by
  have ih:=zd1 n (d :: x) (Nat.lt_of_succ_lt_succ h)
  have ih2:=zd1 n x (Nat.lt_of_succ_lt (Nat.lt_of_succ_lt_succ h))
  show (if ((13 == c) && ((10 == d) && true)) = true then 10 :: cJ [13,10] [10] n x else c :: cJ [13,10] [10] n (d :: x)) = if c = 13 /\ some d = some 10 then uU (d :: x) else c :: uU (d :: x)
  by_cases e:c = 13 /\ some d = some 10
  ·rw [if_pos e,ih2,e.1,Option.some.inj e.2]
   rw [if_pos (show (13 == 13 && (10 == 10 && true)) = true from rfl)]
   show 10 :: uU x = if 10 = 13 /\ x.head? = some 10 then _ else 10 :: uU x
   rw [if_neg (fun q=>absurd q.1 (by decide))]
  ·rw [if_neg e,ih,if_neg (fun q=>?_)]
   rw [Bool.and_true,Bool.and_eq_true_iff,beq_iff_eq,beq_iff_eq] at q
   exact e ⟨q.1.symm,congrArg some q.2.symm⟩
theorem zgN (c:Nat):fK 12 10 (fK 13 10 (fK 0 65533 c)) = md1 c:=by
 unfold md1 fK
 by_cases h0:0 = c
 ·subst h0; rfl
 by_cases h1:13 = c
 ·subst h1; rfl
 by_cases h2:12 = c
 ·subst h2; rfl
 ·rw [if_neg h0,if_neg h1,if_neg h2,if_neg (Ne.symm h0),if_neg (fun q=>q.elim (Ne.symm h1) (Ne.symm h2))]
theorem rV:∀ x:List Nat,((uU (x.map (fK 0 65533))).map (fK 13 10)).map (fK 12 10) = aM x
 | []=>rfl
 | c :: r=>by
  have ih:=rV r
  have e:(fK 0 65533 c = 13 /\ (r.map (fK 0 65533)).head? = some 10) = (c = 13 /\ r.head? = some 10):=by
   have z:∀ k d,k = 13 \/ k = 10->(fK 0 65533 d = k) = (d = k):=fun k d hk=>propext (by
    unfold fK
    by_cases h:0 = d
    ·subst h
     rw [if_pos rfl]
     rcases hk with rfl | rfl <;> exact ⟨fun h=>absurd h (by decide),fun h=>absurd h (by decide)⟩
    ·rw [if_neg h])
   rw [z 13 c (.inl rfl)]
   cases r with
   | nil=>rfl
   | cons d r=>
    show (c = 13 /\ some (fK 0 65533 d) = some 10) = (c = 13 /\ some d = some 10)
    rw [Option.some.injEq,Option.some.injEq,z 10 d (.inr rfl)]
  show ((if fK 0 65533 c = 13 /\ (r.map (fK 0 65533)).head? = some 10 then uU (r.map (fK 0 65533)) else fK 0 65533 c :: uU (r.map (fK 0 65533))).map (fK 13 10)).map (fK 12 10) = if c = 13 /\ r.head? = some 10 then aM r else md1 c :: aM r
  simp only [e]
  split
  ·exact ih
  ·rw [List.map_cons,List.map_cons,ih,zgN]
theorem kK:∀ x:List Nat,(uU x).length <= x.length
 | []=>Nat.le_refl _
 | c :: r=>by
  show (if c = 13 /\ r.head? = some 10 then uU r else c :: uU r).length <= _
  split
  ·exact Nat.le_succ_of_le (kK r)
  ·exact Nat.succ_le_succ (kK r)
theorem zbW (x:List Nat):(aM x).length <= x.length:=by
 rw [<- rV,List.length_map,List.length_map]
 exact Nat.le_trans (kK _) (by rw [List.length_map]; exact Nat.le_refl _)
theorem zbX {x:List Nat} (h:x.length <= 10000):ze0 x (aM x):=by
 have hl:(uU (x.map (fK 0 65533))).length <= 10000:=Nat.le_trans (kK _) (by rw [List.length_map]; exact h)
 refine ⟨_,_,_,rfl,rfl,rfl,?_,?_,?_,?_⟩
 all_goals simp only [k6,zfA _ _ _ _ (Nat.lt_succ_self _),zd1 _ _ (Nat.lt_succ_self _)]
 ·exact rV x
 ·rw [List.length_map]; exact h
 ·exact hl
 ·rw [List.length_map]; exact hl
noncomputable def Cut (u y:List Nat):Prop:=u.getLast? = some 13->y.head? ≠ some 10
theorem kJ {u w y:List Nat} (h:Cut u (w ++ y)):Cut u w:=fun h1 h2=>h h1 (by
 cases w with
 | nil=>cases h2
 | cons c r=>exact h2)
theorem bK:∀ {u y:List Nat},Cut u y->aM (u ++ y) = aM u ++ aM y
 | [],y,_=>rfl
 | [c],y,h=>by
  show (if c = 13 /\ y.head? = some 10 then aM y else md1 c :: aM y) = (if c = 13 /\ (none:Option Nat) = some 10 then [] else [md1 c]) ++ aM y
  rw [if_neg (fun q=>h (by rw [q.1]; rfl) q.2),if_neg (fun q=>by cases q.2)]; rfl
 | c :: d :: r,y,h=>by
  have ih:=bK (u:=d :: r) (y:=y) (fun q=>h q)
  show (if c = 13 /\ some d = some 10 then aM (d :: r ++ y) else md1 c :: aM (d :: r ++ y)) = (if c = 13 /\ some d = some 10 then aM (d :: r) else md1 c :: aM (d :: r)) ++ aM y
  rw [ih]
  split <;> rfl
theorem fZ {u w y:List Nat} (h:Cut u (w ++ y)) (h':Cut w y):Cut (u ++ w) y:=fun h1=>by
 cases w with
 | nil=>rw [List.append_nil] at h1; exact h h1
 | cons c r=>
  rw [List.getLast?_append,List.getLast?_cons] at h1
  exact h' (by rw [List.getLast?_cons]; exact h1)
theorem jB {c:Nat} {u y:List Nat} (hu:u ≠ []) (h:Cut u y):Cut (c :: u) y:=fun h1=>h (by
 cases u with
 | nil=>exact absurd rfl hu
 | cons d r=>exact h1)
theorem cK {u y:List Nat} (h:u.getLast? ≠ some 13):Cut u y:=fun q=>absurd q h
theorem lD {c:Nat} (h:c ≠ 13) (r:List Nat):aM (c :: r) = md1 c :: aM r:=if_neg fun q=>h q.1
theorem zR {c:Nat} (h:c ≠ 0 /\ c ≠ 13 /\ c ≠ 12):md1 c = c:=by
 unfold md1
 rw [if_neg h.1,if_neg (fun q=>q.elim h.2.1 h.2.2)]
theorem bI {c:Nat} (h:c ≠ 0 /\ c ≠ 13 /\ c ≠ 12) (r:List Nat):aM (c :: r) = c :: aM r:=by rw [lD h.2.1,zR h]
theorem i0:∀ {u:List Nat},(∀ c ∈ u,c ≠ 0 /\ c ≠ 13 /\ c ≠ 12)->aM u = u
 | [],_=>rfl
 | c :: r,h=>by rw [bI (h c List.mem_cons_self),i0 fun d hd=>h d (List.mem_cons_of_mem _ hd)]
noncomputable def nm (n:Int) (m:Nat):Nat:=(n % (m:Int)).toNat
theorem zfI (n:Int) {m:Nat} (h:0 < m):n % (m:Int) = (nm n m:Int):=(Int.toNat_of_nonneg (Int.emod_nonneg _ (by omega))).symm
theorem lB (n:Int) {m:Nat} (h:0 < m):nm n m < m:=by
 have h1:=Int.emod_lt_of_pos n (show (0:Int) < m by omega)
 rw [zfI n h] at h1
 exact Int.ofNat_lt.mp h1
/-! escapes by figures -/
noncomputable def zgV:List Nat:=[48,49,50,51,52,53,54,55,56,57,97,98,99,100,101,102]
noncomputable def zgU:List Nat:=[48,49,50,51,52,53,54,55,56,57,65,66,67,68,69,70]
noncomputable def j5 (i:Nat):List Nat:=if i = 0 then zgV else zgU
noncomputable def q0 (T:List Nat) (n:Nat):Nat:=(T[n % 16]?).getD 0
theorem zan (i n:Nat):dQ (q0 (j5 i) n) = true /\ iM 16 (q0 (j5 i) n) = some (n % 16):=by
 have h:n % 16 < 16:=Nat.mod_lt _ (by decide)
 unfold q0 j5
 generalize n % 16 = m at h ⊢
 split
 ·exact (show ∀ m < 16,dQ ((zgV[m]?).getD 0) = true /\ iM 16 ((zgV[m]?).getD 0) = some m by decide +kernel) m h
 ·exact (show ∀ m < 16,dQ ((zgU[m]?).getD 0) = true /\ iM 16 ((zgU[m]?).getD 0) = some m by decide +kernel) m h
noncomputable def dig (T:List Nat):Nat->Nat->List Nat->List Nat
 | 0,_,acc=>acc
 | k + 1,n,acc=>dig T k (n / 16) (q0 T n :: acc)
theorem sO (T:List Nat):∀ (k n:Nat) (acc:List Nat),(dig T k n acc).length = k + acc.length
 | 0,_,acc=>(Nat.zero_add _).symm
 | k + 1,n,acc=>by
  show (dig T k (n / 16) (q0 T n :: acc)).length = _
  rw [sO T k,List.length_cons,Nat.add_assoc,Nat.add_comm 1]
theorem zax (i:Nat):∀ (k n:Nat) (acc:List Nat),acc.all dQ = true->(dig (j5 i) k n acc).all dQ = true
 | 0,_,_,h=>h
 | k + 1,n,acc,h=>zax i k _ _ (Bool.and_eq_true_iff.mpr ⟨(zan i n).1,h⟩)
theorem zaw (i:Nat):∀ (k n a:Nat) (acc:List Nat),n < 16 ^ k->eE 16 a (dig (j5 i) k n acc) = eE 16 (a * 16 ^ k + n) acc
 | 0,n,a,acc,h=>by
  have:n = 0:=Nat.lt_one_iff.mp h
  subst this
  show eE 16 a acc = eE 16 (a * 1 + 0) acc
  rw [Nat.mul_one]; rfl
 | k + 1,n,a,acc,h=>by
  show eE 16 a (dig (j5 i) k (n / 16) (q0 (j5 i) n :: acc)) = _
  rw [zaw i k (n / 16) a _ (Nat.div_lt_of_lt_mul (by rw [Nat.mul_comm]; exact h))]
  show (match iM 16 (q0 (j5 i) n) with
   | some d=>eE 16 ((a * 16 ^ k + n / 16) * 16 + d) acc
   | none=>none) = _
  rw [(zan i n).2]
  have e:(a * 16 ^ k + n / 16) * 16 + n % 16 = a * 16 ^ (k + 1) + n:=by
   rw [Nat.add_mul,Nat.mul_assoc,<- Nat.pow_succ,Nat.add_assoc,Nat.mul_comm (n / 16),Nat.div_add_mod]
  show eE 16 ((a * 16 ^ k + n / 16) * 16 + n % 16) acc = _
  rw [e]
theorem uJ:∀ (D x:List Nat) (k:Nat),D.all dQ = true->D.length <= k->(D.length = k \/ ∀ c r,x = c :: r->dQ c = false)->kC k (D ++ x) = D.length
 | [],x,k,_,_,h=>by
  cases k with
  | zero=>rfl
  | succ k=>
   cases x with
   | nil=>rfl
   | cons c r=>
    rcases h with h | h
    ·cases h
    ·show (if dQ c = true then _ else 0) = 0
     rw [h c r rfl,pV]
 | d :: D,x,0,_,h,_=>absurd h (Nat.not_succ_le_zero _)
 | d :: D,x,k + 1,ha,hl,h=>by
  obtain ⟨h1,h2⟩:=Bool.and_eq_true_iff.mp ha
  show (if dQ d = true then kC k (D ++ x) + 1 else 0) = _
  rw [h1,zfN,uJ D x k h2 (Nat.le_of_succ_le_succ hl) (h.imp (fun q=>Nat.succ.inj q) id)]; rfl
theorem zaa {c:Nat} (h:dQ c = true):c ≠ 0 /\ c ≠ 13 /\ c ≠ 12 /\ c ≠ 10 /\ cV c = true:=by
 have:∀ c < 128,dQ c = true->c ≠ 0 /\ c ≠ 13 /\ c ≠ 12 /\ c ≠ 10 /\ cV c = true:=by decide +kernel
 refine this c ?_ h
 simp only [dQ,Bool.or_eq_true,Bool.and_eq_true,decide_eq_true_eq] at h
 omega
/-! the law's signs -/
noncomputable def signsL:List Nat:=[97,70,101,103,90,117,45,95,48,55,32,34,39,40,41,92,10,9,13,12,1,127,47,42,233,119987,65533,1114111,128,37,123,45]
noncomputable def lettersL:List Nat:=[97,98,99,100,101,102,103,104,105,106,107,108,109,110,111,112,113,114,115,116,117,118,119,120,121,122,65,66,67,68,69,70,71,72,73,74,75,76,77,78,79,80,81,82,83,84,85,86,87,88,89,90,95]
noncomputable def eX:List (List Nat):=[[],[32],[10],[9],[12],[13,10],[13]]
theorem kY:∀ c ∈ signsL,c ≠ 0 /\ c <= 1114111 /\ (c = 10 \/ c = 13 \/ c = 12 \/ cV c = true):=by decide +kernel
structure SpW (b:Bool) (c:Nat) (beh w:List Nat):Prop where
 cut:Cut w beh
 len:w.length <= 9
 al:Al (aM w)
 is:(b = true /\ (w = [c] \/ (c = 65533 /\ w = [0]))) \/ ∃ t,w = 92 :: t /\ [10].isPrefixOf (aM t ++ aM beh) = false /\ EscAt (aM t ++ aM beh) c (aM t).length
noncomputable def xI (c:Nat):Prop:=c ≠ 10 /\ c ≠ 13 /\ c ≠ 12
theorem tZ {c:Nat} (hc:c ∈ signsL) (h:xI c):cV c = true:=(kY c hc).2.2.elim (fun q=>absurd q h.1) fun q=>q.elim (fun q=>absurd q h.2.1) fun q=>q.elim (fun q=>absurd q h.2.2) id
theorem zbq {c:Nat} {beh:List Nat} (hc:c ∈ signsL) (h:xI c):SpW true c beh [c]:=
 ⟨cK fun q=>h.2.1 (Option.some.inj q),show 1 <= 9 by decide,fun d hd=>by
  rw [bI ⟨(kY c hc).1,h.2⟩] at hd
  rw [List.mem_singleton.mp hd]; exact tZ hc h,.inl ⟨rfl,.inl rfl⟩⟩
theorem zdP {beh:List Nat}:SpW true 65533 beh [0]:=
 ⟨cK (by decide),by decide,fun d hd=>by rw [List.mem_singleton.mp hd]; decide,.inl ⟨rfl,.inr ⟨rfl,rfl⟩⟩⟩
theorem zdQ {b:Bool} {c:Nat} {beh:List Nat} (hc:c ∈ signsL) (h:xI c) (hx:dQ c = false):SpW b c beh [92,c]:=by
 have e:aM [c] = [c]:=bI ⟨(kY c hc).1,h.2⟩ []
 refine ⟨cK fun q=>h.2.1 (Option.some.inj q),show 2 <= 9 by decide,fun d hd=>?_,.inr ⟨[c],rfl,?_,?_⟩⟩
 ·rw [bI (by decide),e] at hd
  rcases List.mem_cons.mp hd with rfl | hd
  ·decide
  ·rw [List.mem_singleton.mp hd]; exact tZ hc h
 ·rw [e]
  show ((10 == c) && _) = false
  rw [beq_eq_false_iff_ne.mpr (Ne.symm h.1)]; rfl
 ·rw [e]
  refine EscAt.sign c ?_ rfl
  show (if dQ c = true then _ else 0) = 0
  rw [hx,pV]
theorem rD:∀ B ∈ eX,(B = [] \/ ∃ b,aM B = [b] /\ a0 b = true /\ cV b = true) /\ B.length <= 2:=by
 intro B hB
 simp only [eX,List.mem_cons,List.not_mem_nil,or_false] at hB
 rcases hB with rfl | rfl | rfl | rfl | rfl | rfl | rfl
 ·exact ⟨.inl rfl,by decide⟩
 all_goals exact ⟨.inr ⟨_,rfl,rfl,rfl⟩,by decide⟩
theorem zfu {b:Bool} {c k:Nat} {D B beh:List Nat} (hD:D.all dQ = true) (h1:1 <= D.length) (h6:D.length <= 6) (hk:eE 16 0 D = some k) (hc:jC k = c) (hB:B ∈ eX)
  (hB1:B = []->∀ d r,beh = d :: r->d ∉ [32,10,9,13,12] /\ (D.length < 6->dQ d = false)) (hB2:B = [13]->beh.head? ≠ some 10):SpW b c beh (92 :: (D ++ B)):=by
 have hm:∀ d ∈ D,d ≠ 0 /\ d ≠ 13 /\ d ≠ 12 /\ d ≠ 10 /\ cV d = true:=fun d hd=>zaa (List.all_eq_true.mp hD d hd)
 have hDm:aM D = D:=i0 fun d hd=>⟨(hm d hd).1,(hm d hd).2.1,(hm d hd).2.2.1⟩
 have cD:Cut D B:=cK fun q=>(hm 13 (List.mem_of_getLast? q)).2.1 rfl
 have cB:Cut B beh:=fun q=>by
  refine hB2 ?_
  simp only [eX,List.mem_cons,List.not_mem_nil,or_false] at hB
  rcases hB with rfl | rfl | rfl | rfl | rfl | rfl | rfl <;> first | rfl | cases q
 have cDB:Cut (D ++ B) beh:=fZ (cK fun q=>(hm 13 (List.mem_of_getLast? q)).2.1 rfl) cB
 have hne:D ++ B ≠ []:=fun q=>by rw [(List.append_eq_nil_iff.mp q).1] at h1; cases h1
 have e:aM (D ++ B) = D ++ aM B:=by rw [bK cD,hDm]
 have hbl:(B = [] /\ ∀ d r,aM beh = d :: r->a0 d = false /\ (D.length = 6 \/ dQ d = false)) \/ ∃ b,aM B = [b] /\ a0 b = true /\ cV b = true:=(rD B hB).1.imp (fun q=>⟨q,fun d r hd=>by
  cases beh with
  | nil=>cases hd
  | cons d' r'=>
   obtain ⟨q1,q2⟩:=hB1 q d' r' rfl
   simp only [List.mem_cons,List.not_mem_nil,or_false,not_or] at q1
   obtain ⟨n1,n2,n3,n4,n5⟩:=q1
   rw [lD n4] at hd
   obtain ⟨hd,_⟩:=List.cons.inj hd
   by_cases h0:d' = 0
   ·subst h0; subst hd; exact ⟨rfl,.inr rfl⟩
   ·rw [zR ⟨h0,n4,n5⟩] at hd
    subst hd
    refine ⟨?_,?_⟩
    ·simp only [a0,Bool.or_eq_false_iff,beq_eq_false_iff_ne]
     exact ⟨⟨n1,n2⟩,n3⟩
    ·by_cases h:D.length < 6
     ·exact .inr (q2 h)
     ·exact .inl (Nat.le_antisymm h6 (Nat.le_of_not_lt h))⟩) id
 refine ⟨jB hne cDB,?_,fun d hd=>?_,.inr ⟨D ++ B,rfl,?_,?_⟩⟩
 ·have:=(rD B hB).2
  rw [List.length_cons,List.length_append]; omega
 ·rw [bI (by decide),e] at hd
  rcases List.mem_cons.mp hd with rfl | hd
  ·decide
  ·rcases List.mem_append.mp hd with hd | hd
   ·exact (hm d hd).2.2.2.2
   ·rcases hbl with ⟨q,_⟩ | ⟨b,q,_,hb⟩
    ·rw [q] at hd; cases hd
    ·rw [q] at hd; rw [List.mem_singleton.mp hd]; exact hb
 ·rw [e]
  obtain ⟨d,D',rfl⟩:∃ d D',D = d :: D':=by cases D with | nil=>exact absurd h1 (by decide) | cons d D'=>exact ⟨d,D',rfl⟩
  show ((10 == d) && _) = false
  rw [beq_eq_false_iff_ne.mpr (Ne.symm (hm d List.mem_cons_self).2.2.2.1)]; rfl
 ·rw [e,List.append_assoc]
  have hN:kC 6 (D ++ (aM B ++ aM beh)) = D.length:=uJ D _ 6 hD h6 (by
   rcases hbl with ⟨q,hb⟩ | ⟨b,q,hb,_⟩
   ·rw [q]
    cases hy:aM beh with
    | nil=>exact .inr fun c r q=>by cases q
    | cons d r=>exact (hb d r hy).2.imp id fun h c' r' q=>by cases q; exact h
   ·rw [q]
    refine .inr fun c r q=>?_
    have q:b :: aM beh = c :: r:=q
    cases q
    cases hh:dQ b with
    | false=>rfl
    | true=>
     have:b = 32 \/ b = 10 \/ b = 9:=by simpa [a0,or_assoc] using hb
     rcases this with rfl | rfl | rfl <;> cases hh)
  have hO:fY (aM B ++ aM beh) = (aM B).length:=by
   rcases hbl with ⟨q,hb⟩ | ⟨b,q,hb,_⟩
   ·rw [q]
    cases hy:aM beh with
    | nil=>rfl
    | cons c r=>exact if_neg (by rw [(hb c r hy).1]; decide)
   ·rw [q]; exact if_pos hb
  have he:=EscAt.hex (x:=D ++ (aM B ++ aM beh)) k (by rw [hN]; exact h1) (by rw [hN,List.take_left]; exact hk)
  rw [hN,List.drop_left,hO,hc] at he
  rw [List.length_append]
  exact he
/-! names,strings and addresses as the law writes them -/
noncomputable def mG (s:List Nat):Bool:=List.casesOn (motive:=fun _=>Bool) s false fun c _=>c == 0 || c == 92 || aU c
noncomputable def d9 (w:List Nat):Bool:=mG (w.take 1) || (w.take 1 == [45] && (w.drop 1).take 1 == [45] || w.take 1 == [45] && mG ((w.drop 1).take 1))
noncomputable def zeX (y:List Nat):Prop:=∀ c r,aM y = c :: r->bW c = false /\ c ≠ 92
structure Nm (beh w v:List Nat):Prop where
 cut:Cut w beh
 len:w.length <= 9 * v.length
 al:Al (aM w)
 at_:NameAt (aM w ++ aM beh) v (aM w).length
 tl:((w.take 1 == [45]) || mG (w.take 1)) = eL (aM w ++ aM beh)
 op:d9 w = aR (aM w ++ aM beh)
theorem fF {c:Nat} (h:bW c = false):aU c = false /\ (c == 45) = false:=by
 obtain ⟨h1,_⟩:=Bool.or_eq_false_iff.mp h
 exact Bool.or_eq_false_iff.mp h1
theorem Nm.nil {beh:List Nat} (h:zeX beh):Nm beh [] []:=by
 have e:aM [] ++ aM beh = aM beh:=rfl
 refine ⟨cK (by decide),Nat.le_refl _,fun d hd=>(by cases hd),?_,?_,?_⟩
 ·exact .stop _ h
 ·rw [e]
  cases hy:aM beh with
  | nil=>rfl
  | cons c r=>
   obtain ⟨h1,h2⟩:=h c r hy
   obtain ⟨h3,h4⟩:=fF h1
   show false = ((aU c || c == 45) || (((92 == c) && true) && !([92,10].isPrefixOf (c :: r))))
   rw [h3,h4,beq_eq_false_iff_ne.mpr (Ne.symm h2)]; rfl
 ·rw [e]
  cases hy:aM beh with
  | nil=>rfl
  | cons c r=>
   obtain ⟨h1,h2⟩:=h c r hy
   obtain ⟨h3,h4⟩:=fF h1
   show false = (aU c || ((c == 45 && eL r) || (c == 92 && !([92,10].isPrefixOf (c :: r)))))
   rw [h3,h4,beq_eq_false_iff_ne.mpr h2]; rfl
theorem uE {t y:List Nat} (h:[10].isPrefixOf (t ++ y) = false):[92,10].isPrefixOf (92 :: (t ++ y)) = false:=by
 show ((92 == 92) && [10].isPrefixOf (t ++ y)) = false
 rw [h]; rfl
theorem Nm.step {b:Bool} {c:Nat} {beh u w v:List Nat} (hs:SpW b c (w ++ beh) u) (hb:b = true->bW c = true /\ c ≠ 92 /\ c ≠ 0 /\ c ≠ 13 /\ c ≠ 12) (h:Nm beh w v):Nm beh (u ++ w) (c :: v):=by
 have e:aM (u ++ w) = aM u ++ aM w:=bK (kJ hs.cut)
 have eb:aM (w ++ beh) = aM w ++ aM beh:=bK h.cut
 have hcut:=fZ hs.cut h.cut
 have hlen:(u ++ w).length <= 9 * (c :: v).length:=by
  have:=hs.len
  have:=h.len
  rw [List.length_append,List.length_cons]; omega
 have hal:Al (aM (u ++ w)):=fun d hd=>by
  rw [e] at hd
  exact (List.mem_append.mp hd).elim (hs.al d) (h.al d)
 refine hs.is.elim (a2 fun hb' q=>?_) (x1 fun t=>a3 fun hu h10 he=>?_)
 ·obtain ⟨g1,g2,g0,g3,g4⟩:=hb hb'
  have mu:aM u = [c]:=by
   rcases q with rfl | ⟨rfl,rfl⟩
   ·exact bI ⟨g0,g3,g4⟩ []
   ·rfl
  have e2:aM (u ++ w) ++ aM beh = c :: (aM w ++ aM beh):=by rw [e,mu]; rfl
  have t1:((u ++ w).take 1 == [45]) = (c == 45) /\ mG ((u ++ w).take 1) = aU c /\ ((u ++ w).drop 1).take 1 = w.take 1:=by
   rcases q with rfl | ⟨rfl,rfl⟩
   ·refine ⟨?_,?_,rfl⟩
    ·show ((c == 45) && true) = _
     rw [Bool.and_true]
    ·show (c == 0 || c == 92 || aU c) = _
     rw [beq_eq_false_iff_ne.mpr g0,beq_eq_false_iff_ne.mpr g2]; rfl
   ·exact ⟨rfl,show mG [0] = aU 65533 by decide,rfl⟩
  have n92:((92 == c) && true) = false:=by rw [beq_eq_false_iff_ne.mpr (Ne.symm g2)]; rfl
  refine ⟨hcut,hlen,hal,?_,?_,?_⟩
  ·rw [e2,e,mu]
   have:=NameAt.sign c _ v _ g1 h.at_
   rw [List.length_append,Nat.add_comm]; exact this
  ·rw [e2,t1.1,t1.2.1]
   show _ = ((aU c || c == 45) || (((92 == c) && true) && !([92,10].isPrefixOf (c :: (aM w ++ aM beh)))))
   rw [n92,Bool.false_and,Bool.or_false,Bool.or_comm]
  ·rw [e2]
   unfold d9
   rw [t1.1,t1.2.1,t1.2.2]
   show _ = (aU c || ((c == 45 && eL (aM w ++ aM beh)) || (c == 92 && !([92,10].isPrefixOf (c :: (aM w ++ aM beh))))))
   rw [beq_eq_false_iff_ne.mpr g2,Bool.false_and,Bool.or_false,<- h.tl,Bool.and_or_distrib_left]
 ·subst hu
  have mu:aM (92 :: t) = 92 :: aM t:=bI (by decide) t
  rw [eb] at h10 he
  have e2:aM (92 :: t ++ w) ++ aM beh = 92 :: (aM t ++ (aM w ++ aM beh)):=by rw [e,mu,List.append_assoc]; rfl
  have l92:=uE h10
  refine ⟨hcut,hlen,hal,?_,?_,?_⟩
  ·rw [e2,e,mu]
   have:=NameAt.esc (aM t ++ (aM w ++ aM beh)) v c (aM t).length _ l92 he (by rw [List.drop_left]; exact h.at_)
   rw [List.length_append,List.length_cons,Nat.add_comm]; exact this
  ·rw [e2]
   show true = ((aU 92 || 92 == 45) || (true && !([92,10].isPrefixOf (92 :: (aM t ++ (aM w ++ aM beh))))))
   rw [l92]; rfl
  ·rw [e2]
   show true = (aU 92 || ((92 == 45 && eL (aM t ++ (aM w ++ aM beh))) || (92 == 92 && !([92,10].isPrefixOf (92 :: (aM t ++ (aM w ++ aM beh)))))))
   rw [l92]; rfl
structure Sr (q:Nat) (beh w v:List Nat):Prop where
 cut:Cut w beh
 len:w.length <= 12 * v.length + 1
 al:Al (aM w)
 at_:StrAt q (aM w ++ aM beh) v (aM w).length
 hd:w.head? ≠ some 10 /\ w ≠ []
theorem Sr.nil {q:Nat} {beh:List Nat} (hq:q = 34 \/ q = 39):Sr q beh [q] []:=by
 have mq:aM [q] = [q]:=by rcases hq with rfl | rfl <;> rfl
 refine ⟨cK (by rcases hq with rfl | rfl <;> decide),Nat.le_refl _,fun d hd=>?_,?_,by rcases hq with rfl | rfl <;> decide⟩
 ·rw [mq] at hd
  rw [List.mem_singleton.mp hd]
  rcases hq with rfl | rfl <;> decide
 ·rw [mq]; exact .close _
theorem Sr.step {b:Bool} {q c:Nat} {beh u w v:List Nat} (hs:SpW b c (w ++ beh) u) (hb:b = true->c ≠ q /\ c ≠ 92 /\ xI c /\ c ≠ 0) (h:Sr q beh w v):(u ++ w).length <= 9 + w.length /\ Cut (u ++ w) beh /\ Al (aM (u ++ w)) /\ StrAt q (aM (u ++ w) ++ aM beh) (c :: v) (aM (u ++ w)).length /\ (u ++ w).head? ≠ some 10 /\ u ++ w ≠ []:=by
 have e:aM (u ++ w) = aM u ++ aM w:=bK (kJ hs.cut)
 have eb:aM (w ++ beh) = aM w ++ aM beh:=bK h.cut
 refine ⟨by rw [List.length_append]; exact Nat.add_le_add_right hs.len _,fZ hs.cut h.cut,fun d hd=>?_,?_⟩
 ·rw [e] at hd
  exact (List.mem_append.mp hd).elim (hs.al d) (h.al d)
 refine hs.is.elim (a2 fun hb' g=>?_) (x1 fun t=>a3 fun hu h10 he=>?_)
 ·obtain ⟨g1,g2,g3,g0⟩:=hb hb'
  have mu:aM u = [c]:=by
   rcases g with rfl | ⟨rfl,rfl⟩
   ·exact bI ⟨g0,g3.2⟩ []
   ·rfl
  refine ⟨?_,?_⟩
  ·rw [e,mu,List.append_assoc]
   have:=StrAt.plain (q:=q) c _ v _ g1 g2 g3.1 h.at_
   rw [List.length_append,Nat.add_comm]; exact this
  ·rcases g with rfl | ⟨rfl,rfl⟩
   ·exact ⟨fun q=>g3.1 (Option.some.inj q),fun q=>by cases q⟩
   ·exact ⟨fun q=>absurd (Option.some.inj q) (by decide),fun q=>by cases q⟩
 ·subst hu
  have mu:aM (92 :: t) = 92 :: aM t:=bI (by decide) t
  rw [eb] at h10 he
  refine ⟨?_,⟨fun q=>absurd (Option.some.inj q) (by decide),fun q=>by cases q⟩⟩
  rw [e,mu,List.append_assoc,List.length_append,List.length_cons]
  have hat:=h.at_
  cases ht:aM t ++ (aM w ++ aM beh) with
  | nil=>
   rw [(List.append_eq_nil_iff.mp ht).2] at hat
   cases hat
  | cons d r=>
   have hd10:d ≠ 10:=fun q=>by rw [ht,q] at h10; cases h10
   have hat':StrAt q ((d :: r).drop (aM t).length) v (aM w).length:=by rw [<- ht,List.drop_left]; exact h.at_
   have:=StrAt.esc (q:=q) d r v c (aM t).length _ hd10 (ht ▸ he) hat'
   have e3:(92 :: aM t) ++ (aM w ++ aM beh) = 92 :: d :: r:=by rw [<- ht]; rfl
   rw [e3,Nat.add_comm]
   exact this
theorem zcs {z w beh:List Nat} (hz:z ∈ [[10],[13,10],[12],[13]]) (hw:w.head? ≠ some 10) (hw0:w ≠ []) (h:Cut w beh):Cut (92 :: z ++ w) beh /\ aM (92 :: z ++ w) = 92 :: 10 :: aM w:=by
 have hc:Cut z w:=fun _=>hw
 have hm:aM z = [10] /\ z.length <= 2:=by
  simp only [List.mem_cons,List.not_mem_nil,or_false] at hz
  rcases hz with rfl | rfl | rfl | rfl <;> exact ⟨rfl,by decide⟩
 have hz0:z ≠ []:=fun q=>by rw [q] at hm; cases hm.1
 refine ⟨fZ (jB hz0 fun q=>?_) h,?_⟩
 ·cases w with
  | nil=>exact absurd rfl hw0
  | cons c r=>exact hc q
 ·show aM (92 :: (z ++ w)) = _
  rw [bI (by decide),bK hc,hm.1]; rfl
theorem Sr.more {b:Bool} {q c:Nat} {beh u w v:List Nat} (hs:SpW b c (w ++ beh) u) (hb:b = true->c ≠ q /\ c ≠ 92 /\ xI c /\ c ≠ 0) (h:Sr q beh w v):Sr q beh (u ++ w) (c :: v):=by
 obtain ⟨h1,h2,h3,h4,h5⟩:=Sr.step hs hb h
 have:=h.len
 exact ⟨h2,by rw [List.length_cons]; omega,h3,h4,h5⟩
theorem Sr.cont {b:Bool} {q c:Nat} {beh u w v z:List Nat} (hs:SpW b c (w ++ beh) u) (hb:b = true->c ≠ q /\ c ≠ 92 /\ xI c /\ c ≠ 0) (h:Sr q beh w v) (hz:z ∈ [[10],[13,10],[12],[13]]):Sr q beh (92 :: z ++ (u ++ w)) (c :: v):=by
 obtain ⟨h1,h2,h3,h4,h5⟩:=Sr.step hs hb h
 obtain ⟨g1,g2⟩:=zcs hz h5.1 h5.2 h2
 have hl:=h.len
 have hz2:z.length <= 2:=by
  simp only [List.mem_cons,List.not_mem_nil,or_false] at hz
  rcases hz with rfl | rfl | rfl | rfl <;> decide
 refine ⟨g1,?_,?_,?_,⟨fun q=>absurd (Option.some.inj q) (by decide),fun q=>by cases q⟩⟩
 ·have e:(92 :: z ++ (u ++ w)).length = z.length + 1 + (u ++ w).length:=by rw [List.length_append,List.length_cons]
  rw [e,List.length_cons]; omega
 ·rw [g2]
  intro d hd
  rcases List.mem_cons.mp hd with rfl | hd
  ·decide
  rcases List.mem_cons.mp hd with rfl | hd
  ·decide
  ·exact h3 d hd
 ·rw [g2]
  exact .cont _ _ _ h4
structure Ad (beh w v:List Nat):Prop where
 cut:Cut w beh
 len:w.length <= 9 * v.length + 4
 al:Al (aM w)
 at_:UrlG (aM w ++ aM beh) v (aM w).length
 nb:v ≠ []->bG (aM w ++ aM beh) = 0
noncomputable def cZ:List (List Nat):=[[],[32],[10,9],[13,10,32]]
theorem Ad.nil {beh B:List Nat} (hB:B ∈ cZ):Ad beh (B ++ [41]) []:=by
 simp only [cZ,List.mem_cons,List.not_mem_nil,or_false] at hB
 rcases hB with rfl | rfl | rfl | rfl
 ·exact ⟨cK (by decide),by decide,by intro d hd; rw [List.mem_singleton.mp hd]; decide,.close _,fun h=>absurd rfl h⟩
 ·exact ⟨cK (by decide),by decide,(show ∀ d ∈ [32,41],cV d = true by decide),.blank 32 (41 :: aM beh) (aM beh) rfl rfl,fun h=>absurd rfl h⟩
 ·exact ⟨cK (by decide),by decide,(show ∀ d ∈ [10,9,41],cV d = true by decide),.blank 10 (9 :: 41 :: aM beh) (aM beh) rfl rfl,fun h=>absurd rfl h⟩
 ·exact ⟨cK (by decide),by decide,(show ∀ d ∈ [10,32,41],cV d = true by decide),.blank 10 (32 :: 41 :: aM beh) (aM beh) rfl rfl,fun h=>absurd rfl h⟩
theorem jD {c:Nat} {r:List Nat} (h:a0 c = false):bG (c :: r) = 0:=by
 rw [bG,List.takeWhile_cons_of_neg (by rw [h]; decide)]; rfl
theorem Ad.step {b:Bool} {c:Nat} {beh u w v:List Nat} (hs:SpW b c (w ++ beh) u) (hb:b = true->c ≠ 41 /\ a0 c = false /\ c ≠ 92 /\ zeU c = false /\ c ≠ 0 /\ c ≠ 13 /\ c ≠ 12) (h:Ad beh w v):Ad beh (u ++ w) (c :: v):=by
 have e:aM (u ++ w) = aM u ++ aM w:=bK (kJ hs.cut)
 have eb:aM (w ++ beh) = aM w ++ aM beh:=bK h.cut
 have hcut:=fZ hs.cut h.cut
 have hlen:(u ++ w).length <= 9 * (c :: v).length + 4:=by
  have:=hs.len
  have:=h.len
  rw [List.length_append,List.length_cons]; omega
 have hal:Al (aM (u ++ w)):=fun d hd=>by
  rw [e] at hd
  exact (List.mem_append.mp hd).elim (hs.al d) (h.al d)
 refine hs.is.elim (a2 fun hb' g=>?_) (x1 fun t=>a3 fun hu h10 he=>?_)
 ·obtain ⟨g1,g2,g3,g4,g0⟩:=hb hb'
  have mu:aM u = [c]:=by
   rcases g with rfl | ⟨rfl,rfl⟩
   ·exact bI g0 []
   ·rfl
  refine ⟨hcut,hlen,hal,?_,fun _=>?_⟩
  ·rw [e,mu,List.append_assoc,List.length_append,Nat.add_comm]
   exact .plain c _ v _ g1 g2 g3 g4 h.at_
  ·rw [e,mu]; exact jD g2
 ·subst hu
  have mu:aM (92 :: t) = 92 :: aM t:=bI (by decide) t
  rw [eb] at h10 he
  refine ⟨hcut,hlen,hal,?_,fun _=>?_⟩
  ·rw [e,mu,List.append_assoc,List.length_append,List.length_cons,Nat.add_comm]
   exact UrlG.esc (aM t ++ (aM w ++ aM beh)) v c (aM t).length _ (uE h10) he (by rw [List.drop_left]; exact h.at_)
  ·rw [e,mu]; exact jD rfl
/-! tokens -/
noncomputable def Beh (y:List Nat):Prop:=∀ c r,aM y = c :: r->c = 59 \/ c = 47 \/ c = 10
theorem Beh.stop {y:List Nat} (h:Beh y):zeX y:=fun c r e=>by rcases h c r e with rfl | rfl | rfl <;> exact ⟨by decide,by decide⟩
theorem Beh.at0 {y:List Nat} (h:Beh y):(aM y)[0]? ≠ some 40 /\ (aM y)[0]? ≠ some 43:=by
 cases e:aM y with
 | nil=>exact ⟨fun q=>(by cases q),fun q=>(by cases q)⟩
 | cons c r=>rcases h c r e with rfl | rfl | rfl <;> exact ⟨fun q=>absurd (Option.some.inj q) (by decide),fun q=>absurd (Option.some.inj q) (by decide)⟩
structure TokT (beh w:List Nat) (t:Tk):Prop where
 cut:Cut w beh
 len:w.length <= 100
 al:Al (aM w)
 nx:Nx (aM w ++ aM beh) t (aM w).length
 ne:1 <= (aM w).length
noncomputable def Nb (w beh:List Nat):Prop:=bG (aM (w ++ beh)) = 0
theorem w3 {c:Nat} {r:List Nat} (h:aR (c :: r) = true):a0 c = false:=by
 cases hb:a0 c with
 | false=>rfl
 | true=>
  have:c = 32 \/ c = 10 \/ c = 9:=by simpa [a0,or_assoc] using hb
  rcases this with rfl | rfl | rfl <;> cases h
theorem lI {n k m:Nat} (h:n <= 9 * k) (hk:k <= 4) (hm:m <= 12):n + m <= 100:=by omega
section
variable {beh w v:List Nat}
theorem Nm.ne (h:Nm beh w v) (hb:zeX beh) (ho:d9 w = true):∃ c r,aM w = c :: r:=by
 cases e:aM w with
 | cons c r=>exact ⟨c,r,rfl⟩
 | nil=>
  have:=h.op
  rw [ho,e] at this
  cases hy:aM beh with
  | nil=>rw [hy] at this; cases this
  | cons c r=>
   rw [hy] at this
   obtain ⟨h1,h2⟩:=hb c r hy
   obtain ⟨h3,h4⟩:=fF h1
   have this:true = (aU c || ((c == 45 && eL r) || (c == 92 && !([92,10].isPrefixOf (c :: r))))):=this
   rw [h3,h4,beq_eq_false_iff_ne.mpr h2] at this; cases this
theorem xY (h:Nm beh w v) (hl:v.length <= 4) (ho:d9 w = true) (hb:Beh beh):TokT beh w (.ident v) /\ Nb w beh:=by
 obtain ⟨c,r,e⟩:=h.ne hb.stop ho
 have hi:aR (c :: (r ++ aM beh)) = true:=by
  have:=h.op
  rw [ho,e] at this; exact this.symm
 have hat:=h.at_
 have hd:(aM w ++ aM beh)[(aM w).length]? = (aM beh)[0]?:=by rw [List.getElem?_append_right (Nat.le_refl _),Nat.sub_self]
 rw [e] at hat hd
 refine ⟨⟨h.cut,lI (m:=0) h.len hl (by decide),h.al,?_,by rw [e]; exact Nat.le_add_left 1 _⟩,by rw [Nb,bK h.cut,e]; exact jD (w3 hi)⟩
 rw [e]
 refine .inr ⟨w3 hi,.inl ⟨hi,v,_,hat,.inl ⟨?_,?_,rfl,rfl⟩⟩⟩
 ·exact fun q=>hb.at0.1 (hd.symm.trans q)
 ·exact fun q=>hb.at0.2 (hd.symm.trans q)
theorem zfp (h:Nm beh w v) (hl:v.length <= 4) (ho:d9 w = true) (hb:Beh beh):TokT beh (64 :: w) (.atk v) /\ Nb (64 :: w) beh:=by
 obtain ⟨c,r,e⟩:=h.ne hb.stop ho
 have hw:w ≠ []:=fun q=>by rw [q] at e; cases e
 have hm:aM (64 :: w) = 64 :: aM w:=bI (by decide) w
 have hi:aR (aM w ++ aM beh) = true:=h.op.symm.trans ho
 have hc:Cut (64 :: w) beh:=jB hw h.cut
 refine ⟨⟨hc,lI (m:=1) h.len hl (by decide),fun d hd=>?_,?_,by rw [hm]; exact Nat.le_add_left 1 _⟩,by rw [Nb,bK hc,hm]; exact jD rfl⟩
 ·rw [hm] at hd
  rcases List.mem_cons.mp hd with rfl | hd
  ·decide
  ·exact h.al d hd
 ·rw [hm]
  exact .inr ⟨rfl,.inr ⟨rfl,.inr ⟨rfl,v,_,rfl,Nat.add_comm _ _,hi,h.at_⟩⟩⟩
theorem zbi (h:Nm beh w v) (hl:v.length <= 4) (hv:v ≠ []) (hb:Beh beh):TokT beh (35 :: w) (.hash v (d9 w)) /\ Nb (35 :: w) beh:=by
 have hm:aM (35 :: w) = 35 :: aM w:=bI (by decide) w
 have hw:w ≠ []:=fun q=>by
  have:=h.at_
  rw [q] at this
  have hz:∀ {n},NameAt (aM beh) v n->v = []:=fun {n} hn=>by
   cases hy:aM beh with
   | nil=>rw [hy] at hn; exact hn.iv_nil.1
   | cons c r=>
    rw [hy] at hn
    obtain ⟨h1,h2⟩:=hb.stop c r hy
    exact (hn.iv_stop h1 (by rw [decide_eq_false h2]; rfl)).1
  exact hv (hz this)
 have hc:Cut (35 :: w) beh:=jB hw h.cut
 have hh:pY (aM w ++ aM beh) = true:=by
  have hat:=h.at_
  cases hy:aM w ++ aM beh with
  | nil=>rw [hy] at hat; exact absurd hat.iv_nil.1 hv
  | cons c r=>
   rw [hy] at hat
   show (bW c || (c == 92 && !([92,10].isPrefixOf (c :: r)))) = true
   cases q:(bW c || (c == 92 && !([92,10].isPrefixOf (c :: r)))) with
   | true=>rfl
   | false=>
    obtain ⟨q1,q2⟩:=Bool.or_eq_false_iff.mp q
    exact absurd (hat.iv_stop q1 q2).1 hv
 refine ⟨⟨hc,lI (m:=1) h.len hl (by decide),fun d hd=>?_,?_,by rw [hm]; exact Nat.le_add_left 1 _⟩,by rw [Nb,bK hc,hm]; exact jD rfl⟩
 ·rw [hm] at hd
  rcases List.mem_cons.mp hd with rfl | hd
  ·decide
  ·exact h.al d hd
 ·rw [hm,h.op]
  exact .inr ⟨rfl,.inr ⟨rfl,.inr ⟨rfl,v,_,rfl,Nat.add_comm _ _,hh,h.at_⟩⟩⟩
theorem zdK {q:Nat} (hq:q = 34 \/ q = 39) (h:Sr q beh w v) (hl:v.length <= 4):TokT beh (q :: w) (.str v) /\ Nb (q :: w) beh:=by
 have hqf:(q ≠ 0 /\ q ≠ 13 /\ q ≠ 12) /\ cV q = true /\ a0 q = false:=by rcases hq with rfl | rfl <;> decide
 have hm:aM (q :: w) = q :: aM w:=bI hqf.1 w
 have hc:Cut (q :: w) beh:=jB h.hd.2 h.cut
 refine ⟨⟨hc,?_,fun d hd=>?_,?_,by rw [hm]; exact Nat.le_add_left 1 _⟩,by rw [Nb,bK hc,hm]; exact jD hqf.2.2⟩
 ·have:=h.len
  rw [List.length_cons]; omega
 ·rw [hm] at hd
  rcases List.mem_cons.mp hd with rfl | hd
  ·exact hqf.2.1
  ·exact h.al d hd
 ·rw [hm]
  have hat:=h.at_
  rcases hq with rfl | rfl
  ·exact .inr ⟨rfl,.inr ⟨rfl,.inr ⟨rfl,v,_,rfl,Nat.add_comm _ _,hat⟩⟩⟩
  ·exact .inr ⟨rfl,.inr ⟨rfl,.inr ⟨rfl,v,_,rfl,Nat.add_comm _ _,hat⟩⟩⟩
end
/-! addresses,calls,numbers with units -/
noncomputable def jU:List (List Nat):=[[117,114,108,40],[85,82,76,40],[117,92,55,50,108,40],[92,53,53,32,114,108,40]]
theorem tY (y:List Nat):NameAt (40 :: y) [] 0:=.stop _ fun c r q=>by cases q; exact ⟨rfl,by decide⟩
theorem zaU:∀ A ∈ jU,(∀ c ∈ A,(c ≠ 0 /\ c ≠ 13 /\ c ≠ 12) /\ cV c = true) /\ A.getLast? ≠ some 13 /\ A.length <= 7 /\ ∃ k,A.length = k + 1 /\ ∀ y,(A ++ y).drop k = 40 :: y /\ aR (A ++ y) = true /\ ∃ v,NameAt (A ++ y) v k /\ v.map cW = zcV:=by
 intro A hA
 simp only [jU,List.mem_cons,List.not_mem_nil,or_false] at hA
 rcases hA with rfl | rfl | rfl | rfl
 ·exact ⟨by decide,by decide,by decide,3,rfl,fun y=>⟨rfl,rfl,[117,114,108],.sign _ _ _ _ rfl (.sign _ _ _ _ rfl (.sign _ _ _ _ rfl (tY y))),rfl⟩⟩
 ·exact ⟨by decide,by decide,by decide,3,rfl,fun y=>⟨rfl,rfl,[85,82,76],.sign _ _ _ _ rfl (.sign _ _ _ _ rfl (.sign _ _ _ _ rfl (tY y))),rfl⟩⟩
 ·exact ⟨by decide,by decide,by decide,5,rfl,fun y=>⟨rfl,rfl,[117,114,108],.sign _ _ _ _ rfl (.esc _ [108] 114 2 1 rfl (EscAt.hex (x:=55 :: 50 :: 108 :: 40 :: y) 114 (Nat.zero_lt_succ 1) rfl) (.sign _ _ _ _ rfl (tY y))),rfl⟩⟩
 ·exact ⟨by decide,by decide,by decide,6,rfl,fun y=>⟨rfl,rfl,[85,114,108],.esc _ [114,108] 85 3 2 rfl (EscAt.hex (x:=53 :: 53 :: 32 :: 114 :: 108 :: 40 :: y) 85 (Nat.zero_lt_succ 1) rfl) (.sign _ _ _ _ rfl (.sign _ _ _ _ rfl (tY y))),rfl⟩⟩
theorem zge:∀ B ∈ cZ,(∀ y,bG y = 0->bG (aM B ++ y) = (aM B).length) /\ B.getLast? ≠ some 13 /\ B.length <= 3 /\ Al (aM B):=by
 intro B hB
 simp only [cZ,List.mem_cons,List.not_mem_nil,or_false] at hB
 rcases hB with rfl | rfl | rfl | rfl
 ·exact ⟨fun y h=>h,by decide,by decide,fun d hd=>by cases hd⟩
 ·exact ⟨fun y h=>congrArg (· + 1) h,by decide,by decide,(show ∀ d ∈ [32],cV d = true by decide)⟩
 ·exact ⟨fun y h=>congrArg (· + 2) h,by decide,by decide,(show ∀ d ∈ [10,9],cV d = true by decide)⟩
 ·exact ⟨fun y h=>congrArg (· + 2) h,by decide,by decide,(show ∀ d ∈ [10,32],cV d = true by decide)⟩
theorem zdJ {beh A B w v:List Nat} (hA:A ∈ jU) (hB:B ∈ cZ) (h:Ad beh w v) (hl:v.length <= 4) (hv:v ≠ []):TokT beh (A ++ (B ++ w)) (.url v) /\ Nb (A ++ (B ++ w)) beh:=by
 obtain ⟨a1,a2,a3,k,a4,a5⟩:=zaU A hA
 obtain ⟨b1,b2,b3,b4⟩:=zge B hB
 have hm:aM (A ++ (B ++ w)) = A ++ (aM B ++ aM w):=by
  rw [bK (cK a2),bK (cK b2),i0 fun c hc=>(a1 c hc).1]
 have hc:Cut (A ++ (B ++ w)) beh:=fZ (cK a2) (fZ (cK b2) h.cut)
 have hx:aM (A ++ (B ++ w)) ++ aM beh = A ++ (aM B ++ (aM w ++ aM beh)):=by rw [hm]; simp only [List.append_assoc]
 have hbl:=b1 _ (h.nb hv)
 obtain ⟨g1,g2,u,g3,g4⟩:=a5 (aM B ++ (aM w ++ aM beh))
 obtain ⟨c,A',rfl⟩:∃ c A',A = c :: A':=by cases A with | nil=>cases a4 | cons c A'=>exact ⟨c,A',rfl⟩
 refine ⟨⟨hc,?_,fun d hd=>?_,?_,by rw [hm]; exact Nat.le_add_left 1 _⟩,?_⟩
 ·have:=h.len
  rw [List.length_append,List.length_append]; omega
 ·rw [hm] at hd
  refine (List.mem_append.mp hd).elim (fun q=>(a1 d q).2) fun hd=>(List.mem_append.mp hd).elim (b4 d) (h.al d)
 ·rw [hx]
  have e:(aM (c :: A' ++ (B ++ w))).length = k + 1 + bG (aM B ++ (aM w ++ aM beh)) + (aM w).length:=by
   rw [hm,hbl,List.length_append,List.length_append,a4]; exact (Nat.add_assoc ..).symm
  rw [e]
  exact .inr ⟨w3 g2,.inl ⟨g2,u,k,g3,.inr (.inr ⟨_,v,_,g1,g4,rfl,by rw [hbl,List.drop_left]; exact h.at_,rfl⟩)⟩⟩
 ·rw [Nb,bK hc,hx]
  exact jD (w3 g2)
theorem zaj (beh:List Nat):zeX ([40,41] ++ beh):=fun c r e=>by
 have e:40 :: aM (41 :: beh) = c :: r:=(bI (by decide) _).symm.trans e
 cases e; exact ⟨rfl,by decide⟩
theorem zd8 {v:List Nat} (h:∀ c ∈ v,c ∈ signsL):v.map cW ≠ zcV:=fun e=>by
 have:(114:Nat) ∈ v.map cW:=by rw [e]; decide
 obtain ⟨c,hc,q⟩:=List.mem_map.mp this
 exact (show ∀ c ∈ signsL,cW c ≠ 114 by decide +kernel) c (h c hc) q
theorem zfo {beh w v:List Nat} (h:Nm ([40,41] ++ beh) w v) (hl:v.length <= 4) (ho:d9 w = true) (hv:∀ c ∈ v,c ∈ signsL):TokT beh (w ++ [40,41]) (.fn v) /\ Nb (w ++ [40,41]) beh:=by
 obtain ⟨c,r,e⟩:=h.ne (zaj beh) ho
 have hm0:aM ([40,41] ++ beh) = 40 :: 41 :: aM beh:=by
  show aM (40 :: 41 :: beh) = _
  rw [bI (by decide),bI (by decide)]
 have hc1:Cut w [40,41]:=kJ h.cut
 have hm:aM (w ++ [40,41]) = aM w ++ [40,41]:=by rw [bK hc1]; rfl
 have hc:Cut (w ++ [40,41]) beh:=fZ (by exact h.cut) (cK (by decide))
 have hx:aM (w ++ [40,41]) ++ aM beh = aM w ++ (40 :: 41 :: aM beh):=by rw [hm,List.append_assoc]; rfl
 have hat:=h.at_
 have hop:=h.op
 rw [hm0] at hat hop
 rw [ho,e] at hop
 rw [e] at hat hx
 have hn:(aM (w ++ [40,41])).length = (c :: r).length + 2:=by rw [hm,e,List.length_append]; rfl
 refine ⟨⟨hc,?_,fun d hd=>?_,?_,by rw [hn]; exact Nat.le_add_left 1 _⟩,?_⟩
 ·rw [List.length_append]
  exact lI (m:=2) h.len hl (by decide)
 ·rw [hm] at hd
  exact (List.mem_append.mp hd).elim (h.al d) ((show ∀ d ∈ [40,41],cV d = true by decide) d)
 ·rw [hx,hn]
  exact .inr ⟨w3 hop.symm,.inl ⟨hop.symm,v,_,hat,.inr (.inl ⟨aM beh,by
   show ((c :: r) ++ _).drop (c :: r).length = _
   rw [List.drop_left],rfl,rfl,zd8 hv⟩)⟩⟩
 ·rw [Nb,bK hc,hx]
  exact jD (w3 hop.symm)
noncomputable def numsL:List (List Nat × Option Int):=[([49,50],some 12),([45,46,53],none),([43,51,101,55],none)]
theorem rH {d:Nat} {r:List Nat} (h:aR (d :: r) = true):lL d = false /\ d ≠ 46:=by
 have:aU d = true \/ d = 45 \/ d = 92:=by
  have h:(aU d || ((d == 45 && eL r) || (d == 92 && !([92,10].isPrefixOf (d :: r))))) = true:=h
  rcases Bool.or_eq_true_iff.mp h with h | h
  ·exact .inl h
  ·rcases Bool.or_eq_true_iff.mp h with h | h
   ·exact .inr (.inl (eq_of_beq (Bool.and_eq_true_iff.mp h).1))
   ·exact .inr (.inr (eq_of_beq (Bool.and_eq_true_iff.mp h).1))
 rcases this with h | rfl | rfl
 ·simp only [aU,lL,Bool.or_eq_true,Bool.and_eq_true,decide_eq_true_eq,beq_iff_eq,Bool.and_eq_false_iff,decide_eq_false_iff_not] at h ⊢
  omega
 ·exact ⟨rfl,by decide⟩
 ·exact ⟨rfl,by decide⟩
theorem zfC {d:Nat} {r:List Nat} (h1:lL d = false) (h2:d ≠ 46) (h3:d ≠ 101 /\ d ≠ 69):∀ e ∈ numsL,∃ b,j3 (e.1 ++ d :: r) = some (e.1.length,b) /\ (b = true->∃ i,e.2 = some i /\ zb9 e.1 fun z=>z = .int i) /\ (b = false->e.2 = none):=by
 intro e he
 have n1:(d :: r).takeWhile lL = []:=List.takeWhile_cons_of_neg (by rw [h1]; decide)
 have p1:some d ≠ some 46:=fun q=>h2 (Option.some.inj q)
 have p2:some d ≠ some 101:=fun q=>h3.1 (Option.some.inj q)
 have p3:some d ≠ some 69:=fun q=>h3.2 (Option.some.inj q)
 have p4:d ≠ 101:=h3.1
 have p5:d ≠ 69:=h3.2
 simp only [numsL,List.mem_cons,List.not_mem_nil,or_false] at he
 rcases he with rfl | rfl | rfl
 ·refine ⟨true,?_,fun _=>⟨12,rfl,⟨by decide,.inr (.inr ⟨12,rfl,rfl⟩)⟩⟩,fun q=>by cases q⟩
  have s1:eI ([49,50] ++ d :: r) = 0:=rfl
  have s2:jA ([49,50] ++ d :: r) = 2:=congrArg (· + 2) (congrArg List.length n1)
  rw [j3,s1,List.drop_zero,s2]
  simp [zfE,w5,zck,h2,p4,p5]
 ·refine ⟨false,?_,fun q=>(by cases q),fun _=>rfl⟩
  have s1:eI ([45,46,53] ++ d :: r) = 1:=rfl
  have s2:jA (([45,46,53] ++ d :: r).drop 1) = 0:=rfl
  have s3:jA ([53] ++ d :: r) = 1:=congrArg (· + 1) (congrArg List.length n1)
  rw [j3,s1,s2]
  simp [zfE,w5,zck,h2,p4,p5,eT,lL,jA,n1,h1]
 ·refine ⟨false,?_,fun q=>(by cases q),fun _=>rfl⟩
  have s1:eI ([43,51,101,55] ++ d :: r) = 1:=rfl
  have s2:jA (([43,51,101,55] ++ d :: r).drop 1) = 1:=rfl
  rw [j3,s1,s2]
  simp [zfE,w5,zck,h2,p4,p5,eT,lL,jA,eI,n1,h1]
theorem zdL {beh w v:List Nat} {e:List Nat × Option Int} (he:e ∈ numsL) (h:Nm beh w v) (hl:v.length <= 4) (ho:d9 w = true) (hu:∀ d r,aM w = d :: r->d ≠ 101 /\ d ≠ 69) (hb:Beh beh):TokT beh (e.1 ++ w) (.dim e.2 e.1 v) /\ Nb (e.1 ++ w) beh:=by
 obtain ⟨d,r,ew⟩:=h.ne hb.stop ho
 have hw:w ≠ []:=fun q=>by rw [q] at ew; cases ew
 have hi:aR (d :: (r ++ aM beh)) = true:=by
  have:=h.op
  rw [ho,ew] at this; exact this.symm
 obtain ⟨f1,f2⟩:=rH hi
 obtain ⟨b,n1,n2,n3⟩:=zfC (r:=r ++ aM beh) f1 f2 (hu d r ew) e he
 have hat:=h.at_
 rw [ew] at hat
 have n1:j3 (e.1 ++ (d :: r ++ aM beh)) = some (e.1.length,b):=n1
 have hi:aR (d :: r ++ aM beh) = true:=hi
 have ef:(∀ c ∈ e.1,(c ≠ 0 /\ c ≠ 13 /\ c ≠ 12) /\ cV c = true) /\ e.1.getLast? ≠ some 13 /\ e.1.length <= 4 /\ ∃ a z,e.1 = a :: z /\ a0 a = false /\ ∀ y,aR (a :: (z ++ y)) = false:=by
  simp only [numsL,List.mem_cons,List.not_mem_nil,or_false] at he
  rcases he with rfl | rfl | rfl <;> exact ⟨by decide,by decide,by decide,_,_,rfl,rfl,fun y=>rfl⟩
 obtain ⟨g1,g2,g3,a,z,g4,g5,g6⟩:=ef
 have hm:aM (e.1 ++ w) = e.1 ++ aM w:=by rw [bK (cK g2),i0 fun c hc=>(g1 c hc).1]
 have hc:Cut (e.1 ++ w) beh:=fZ (cK g2) h.cut
 have hx:aM (e.1 ++ w) ++ aM beh = e.1 ++ (d :: r ++ aM beh):=by rw [hm,ew,List.append_assoc]
 have hk:DimK (e.1 ++ (d :: r ++ aM beh)) (.dim e.2 e.1 v) (aM (e.1 ++ w)).length e.1.length b:=by
  refine ⟨v,(d :: r).length,e.2,?_,?_,?_,n3,?_,?_⟩
  ·rw [List.take_left]
  ·rw [hm,ew,List.length_append]
  ·rw [List.take_left]; exact n2
  ·rw [List.drop_left]; exact hi
  ·rw [List.drop_left]; exact hat
 refine ⟨⟨hc,?_,fun c hc=>?_,?_,by rw [hm,ew,List.length_append]; exact Nat.le_trans (Nat.le_add_left 1 _) (Nat.le_add_left _ _)⟩,?_⟩
 ·rw [List.length_append,Nat.add_comm]
  exact lI h.len hl (Nat.le_trans g3 (by decide))
 ·rw [hm] at hc
  exact (List.mem_append.mp hc).elim (fun q=>(g1 c q).2) (h.al c)
 ·rw [hx]
  rw [g4] at n1 hk ⊢
  exact .inr ⟨g5,.inr ⟨g6 _,.inl ⟨_,b,n1,hk⟩⟩⟩
 ·rw [Nb,bK hc,hx,g4]
  exact jD g5
/-! what stands between tokens -/
noncomputable def zdZ:List (List Nat × Tk):=[([59],.lit),([47,42,42,47],.com),([10],.ws),([13,10],.ws)]
theorem zfx {beh:List Nat} (h:bG (aM beh) = 0):∀ e ∈ zdZ,TokT beh e.1 e.2 /\ Beh (e.1 ++ beh):=by
 intro e he
 simp only [zdZ,List.mem_cons,List.not_mem_nil,or_false] at he
 have bh:∀ {w:List Nat},Cut w beh->(∃ c r,aM w = c :: r /\ (c = 59 \/ c = 47 \/ c = 10))->Beh (w ++ beh):=fun hc=>x2 fun c r=>a2 fun e1 e2 d s e3=>by
  rw [bK hc,e1] at e3
  obtain ⟨e3,_⟩:=List.cons.inj e3
  subst e3; exact e2
 rcases he with rfl | rfl | rfl | rfl
 ·exact ⟨⟨cK (by decide),by decide,(show ∀ d ∈ [59],cV d = true by decide),.inr ⟨rfl,.inr ⟨rfl,.inr ⟨rfl,rfl,rfl,rfl⟩⟩⟩,by decide⟩,bh (cK (by decide)) ⟨_,_,rfl,.inl rfl⟩⟩
 ·exact ⟨⟨cK (by decide),by decide,(show ∀ d ∈ [47,42,42,47],cV d = true by decide),.inr ⟨rfl,.inr ⟨rfl,.inr ⟨rfl,aM beh,rfl,rfl,rfl⟩⟩⟩,by decide⟩,bh (cK (by decide)) ⟨_,_,rfl,.inr (.inl rfl)⟩⟩
 ·exact ⟨⟨cK (by decide),by decide,(show ∀ d ∈ [10],cV d = true by decide),.inl ⟨rfl,h,rfl,rfl⟩,by decide⟩,bh (cK (by decide)) ⟨_,_,rfl,.inr (.inr rfl)⟩⟩
 ·exact ⟨⟨cK (by decide),by decide,(show ∀ d ∈ [10],cV d = true by decide),.inl ⟨rfl,h,rfl,rfl⟩,by decide⟩,bh (cK (by decide)) ⟨_,_,rfl,.inr (.inr rfl)⟩⟩
/-! a text and its pieces -/
noncomputable def fB:Nat × Nat->List (List Nat × Tk)->List ((Nat × Nat) × Tk)
 | _,[]=>[]
 | lc,p :: ps=>(lc,p.2) :: fB (adv lc (aM p.1)) ps
structure Txt (x:List Nat) (ps:List (List Nat × Tk)):Prop where
 rd:∀ lc,Rd lc (aM x) (fB lc ps)
 al:Al (aM x)
 len:x.length <= 100 * ps.length
theorem Txt.nil:Txt [] []:=⟨fun lc=>.nil lc,fun d hd=>(by cases hd),Nat.le_refl _⟩
theorem Txt.cons {x w:List Nat} {t:Tk} {ps:List (List Nat × Tk)} (h:TokT x w t) (hx:Txt x ps):Txt (w ++ x) ((w,t) :: ps):=by
 have e:aM (w ++ x) = aM w ++ aM x:=bK h.cut
 refine ⟨fun lc=>?_,fun d hd=>?_,?_⟩
 ·rw [e]
  refine .cons _ _ _ _ _ h.nx h.ne (by rw [List.length_append]; exact Nat.le_add_right _ _) ?_
  rw [List.take_left,List.drop_left]
  exact hx.rd _
 ·rw [e] at hd
  exact (List.mem_append.mp hd).elim (h.al d) (hx.al d)
 ·have:=h.len
  have:=hx.len
  rw [List.length_append,List.length_cons]; omega
/-! what is told of a token -/
noncomputable def b9 (t:Tk):PV:=
 Tk.casesOn (motive:=fun _=>PV) t (.tup [.str (lcS "whitespace"),.str [10],.str []]) (.tup [.str (lcS "literal"),.str [59],.str []]) (.tup [.str (lcS "comment"),.str [],.str []])
  (fun v=>.tup [.str (lcS "ident"),.str v,.str (v.map cW)]) (fun v=>.tup [.str (lcS "at-keyword"),.str v,.str (v.map cW)]) (fun v b=>.tup [.str (lcS "hash"),.str v,.str (if b = true then lcS "yes" else lcS "no")])
  (fun v=>.tup [.str (lcS "string"),.str v,.str []]) (fun v=>.tup [.str (lcS "url"),.str v,.str []])
  (fun iv r u=>.tup [.str (lcS "dimension"),.tup [.str r,v2 iv,.str u],.str (u.map cW)]) (fun v=>.tup [.str (lcS "function"),.tup [.str v,.int 0],.str (v.map cW)])
noncomputable def dO (e:(Nat × Nat) × Tk):PV:=.tup [b9 e.2,qZ e.1]
theorem jJ (t:Tk):zch (b9 t) = true /\ plain (b9 t) = true /\ dep (b9 t) <= 2:=by
 cases t with
 | dim iv r u=>cases iv <;> exact ⟨rfl,rfl,Nat.le_of_ble_eq_true rfl⟩
 | _=>exact ⟨rfl,rfl,Nat.le_of_ble_eq_true rfl⟩
noncomputable def cN0:Ctx:=mkC [] [] false [] []
theorem aS:CtxMono cN0:=bP (by simp) (by simp)
theorem iH (hmb:HMb mb):CtxOk prog w (bs w.params h mb) cN0 0:=
 dX hmb (by simp) (by simp) (by simp) (by simp) (by simp) (by simp)
section
variable {C:Ctx} {κ:Kn}
noncomputable def zdr (e:Expr):Option PV:=exc none lX (fun _=>none) (fun _=>none) (fun _ _ _=>none) (fun _ _=>none) (fun _ _=>none) e
theorem zat {e:Expr} {st:St} {v:PV} (h:zdr e = some v):ev C κ e st v:=by
 cases e <;> first | exact aC h | cases h
theorem bU {st:St} (M:CtxMono C):∀ {es:List Expr} {vs:List PV},es.map zdr = vs.map some->evs C κ es st vs
 | [],[],_=>aD
 | e :: es,v :: vs,h=>by
  obtain ⟨h1,h2⟩:=List.cons.inj h
  exact aB M (zat h1) (bU M h2)
theorem jQ {e:Expr} {p p':Pos} {k:Nat} {st:St} {n:Int} (m:Nat) (hm:0 < m) (M:CtxMono C) (h:ev C κ e st (.int n)):ev C κ (.BinOp e .Mod (.Constant (.int (m:Int)) k p) p') st (.int (nm n m)):=
 zfI n hm ▸ zar M h (aC rfl) (Int.ofNat_lt.mpr hm)
theorem j9 {l r:Expr} {p:Pos} {st:St} {a b:Nat} (M:CtxMono C) (h1:ev C κ l st (.int a)) (h2:ev C κ r st (.int b)):ev C κ (.Compare l [.Eq] [r] p) st (.bool (decide (a = b))):=bL M h1 h2 (decide_eq_decide.mpr Int.ofNat_inj)
theorem zdh {l r:Expr} {p:Pos} {st:St} {a b:Nat} (M:CtxMono C) (h1:ev C κ l st (.int a)) (h2:ev C κ r st (.int b)):ev C κ (.Compare l [.Gt] [r] p) st (.bool (decide (b < a))):=bL M h1 h2 (decide_eq_decide.mpr Int.ofNat_lt)
theorem iE {l r:Expr} {p:Pos} {st:St} {i j:Int} (M:CtxMono C) (h:ev C κ l st (.int i)) (h':ev C κ r st (.int j)) (hj:0 < j) (hj':j < 4294967296):ev C κ (.BinOp l .FloorDiv r p) st (.int (i / j)):=
 aX (e:=l) M h (aX (e:=r) M h' ⟨hj,hj',rfl,rfl⟩)
theorem zad {α:Type} (l:List α) (i:Nat):uK l (i:Int) = l[i]?:=by unfold uK; rw [if_neg (Int.not_lt.mpr (Int.natCast_nonneg i)),Int.toNat_natCast]
theorem fH {o i:Expr} {p:Pos} {st:St} {xs:List PV} {n:Nat} {v:PV} (M:CtxMono C) (hs:wY i = false) (h:ev C κ o st (.list xs)) (h':ev C κ i st (.int n)) (hv:xs[n]? = some v):ev C κ (.Subscript o i p) st v:=
 zdg M hs h h' (by show opt (uK xs (n:Int)) _; rw [zad,hv]; rfl)
theorem t4 {α:Type} (xs:List α) (k:Nat):slc xs none (some (k:Int)) = xs.take k:=by
 show xs.take ((if (k:Int) < 0 then ((k:Int) + xs.length).toNat else min k xs.length) - 0) = _
 rw [if_neg (Int.not_lt.mpr (Int.natCast_nonneg k)),Nat.sub_zero,<- List.take_eq_take_min]
noncomputable def nH (S:List (List Nat)):PV:=.list (S.map .str)
theorem eV:∀ S:List (List Nat),qD (S.map .str) = true
 | []=>rfl
 | _ :: S=>eV S
theorem jP {o i:Expr} {p:Pos} {st:St} {X:List (List Nat)} {n:Nat} {x:List Nat} (M:CtxMono C) (hs:wY i = false) (h:ev C κ o st (nH X)) (h':ev C κ i st (.int n)) (hv:X[n]? = some x):ev C κ (.Subscript o i p) st (.str x):=
 fH M hs h h' (by rw [List.getElem?_map,hv]; rfl)
end
noncomputable def fT (v:PV):Fn:=fun ps K=>ps = [] /\ K v
theorem eF (v:PV):bD (fT v):=fun ps K K' h ⟨h1,h2⟩=>⟨h1,h _ h2⟩
theorem j8 {C:Ctx} {κ:Kn} {x:Str} {p q:Pos} {st:St} {v:PV} (M:CtxMono C) (k:κ x = some .globalImplicit) (hf:C.fn x = some (fT v)):ev C κ (.Call (.Name x q) [] [] p) st v:=bX (F:=fT v) M k hf aD ⟨rfl,.inl rfl,rfl⟩
noncomputable def oC:List (List Nat):=[[10],[13,10],[12],[13]]
noncomputable def zd5:PV:=.list (numsL.map fun e=>.tup [.str e.1,v2 e.2])
noncomputable def zdY:PV:=.list [.tup [.str [59],.str (lcS "literal"),.str [59]],.tup [.str [47,42,42,47],.str (lcS "comment"),.str []],.tup [.str [10],.str (lcS "whitespace"),.str [10]],.tup [.str [13,10],.str (lcS "whitespace"),.str [10]]]
section
theorem r7 (hB:BsOk (bs w.params h mb)) (hmb:HMb mb):Meets prog w (bs w.params h mb) 1 (.ref 684) (fT (nH (signsL.map fun c=>[c]))):=by
 refine aY (k:=0) (params:=[]) (dv:=[]) (dp:=[]) hB (iH hmb) (by kernel_rfl) (by kernel_rfl) (by kernel_rfl) rfl (fun _=>.nil) (fun S vals hl=>?_) fun ps K=>a2 fun h1 h2=>?_
 ·cases List.length_eq_zero_iff.mp hl; kernel_rfl
 ·subst h1
  refine ⟨rfl,?_⟩
  apply nfe
  case h=>
   show ?nl1 = ?nr1
   refine (?f:∀ _:(?nl1 = ?nr1),(?nl1 = ?nr1)) ?d
   case d=>conv=>lhs; whnf; dsimp only [cH,erS,erE,bR,erO]
   case f=>exact fun _=>by kernel_rfl!
  exact aA (aP aS (nH (signsL.map fun c=>[c])) (e6 aS rfl (bU aS (by kernel_rfl))) ⟨_,aW _ _ (eV (signsL.map fun c=>[c])),h2⟩)
theorem rZ (hB:BsOk (bs w.params h mb)) (hmb:HMb mb):Meets prog w (bs w.params h mb) 1 (.ref 691) (fT (nH eX)):=by
 refine aY (k:=0) (params:=[]) (dv:=[]) (dp:=[]) hB (iH hmb) (by kernel_rfl) (by kernel_rfl) (by kernel_rfl) rfl (fun _=>.nil) (fun S vals hl=>?_) fun ps K=>a2 fun h1 h2=>?_
 ·cases List.length_eq_zero_iff.mp hl; kernel_rfl
 ·subst h1
  refine ⟨rfl,?_⟩
  apply nfe
  case h=>
   show ?nl2 = ?nr2
   refine (?f:∀ _:(?nl2 = ?nr2),(?nl2 = ?nr2)) ?d
   case d=>conv=>lhs; whnf; dsimp only [cH,erS,erE,bR,erO]
   case f=>exact fun _=>by kernel_rfl!
  exact aA (aP aS (nH eX) (e6 aS rfl (bU aS (by kernel_rfl))) ⟨_,aW _ _ (eV eX),h2⟩)
theorem wR (hB:BsOk (bs w.params h mb)) (hmb:HMb mb):Meets prog w (bs w.params h mb) 1 (.ref 698) (fT (nH oC)):=by
 refine aY (k:=0) (params:=[]) (dv:=[]) (dp:=[]) hB (iH hmb) (by kernel_rfl) (by kernel_rfl) (by kernel_rfl) rfl (fun _=>.nil) (fun S vals hl=>?_) fun ps K=>a2 fun h1 h2=>?_
 ·cases List.length_eq_zero_iff.mp hl; kernel_rfl
 ·subst h1
  refine ⟨rfl,?_⟩
  apply nfe
  case h=>
   show ?nl3 = ?nr3
   refine (?f:∀ _:(?nl3 = ?nr3),(?nl3 = ?nr3)) ?d
   case d=>conv=>lhs; whnf; dsimp only [cH,erS,erE,bR,erO]
   case f=>exact fun _=>by kernel_rfl!
  exact aA (aP aS (nH oC) (e6 aS rfl (bU aS (by kernel_rfl))) ⟨_,aW _ _ (eV oC),h2⟩)
theorem pR (hB:BsOk (bs w.params h mb)) (hmb:HMb mb):Meets prog w (bs w.params h mb) 1 (.ref 705) (fT (nH cZ)):=by
 refine aY (k:=0) (params:=[]) (dv:=[]) (dp:=[]) hB (iH hmb) (by kernel_rfl) (by kernel_rfl) (by kernel_rfl) rfl (fun _=>.nil) (fun S vals hl=>?_) fun ps K=>a2 fun h1 h2=>?_
 ·cases List.length_eq_zero_iff.mp hl; kernel_rfl
 ·subst h1
  refine ⟨rfl,?_⟩
  apply nfe
  case h=>
   show ?nl4 = ?nr4
   refine (?f:∀ _:(?nl4 = ?nr4),(?nl4 = ?nr4)) ?d
   case d=>conv=>lhs; whnf; dsimp only [cH,erS,erE,bR,erO]
   case f=>exact fun _=>by kernel_rfl!
  exact aA (aP aS (nH cZ) (e6 aS rfl (bU aS (by kernel_rfl))) ⟨_,aW _ _ (eV cZ),h2⟩)
theorem sD (hB:BsOk (bs w.params h mb)) (hmb:HMb mb):Meets prog w (bs w.params h mb) 1 (.ref 712) (fT (nH jU)):=by
 refine aY (k:=0) (params:=[]) (dv:=[]) (dp:=[]) hB (iH hmb) (by kernel_rfl) (by kernel_rfl) (by kernel_rfl) rfl (fun _=>.nil) (fun S vals hl=>?_) fun ps K=>a2 fun h1 h2=>?_
 ·cases List.length_eq_zero_iff.mp hl; kernel_rfl
 ·subst h1
  refine ⟨rfl,?_⟩
  apply nfe
  case h=>
   show ?nl5 = ?nr5
   refine (?f:∀ _:(?nl5 = ?nr5),(?nl5 = ?nr5)) ?d
   case d=>conv=>lhs; whnf; dsimp only [cH,erS,erE,bR,erO]
   case f=>exact fun _=>by kernel_rfl!
  exact aA (aP aS (nH jU) (e6 aS rfl (bU aS (by kernel_rfl))) ⟨_,aW _ _ (eV jU),h2⟩)
theorem wN (hB:BsOk (bs w.params h mb)) (hmb:HMb mb):Meets prog w (bs w.params h mb) 1 (.ref 719) (fT zd5):=by
 refine aY (k:=0) (params:=[]) (dv:=[]) (dp:=[]) hB (iH hmb) (by kernel_rfl) (by kernel_rfl) (by kernel_rfl) rfl (fun _=>.nil) (fun S vals hl=>?_) fun ps K=>a2 fun h1 h2=>?_
 ·cases List.length_eq_zero_iff.mp hl; kernel_rfl
 ·subst h1
  refine ⟨rfl,?_⟩
  apply nfe
  case h=>
   show ?nl6 = ?nr6
   refine (?f:∀ _:(?nl6 = ?nr6),(?nl6 = ?nr6)) ?d
   case d=>conv=>lhs; whnf; dsimp only [cH,erS,erE,bR,erO]
   case f=>exact fun _=>by kernel_rfl!
  exact aA (aP aS zd5 (e6 aS rfl (aB aS (aT aS (bU aS (by kernel_rfl))) (aB aS (aT aS (bU aS (by kernel_rfl))) (aB aS (aT aS (bU aS (by kernel_rfl))) aD)))) ⟨_,aW _ _ (rfl),h2⟩)
theorem wM (hB:BsOk (bs w.params h mb)) (hmb:HMb mb):Meets prog w (bs w.params h mb) 1 (.ref 726) (fT zdY):=by
 refine aY (k:=0) (params:=[]) (dv:=[]) (dp:=[]) hB (iH hmb) (by kernel_rfl) (by kernel_rfl) (by kernel_rfl) rfl (fun _=>.nil) (fun S vals hl=>?_) fun ps K=>a2 fun h1 h2=>?_
 ·cases List.length_eq_zero_iff.mp hl; kernel_rfl
 ·subst h1
  refine ⟨rfl,?_⟩
  apply nfe
  case h=>
   show ?nl7 = ?nr7
   refine (?f:∀ _:(?nl7 = ?nr7),(?nl7 = ?nr7)) ?d
   case d=>conv=>lhs; whnf; dsimp only [cH,erS,erE,bR,erO]
   case f=>exact fun _=>by kernel_rfl!
  exact aA (aP aS zdY (e6 aS rfl (aB aS (aT aS (bU aS (by kernel_rfl))) (aB aS (aT aS (bU aS (by kernel_rfl))) (aB aS (aT aS (bU aS (by kernel_rfl))) (aB aS (aT aS (bU aS (by kernel_rfl))) aD))))) ⟨_,aW _ _ (rfl),h2⟩)
end
section
variable {C:Ctx} {κ:Kn}
theorem n7 {o u:Expr} {p q:Pos} {st:St} {x:List Nat} {k:Nat} (M:CtxMono C) (h:ev C κ o st (.str x)) (hu:ev C κ u st (.int k)) (hk:k < 2000000):ev C κ (.Subscript o (.Slice none (some u) none q) p) st (.str (x.take k)):=by
 rw [<- t4]
 exact aX (e:=o) M h ⟨rfl,aX (e:=u) M hu ⟨zfK k,xH hk,rfl,rfl⟩⟩
theorem qF {l r:Expr} {p:Pos} {st:St} {c:Nat} {y:List Nat} (M:CtxMono C) (h1:ev C κ l st (.str [c])) (h2:ev C κ r st (.str y)):ev C κ (.Compare l [.In] [r] p) st (.bool (decide (c ∈ y))):=bL M h1 h2 (gZ _ _)
theorem i9 {l r:Expr} {p:Pos} {st:St} {x y:List Nat} (M:CtxMono C) (h1:ev C κ l st (.str x)) (h2:ev C κ r st (.str y)):ev C κ (.Compare l [.Eq] [r] p) st (.bool (decide (x = y))):=bL M h1 h2 rfl
end
theorem mX (c:Nat):(decide (c ∈ lettersL) || decide (127 < c)) = aU c:=by
 by_cases h:127 < c
 ·rw [decide_eq_true h,Bool.or_true]
  unfold aU
  rw [decide_eq_true h,Bool.or_true]
 ·rw [decide_eq_false h,Bool.or_false]
  have:∀ c < 128,decide (c ∈ lettersL) = aU c:=by decide +kernel
  exact this c (Nat.lt_succ_of_le (Nat.le_of_not_lt h))
noncomputable def cHd:Ctx:=mkC [] [] false [("_law_LETTERS",.str lettersL)] []
theorem zcB:CtxMono cHd:=bP (by simp) (by simp)
theorem lG {w:World} {h:Heap} {mb:Str->Option Value} (hB:BsOk (bs w.params h mb)):∃ u,mgK w.params (Str.ofString "_law_LETTERS") = some u /\ VRel w.params (fun a=>h.get? a) u (.str lettersL):=by
 exact ⟨.str ⟨lettersL.toArray⟩ 1250,by kernel_rfl,1250,rfl,fun c hc=>Nat.lt_trans (of_decide_eq_true (List.all_eq_true.mp (show (lettersL.all fun c=>decide (c < 200)) = true by decide +kernel) c hc)) (by decide),Nat.le_of_ble_eq_true rfl⟩
theorem zab (p:Params) (s:List Nat) (K:PV->Prop) (hs:s.length <= 1) (hK:K (.bool (mG s))):wSs cHd (eA (aL (HK p) 733)) (bC (HK p) 733) (jY K) ⟨bA [("sign",.str s)] (fun _=>none),fun _=>none⟩:=by
 have M:=zcB
 apply nfe
 case h=>
  show ?nl1 = ?nr1
  refine (?f:∀ _:(?nl1 = ?nr1),(?nl1 = ?nr1)) ?d
  case d=>conv=>lhs; whnf; dsimp only [cH,erS,erE,bR,erO]
  case f=>exact fun _=>by kernel_rfl!
 cases s with
 | nil=>exact aA (aP M (.bool (decide (([]:List Nat) = [0]) || (decide (([]:List Nat) = [92]) || (!decide (([]:List Nat) = []) && false)))) (i8 M (i9 (y:=[0]) M aG (aC rfl)) fun _=>i8 M (i9 (y:=[92]) M aG (aC rfl)) fun _=>eB (gC M (uP (q:= "") M aG) fun h=>by cases h)) ⟨_,eG _ _,hK⟩)
 | cons c r=>
  cases r with
  | cons d t=>exact absurd hs (by show ¬ (t.length + 1 + 1 <= 1); omega)
  | nil=>
   have e:(decide ([c] = [0]) || (decide ([c] = [92]) || (!decide ([c] = []) && (decide (c ∈ lettersL) || decide (127 < c))))) = mG [c]:=by
    rw [mX]
    show _ = (c == 0 || c == 92 || aU c)
    rw [show decide ([c] = [0]) = (c == 0) from decide_eq_decide.mpr ⟨fun h=>(List.cons.inj h).1,fun h=>congrArg (fun n=>[n]) h⟩,show decide ([c] = [92]) = (c == 92) from decide_eq_decide.mpr ⟨fun h=>(List.cons.inj h).1,fun h=>congrArg (fun n=>[n]) h⟩,Bool.or_assoc]; rfl
   rw [<- e] at hK
   exact aA (aP M (.bool _) (i8 M (i9 (y:=[0]) M aG (aC rfl)) fun _=>i8 M (i9 (y:=[92]) M aG (aC rfl)) fun _=>eB (gC M (uP (q:= "") M aG) fun _=>eB (i8 M (qF M aG (oB (by kernel_rfl!) rfl)) fun _=>eB (m7 M (by kernel_rfl!) rfl rfl (by kernel_rfl) aG)))) ⟨_,eG _ _,hK⟩)
noncomputable def qX:Fn:=fun ps K=>∃ s:List Nat,ps = [.str s] /\ s.length <= 1 /\ K (.bool (mG s))
theorem l9:bD qX:=fun _ _ _ h=>e1 fun _=>c2 (h _)
theorem wQ (hB:BsOk (bs w.params h mb)) (hmb:HMb mb):Meets prog w (bs w.params h mb) 1 (.ref 733) qX:=by
 have hC:CtxOk prog w (bs w.params h mb) cHd 0:=dX hmb (by simp) (by simp) (fun e he=>by
  simp only [List.mem_singleton] at he; subst he
  exact lG hB) (by simp) (by simp) (by simp)
 refine aY (k:=1) (params:=["sign"]) (dv:=[]) (dp:=[]) hB hC (by kernel_rfl) (by kernel_rfl) (by kernel_rfl) rfl (fun _=>.nil) (fun S vals hl=>?_) fun ps K=>x1 fun s=>a3 fun h1 h2 h3=>?_
 ·obtain ⟨a,rfl⟩:=List.length_eq_one_iff.mp hl
  kernel_rfl
 ·subst h1
  exact ⟨rfl,zab _ s K h2 h3⟩
theorem zaA (a b:List Nat):decide (a = b) = (a == b):=by
 by_cases h:a = b
 ·rw [decide_eq_true h,h,beq_self_eq_true]
 ·rw [decide_eq_false h,beq_eq_false_iff_ne.mpr h]
noncomputable def cOp:Ctx:=mkC [("_law_head",qX)] [] false [] []
theorem zcz:CtxMono cOp:=bP (by simp [l9]) (by simp)
theorem v3 (p:Params) (x:List Nat) (K:PV->Prop) (hK:K (.bool (d9 x))):wSs cOp (eA (aL (HK p) 740)) (bC (HK p) 740) (jY K) ⟨bA [("written",.str x)] (fun _=>none),fun _=>none⟩:=by
 have M:=zcz
 apply nfe
 case h=>
  show ?nl2 = ?nr2
  refine (?f:∀ _:(?nl2 = ?nr2),(?nl2 = ?nr2)) ?d
  case d=>conv=>lhs; whnf; dsimp only [cH,erS,erE,bR,erO]
  case f=>exact fun _=>by kernel_rfl!
 have l1:(x.take 1).length <= 1:=by rw [List.length_take]; exact Nat.min_le_left _ _
 have l2:((x.drop 1).take (2 - 1)).length <= 1:=by rw [List.length_take]; exact Nat.min_le_left _ _
 have e:(mG (x.take 1) || (decide (x.take 1 = [45]) && (decide ((x.drop 1).take (2 - 1) = [45]) || mG ((x.drop 1).take (2 - 1))))) = d9 x:=by
  unfold d9
  rw [Bool.and_or_distrib_left,zaA,zaA]
 rw [<- e] at hK
 exact aA (aP M (.bool _) (i8 M (bX (F:=qX) M (by kernel_rfl!) rfl (aB M (n7 (k:=1) M aG (aC rfl) (by decide)) aD) ⟨x.take 1,rfl,l1,.inl rfl,rfl⟩) fun _=>eB (gC M (i9 (y:=[45]) M (n7 (k:=1) M aG (aC rfl) (by decide)) (aC rfl)) fun _=>eB (i8 M (i9 (y:=[45]) M (lQ (i:=1) (j:=2) M aG (aC rfl) (aC rfl) (by decide) (by decide)) (aC rfl)) fun _=>eB (bX (F:=qX) M (by kernel_rfl!) rfl (aB M (lQ (i:=1) (j:=2) M aG (aC rfl) (aC rfl) (by decide) (by decide)) aD) ⟨(x.drop 1).take (2 - 1),rfl,l2,.inl rfl,rfl⟩)))) ⟨_,eG _ _,hK⟩)
noncomputable def iQ:Fn:=fun ps K=>∃ x:List Nat,ps = [.str x] /\ K (.bool (d9 x))
theorem kB:bD iQ:=fun _ _ _ h=>e1 fun _=>c1 (h _)
theorem lF (hB:BsOk (bs w.params h mb)) (hmb:HMb mb):Meets prog w (bs w.params h mb) 2 (.ref 740) iQ:=by
 have hC:CtxOk prog w (bs w.params h mb) cOp 1:=dX hmb (by simp [l9]) (by simp) (by simp) (fun e he=>by
  simp only [List.mem_singleton] at he; subst he
  exact ⟨.ref 733,by kernel_rfl,wQ hB hmb⟩) (by simp) (by simp)
 refine aY (k:=1) (params:=["written"]) (dv:=[]) (dp:=[]) hB hC (by kernel_rfl) (by kernel_rfl) (by kernel_rfl) rfl (fun _=>.nil) (fun S vals hl=>?_) fun ps K=>x1 fun x=>a2 fun h1 h2=>?_
 ·obtain ⟨a,rfl⟩:=List.length_eq_one_iff.mp hl
  kernel_rfl
 ·subst h1
  exact ⟨rfl,v3 _ x K h2⟩
section
variable {C:Ctx} {κ:Kn}
theorem uO {e:Expr} {p p2:Pos} {st:St} {c:Nat} (M:CtxMono C) (k1:κ "ord" = some .globalImplicit) (hf:C.fn "ord" = none) (hc:C.cls "ord" = none) (hb:C.bi "ord" = true) (h:ev C κ e st (.str [c])):ev C κ (.Call (.Name (Str.ofString "ord") p) [e] [] p2) st (.int c):=
 iN M k1 hf hc hb (aB M h aD) (of_eq (B:=PV.int c = .int c) (by kernel_rfl) rfl)
theorem zeB {e:Expr} {p p2:Pos} {st:St} {c:Nat} (M:CtxMono C) (hl:c <= 1114111) (k1:κ "chr" = some .globalImplicit) (hf:C.fn "chr" = none) (hc:C.cls "chr" = none) (hb:C.bi "chr" = true) (h:ev C κ e st (.int c)):ev C κ (.Call (.Name (Str.ofString "chr") p) [e] [] p2) st (.str [c]):=
 iN M k1 hf hc hb (aB M h aD) (of_eq (B:=0 <= (c:Int) /\ (c:Int) < 0x110000 /\ PV.str [c] = .str [c]) (by kernel_rfl) ⟨Int.natCast_nonneg c,Int.ofNat_lt.mpr (Nat.lt_succ_of_le hl),rfl⟩)
theorem zfl {l m r:Expr} {p:Pos} {st:St} {i j k:Nat} (M:CtxMono C) (h1:ev C κ l st (.int i)) (h2:ev C κ m st (.int j)) (h3:ev C κ r st (.int k)):tv C κ (.Compare l [.LtE,.LtE] [m,r] p) st (decide (i <= j) && decide (j <= k)):=by
 refine aX (e:=l) M h1 (aX (e:=m) M h2 ?_)
 show if decide ((i:Int) <= j) = true then wCh C [r] [.LtE] κ (.int j) _ st else _
 rw [decide_eq_decide.mpr (Int.ofNat_le (m:=i) (n:=j))]
 cases decide (i <= j)
 ·exact ⟨rfl,rfl⟩
 ·exact aX (e:=r) M h3 ⟨rfl,decide_eq_decide.mpr Int.ofNat_le,rfl⟩
end
theorem wU (p:Params) (v:List Nat) (K:PV->Prop) (hv:v.length <= 1000) (hK:K (.str (v.map cW))):wSs cN0 (eA (aL (HK p) 747)) (bC (HK p) 747) (jY K) ⟨bA [("value",.str v)] (fun _=>none),fun _=>none⟩:=by
 have M:=aS
 apply nfe
 case h=>
  show ?nl1 = ?nr1
  refine (?f:∀ _:(?nl1 = ?nr1),(?nl1 = ?nr1)) ?d
  case d=>conv=>lhs; whnf; dsimp only [cH,erS,erE,bR,erO]
  case f=>exact fun _=>by kernel_rfl!
 have hml:(v.map fun c=>PV.str [c]).length = v.length:=List.length_map _
 refine aA (aE M (.str []) (aC rfl) (by kernel_rfl) ?_)
 refine b8 M (fun st=>bV [("lowered",.str (v.map cW))] st.ρ)
  (mF M (.str v) (v.map fun c=>.str [c]) rfl (by rw [hml]; exact Nat.le_trans hv (by decide)) (by kernel_rfl) aG
   (fun i st=>bV [("lowered",.str ((v.take i).map cW))] st.ρ) (fun i hi st hI=>?_) (fun st hI=>?_) (by (show _ = _; first | kernel_rfl! | (rw [<- Nat.add_assoc]; kernel_rfl!) | (rw [<- Nat.add_assoc,<- Nat.add_assoc]; kernel_rfl!)))) ?_
 ·obtain ⟨ρ,σ⟩:=st
  rw [hml] at hi
  refine ⟨_,rfl,?_⟩
  have hl:((v.take i).map cW).length <= 1000:=by rw [List.length_map,List.length_take]; exact Nat.le_trans (Nat.min_le_right _ _) hv
  rw [List.getElem_map,List.take_succ_eq_append_getElem hi,List.map_append]
  rw [show ρ = bA _ ρ from aV _ hI]
  clear hI
  generalize (v.take i).map cW = lo at hl
  generalize v[i] = c
  refine aA (dP M (.str lo) (.str [cW c]) (by kernel_rfl!) (dM (c:=decide (65 <= c) && decide (c <= 90)) M (zfl (i:=65) (k:=90) M (aC rfl) (uO M (by kernel_rfl!) rfl rfl (by kernel_rfl) aG) (aC rfl)) (fun q=>?_) (fun q=>?_)) (by kernel_rfl) (of_eq zc8 ⟨?_,?_⟩))
  ·obtain ⟨q1,q2⟩:=Bool.and_eq_true_iff.mp q
   have q1:=of_decide_eq_true q1
   have q2:=of_decide_eq_true q2
   rw [cW,if_pos ⟨q1,q2⟩]
   exact zeB (c:=c + 32) M (by omega) (by kernel_rfl!) rfl rfl (by kernel_rfl) (c9 (i:=c) (j:=32) M (uO M (by kernel_rfl!) rfl rfl (by kernel_rfl) aG) (aC rfl))
  ·rw [cW,if_neg (fun z=>by rw [decide_eq_true z.1,decide_eq_true z.2] at q; cases q)]
   exact aG
  ·show lo.length + 1 <= aO
   unfold aO; omega
  ·exact (show bV _ _ by (show _ = _; first | kernel_rfl! | (rw [<- Nat.add_assoc]; kernel_rfl!) | (rw [<- Nat.add_assoc,<- Nat.add_assoc]; kernel_rfl!)))
 ·rw [hml,List.take_length] at hI
  exact hI
 ·refine fun st h1=>b7 h1 ?_
  exact aA (aP M (.str (v.map cW)) aG ⟨_,aW _ _ rfl,hK⟩)
noncomputable def oV:Fn:=fun ps K=>∃ v:List Nat,ps = [.str v] /\ v.length <= 1000 /\ K (.str (v.map cW))
theorem qW:bD oV:=fun _ _ _ h=>e1 fun _=>c2 (h _)
section
theorem sB (hB:BsOk (bs w.params h mb)) (hmb:HMb mb):Meets prog w (bs w.params h mb) 1 (.ref 747) oV:=by
 refine aY (k:=1) (params:=["value"]) (dv:=[]) (dp:=[]) hB (iH hmb) (by kernel_rfl) (by kernel_rfl) (by kernel_rfl) rfl (fun _=>.nil) (fun S vals hl=>?_) fun ps K=>x1 fun s=>a3 fun h1 h2 h3=>?_
 ·obtain ⟨a,rfl⟩:=List.length_eq_one_iff.mp hl
  kernel_rfl
 ·subst h1
  exact ⟨rfl,wU _ s K h2 h3⟩
noncomputable def zb3 (b:Bool):List Nat:=if b = true then lcS "yes" else lcS "no"
theorem zS (p:Params) (b:Bool) (K:PV->Prop) (hK:K (.str (zb3 b))):wSs cN0 (eA (aL (HK p) 796)) (bC (HK p) 796) (jY K) ⟨bA [("flag",.bool b)] (fun _=>none),fun _=>none⟩:=by
 have M:=aS
 apply nfe
 case h=>
  show ?nl2 = ?nr2
  refine (?f:∀ _:(?nl2 = ?nr2),(?nl2 = ?nr2)) ?d
  case d=>conv=>lhs; whnf; dsimp only [cH,erS,erE,bR,erO]
  case f=>exact fun _=>by kernel_rfl!
 refine aA (aP M (.str (zb3 b)) (dM (c:=b) M (bE M (bL (a:=.bool b) (b:=.bool true) M aG (aC rfl) (show isW (.bool b) (.bool true) fun c=>c = b from by cases b <;> rfl))) (fun q=>?_) (fun q=>?_)) ⟨_,aW _ _ rfl,hK⟩)
 ·subst q; exact aC rfl
 ·subst q
  exact dM (c:=true) M (bE M (bL (a:=.bool false) (b:=.bool false) M aG (aC rfl) rfl)) (fun _=>aC rfl) (fun q=>by cases q)
noncomputable def vH:Fn:=fun ps K=>∃ b:Bool,ps = [.bool b] /\ K (.str (zb3 b))
theorem l7:bD vH:=fun _ _ _ h=>e1 fun _=>c1 (h _)
theorem wP (hB:BsOk (bs w.params h mb)) (hmb:HMb mb):Meets prog w (bs w.params h mb) 1 (.ref 796) vH:=by
 refine aY (k:=1) (params:=["flag"]) (dv:=[]) (dp:=[]) hB (iH hmb) (by kernel_rfl) (by kernel_rfl) (by kernel_rfl) rfl (fun _=>.nil) (fun S vals hl=>?_) fun ps K=>x1 fun s=>a2 fun h1 h2=>?_
 ·obtain ⟨a,rfl⟩:=List.length_eq_one_iff.mp hl
  kernel_rfl
 ·subst h1
  exact ⟨rfl,zS _ s K h2⟩
end
theorem pK:∀ d:List Nat,aM (d ++ [13,10]) = aM (d ++ [13])
 | []=>rfl
 | c :: d=>by
  have ih:=pK d
  have hh:(d ++ [13,10]).head? = (d ++ [13]).head?:=by cases d <;> rfl
  show (if c = 13 /\ (d ++ [13,10]).head? = some 10 then aM (d ++ [13,10]) else md1 c :: aM (d ++ [13,10])) = if c = 13 /\ (d ++ [13]).head? = some 10 then aM (d ++ [13]) else md1 c :: aM (d ++ [13])
  rw [ih,hh]
theorem zgO (s:Nat):decide (s ∈ [13,10,12]) = decide (md1 s = 10):=by
 refine decide_eq_decide.mpr ?_
 unfold md1
 simp only [List.mem_cons,List.not_mem_nil,or_false]
 split
 ·subst_vars; decide
 ·split
  ·rename_i q; exact ⟨fun _=>rfl,fun _=>q.elim .inl fun q=>.inr (.inr q)⟩
  ·rename_i q; exact ⟨fun z=>z.elim (fun z=>absurd (.inl z) q) fun z=>z.elim id fun z=>absurd (.inr z) q,fun z=>.inr (.inl z)⟩
theorem zcH (lc:Nat × Nat) (d:List Nat) (s:Nat):adv lc (aM (d ++ [s])) = if decide (s ∈ [13,10,12]) = true then (if (!(decide (s = 10) && decide (d.getLast?.toList = [13]))) = true then ((adv lc (aM d)).1 + 1,1) else adv lc (aM d)) else ((adv lc (aM d)).1,(adv lc (aM d)).2 + 1):=by
 rw [zgO]
 by_cases h:s = 10 /\ d.getLast? = some 13
 ·obtain ⟨h1,h2⟩:=h
  subst h1
  obtain ⟨d',hd⟩:∃ d',d = d' ++ [13]:=List.getLast?_eq_some_iff.mp h2
  rw [h2,hd]
  rw [show d' ++ [13] ++ [10] = d' ++ [13,10] by rw [List.append_assoc]; rfl,pK]; rfl
 ·have hc:Cut d [s]:=fun q1 q2=>h ⟨Option.some.inj q2,q1⟩
  have e2:(decide (s = 10) && decide (d.getLast?.toList = [13])) = false:=by
   cases q:(decide (s = 10) && decide (d.getLast?.toList = [13])) with
   | false=>rfl
   | true=>
    obtain ⟨q1,q2⟩:=Bool.and_eq_true_iff.mp q
    refine absurd ⟨of_decide_eq_true q1,?_⟩ h
    have q2:=of_decide_eq_true q2
    cases hg:d.getLast? with
    | none=>rw [hg] at q2; cases q2
    | some x=>rw [hg] at q2; exact congrArg some (List.cons.inj q2).1
  have e1:aM [s] = [md1 s]:=if_neg fun q=>by cases q.2
  rw [bK hc,fS,e2,e1]
  show (if md1 s = 10 then _ else _) = _
  by_cases q:md1 s = 10
  ·rw [if_pos q,if_pos (decide_eq_true q),if_pos (show (!false) = true from rfl)]
  ·rw [if_neg q,if_neg (fun z=>q (of_decide_eq_true z))]
theorem w9 (p:Params) (lc:Nat × Nat) (x:List Nat) (K:PV->Prop) (hx:x.length <= 1000) (hK:K (qZ (adv lc (aM x)))):wSs cN0 (eA (aL (HK p) 810)) (bC (HK p) 810) (jY K) ⟨bA [("place",qZ lc),("written",.str x)] (fun _=>none),fun _=>none⟩:=by
 have M:=aS
 apply nfe
 case h=>
  show ?nl1 = ?nr1
  refine (?f:∀ _:(?nl1 = ?nr1),(?nl1 = ?nr1)) ?d
  case d=>conv=>lhs; whnf; dsimp only [cH,erS,erE,bR,erO]
  case f=>exact fun _=>by kernel_rfl!
 have hml:(x.map fun c=>PV.str [c]).length = x.length:=List.length_map _
 refine aA (bZ M (.int lc.1) (.int lc.2) aG (by kernel_rfl) (by kernel_rfl) ?_)
 refine aA (aE M (.str []) (aC rfl) (by kernel_rfl) ?_)
 refine b8 M (fun st=>∃ pl:Nat × Nat,pl = adv lc (aM x) /\ bV [("line",.int pl.1),("column",.int pl.2)] st.ρ)
  (mF M (.str x) (x.map fun c=>.str [c]) rfl (by rw [hml]; exact Nat.le_trans hx (by decide)) (by kernel_rfl) aG
   (fun i st=>∃ pl:Nat × Nat,pl = adv lc (aM (x.take i)) /\ bV [("line",.int pl.1),("column",.int pl.2),("last",.str (x.take i).getLast?.toList)] st.ρ) (fun i hi st hI=>?_) (fun st hI=>?_) ⟨lc,rfl,by (show _ = _; first | kernel_rfl! | (rw [<- Nat.add_assoc]; kernel_rfl!) | (rw [<- Nat.add_assoc,<- Nat.add_assoc]; kernel_rfl!))⟩) ?_
 ·obtain ⟨ρ,σ⟩:=st
  obtain ⟨pl,h0,h1⟩:=hI
  rw [hml] at hi
  refine ⟨_,rfl,?_⟩
  rw [List.getElem_map,List.take_succ_eq_append_getElem hi,zcH,<- h0]
  rw [show ρ = bA _ ρ from aV _ h1]
  clear h1 h0
  rw [show (x.take i ++ [x[i]]).getLast?.toList = [x[i]] by rw [List.getLast?_concat]; rfl]
  generalize (x.take i).getLast?.toList = la
  generalize x[i] = s
  let R:St->Prop:=fun st=>∃ pl2:Nat × Nat,pl2 = (if decide (s ∈ [13,10,12]) = true then (if (!(decide (s = 10) && decide (la = [13]))) = true then (pl.1 + 1,1) else pl) else (pl.1,pl.2 + 1)) /\ bV [("line",.int pl2.1),("column",.int pl2.2),("sign",.str [s])] st.ρ
  refine b8 M R (bS M (decide (s ∈ [13,10,12])) (bE M (qF (y:=[13,10,12]) M aG (aC rfl))) (fun h=>?_) (fun h=>?_)) ?_
  ·refine aA (bS M (!(decide (s = 10) && decide (la = [13]))) (jW M (dU M (bE M (d7 M aG (by kernel_rfl))) fun _=>dZ (bE M (i9 (y:=[13]) M aG (aC rfl))))) (fun q=>?_) (fun q=>?_))
   ·refine aA (dP M (.int pl.1) (.int 1) (by kernel_rfl!) (aC rfl) (by kernel_rfl) (of_eq cF ?_))
    refine aA (aE M (.int ((1:Nat):Int)) (aC rfl) (by kernel_rfl) ⟨(pl.1 + 1,1),?_,by (show _ = _; first | kernel_rfl! | (rw [<- Nat.add_assoc]; kernel_rfl!) | (rw [<- Nat.add_assoc,<- Nat.add_assoc]; kernel_rfl!))⟩)
    rw [if_pos h,if_pos q]
   ·exact ⟨pl,by rw [if_pos h,if_neg (by rw [q]; decide)],by (show _ = _; first | kernel_rfl! | (rw [<- Nat.add_assoc]; kernel_rfl!) | (rw [<- Nat.add_assoc,<- Nat.add_assoc]; kernel_rfl!))⟩
  ·refine aA (dP M (.int pl.2) (.int 1) (by kernel_rfl!) (aC rfl) (by kernel_rfl) (of_eq cF ⟨(pl.1,pl.2 + 1),?_,by (show _ = _; first | kernel_rfl! | (rw [<- Nat.add_assoc]; kernel_rfl!) | (rw [<- Nat.add_assoc,<- Nat.add_assoc]; kernel_rfl!))⟩))
   rw [if_neg (by rw [h]; decide)]
  ·rintro ⟨ρ1,σ1⟩ ⟨pl2,e,h1⟩
   refine b7 h1 ?_
   exact aA (aE M (.str [s]) aG (by kernel_rfl) ⟨pl2,e,by (show _ = _; first | kernel_rfl! | (rw [<- Nat.add_assoc]; kernel_rfl!) | (rw [<- Nat.add_assoc,<- Nat.add_assoc]; kernel_rfl!))⟩)
 ·rw [hml,List.take_length] at hI
  obtain ⟨ρ,σ⟩:=st
  obtain ⟨pl,h0,h1⟩:=hI
  refine ⟨pl,h0,?_⟩
  show bV _ ρ
  rw [show ρ = bA _ ρ from aV _ h1]
  (show _ = _; first | kernel_rfl! | (rw [<- Nat.add_assoc]; kernel_rfl!) | (rw [<- Nat.add_assoc,<- Nat.add_assoc]; kernel_rfl!))
 ·refine fun st=>x1 fun pl=>a2 fun e h1=>b7 h1 ?_
  rw [<- e] at hK
  exact aA (aP M (qZ pl) (aT M (aB M aG (aB M aG aD))) ⟨_,aW _ _ rfl,hK⟩)
noncomputable def oW:Fn:=fun ps K=>∃ (lc:Nat × Nat) (x:List Nat),ps = [qZ lc,.str x] /\ x.length <= 1000 /\ K (qZ (adv lc (aM x)))
theorem qY:bD oW:=fun _ _ _ h=>e2 fun _ _=>c2 (h _)
theorem sC (hB:BsOk (bs w.params h mb)) (hmb:HMb mb):Meets prog w (bs w.params h mb) 1 (.ref 810) oW:=by
 refine aY (k:=2) (params:=["place", "written"]) (dv:=[]) (dp:=[]) hB (iH hmb) (by kernel_rfl) (by kernel_rfl) (by kernel_rfl) rfl (fun _=>.nil) (fun S vals hl=>?_) fun ps K=>x2 fun lc x=>a3 fun h1 h2 h3=>?_
 ·obtain ⟨a,b,rfl⟩:=hZ hl
  kernel_rfl
 ·subst h1
  exact ⟨rfl,w9 _ lc x K h2 h3⟩
theorem zav (T:List Nat):∀ (i n:Nat) (acc:List Nat),dig T (i + 1) n acc = q0 T (n / 16 ^ i) :: dig T i n acc
 | 0,n,acc=>by
  show q0 T n :: acc = q0 T (n / 16 ^ 0) :: acc
  rw [Nat.pow_zero,Nat.div_one]
 | i + 1,n,acc=>by
  show dig T (i + 1) (n / 16) (q0 T n :: acc) = _
  rw [zav T i (n / 16) (q0 T n :: acc),Nat.div_div_eq_div_mul,Nat.pow_succ,Nat.mul_comm 16]; rfl
theorem uC (d:Nat):decide (d ∈ ([48,49,50,51,52,53,54,55,56,57,97,98,99,100,101,102,65,66,67,68,69,70]:List Nat)) = dQ d:=by
 by_cases h:d < 128
 ·exact (show ∀ d < 128,decide (d ∈ ([48,49,50,51,52,53,54,55,56,57,97,98,99,100,101,102,65,66,67,68,69,70]:List Nat)) = dQ d by decide +kernel) d h
 ·rw [decide_eq_false (fun q=>h ((show ∀ d ∈ ([48,49,50,51,52,53,54,55,56,57,97,98,99,100,101,102,65,66,67,68,69,70]:List Nat),d < 128 by decide) d q))]
  cases q:dQ d with
  | false=>rfl
  | true=>
   simp only [dQ,Bool.or_eq_true,Bool.and_eq_true,decide_eq_true_eq] at q
   omega
theorem zen (i n:Nat):(j5 i)[n % 16]? = some (q0 (j5 i) n):=by
 have hl:(j5 i).length = 16:=by unfold j5; split <;> rfl
 have h:n % 16 < (j5 i).length:=by rw [hl]; exact Nat.mod_lt _ (by decide)
 rw [q0,List.getElem?_eq_getElem h]; rfl
noncomputable def codesL:List Nat:=[65533,0,1114112,16777215]
theorem zeL {c:Nat} (hc:c ∈ signsL):(c ≠ 65533->jC c = c /\ c < 16777216):=fun h=>by
 obtain ⟨h0,h1,_⟩:=kY c hc
 refine ⟨?_,by omega⟩
 rw [jC,if_pos (by rw [decide_eq_true (Nat.pos_of_ne_zero h0),decide_eq_true h1]; rfl)]
theorem zct:∀ k ∈ codesL,jC k = 65533 /\ k < 16777216:=by decide +kernel
noncomputable def Fig (k:Nat) (D:List Nat):Prop:=D.all dQ = true /\ 1 <= D.length /\ D.length <= 6 /\ eE 16 0 D = some k
theorem zet {k:Nat} {D:List Nat} (h:Fig k D) (hl:D.length < 6):Fig k (48 :: D):=⟨zaS rfl h.1,Nat.le_add_left 1 _,hl,h.2.2.2⟩
theorem zfV {k i ti:Nat} (h1:1 <= i) (h6:i <= 6) (hk:k / 16 ^ i = 0):Fig k (dig (j5 ti) i k []):=by
 have hl:(dig (j5 ti) i k []).length = i:=by rw [sO]; rfl
 refine ⟨zax ti i k [] rfl,by rw [hl]; exact h1,by rw [hl]; exact h6,?_⟩
 have hp:0 < 16 ^ i:=Nat.pow_pos (by decide)
 have hlt:k < 16 ^ i:=by
  rcases Nat.div_eq_zero_iff.mp hk with h | h
  ·exact absurd h (Nat.ne_of_gt hp)
  ·exact h
 rw [zaw ti i k 0 [] hlt,Nat.zero_mul,Nat.zero_add]; rfl
noncomputable def cSp:Ctx:=mkC [("_law_TAILS",fT (nH eX))] [] false [] []
theorem zcy:CtxMono cSp:=bP (by simp [eF]) (by simp)
section
variable {C:Ctx} {κ:Kn}
theorem sL {l r:Expr} {p:Pos} {st:St} {c:Nat} {y:List Nat} (M:CtxMono C) (h1:ev C κ l st (.str [c])) (h2:ev C κ r st (.str y)):ev C κ (.Compare l [.NotIn] [r] p) st (.bool (!decide (c ∈ y))):=bL M h1 h2 (congrArg (fun b=>!b) (gZ _ _))
theorem zdf {l r:Expr} {p:Pos} {st:St} {x y:List Nat} (M:CtxMono C) (h1:ev C κ l st (.str x)) (h2:ev C κ r st (.str y)):ev C κ (.Compare l [.In] [r] p) st (.bool (oX x y)):=bL M h1 h2 rfl
theorem b6 {l r:Expr} {p:Pos} {st:St} {x y:List Nat} (M:CtxMono C) (h:ev C κ l st (.str x)) (h':ev C κ r st (.str y)) (hl:x.length + y.length <= aO):ev C κ (.BinOp l .Add r p) st (.str (x ++ y)):=
 aX (e:=l) M h (aX (e:=r) M h' ⟨hl,rfl,rfl⟩)
end
noncomputable def rE (B0 beh:List Nat) (n:Nat):List Nat:=if (decide (B0 = []) && (!decide (beh.take 1 = []) && (oX (beh.take 1) [32,10,9,13,12] || (decide (n < 6) && oX (beh.take 1) [48,49,50,51,52,53,54,55,56,57,97,98,99,100,101,102,65,66,67,68,69,70])))) = true then [32] else B0
noncomputable def o4 (B1 beh:List Nat):List Nat:=if (decide (B1 = [13]) && decide (beh.take 1 = [10])) = true then [32] else B1
theorem zbn {B0 beh:List Nat} {n:Nat} (hB:B0 ∈ eX):rE B0 beh n ∈ eX /\ (rE B0 beh n = []->∀ d r,beh = d :: r->d ∉ [32,10,9,13,12] /\ (n < 6->dQ d = false)):=by
 unfold rE
 split
 ·exact ⟨by decide,fun h=>(by cases h)⟩
 ·rename_i q1
  refine ⟨hB,fun h d r e=>?_⟩
  subst e
  rw [h] at q1
  have q1:(oX [d] [32,10,9,13,12] || (decide (n < 6) && oX [d] [48,49,50,51,52,53,54,55,56,57,97,98,99,100,101,102,65,66,67,68,69,70])) = false:=(Bool.not_eq_true _).mp q1
  rw [gZ,gZ,uC] at q1
  obtain ⟨z1,z2⟩:=Bool.or_eq_false_iff.mp q1
  refine ⟨of_decide_eq_false z1,fun h=>?_⟩
  rw [decide_eq_true h,Bool.true_and] at z2
  exact z2
theorem zbm {B1 beh:List Nat} (hB:B1 ∈ eX):o4 B1 beh ∈ eX /\ (o4 B1 beh = []->B1 = []) /\ (o4 B1 beh = [13]->beh.head? ≠ some 10):=by
 unfold o4
 split
 ·exact ⟨by decide,fun h=>(by cases h),fun h=>(by cases h)⟩
 ·rename_i q2
  refine ⟨hB,id,fun h e=>?_⟩
  rw [h] at q2
  cases beh with
  | nil=>cases e
  | cons d r=>
   cases e
   exact q2 rfl
theorem vP (p:Params) (c:Nat) (way:Int) (b:Bool) (beh:List Nat) (K:PV->Prop) (hc:c ∈ signsL) (hb:b = true->xI c) (hK:∀ w,SpW b c beh w->K (.str w)):
  wSs cSp (eA (aL (HK p) 754)) (bC (HK p) 754) (jY K) ⟨bA [("sign",.str [c]),("way",.int way),("plain",.bool b),("behind",.str beh)] (fun _=>none),fun _=>none⟩:=by
 have M:=zcy
 apply nfe
 case h=>
  show ?nl1 = ?nr1
  refine (?f:∀ _:(?nl1 = ?nr1),(?nl1 = ?nr1)) ?d
  case d=>conv=>lhs; whnf; dsimp only [cH,erS,erE,bR,erO]
  case f=>exact fun _=>by kernel_rfl!
 have ew:∀ {st:St} {p1 p2 p3:Pos} {k:Nat} (m:Nat) (hm:0 < m),st.ρ "way" = some (.int way)->ev cSp (eA (aL (HK p) 754)) (.BinOp (.Name (Str.ofString "way") p1) .Mod (.Constant (.int (m:Int)) k p2) p3) st (.int (nm way m)):=fun m hm h=>jQ m hm M (aJ (by kernel_rfl!) h)
 have ed:∀ {st:St} {p1 p2 p3 p4 p5:Pos} {k k':Nat} (d m:Nat) (hd:0 < d) (hd':d < 4294967296) (hm:0 < m),st.ρ "way" = some (.int way)->ev cSp (eA (aL (HK p) 754)) (.BinOp (.BinOp (.Name (Str.ofString "way") p1) .FloorDiv (.Constant (.int (d:Int)) k p2) p3) .Mod (.Constant (.int (m:Int)) k' p4) p5) st (.int (nm (way / d) m)):=fun d m hd hd' hm h=>jQ m hm M (iE M (aJ (by kernel_rfl!) h) (aC rfl) (Int.ofNat_lt.mpr hd) (Int.ofNat_lt.mpr hd'))
 refine aA (bS M (decide (nm way 4 = 0) && b) (dU M (bE M (j9 (a:=nm way 4) (b:=0) M (ew 4 (by decide) (by kernel_rfl!)) (aC rfl))) fun _=>dZ (bE M aG)) (fun h=>?_) (fun _=>?_))
 ·have hbt:=(Bool.and_eq_true_iff.mp h).2
  subst hbt
  have hp:=hK [c] (zbq hc (hb rfl))
  refine aA (aP M (.str (if (decide (c = 65533) && decide (nm (way / 4) 2 = 1)) = true then [0] else [c])) (dM (c:=decide (c = 65533) && decide (nm (way / 4) 2 = 1)) M (dU M (bE M (d7 M aG (by kernel_rfl))) fun _=>dZ (bE M (j9 (a:=nm (way / 4) 2) (b:=1) M (ed 4 2 (by decide) (by decide) (by decide) (by kernel_rfl!)) (aC rfl)))) (fun q=>?_) (fun q=>?_)) ⟨_,aW _ _ rfl,?_⟩)
  ·rw [if_pos q]; exact aC rfl
  ·rw [if_neg (by rw [q]; decide)]; exact aG
  ·split
   ·rename_i q
    have q:=of_decide_eq_true (Bool.and_eq_true_iff.mp q).1
    subst q
    exact hK [0] zdP
   ·exact hp
 refine aA (bS M (decide (nm way 4 = 1) && !decide (c ∈ [48,49,50,51,52,53,54,55,56,57,97,98,99,100,101,102,65,66,67,68,69,70,10,13,12])) (dU M (bE M (j9 (a:=nm way 4) (b:=1) M (ew 4 (by decide) (by kernel_rfl!)) (aC rfl))) fun _=>dZ (bE M (sL M aG (aC rfl)))) (fun h=>?_) (fun _=>?_))
 ·have h2:=(Bool.and_eq_true_iff.mp h).2
  have hni:c ∉ [48,49,50,51,52,53,54,55,56,57,97,98,99,100,101,102,65,66,67,68,69,70,10,13,12]:=fun q=>by rw [decide_eq_true q] at h2; cases h2
  refine aA (aP M (.str ([92] ++ [c])) (b6 M (aC rfl) aG (by show 1 + 1 <= aO; decide)) ⟨_,aW _ _ rfl,hK _ (zdQ hc ⟨fun q=>hni (by rw [q]; decide),fun q=>hni (by rw [q]; decide),fun q=>hni (by rw [q]; decide)⟩ ?_)⟩)
  cases q:dQ c with
  | false=>rfl
  | true=>
   rw [<- uC] at q
   exact absurd (List.mem_append_left [10,13,12] (of_decide_eq_true q)) hni
 (repeat (first | refine bQ ?_ | dsimp only [c7]))
 refine aA (aE M (.int c) (uO M (by kernel_rfl!) rfl rfl (by kernel_rfl) aG) (by kernel_rfl) ?_)
 let R1:St->Prop:=fun st=>∃ k:Nat,jC k = c /\ k < 16777216 /\ bV [("way",.int way),("behind",.str beh),("code",.int k)] st.ρ
 refine b8 M R1 (bS M (decide (c = 65533)) (bE M (d7 M aG (by kernel_rfl))) (fun h=>?_) (fun h=>?_)) ?_
 ·have hi:=lB (way / 4) (show 0 < 4 by decide)
  obtain ⟨k,hk⟩:∃ k,codesL[nm (way / 4) 4]? = some k:=⟨_,List.getElem?_eq_getElem (l:=codesL) hi⟩
  obtain ⟨k1,k2⟩:=zct k (List.mem_of_getElem? hk)
  refine aA (aE M (.int k) (fH (xs:=codesL.map fun (k:Nat)=>PV.int k) (n:=nm (way / 4) 4) M rfl (e6 M rfl (bU M (by kernel_rfl))) (ed 4 4 (by decide) (by decide) (by decide) (by kernel_rfl!)) (by rw [List.getElem?_map,hk]; rfl)) (by kernel_rfl) ?_)
  exact ⟨k,k1.trans (of_decide_eq_true h).symm,k2,by (show _ = _; first | kernel_rfl! | (rw [<- Nat.add_assoc]; kernel_rfl!) | (rw [<- Nat.add_assoc,<- Nat.add_assoc]; kernel_rfl!))⟩
 ·obtain ⟨k1,k2⟩:=zeL hc (of_decide_eq_false h)
  exact ⟨c,k1,k2,by (show _ = _; first | kernel_rfl! | (rw [<- Nat.add_assoc]; kernel_rfl!) | (rw [<- Nat.add_assoc,<- Nat.add_assoc]; kernel_rfl!))⟩
 refine fun st=>x1 fun k=>a3 fun k1 k2 h1=>b7 h1 ?_
 clear h1 R1
 refine aA (aE M (.str (j5 (if decide (nm (way / 16) 2 = 1) = true then 1 else 0))) (dM (c:=decide (nm (way / 16) 2 = 1)) M (bE M (j9 (a:=nm (way / 16) 2) (b:=1) M (ed 16 2 (by decide) (by decide) (by decide) (by kernel_rfl!)) (aC rfl))) (fun q=>?_) (fun q=>?_)) (by kernel_rfl) ?_)
 ·rw [if_pos q]; exact aC rfl
 ·rw [if_neg (by rw [q]; decide)]; exact aC rfl
 generalize (if decide (nm (way / 16) 2 = 1) = true then 1 else 0) = ti
 refine aA (aE M (.str []) (aC rfl) (by kernel_rfl) ?_)
 let R2:St->Prop:=fun st=>∃ D,Fig k D /\ bV [("way",.int way),("behind",.str beh),("figures",.str D)] st.ρ
 refine b8 M R2 (fE M (fun n st=>∃ i,n = 7 - i /\ i <= 6 /\ bV [("way",.int way),("behind",.str beh),("sixteen",.str (j5 ti)),("code",.int ((k / 16 ^ i:Nat):Int)),("figures",.str (dig (j5 ti) i k []))] st.ρ) ?_ 7 _ ⟨0,rfl,by decide,by rw [Nat.pow_zero,Nat.div_one]; (show _ = _; first | kernel_rfl! | (rw [<- Nat.add_assoc]; kernel_rfl!) | (rw [<- Nat.add_assoc,<- Nat.add_assoc]; kernel_rfl!))⟩) ?_
 ·refine fun n st=>x1 fun i=>a3 fun hn hi h1=>keepP st h1 ?_
  clear h1
  have hdl:(dig (j5 ti) i k []).length = i:=by rw [sO]; rfl
  refine ⟨decide (0 < k / 16 ^ i) || decide (dig (j5 ti) i k [] = []),xP M (bE M (zdh (b:=0) M aG (aC rfl))) fun _=>dZ (bE M (dW (q:= "") M aG)),fun hc'=>?_,fun hc'=>?_⟩
  ·have hi6:i < 6:=by
    refine Nat.lt_of_le_of_ne hi fun q=>?_
    subst q
    rw [Nat.div_eq_of_lt (show k < 16 ^ 6 from k2),show decide (0 < 0) = false from rfl,decide_eq_false (fun q=>by rw [q] at hdl; cases hdl)] at hc'
    cases hc'
   have hf:=zen ti (k / 16 ^ i)
   refine aA (aE M (.str ([q0 (j5 ti) (k / 16 ^ i)] ++ dig (j5 ti) i k [])) (b6 M (dK (x:=j5 ti) (n:=k / 16 ^ i % 16) M rfl aG (zar (i:=((k / 16 ^ i:Nat):Int)) (j:=16) M aG (aC rfl) (by decide)) hf) aG (by rw [hdl]; show 1 + i <= aO; unfold aO; omega)) (by kernel_rfl) ?_)
   refine aA (aE M (.int ((k / 16 ^ i / 16:Nat):Int)) (iE (i:=((k / 16 ^ i:Nat):Int)) (j:=16) M aG (aC rfl) (by decide) (by decide)) (by kernel_rfl) ?_)
   rw [show [q0 (j5 ti) (k / 16 ^ i)] ++ dig (j5 ti) i k [] = dig (j5 ti) (i + 1) k [] from (zav _ _ _ _).symm,Nat.div_div_eq_div_mul,<- Nat.pow_succ]
   exact ⟨7 - (i + 1),by omega,i + 1,rfl,hi6,by (show _ = _; first | kernel_rfl! | (rw [<- Nat.add_assoc]; kernel_rfl!) | (rw [<- Nat.add_assoc,<- Nat.add_assoc]; kernel_rfl!))⟩
  ·obtain ⟨z1,z2⟩:=Bool.or_eq_false_iff.mp hc'
   have z1:=Nat.eq_zero_of_not_pos (of_decide_eq_false z1)
   have z2:=of_decide_eq_false z2
   have i1:1 <= i:=Nat.pos_of_ne_zero fun q=>z2 (by rw [q]; rfl)
   exact ⟨_,zfV (ti:=ti) i1 hi z1,by (show _ = _; first | kernel_rfl! | (rw [<- Nat.add_assoc]; kernel_rfl!) | (rw [<- Nat.add_assoc,<- Nat.add_assoc]; kernel_rfl!))⟩
 refine fun st=>x1 fun D=>a2 fun hD h1=>b7 h1 ?_
 clear h1 R2
 have hD7:(0:Int) < 7 - (D.length:Int):=by have:=hD.2.2.1; omega
 obtain ⟨m,hm⟩:∃ m:Nat,(way / 32) % (7 - (D.length:Int)) = m:=⟨_,(Int.toNat_of_nonneg (Int.emod_nonneg _ (Int.ne_of_gt hD7))).symm⟩
 have hm7:D.length + m <= 6:=by
  have:=Int.emod_lt_of_pos (way / 32) hD7
  rw [hm] at this
  omega
 refine aA (aE M (.int ((D.length + m:Nat):Int)) (c9 (i:=D.length) (j:=m) M (gB M (by kernel_rfl!) rfl rfl (by kernel_rfl) aG) (hm ▸ zar M (iE (j:=32) M aG (aC rfl) (by decide) (by decide)) (gN (i:=7) (j:=D.length) M (aC rfl) (gB M (by kernel_rfl!) rfl rfl (by kernel_rfl) aG)) hD7)) (by kernel_rfl) ?_)
 generalize D.length + m = W at hm7
 clear hm hD7
 let R3:St->Prop:=fun st=>∃ D,Fig k D /\ bV [("way",.int way),("behind",.str beh),("figures",.str D)] st.ρ
 refine b8 M R3 (fE M (fun n st=>∃ D,n = 7 - D.length /\ Fig k D /\ bV [("way",.int way),("behind",.str beh),("figures",.str D),("width",.int W)] st.ρ) ?_ (7 - D.length) _ ⟨D,rfl,hD,by (show _ = _; first | kernel_rfl! | (rw [<- Nat.add_assoc]; kernel_rfl!) | (rw [<- Nat.add_assoc,<- Nat.add_assoc]; kernel_rfl!))⟩) ?_
 ·refine fun n st=>x1 fun D=>a3 fun hn hF h1=>keepP st h1 ?_
  clear h1
  refine ⟨decide (D.length < W),bE M (gO M (gB M (by kernel_rfl!) rfl rfl (by kernel_rfl) aG) aG),fun hc'=>?_,fun _=>⟨D,hF,by (show _ = _; first | kernel_rfl! | (rw [<- Nat.add_assoc]; kernel_rfl!) | (rw [<- Nat.add_assoc,<- Nat.add_assoc]; kernel_rfl!))⟩⟩
  have hl:D.length < 6:=Nat.lt_of_lt_of_le (of_decide_eq_true hc') hm7
  refine aA (aE M (.str ([48] ++ D)) (b6 M (aC rfl) aG (by show 1 + D.length <= aO; unfold aO; omega)) (by kernel_rfl) ?_)
  exact ⟨7 - (48 :: D).length,by rw [List.length_cons]; omega,48 :: D,rfl,zet hF hl,by (show _ = _; first | kernel_rfl! | (rw [<- Nat.add_assoc]; kernel_rfl!) | (rw [<- Nat.add_assoc,<- Nat.add_assoc]; kernel_rfl!))⟩
 clear hD hm7
 refine fun st=>x1 fun D=>a2 fun hD h1=>b7 h1 ?_
 clear h1 R3
 obtain ⟨B0,hB0⟩:∃ B0,eX[nm (way / 7) 7]? = some B0:=⟨_,List.getElem?_eq_getElem (l:=eX) (lB (way / 7) (show 0 < 7 by decide))⟩
 have hm:=List.mem_of_getElem? hB0
 obtain ⟨t1,t2⟩:=zbn (beh:=beh) (n:=D.length) hm
 refine aA (aE M (.str B0) (jP (X:=eX) (n:=nm (way / 7) 7) M rfl (j8 M (by kernel_rfl!) rfl) (ed 7 7 (by decide) (by decide) (by decide) (by kernel_rfl!)) hB0) (by kernel_rfl) ?_)
 refine aA (aE M (.str (beh.take 1)) (n7 (k:=1) M aG (aC rfl) (by decide)) (by kernel_rfl) ?_)
 let R4:List Nat->St->Prop:=fun B st=>bV [("figures",.str D),("tail",.str B),("after",.str (beh.take 1))] st.ρ
 refine b8 M (R4 (rE B0 beh D.length)) (bS M (decide (B0 = []) && (!decide (beh.take 1 = []) && (oX (beh.take 1) [32,10,9,13,12] || (decide (D.length < 6) && oX (beh.take 1) [48,49,50,51,52,53,54,55,56,57,97,98,99,100,101,102,65,66,67,68,69,70])))) (dU M (bE M (dW (q:= "") M aG)) fun _=>dU M (bE M (uP (q:= "") M aG)) fun _=>dZ (xP M (bE M (zdf (y:=[32,10,9,13,12]) M aG (aC rfl))) fun _=>dZ (dU M (bE M (gO (b:=6) M (gB M (by kernel_rfl!) rfl rfl (by kernel_rfl) aG) (aC rfl))) fun _=>dZ (bE M (zdf (y:=[48,49,50,51,52,53,54,55,56,57,97,98,99,100,101,102,65,66,67,68,69,70]) M aG (aC rfl)))))) (fun q=>?_) (fun q=>?_)) ?_
 ·unfold rE
  rw [if_pos q]
  exact aA (aE M (.str [32]) (aC rfl) (by kernel_rfl) (show bV _ _ by (show _ = _; first | kernel_rfl! | (rw [<- Nat.add_assoc]; kernel_rfl!) | (rw [<- Nat.add_assoc,<- Nat.add_assoc]; kernel_rfl!))))
 ·unfold rE
  rw [if_neg (by rw [q]; decide)]
  exact (show bV _ _ by (show _ = _; first | kernel_rfl! | (rw [<- Nat.add_assoc]; kernel_rfl!) | (rw [<- Nat.add_assoc,<- Nat.add_assoc]; kernel_rfl!)))
 refine fun st h1=>b7 h1 ?_
 clear h1
 generalize rE B0 beh D.length = B1 at t1 t2
 obtain ⟨u1,u2,u3⟩:=zbm (beh:=beh) t1
 refine b8 M (R4 (o4 B1 beh)) (bS M (decide (B1 = [13]) && decide (beh.take 1 = [10])) (dU M (bE M (i9 (y:=[13]) M aG (aC rfl))) fun _=>dZ (bE M (i9 (y:=[10]) M aG (aC rfl)))) (fun q=>?_) (fun q=>?_)) ?_
 ·unfold o4
  rw [if_pos q]
  exact aA (aE M (.str [32]) (aC rfl) (by kernel_rfl) (show bV _ _ by (show _ = _; first | kernel_rfl! | (rw [<- Nat.add_assoc]; kernel_rfl!) | (rw [<- Nat.add_assoc,<- Nat.add_assoc]; kernel_rfl!))))
 ·unfold o4
  rw [if_neg (by rw [q]; decide)]
  exact (show bV _ _ by (show _ = _; first | kernel_rfl! | (rw [<- Nat.add_assoc]; kernel_rfl!) | (rw [<- Nat.add_assoc,<- Nat.add_assoc]; kernel_rfl!)))
 refine fun st h1=>b7 h1 ?_
 clear h1
 have hB2:=(rD _ u1).2
 generalize o4 B1 beh = B at u1 u2 u3 hB2
 have hl:=hD.2.2.1
 refine aA (aP M (.str ([92] ++ D ++ B)) (b6 M (b6 M (aC rfl) aG (by show 1 + D.length <= aO; unfold aO; omega)) aG (by rw [List.length_append]; show 1 + D.length + B.length <= aO; unfold aO; omega)) ⟨_,aW _ _ rfl,hK _ (zfu hD.1 hD.2.1 hl hD.2.2.2 k1 u1 (fun q=>t2 (u2 q)) u3)⟩)
noncomputable def iP:Fn:=fun ps K=>∃ (c:Nat) (way:Int) (b:Bool) (beh:List Nat),ps = [.str [c],.int way,.bool b,.str beh] /\ c ∈ signsL /\ (b = true->xI c) /\ ∀ w,SpW b c beh w->K (.str w)
theorem kA:bD iP:=fun _ _ _ h=>e4 fun _ _ _ _=>c3 fun k w t=>h _ (k w t)
theorem lE (hB:BsOk (bs w.params h mb)) (hmb:HMb mb):Meets prog w (bs w.params h mb) 2 (.ref 754) iP:=by
 have hC:CtxOk prog w (bs w.params h mb) cSp 1:=dX hmb (by simp [eF]) (by simp) (by simp) (fun e he=>by
  simp only [List.mem_singleton] at he; subst he
  exact ⟨.ref 691,by kernel_rfl,rZ hB hmb⟩) (by simp) (by simp)
 refine aY (k:=4) (params:=["sign", "way", "plain", "behind"]) (dv:=[]) (dp:=[]) hB hC (by kernel_rfl) (by kernel_rfl) (by kernel_rfl) rfl (fun _=>.nil) (fun S vals hl=>?_) fun ps K=>x4 fun c way b beh=>a4 fun h1 h2 h3 h4=>?_
 ·obtain ⟨a,b,c,d,rfl⟩:=zda hl
  kernel_rfl
 ·subst h1
  exact ⟨rfl,vP _ c way b beh K h2 h3 h4⟩
section
variable {C:Ctx} {κ:Kn} {st:St}
theorem xM {x:Str} {es:List Expr} {vs:List PV} {F:Fn} {p q:Pos} {Q:PV->St->Prop} (M:CtxMono C) (k:κ x = some .globalImplicit) (hf:C.fn x = some F) (hs:evs C κ es st vs) (h:F (vs.map (der st.σ)) fun r=>(vs.any lK = false \/ fX r = true) /\ Q r st):wE C (.Call (.Name x q) es [] p) κ Q st:=by
 refine ⟨rfl,k,by unfold nX; rw [hf]; rfl,cM M es (fun rs st1 ⟨h1,h2⟩=>?_) hs⟩
 subst h1 h2
 unfold f7
 rw [hf]
 exact h
theorem rM {x:Str} {es:List Expr} {r:Expr} {px p p1 p2 p3:Pos} {Q:Fl->St->Prop} {c:Nat} {way:Int} {b:Bool} {beh y:List Nat} (M:CtxMono C) (k:κ (Str.ofString "_law_spell") = some .globalImplicit) (hf:C.fn (Str.ofString "_law_spell") = some iP) (hs:evs C κ es st [.str [c],.int way,.bool b,.str beh])
  (hr:ev C κ r st (.str y)) (hx:dB κ x = true) (hc:c ∈ signsL) (hb:b = true->xI c) (hy:y.length <= 1000) (hQ:∀ w,SpW b c beh w->Q .next ⟨upd st.ρ x (.str (w ++ y)),st.σ⟩):
  wS C κ (.Assign [.Name x px] (.BinOp (.Call (.Name (Str.ofString "_law_spell") p1) es [] p2) .Add r p3) p) Q st:=by
 show wE C (.BinOp (.Call (.Name (Str.ofString "_law_spell") p1) es [] p2) .Add r p3) κ _ st
 rw [zfi]
 refine xM M k hf hs ⟨c,way,b,beh,rfl,hc,hb,fun w hw=>⟨.inl rfl,aX M hr ⟨?_,bN (bN hx rfl) rfl,hQ w hw⟩⟩⟩
 have:=hw.len
 show w.length + y.length <= aO
 unfold aO; omega
theorem fJ {x:Str} {p q p2:Pos} {xs:List PV} (M:CtxMono C) (k:κ "len" = some .globalImplicit) (hf:C.fn "len" = none) (hc:C.cls "len" = none) (hb:C.bi "len" = true) (h:ev C κ (.Name x p) st (.list xs)):ev C κ (.Call (.Name (Str.ofString "len") q) [.Name x p] [] p2) st (.int xs.length):=
 iN M k hf hc hb (aB M h aD) (of_eq (B:=PV.int (xs.length:Nat) = .int xs.length) (by kernel_rfl) rfl)
end
noncomputable def kE (S:List (Nat × Int)):PV:=.list (S.map fun e=>.tup [.str [e.1],.int e.2])
theorem v0:∀ c ∈ signsL,(decide (c ∈ ([45,48,49,50,51,52,53,54,55,56,57]:List Nat)) || aU c) = true->(bW c = true /\ c ≠ 92 /\ c ≠ 0 /\ c ≠ 13 /\ c ≠ 12) /\ xI c:=by
 intro c hc
 have:∀ c ∈ signsL,(decide (c ∈ ([45,48,49,50,51,52,53,54,55,56,57]:List Nat)) || aU c) = true->(bW c = true /\ c ≠ 92 /\ c ≠ 0 /\ c ≠ 13 /\ c ≠ 12) /\ (c ≠ 10 /\ c ≠ 13 /\ c ≠ 12):=by decide +kernel
 exact this c hc
noncomputable def NmE (l u:Bool) (w:List Nat):Prop:=l = false->d9 w = true /\ (u = true->∀ d r,aM w = d :: r->d ≠ 101 /\ d ≠ 69)
theorem zbU {l u b b0:Bool} {c:Nat} {beh w z:List Nat} (hs:SpW b c beh z) (hb:l = false->b = (b0 && (d9 ([c] ++ w) && !(u && decide (c ∈ ([101,69]:List Nat)))))) (hp:b = true->bW c = true /\ c ≠ 92 /\ c ≠ 0 /\ c ≠ 13 /\ c ≠ 12):NmE l u (z ++ w):=fun hl=>by
 refine hs.is.elim (a2 fun hb' q=>?_) (x1 fun t=>a3 fun hu h10 he=>?_)
 ·have h:=hb hl
  rw [hb'] at h
  obtain ⟨_,h2⟩:=Bool.and_eq_true_iff.mp h.symm
  obtain ⟨h3,h4⟩:=Bool.and_eq_true_iff.mp h2
  obtain ⟨g1,g2,g0,g3,g4⟩:=hp hb'
  rcases q with rfl | ⟨rfl,rfl⟩
  ·refine ⟨h3,fun hu d r e=>?_⟩
   have e:aM (c :: w) = d :: r:=e
   rw [bI ⟨g0,g3,g4⟩] at e
   obtain ⟨e,_⟩:=List.cons.inj e
   subst e
   subst hu
   have:decide (c ∈ ([101,69]:List Nat)) = false:=by
    cases z:decide (c ∈ ([101,69]:List Nat)) with
    | false=>rfl
    | true=>rw [z] at h4; cases h4
   have:=of_decide_eq_false this
   exact ⟨fun q=>this (by rw [q]; decide),fun q=>this (by rw [q]; decide)⟩
  ·refine ⟨rfl,fun _ d r e=>?_⟩
   have e:aM (0 :: w) = d :: r:=e
   rw [lD (by decide)] at e
   obtain ⟨e,_⟩:=List.cons.inj e
   rw [<- e]; decide
 ·subst hu
  refine ⟨rfl,fun _ d r e=>?_⟩
  have e:aM (92 :: (t ++ w)) = d :: r:=e
  rw [bI (by decide)] at e
  obtain ⟨e,_⟩:=List.cons.inj e
  rw [<- e]; decide
noncomputable def cNm:Ctx:=mkC [("_law_opens",iQ),("_law_spell",iP)] [] false [("_law_LETTERS",.str lettersL)] []
theorem zdx:∀ e ∈ ([("_law_opens",iQ),("_law_spell",iP)]:List (String × Fn)),bD e.2:=by simp [kB,kA]
theorem zcA:CtxMono cNm:=bP zdx (by simp)
theorem lT {α:Type} {S:List α} {i:Nat} (h:i < S.length):S.drop (S.length - (i + 1)) = S[S.length - 1 - i]'(by omega) :: S.drop (S.length - i):=by
 have e:S.length - (i + 1) = S.length - 1 - i:=by omega
 have e2:S.length - 1 - i + 1 = S.length - i:=by omega
 rw [List.drop_eq_getElem_cons (show S.length - (i + 1) < S.length by omega)]
 simp only [e,e2]
theorem zC (p:Params) (S:List (Nat × Int)) (beh:List Nat) (l u:Bool) (K:PV->Prop) (hS:∀ e ∈ S,e.1 ∈ signsL) (h1:1 <= S.length) (h4:S.length <= 4) (hst:zeX beh) (hbl:beh.length <= 10000) (hK:∀ w,Nm beh w (S.map Prod.fst)->NmE l u w->K (.str w)):
  wSs cNm (eA (aL (HK p) 761)) (bC (HK p) 761) (jY K) ⟨bA [("signs",kE S),("behind",.str beh),("loose",.bool l),("unit",.bool u)] (fun _=>none),fun _=>none⟩:=by
 have M:=zcA
 apply nfe
 case h=>
  show ?nl1 = ?nr1
  refine (?f:∀ _:(?nl1 = ?nr1),(?nl1 = ?nr1)) ?d
  case d=>conv=>lhs; whnf; dsimp only [cH,erS,erE,bR,erO]
  case f=>exact fun _=>by kernel_rfl!
 have hml:(S.map fun e=>PV.tup [.str [e.1],.int e.2]).length = S.length:=List.length_map _
 refine aA (aE M (.str []) (aC rfl) (by kernel_rfl) ?_)
 have hlen:((List.range ((S.length:Int) - 0).toNat).map fun (k:Nat)=>PV.int (0 + k)).length = S.length:=by rw [List.length_map,List.length_range,Int.sub_zero,Int.toNat_natCast]
 refine b8 M (fun st=>∃ w,Nm beh w (S.map Prod.fst) /\ NmE l u w /\ bV [("written",.str w)] st.ρ)
  (mF M (.rng 0 S.length) _ rfl (by rw [hlen]; exact Nat.le_trans h4 (by decide)) (by kernel_rfl) (iN M (by kernel_rfl!) rfl rfl (by kernel_rfl) (aB M (v:=.int S.length) (hml ▸ fJ M (by kernel_rfl!) rfl rfl (by kernel_rfl) aG) aD) (of_eq (B:=(0:Int) <= 0 /\ (0:Int) <= 16777216 /\ 0 <= (S.length:Int) /\ (S.length:Int) <= 16777216 /\ PV.rng 0 S.length = .rng 0 S.length) (by kernel_rfl) ⟨Int.le_refl 0,by decide,Int.natCast_nonneg _,Int.ofNat_le.mpr (Nat.le_trans h4 (by decide)),rfl⟩))
   (fun i st=>∃ w,Nm beh w ((S.drop (S.length - i)).map Prod.fst) /\ (i = S.length->NmE l u w) /\ bV [("signs",kE S),("behind",.str beh),("loose",.bool l),("unit",.bool u),("written",.str w)] st.ρ) (fun i hi st hI=>?_) (fun st hI=>?_) ⟨[],?_,fun q=>absurd q (by omega),by (show _ = _; first | kernel_rfl! | (rw [<- Nat.add_assoc]; kernel_rfl!) | (rw [<- Nat.add_assoc,<- Nat.add_assoc]; kernel_rfl!))⟩) ?_
 ·obtain ⟨ρ,σ⟩:=st
  obtain ⟨w,g1,_,g3⟩:=hI
  rw [hlen] at hi
  refine ⟨_,rfl,?_⟩
  have hj:S.length - 1 - i < S.length:=by omega
  have hcS:=hS _ (List.getElem_mem hj)
  have hdl:((S.drop (S.length - i)).map Prod.fst).length <= 4:=by rw [List.length_map,List.length_drop]; omega
  have hwl:w.length <= 36:=Nat.le_trans g1.len (Nat.mul_le_mul_left 9 hdl)
  rw [lT hi,List.map_cons]
  have hgS:(S.map fun e=>PV.tup [.str [e.1],.int e.2])[S.length - 1 - i]? = some (.tup [.str [S[S.length - 1 - i].1],.int S[S.length - 1 - i].2]):=by rw [List.getElem?_map,List.getElem?_eq_getElem hj]; rfl
  generalize (S.drop (S.length - i)).map Prod.fst = v at g1 hdl
  generalize S[S.length - 1 - i] = e at hcS hgS
  obtain ⟨c,way⟩:=e
  have hcS:c ∈ signsL:=hcS
  have hij:(0:Int) + ((i:Nat):Int) = i:=Int.zero_add _
  rw [List.getElem_map,List.getElem_range,hij]
  rw [show ρ = bA _ ρ from aV _ g3]
  clear g3
  refine aA (bZ M (.str [c]) (.int way) (fH (n:=S.length - 1 - i) M rfl aG (by
   rw [show ((S.length - 1 - i:Nat):Int) = (S.length:Int) - 1 - i by omega]
   exact gN M (gN (j:=1) M (hml ▸ fJ M (by kernel_rfl!) rfl rfl (by kernel_rfl) aG) (aC rfl)) aG) hgS) (by kernel_rfl) (by kernel_rfl) ?_)
  obtain ⟨b0,hb0⟩:∃ b0,b0 = (decide (c ∈ ([45,48,49,50,51,52,53,54,55,56,57]:List Nat)) || aU c):=⟨_,rfl⟩
  have hp0:b0 = true->_:=fun h=>v0 c hcS (hb0 ▸ h)
  refine aA (aE M (.bool b0) (by
   rw [hb0,<- mX]
   exact i8 M (qF M aG (aC rfl)) fun _=>i8 M (qF M aG (oB (by kernel_rfl!) rfl)) fun _=>eB (m7 M (by kernel_rfl!) rfl rfl (by kernel_rfl) aG)) (by kernel_rfl) ?_)
  clear hb0 hgS
  let R:St->Prop:=fun st=>∃ b,(b = true->b0 = true) /\ (i + 1 = S.length->l = false->b = (b0 && (d9 ([c] ++ w) && !(u && decide (c ∈ ([101,69]:List Nat)))))) /\ bV [("signs",kE S),("behind",.str beh),("loose",.bool l),("unit",.bool u),("written",.str w),("sign",.str [c]),("way",.int way),("plain",.bool b)] st.ρ
  refine b8 M R (bS M (decide (i = S.length - 1) && !l) (dU M (bE M (j9 (a:=i) (b:=S.length - 1) M aG (by
   rw [show ((S.length - 1:Nat):Int) = (S.length:Int) - 1 by omega]
   exact gN (j:=1) M (hml ▸ fJ M (by kernel_rfl!) rfl rfl (by kernel_rfl) aG) (aC rfl)))) fun _=>dZ (jW M (bE M aG))) (fun q=>?_) (fun q=>?_)) ?_
  ·refine aA (aE M (.bool (b0 && (d9 ([c] ++ w) && !(u && decide (c ∈ ([101,69]:List Nat)))))) (gC M aG fun _=>gC M (bX (F:=iQ) M (by kernel_rfl!) rfl (aB M (v:=.str ([c] ++ w)) (b6 M aG aG (by show 1 + w.length <= aO; unfold aO; omega)) aD) ⟨[c] ++ w,rfl,.inl rfl,rfl⟩) fun _=>eB (zap M (gC M aG fun _=>eB (qF M aG (aC rfl))))) (by kernel_rfl) ?_)
   exact ⟨_,fun h=>(Bool.and_eq_true_iff.mp h).1,fun _ _=>rfl,by (show _ = _; first | kernel_rfl! | (rw [<- Nat.add_assoc]; kernel_rfl!) | (rw [<- Nat.add_assoc,<- Nat.add_assoc]; kernel_rfl!))⟩
  ·refine ⟨b0,id,fun h1 h2=>?_,by (show _ = _; first | kernel_rfl! | (rw [<- Nat.add_assoc]; kernel_rfl!) | (rw [<- Nat.add_assoc,<- Nat.add_assoc]; kernel_rfl!))⟩
   rw [decide_eq_true (show i = S.length - 1 by omega),h2] at q; cases q
  ·rintro ⟨ρ1,σ1⟩ ⟨b,k1,k2,k3⟩
   refine b7 k3 ?_
   clear k3 R
   refine aA (rM (c:=c) (way:=way) (b:=b) (beh:=w ++ beh) (y:=w) M (by kernel_rfl!) rfl (aB M aG (aB M aG (aB M aG (aB M (b6 M aG aG (by unfold aO; omega)) aD)))) aG (by kernel_rfl) hcS (fun h=>(hp0 (k1 h)).2) (by omega) fun z hz=>?_)
   refine ⟨z ++ w,g1.step hz fun h=>(hp0 (k1 h)).1,fun h=>zbU hz (k2 h) fun h=>(hp0 (k1 h)).1,by (show _ = _; first | kernel_rfl! | (rw [<- Nat.add_assoc]; kernel_rfl!) | (rw [<- Nat.add_assoc,<- Nat.add_assoc]; kernel_rfl!))⟩
 ·rw [hlen] at hI
  obtain ⟨ρ,σ⟩:=st
  obtain ⟨w,g1,g2,g3⟩:=hI
  rw [Nat.sub_self,List.drop_zero] at g1
  refine ⟨w,g1,g2 rfl,?_⟩
  show bV _ ρ
  rw [show ρ = bA _ ρ from aV _ g3]
  (show _ = _; first | kernel_rfl! | (rw [<- Nat.add_assoc]; kernel_rfl!) | (rw [<- Nat.add_assoc,<- Nat.add_assoc]; kernel_rfl!))
 ·rw [Nat.sub_zero,List.drop_length]
  exact Nm.nil hst
 ·refine fun st=>x1 fun w=>a3 fun g1 g2 h1=>b7 h1 ?_
  exact aA (aP M (.str w) aG ⟨_,aW _ _ rfl,hK w g1 g2⟩)
noncomputable def vG:Fn:=fun ps K=>∃ (S:List (Nat × Int)) (beh:List Nat) (l u:Bool),ps = [kE S,.str beh,.bool l,.bool u] /\ (∀ e ∈ S,e.1 ∈ signsL) /\ 1 <= S.length /\ S.length <= 4 /\ zeX beh /\ beh.length <= 10000 /\ ∀ w,Nm beh w (S.map Prod.fst)->NmE l u w->K (.str w)
theorem tH:bD vG:=fun _ _ _ h=>e4 fun _ _ _ _=>c6 fun k w t s=>h _ (k w t s)
theorem wO (hB:BsOk (bs w.params h mb)) (hmb:HMb mb):Meets prog w (bs w.params h mb) 3 (.ref 761) vG:=by
 have hC:CtxOk prog w (bs w.params h mb) cNm 2:=dX hmb zdx (by simp) (fun e he=>by
  simp only [List.mem_singleton] at he; subst he
  exact lG hB) (fun e he=>by
  simp only [List.mem_cons,List.not_mem_nil,or_false] at he
  rcases he with rfl | rfl
  ·exact ⟨.ref 740,by kernel_rfl,lF hB hmb⟩
  ·exact ⟨.ref 754,by kernel_rfl,lE hB hmb⟩) (by simp) (by simp)
 refine aY (k:=4) (params:=["signs", "behind", "loose", "unit"]) (dv:=[]) (dp:=[]) hB hC (by kernel_rfl) (by kernel_rfl) (by kernel_rfl) rfl (fun _=>.nil) (fun S vals hl=>?_) fun ps K=>x4 fun S beh l u=>a7 fun h1 h2 h3 h4 h5 h6 h7=>?_
 ·obtain ⟨a,b,c,d,rfl⟩:=zda hl
  kernel_rfl
 ·subst h1
  exact ⟨rfl,zC _ S beh l u K h2 h3 h4 h5 h6 h7⟩
noncomputable def cSa:Ctx:=mkC [("_law_LINE_ENDS",fT (nH oC)),("_law_BLANKS",fT (nH cZ)),("_law_ADDRESSES",fT (nH jU)),("_law_spell",iP)] [] false [] []
theorem zdw:∀ e ∈ ([("_law_LINE_ENDS",fT (nH oC)),("_law_BLANKS",fT (nH cZ)),("_law_ADDRESSES",fT (nH jU)),("_law_spell",iP)]:List (String × Fn)),bD e.2:=by simp [eF,kA]
theorem uX:CtxMono cSa:=bP zdw (by simp)
theorem y1:∀ c ∈ signsL,∀ q,(!decide (c ∈ [q] ++ ([92,10,13,12]:List Nat))) = true->c ≠ q /\ c ≠ 92 /\ xI c /\ c ≠ 0:=fun c hc q h=>by
 have h:c ∉ [q] ++ ([92,10,13,12]:List Nat):=fun z=>by rw [decide_eq_true z] at h; cases h
 exact ⟨fun z=>h (by rw [z]; exact .head _),fun z=>h (by rw [z]; exact List.mem_append_right [q] (by decide)),⟨fun z=>h (by rw [z]; exact List.mem_append_right [q] (by decide)),fun z=>h (by rw [z]; exact List.mem_append_right [q] (by decide)),fun z=>h (by rw [z]; exact List.mem_append_right [q] (by decide))⟩,(kY c hc).1⟩
theorem y0:∀ c ∈ signsL,(!decide (c ∈ ([32,34,39,40,41,92]:List Nat)) && (decide (31 < c) && !decide (c = 127))) = true->(c ≠ 41 /\ a0 c = false /\ c ≠ 92 /\ zeU c = false /\ c ≠ 0 /\ c ≠ 13 /\ c ≠ 12) /\ xI c:=by
 intro c hc
 have:∀ c ∈ signsL,(!decide (c ∈ ([32,34,39,40,41,92]:List Nat)) && (decide (31 < c) && !decide (c = 127))) = true->(c ≠ 41 /\ a0 c = false /\ c ≠ 92 /\ zeU c = false /\ c ≠ 0 /\ c ≠ 13 /\ c ≠ 12) /\ (c ≠ 10 /\ c ≠ 13 /\ c ≠ 12):=by decide +kernel
 exact this c hc
theorem rG (p:Params) (S:List (Nat × Int)) (beh:List Nat) (q:Nat) (K:PV->Prop) (hS:∀ e ∈ S,e.1 ∈ signsL) (h4:S.length <= 4) (hq:q = 34 \/ q = 39) (hbl:beh.length <= 10000) (hK:∀ w,Sr q beh w (S.map Prod.fst)->K (.str (q :: w))):
  wSs cSa (eA (aL (HK p) 768)) (bC (HK p) 768) (jY K) ⟨bA [("signs",kE S),("quote",.str [q]),("behind",.str beh)] (fun _=>none),fun _=>none⟩:=by
 have M:=uX
 apply nfe
 case h=>
  show ?nl1 = ?nr1
  refine (?f:∀ _:(?nl1 = ?nr1),(?nl1 = ?nr1)) ?d
  case d=>conv=>lhs; whnf; dsimp only [cH,erS,erE,bR,erO]
  case f=>exact fun _=>by kernel_rfl!
 have hml:(S.map fun e=>PV.tup [.str [e.1],.int e.2]).length = S.length:=List.length_map _
 refine aA (aE M (.str [q]) aG (by kernel_rfl) ?_)
 have hlen:((List.range ((S.length:Int) - 0).toNat).map fun (k:Nat)=>PV.int (0 + k)).length = S.length:=by rw [List.length_map,List.length_range,Int.sub_zero,Int.toNat_natCast]
 refine b8 M (fun st=>∃ w,Sr q beh w (S.map Prod.fst) /\ bV [("written",.str w),("quote",.str [q])] st.ρ)
  (mF M (.rng 0 S.length) _ rfl (by rw [hlen]; exact Nat.le_trans h4 (by decide)) (by kernel_rfl) (iN M (by kernel_rfl!) rfl rfl (by kernel_rfl) (aB M (v:=.int S.length) (hml ▸ fJ M (by kernel_rfl!) rfl rfl (by kernel_rfl) aG) aD) (of_eq (B:=(0:Int) <= 0 /\ (0:Int) <= 16777216 /\ 0 <= (S.length:Int) /\ (S.length:Int) <= 16777216 /\ PV.rng 0 S.length = .rng 0 S.length) (by kernel_rfl) ⟨Int.le_refl 0,by decide,Int.natCast_nonneg _,Int.ofNat_le.mpr (Nat.le_trans h4 (by decide)),rfl⟩))
   (fun i st=>∃ w,Sr q beh w ((S.drop (S.length - i)).map Prod.fst) /\ bV [("signs",kE S),("behind",.str beh),("quote",.str [q]),("written",.str w)] st.ρ) (fun i hi st hI=>?_) (fun st hI=>?_) ⟨[q],?_,by (show _ = _; first | kernel_rfl! | (rw [<- Nat.add_assoc]; kernel_rfl!) | (rw [<- Nat.add_assoc,<- Nat.add_assoc]; kernel_rfl!))⟩) ?_
 ·obtain ⟨ρ,σ⟩:=st
  obtain ⟨w,g1,g3⟩:=hI
  rw [hlen] at hi
  refine ⟨_,rfl,?_⟩
  have hj:S.length - 1 - i < S.length:=by omega
  have hcS:=hS _ (List.getElem_mem hj)
  have hdl:((S.drop (S.length - i)).map Prod.fst).length <= 4:=by rw [List.length_map,List.length_drop]; omega
  have hwl:w.length <= 49:=Nat.le_trans g1.len (Nat.succ_le_succ (Nat.mul_le_mul_left 12 hdl))
  rw [lT hi,List.map_cons]
  have hgS:(S.map fun e=>PV.tup [.str [e.1],.int e.2])[S.length - 1 - i]? = some (.tup [.str [S[S.length - 1 - i].1],.int S[S.length - 1 - i].2]):=by rw [List.getElem?_map,List.getElem?_eq_getElem hj]; rfl
  generalize (S.drop (S.length - i)).map Prod.fst = v at g1 hdl
  generalize S[S.length - 1 - i] = e at hcS hgS
  obtain ⟨c,way⟩:=e
  have hcS:c ∈ signsL:=hcS
  have hij:(0:Int) + ((i:Nat):Int) = i:=Int.zero_add _
  rw [List.getElem_map,List.getElem_range,hij]
  rw [show ρ = bA _ ρ from aV _ g3]
  clear g3
  refine aA (bZ M (.str [c]) (.int way) (fH (n:=S.length - 1 - i) M rfl aG (by
   rw [show ((S.length - 1 - i:Nat):Int) = (S.length:Int) - 1 - i by omega]
   exact gN M (gN (j:=1) M (hml ▸ fJ M (by kernel_rfl!) rfl rfl (by kernel_rfl) aG) (aC rfl)) aG) hgS) (by kernel_rfl) (by kernel_rfl) ?_)
  clear hgS
  have hp:=y1 c hcS q
  refine aA (rM (c:=c) (way:=way) (b:=!decide (c ∈ [q] ++ ([92,10,13,12]:List Nat))) (beh:=w ++ beh) (y:=w) M (by kernel_rfl!) rfl (aB M aG (aB M aG (aB M (sL M aG (b6 M aG (aC rfl) (by show 1 + 4 <= aO; decide))) (aB M (b6 M aG aG (by unfold aO; omega)) aD)))) aG (by kernel_rfl) hcS (fun h=>(hp h).2.2.1) (by omega) fun z hz=>?_)
  have hzl:=hz.len
  refine aA (bS M (decide (nm way 3 = 0)) (bE M (j9 (a:=nm way 3) (b:=0) M (jQ 3 (by decide) M aG) (aC rfl))) (fun h=>?_) (fun h=>?_))
  ·obtain ⟨z0,hz0⟩:∃ z0,oC[nm (way / 5) 4]? = some z0:=⟨_,List.getElem?_eq_getElem (l:=oC) (lB (way / 5) (show 0 < 4 by decide))⟩
   have hzm:=List.mem_of_getElem? hz0
   have hz2:z0.length <= 2:=(show ∀ z ∈ oC,z.length <= 2 by decide) z0 hzm
   refine aA (aE M (.str ([92] ++ z0 ++ (z ++ w))) (b6 M (b6 M (aC rfl) (jP (X:=oC) (n:=nm (way / 5) 4) M rfl (j8 M (by kernel_rfl!) rfl) (jQ 4 (by decide) M (iE (j:=5) M aG (aC rfl) (by decide) (by decide))) hz0) (by show 1 + z0.length <= aO; unfold aO; omega)) aG (by simp only [List.length_append]; show 1 + z0.length + (z.length + w.length) <= aO; unfold aO; omega)) (by kernel_rfl) ?_)
   exact ⟨_,g1.cont hz hp hzm,by (show _ = _; first | kernel_rfl! | (rw [<- Nat.add_assoc]; kernel_rfl!) | (rw [<- Nat.add_assoc,<- Nat.add_assoc]; kernel_rfl!))⟩
  ·exact ⟨_,g1.more hz hp,by (show _ = _; first | kernel_rfl! | (rw [<- Nat.add_assoc]; kernel_rfl!) | (rw [<- Nat.add_assoc,<- Nat.add_assoc]; kernel_rfl!))⟩
 ·rw [hlen] at hI
  obtain ⟨ρ,σ⟩:=st
  obtain ⟨w,g1,g3⟩:=hI
  rw [Nat.sub_self,List.drop_zero] at g1
  refine ⟨w,g1,?_⟩
  show bV _ ρ
  rw [show ρ = bA _ ρ from aV _ g3]
  (show _ = _; first | kernel_rfl! | (rw [<- Nat.add_assoc]; kernel_rfl!) | (rw [<- Nat.add_assoc,<- Nat.add_assoc]; kernel_rfl!))
 ·rw [Nat.sub_zero,List.drop_length]
  exact Sr.nil hq
 ·refine fun st=>x1 fun w=>a2 fun g1 h1=>b7 h1 ?_
  have hl:=g1.len
  rw [List.length_map] at hl
  exact aA (aP M (.str ([q] ++ w)) (b6 M aG aG (by show 1 + w.length <= aO; unfold aO; omega)) ⟨_,aW _ _ rfl,hK w g1⟩)
theorem qQ (p:Params) (S:List (Nat × Int)) (beh:List Nat) (x:Int) (K:PV->Prop) (hS:∀ e ∈ S,e.1 ∈ signsL) (h4:S.length <= 4) (hbl:beh.length <= 10000) (hK:∀ A ∈ jU,∀ B ∈ cZ,∀ w,Ad beh w (S.map Prod.fst)->K (.str (A ++ (B ++ w)))):
  wSs cSa (eA (aL (HK p) 775)) (bC (HK p) 775) (jY K) ⟨bA [("signs",kE S),("extra",.int x),("behind",.str beh)] (fun _=>none),fun _=>none⟩:=by
 have M:=uX
 apply nfe
 case h=>
  show ?nl2 = ?nr2
  refine (?f:∀ _:(?nl2 = ?nr2),(?nl2 = ?nr2)) ?d
  case d=>conv=>lhs; whnf; dsimp only [cH,erS,erE,bR,erO]
  case f=>exact fun _=>by kernel_rfl!
 have hml:(S.map fun e=>PV.tup [.str [e.1],.int e.2]).length = S.length:=List.length_map _
 have bl:∀ n < 4,∃ B,cZ[n]? = some B /\ B ∈ cZ /\ B.length <= 3:=fun n h=>by
  have hg:=List.getElem?_eq_getElem (l:=cZ) h
  exact ⟨_,hg,List.mem_of_getElem? hg,(show ∀ z ∈ cZ,z.length <= 3 by decide) _ (List.mem_of_getElem? hg)⟩
 obtain ⟨B0,e0,m0,l0⟩:=bl _ (lB x (show 0 < 4 by decide))
 refine aA (aE M (.str (B0 ++ [41])) (b6 M (jP (X:=cZ) (n:=nm x 4) M rfl (j8 M (by kernel_rfl!) rfl) (jQ 4 (by decide) M aG) e0) (aC rfl) (by show B0.length + 1 <= aO; unfold aO; omega)) (by kernel_rfl) ?_)
 have hlen:((List.range ((S.length:Int) - 0).toNat).map fun (k:Nat)=>PV.int (0 + k)).length = S.length:=by rw [List.length_map,List.length_range,Int.sub_zero,Int.toNat_natCast]
 refine b8 M (fun st=>∃ w,Ad beh w (S.map Prod.fst) /\ bV [("written",.str w),("extra",.int x)] st.ρ)
  (mF M (.rng 0 S.length) _ rfl (by rw [hlen]; exact Nat.le_trans h4 (by decide)) (by kernel_rfl) (iN M (by kernel_rfl!) rfl rfl (by kernel_rfl) (aB M (v:=.int S.length) (hml ▸ fJ M (by kernel_rfl!) rfl rfl (by kernel_rfl) aG) aD) (of_eq (B:=(0:Int) <= 0 /\ (0:Int) <= 16777216 /\ 0 <= (S.length:Int) /\ (S.length:Int) <= 16777216 /\ PV.rng 0 S.length = .rng 0 S.length) (by kernel_rfl) ⟨Int.le_refl 0,by decide,Int.natCast_nonneg _,Int.ofNat_le.mpr (Nat.le_trans h4 (by decide)),rfl⟩))
   (fun i st=>∃ w,Ad beh w ((S.drop (S.length - i)).map Prod.fst) /\ bV [("signs",kE S),("behind",.str beh),("extra",.int x),("written",.str w)] st.ρ) (fun i hi st hI=>?_) (fun st hI=>?_) ⟨B0 ++ [41],?_,by (show _ = _; first | kernel_rfl! | (rw [<- Nat.add_assoc]; kernel_rfl!) | (rw [<- Nat.add_assoc,<- Nat.add_assoc]; kernel_rfl!))⟩) ?_
 ·obtain ⟨ρ,σ⟩:=st
  obtain ⟨w,g1,g3⟩:=hI
  rw [hlen] at hi
  refine ⟨_,rfl,?_⟩
  have hj:S.length - 1 - i < S.length:=by omega
  have hcS:=hS _ (List.getElem_mem hj)
  have hdl:((S.drop (S.length - i)).map Prod.fst).length <= 4:=by rw [List.length_map,List.length_drop]; omega
  have hwl:w.length <= 40:=Nat.le_trans g1.len (Nat.add_le_add_right (Nat.mul_le_mul_left 9 hdl) 4)
  rw [lT hi,List.map_cons]
  have hgS:(S.map fun e=>PV.tup [.str [e.1],.int e.2])[S.length - 1 - i]? = some (.tup [.str [S[S.length - 1 - i].1],.int S[S.length - 1 - i].2]):=by rw [List.getElem?_map,List.getElem?_eq_getElem hj]; rfl
  generalize (S.drop (S.length - i)).map Prod.fst = v at g1 hdl
  generalize S[S.length - 1 - i] = e at hcS hgS
  obtain ⟨c,way⟩:=e
  have hcS:c ∈ signsL:=hcS
  have hij:(0:Int) + ((i:Nat):Int) = i:=Int.zero_add _
  rw [List.getElem_map,List.getElem_range,hij]
  rw [show ρ = bA _ ρ from aV _ g3]
  clear g3
  refine aA (bZ M (.str [c]) (.int way) (fH (n:=S.length - 1 - i) M rfl aG (by
   rw [show ((S.length - 1 - i:Nat):Int) = (S.length:Int) - 1 - i by omega]
   exact gN M (gN (j:=1) M (hml ▸ fJ M (by kernel_rfl!) rfl rfl (by kernel_rfl) aG) (aC rfl)) aG) hgS) (by kernel_rfl) (by kernel_rfl) ?_)
  clear hgS
  have hp:=y0 c hcS
  refine aA (aE M (.bool (!decide (c ∈ ([32,34,39,40,41,92]:List Nat)) && (decide (31 < c) && !decide (c = 127)))) (gC M (sL M aG (aC rfl)) fun _=>gC M (m7 M (by kernel_rfl!) rfl rfl (by kernel_rfl) aG) fun _=>eB (bL (a:=.int c) (b:=.int 127) M (uO M (by kernel_rfl!) rfl rfl (by kernel_rfl) aG) (aC rfl) (congrArg (fun b=>!b) (decide_eq_decide.mpr (Int.ofNat_inj (m:=c) (n:=127)))))) (by kernel_rfl) ?_)
  refine aA (rM (c:=c) (way:=way) (b:=_) (beh:=w ++ beh) (y:=w) M (by kernel_rfl!) rfl (aB M aG (aB M aG (aB M (v:=.bool (!decide (c ∈ ([32,34,39,40,41,92]:List Nat)) && (decide (31 < c) && !decide (c = 127)))) aG (aB M (b6 M aG aG (by unfold aO; omega)) aD)))) aG (by kernel_rfl) hcS (fun h=>(hp h).2) (by omega) fun z hz=>?_)
  exact ⟨_,g1.step hz fun h=>(hp h).1,by (show _ = _; first | kernel_rfl! | (rw [<- Nat.add_assoc]; kernel_rfl!) | (rw [<- Nat.add_assoc,<- Nat.add_assoc]; kernel_rfl!))⟩
 ·rw [hlen] at hI
  obtain ⟨ρ,σ⟩:=st
  obtain ⟨w,g1,g3⟩:=hI
  rw [Nat.sub_self,List.drop_zero] at g1
  refine ⟨w,g1,?_⟩
  show bV _ ρ
  rw [show ρ = bA _ ρ from aV _ g3]
  (show _ = _; first | kernel_rfl! | (rw [<- Nat.add_assoc]; kernel_rfl!) | (rw [<- Nat.add_assoc,<- Nat.add_assoc]; kernel_rfl!))
 ·rw [Nat.sub_zero,List.drop_length]
  exact Ad.nil m0
 ·refine fun st=>x1 fun w=>a2 fun g1 h1=>b7 h1 ?_
  have hl:=g1.len
  rw [List.length_map] at hl
  obtain ⟨B,e1,m1,l1⟩:=bl _ (lB (x / 16) (show 0 < 4 by decide))
  have hgA:=List.getElem?_eq_getElem (l:=jU) (lB (x / 4) (show 0 < 4 by decide))
  obtain ⟨A,hA⟩:∃ A,jU[nm (x / 4) 4]? = some A:=⟨_,hgA⟩
  have mA:=List.mem_of_getElem? hA
  have lA:=(zaU A mA).2.2.1
  refine aA (aP M (.str (A ++ B ++ w)) (b6 M (b6 M (jP (X:=jU) (n:=nm (x / 4) 4) M rfl (j8 M (by kernel_rfl!) rfl) (jQ 4 (by decide) M (iE (j:=4) M aG (aC rfl) (by decide) (by decide))) hA) (jP (X:=cZ) (n:=nm (x / 16) 4) M rfl (j8 M (by kernel_rfl!) rfl) (jQ 4 (by decide) M (iE (j:=16) M aG (aC rfl) (by decide) (by decide))) e1) (by unfold aO; omega)) aG (by rw [List.length_append]; unfold aO; omega)) ⟨_,aW _ _ rfl,?_⟩)
  rw [List.append_assoc]
  exact hK A mA B m1 w g1
noncomputable def kS:Fn:=fun ps K=>∃ (S:List (Nat × Int)) (q:Nat) (beh:List Nat),ps = [kE S,.str [q],.str beh] /\ (∀ e ∈ S,e.1 ∈ signsL) /\ S.length <= 4 /\ (q = 34 \/ q = 39) /\ beh.length <= 10000 /\ ∀ w,Sr q beh w (S.map Prod.fst)->K (.str (q :: w))
theorem oU:bD kS:=fun _ _ _ h=>e3 fun _ _ _=>c5 fun k w t=>h _ (k w t)
noncomputable def jF:Fn:=fun ps K=>∃ (S:List (Nat × Int)) (x:Int) (beh:List Nat),ps = [kE S,.int x,.str beh] /\ (∀ e ∈ S,e.1 ∈ signsL) /\ S.length <= 4 /\ beh.length <= 10000 /\ ∀ A ∈ jU,∀ B ∈ cZ,∀ w,Ad beh w (S.map Prod.fst)->K (.str (A ++ (B ++ w)))
theorem mK:bD jF:=fun _ _ _ h=>e3 fun _ _ _=>c4 fun k A hA B hB w t=>h _ (k A hA B hB w t)
section
theorem zdv (hB:BsOk (bs w.params h mb)) (hmb:HMb mb):CtxOk prog w (bs w.params h mb) cSa 2:=dX hmb zdw (by simp) (by simp) (fun e he=>by
  simp only [List.mem_cons,List.not_mem_nil,or_false] at he
  rcases he with rfl | rfl | rfl | rfl
  ·exact ⟨.ref 698,by kernel_rfl,(wR hB hmb).le (by decide)⟩
  ·exact ⟨.ref 705,by kernel_rfl,(pR hB hmb).le (by decide)⟩
  ·exact ⟨.ref 712,by kernel_rfl,(sD hB hmb).le (by decide)⟩
  ·exact ⟨.ref 754,by kernel_rfl,lE hB hmb⟩) (by simp) (by simp)
theorem pO (hB:BsOk (bs w.params h mb)) (hmb:HMb mb):Meets prog w (bs w.params h mb) 3 (.ref 768) kS:=by
 refine aY (k:=3) (params:=["signs", "quote", "behind"]) (dv:=[]) (dp:=[]) hB (zdv hB hmb) (by kernel_rfl) (by kernel_rfl) (by kernel_rfl) rfl (fun _=>.nil) (fun S vals hl=>?_) fun ps K=>x3 fun S q beh=>a6 fun h1 h2 h3 h4 h5 h6=>?_
 ·obtain ⟨a,b,c,rfl⟩:=iU hl
  kernel_rfl
 ·subst h1
  exact ⟨rfl,rG _ S beh q K h2 h3 h4 h5 h6⟩
theorem nU (hB:BsOk (bs w.params h mb)) (hmb:HMb mb):Meets prog w (bs w.params h mb) 3 (.ref 775) jF:=by
 refine aY (k:=3) (params:=["signs", "extra", "behind"]) (dv:=[]) (dp:=[]) hB (zdv hB hmb) (by kernel_rfl) (by kernel_rfl) (by kernel_rfl) rfl (fun _=>.nil) (fun S vals hl=>?_) fun ps K=>x3 fun S x beh=>a5 fun h1 h2 h3 h4 h5=>?_
 ·obtain ⟨a,b,c,rfl⟩:=iU hl
  kernel_rfl
 ·subst h1
  exact ⟨rfl,qQ _ S beh x K h2 h3 h4 h5⟩
end
section
variable {C:Ctx} {κ:Kn} {st:St}
theorem zc3 {x:Str} {es:List Expr} {vs:List PV} {F:Fn} {e:Expr} {v:PV} {p q p2 p3:Pos} {k:Nat} {Q:Fl->St->Prop} (M:CtxMono C) (hk:κ x = some .globalImplicit) (hf:C.fn x = some F) (hs:evs C κ es st vs) (he:ev C κ e st v)
  (h:F (vs.map (der st.σ)) fun r=>(vs.any lK = false \/ fX r = true) /\ Q (.ret (.tup [r,v])) st):wS C κ (.Return (some (.Tuple [.Call (.Name x q) es [] p,e] k p2)) p3) Q st:=by
 show wE C (.Tuple [.Call (.Name x q) es [] p,e] k p2) κ (fun v st1=>Q (.ret v) st1) st
 rw [zfe,iS]
 refine xM M hk hf hs (M.1 x F hf _ _ _ (fun r ⟨a,b⟩=>⟨a,?_⟩) h)
 rw [iS]
 refine aX M he ?_
 rw [jG]
 exact b
theorem s_nd {x y:Str} {es:List Expr} {vs:List PV} {F:Fn} {p q p2 p3:Pos} {Q:Fl->St->Prop} (M:CtxMono C) (hk:κ x = some .globalImplicit) (hf:C.fn x = some F) (hs:evs C κ es st vs) (hy:dB κ y = true)
  (h:F (vs.map (der st.σ)) fun r=>(vs.any lK = false \/ fX r = true) /\ Q .next ⟨upd st.ρ y r,st.σ⟩):wS C κ (.Assign [.Name y p3] (.Call (.Name x q) es [] p) p2) Q st:=
 xM (p:=p) M hk hf hs (M.1 x F hf _ _ _ (fun r ⟨a,b⟩=>⟨a,bN (bN hy rfl) rfl,b⟩) h)
end
noncomputable def zgu:List (String × Fn):=[("_law_NUMBERS",fT zd5),("_law_string",kS),("_law_address",jF),("_law_name",vG),("_law_lower",oV),("_law_opens",iQ)]
noncomputable def cTk:Ctx:=mkC zgu [] false [] []
theorem zdu:∀ e ∈ zgu,bD e.2:=by simp [zgu,eF,oU,mK,tH,qW,kB]
theorem zcx:CtxMono cTk:=bP zdu (by simp)
theorem eZ {w:List Nat} {t:Tk}:zch (.tup [.str w,b9 t]) = true:=by
 show (true && (zch (b9 t) && true)) = true
 rw [(jJ t).1]; rfl
theorem vK (p:Params) (n:Int) (S:List (Nat × Int)) (beh:List Nat) (K:PV->Prop) (hS:∀ e ∈ S,e.1 ∈ signsL) (h1:1 <= S.length) (h4:S.length <= 4) (hb:Beh beh) (hbl:beh.length <= 9000) (hK:∀ w t,TokT beh w t->Nb w beh->K (.tup [.str w,b9 t])):
  wSs cTk (eA (aL (HK p) 782)) (bC (HK p) 782) (jY K) ⟨bA [("n",.int n),("signs",kE S),("behind",.str beh)] (fun _=>none),fun _=>none⟩:=by
 have M:=zcx
 apply nfe
 case h=>
  show ?nl1 = ?nr1
  refine (?f:∀ _:(?nl1 = ?nr1),(?nl1 = ?nr1)) ?d
  case d=>conv=>lhs; whnf; dsimp only [cH,erS,erE,bR,erO]
  case f=>exact fun _=>by kernel_rfl!
 have hml:(S.map fun e=>PV.tup [.str [e.1],.int e.2]).length = S.length:=List.length_map _
 refine aA (aE M (.int (nm n 7)) (jQ 7 (by decide) M aG) (by kernel_rfl) ?_)
 refine aA (aE M (.int (n / 28)) (iE (j:=28) M aG (aC rfl) (by decide) (by decide)) (by kernel_rfl) ?_)
 refine aA (aE M (.str []) (aC rfl) (by kernel_rfl) ?_)
 have hk7:=lB n (show 0 < 7 by decide)
 generalize nm n 7 = k at hk7
 generalize n / 28 = x
 refine b8 M (fun st=>bV [("signs",kE S),("behind",.str beh),("kind",.int k),("extra",.int x),("value",.str (S.map Prod.fst))] st.ρ)
  (mF M (kE S) (S.map fun e=>.tup [.str [e.1],.int e.2]) rfl (by rw [hml]; exact Nat.le_trans h4 (by decide)) (by kernel_rfl) aG
   (fun i st=>bV [("signs",kE S),("behind",.str beh),("kind",.int k),("extra",.int x),("value",.str ((S.take i).map Prod.fst))] st.ρ) (fun i hi st hI=>?_) (fun st hI=>?_) (by (show _ = _; first | kernel_rfl! | (rw [<- Nat.add_assoc]; kernel_rfl!) | (rw [<- Nat.add_assoc,<- Nat.add_assoc]; kernel_rfl!)))) ?_
 ·obtain ⟨ρ,σ⟩:=st
  rw [hml] at hi
  have hl:((S.take i).map Prod.fst).length <= 4:=by rw [List.length_map,List.length_take]; exact Nat.le_trans (Nat.min_le_right _ _) h4
  rw [List.getElem_map,List.take_succ_eq_append_getElem hi,List.map_append]
  rw [show ρ = bA _ ρ from aV _ hI]
  clear hI
  generalize (S.take i).map Prod.fst = v at hl
  generalize S[i] = e
  obtain ⟨c,way⟩:=e
  refine ⟨_,rfl,?_⟩
  exact aA (dP M (.str v) (.str [c]) (by kernel_rfl!) aG (by kernel_rfl) (of_eq zc8 ⟨by show v.length + 1 <= aO; unfold aO; omega,(show bV _ _ by (show _ = _; first | kernel_rfl! | (rw [<- Nat.add_assoc]; kernel_rfl!) | (rw [<- Nat.add_assoc,<- Nat.add_assoc]; kernel_rfl!)))⟩))
 ·rw [hml,List.take_length] at hI
  exact hI
 refine fun st hI=>b7 hI ?_
 clear hI hml
 have hvl:(S.map Prod.fst).length <= 4:=by rw [List.length_map]; exact h4
 have hv0:S.map Prod.fst ≠ []:=fun q=>by
  have:=congrArg List.length q
  rw [List.length_map] at this
  rw [this] at h1; cases h1
 have hvS:∀ c ∈ S.map Prod.fst,c ∈ signsL:=fun c hc=>by
  obtain ⟨e,he,q⟩:=List.mem_map.mp hc
  rw [<- q]; exact hS e he
 have ek:∀ {st:St} {p1 p2 p3:Pos} {q:Nat} (m:Nat),st.ρ "kind" = some (.int k)->ev cTk (eA (aL (HK p) 782)) (.Compare (.Name (Str.ofString "kind") p1) [.Eq] [.Constant (.int (m:Int)) q p2] p3) st (.bool (decide (k = m))):=fun m h=>j9 (a:=k) (b:=m) M (aJ (by kernel_rfl!) h) (aC rfl)
 refine aA (bS M (decide (k = 3)) (bE M (ek 3 (by kernel_rfl!))) (fun _=>?_) (fun n3=>?_))
 ·obtain ⟨q,hq⟩:∃ q,q = if decide (nm x 2 = 1) = true then 34 else 39:=⟨_,rfl⟩
  have hq2:q = 34 \/ q = 39:=by rw [hq]; split; exact .inl rfl; exact .inr rfl
  refine aA (zc3 (v:=b9 (.str (S.map Prod.fst))) (F:=kS) M (by kernel_rfl!) rfl (aB M (v:=kE S) aG (aB M (v:=.str [q]) (dM (c:=decide (nm x 2 = 1)) M (bE M (j9 (a:=nm x 2) (b:=1) M (jQ 2 (by decide) M aG) (aC rfl))) (fun z=>?_) (fun z=>?_)) (aB M (v:=.str beh) aG aD))) (aT M (aB M (aC rfl) (aB M aG (aB M (aC rfl) aD)))) ⟨S,q,beh,rfl,hS,h4,hq2,Nat.le_trans hbl (by decide),fun w hw=>⟨.inl rfl,_,aW _ _ (eZ (t:=.str (S.map Prod.fst))),?_⟩⟩)
  ·rw [hq,if_pos z]; exact aC rfl
  ·rw [hq,if_neg (by rw [z]; decide)]; exact aC rfl
  ·obtain ⟨t1,t2⟩:=zdK hq2 hw hvl
   exact hK _ _ t1 t2
 refine aA (bS M (decide (k = 4)) (bE M (ek 4 (by kernel_rfl!))) (fun _=>?_) (fun n4=>?_))
 ·refine aA (zc3 (v:=b9 (.url (S.map Prod.fst))) (F:=jF) M (by kernel_rfl!) rfl (aB M (v:=kE S) aG (aB M (v:=.int x) aG (aB M (v:=.str beh) aG aD))) (aT M (aB M (aC rfl) (aB M aG (aB M (aC rfl) aD)))) ⟨S,x,beh,rfl,hS,h4,Nat.le_trans hbl (by decide),fun A hA B hB w hw=>⟨.inl rfl,_,aW _ _ (eZ (t:=.url (S.map Prod.fst))),?_⟩⟩)
  obtain ⟨t1,t2⟩:=zdJ hA hB hw hvl hv0
  exact hK _ _ t1 t2
 (repeat (first | refine bQ ?_ | dsimp only [c7]))
 obtain ⟨beh',hbe⟩:∃ b,b = if decide (k = 6) = true then [40,41] ++ beh else beh:=⟨_,rfl⟩
 have hst:zeX beh':=by
  rw [hbe]; split
  ·exact zaj beh
  ·exact hb.stop
 have hbl2:beh'.length <= 10000:=by
  rw [hbe]; split
  ·rw [List.length_append]; show 2 + beh.length <= 10000; omega
  ·omega
 refine aA (s_nd (F:=vG) (vs:=[kE S,.str beh',.bool (decide (k = 2)),.bool (decide (k = 5))]) M (by kernel_rfl!) rfl (aB M aG (aB M (dM (c:=decide (k = 6)) M (bE M (ek 6 (by kernel_rfl!))) (fun z=>?_) (fun z=>?_)) (aB M (ek 2 (by kernel_rfl!)) (aB M (ek 5 (by kernel_rfl!)) aD)))) (by kernel_rfl) ⟨S,beh',_,_,rfl,hS,h1,h4,hst,hbl2,fun w hw hE=>⟨.inl rfl,?_⟩⟩)
 ·rw [hbe,if_pos z]
  exact b6 M (aC rfl) aG (by show 2 + beh.length <= aO; unfold aO; omega)
 ·rw [hbe,if_neg (by rw [z]; decide)]; exact aG
 have hwl:w.length <= 36:=Nat.le_trans hw.len (Nat.mul_le_mul_left 9 hvl)
 generalize S.map Prod.fst = v at hvl hv0 hvS hw
 (repeat (first | refine bQ ?_ | dsimp only [c7]))
 refine aA (aE M (.str (v.map cW)) (bX (F:=oV) M (by kernel_rfl!) rfl (aB M (v:=.str v) aG aD) ⟨v,rfl,Nat.le_trans hvl (by decide),.inl rfl,rfl⟩) (by kernel_rfl) ?_)
 have h6:k ≠ 6->beh' = beh:=fun q=>by rw [hbe,if_neg (fun z=>q (of_decide_eq_true z))]
 refine aA (bS M (decide (k = 1)) (bE M (ek 1 (by kernel_rfl!))) (fun z=>?_) (fun n1=>?_))
 ·have z:=of_decide_eq_true z
  rw [h6 (by omega)] at hw
  obtain ⟨t1,t2⟩:=zfp hw hvl (hE (decide_eq_false (by omega))).1 hb
  exact aA (aP M (.tup [.str ([64] ++ w),b9 (.atk v)]) (aT M (aB M (b6 M (aC rfl) aG (by show 1 + w.length <= aO; unfold aO; omega)) (aB M (aT M (aB M (aC rfl) (aB M aG (aB M aG aD)))) aD))) ⟨_,aW _ _ eZ,hK _ _ t1 t2⟩)
 refine aA (bS M (decide (k = 2)) (bE M (ek 2 (by kernel_rfl!))) (fun z=>?_) (fun n2=>?_))
 ·have z:=of_decide_eq_true z
  rw [h6 (by omega)] at hw
  obtain ⟨t1,t2⟩:=zbi hw hvl hv0 hb
  refine aA (aP M (.tup [.str ([35] ++ w),b9 (.hash v (d9 w))]) (aT M (aB M (b6 M (aC rfl) aG (by show 1 + w.length <= aO; unfold aO; omega)) (aB M (aT M (aB M (aC rfl) (aB M aG (aB M (dM (c:=d9 w) M (bE M (bX (F:=iQ) M (by kernel_rfl!) rfl (aB M (v:=.str w) aG aD) ⟨w,rfl,.inl rfl,rfl⟩)) (fun z=>?_) (fun z=>?_)) aD)))) aD))) ⟨_,aW _ _ eZ,hK _ _ t1 t2⟩)
  ·rw [if_pos z]; exact aC rfl
  ·rw [if_neg (by rw [z]; decide)]; exact aC rfl
 have hop:=hE n2
 refine aA (bS M (decide (k = 5)) (bE M (ek 5 (by kernel_rfl!))) (fun z=>?_) (fun n5=>?_))
 ·obtain ⟨e,he⟩:∃ e,numsL[nm x 3]? = some e:=⟨_,List.getElem?_eq_getElem (l:=numsL) (lB x (show 0 < 3 by decide))⟩
  have hm:=List.mem_of_getElem? he
  have hel:e.1.length <= 4:=(show ∀ e ∈ numsL,e.1.length <= 4 by decide) e hm
  have hun:=hop.2 z
  have z:=of_decide_eq_true z
  rw [h6 (by omega)] at hw
  obtain ⟨t1,t2⟩:=zdL hm hw hvl hop.1 hun hb
  refine aA (bZ M (.str e.1) (v2 e.2) (fH (xs:=numsL.map fun e=>.tup [.str e.1,v2 e.2]) (n:=nm x 3) M rfl (j8 M (by kernel_rfl!) rfl) (jQ 3 (by decide) M aG) (by rw [List.getElem?_map,he]; rfl)) (by kernel_rfl) (by kernel_rfl) ?_)
  exact aA (aP M (.tup [.str (e.1 ++ w),b9 (.dim e.2 e.1 v)]) (aT M (aB M (b6 M aG aG (by unfold aO; omega)) (aB M (aT M (aB M (aC rfl) (aB M (aT M (aB M aG (aB M aG (aB M aG aD)))) (aB M aG aD)))) aD))) ⟨_,aW _ _ eZ,hK _ _ t1 t2⟩)
 refine aA (bS M (decide (k = 6)) (bE M (ek 6 (by kernel_rfl!))) (fun z=>?_) (fun n6=>?_))
 ·rw [hbe,if_pos z] at hw
  obtain ⟨t1,t2⟩:=zfo hw hvl hop.1 hvS
  exact aA (aP M (.tup [.str (w ++ [40,41]),b9 (.fn v)]) (aT M (aB M (b6 M aG (aC rfl) (by show w.length + 2 <= aO; unfold aO; omega)) (aB M (aT M (aB M (aC rfl) (aB M (aT M (aB M aG (aB M (aC rfl) aD))) (aB M aG aD)))) aD))) ⟨_,aW _ _ eZ,hK _ _ t1 t2⟩)
 ·rw [h6 (of_decide_eq_false n6)] at hw
  obtain ⟨t1,t2⟩:=xY hw hvl hop.1 hb
  exact aA (aP M (.tup [.str w,b9 (.ident v)]) (aT M (aB M aG (aB M (aT M (aB M (aC rfl) (aB M aG (aB M aG aD)))) aD))) ⟨_,aW _ _ eZ,hK _ _ t1 t2⟩)
noncomputable def oR:Fn:=fun ps K=>∃ (n:Int) (S:List (Nat × Int)) (beh:List Nat),ps = [.int n,kE S,.str beh] /\ (∀ e ∈ S,e.1 ∈ signsL) /\ 1 <= S.length /\ S.length <= 4 /\ Beh beh /\ beh.length <= 9000 /\ ∀ w t,TokT beh w t->Nb w beh->K (.tup [.str w,b9 t])
theorem qS:bD oR:=fun _ _ _ h=>e3 fun _ _ _=>c6 fun k w t a b=>h _ (k w t a b)
theorem rX (hB:BsOk (bs w.params h mb)) (hmb:HMb mb):Meets prog w (bs w.params h mb) 4 (.ref 782) oR:=by
 have hC:CtxOk prog w (bs w.params h mb) cTk 3:=dX hmb zdu (by simp) (by simp) (fun e he=>by
  simp only [zgu,List.mem_cons,List.not_mem_nil,or_false] at he
  rcases he with rfl | rfl | rfl | rfl | rfl | rfl
  ·exact ⟨.ref 719,by kernel_rfl,(wN hB hmb).le (by decide)⟩
  ·exact ⟨.ref 768,by kernel_rfl,(pO hB hmb).le (by decide)⟩
  ·exact ⟨.ref 775,by kernel_rfl,(nU hB hmb).le (by decide)⟩
  ·exact ⟨.ref 761,by kernel_rfl,(wO hB hmb).le (by decide)⟩
  ·exact ⟨.ref 747,by kernel_rfl,(sB hB hmb).le (by decide)⟩
  ·exact ⟨.ref 740,by kernel_rfl,(lF hB hmb).le (by decide)⟩) (by simp) (by simp)
 refine aY (k:=3) (params:=["n", "signs", "behind"]) (dv:=[]) (dp:=[]) hB hC (by kernel_rfl) (by kernel_rfl) (by kernel_rfl) rfl (fun _=>.nil) (fun S vals hl=>?_) fun ps K=>x3 fun n S beh=>a7 fun h1 h2 h3 h4 h5 h6 h7=>?_
 ·obtain ⟨a,b,c,rfl⟩:=iU hl
  kernel_rfl
 ·subst h1
  exact ⟨rfl,vK _ n S beh K h2 h3 h4 h5 h6 h7⟩
section
variable {C:Ctx} {κ:Kn} {st:St}
theorem zde {l r:Expr} {p:Pos} {i j:Int} (M:CtxMono C) (h:ev C κ l st (.int i)) (h':ev C κ r st (.int j)) (hj:Builtin.Int.intBits j <= 64):ev C κ (.BinOp l .Mult r p) st (.int (i * j)):=
 aX (e:=l) M h (aX (e:=r) M h' ⟨hj,rfl,rfl⟩)
theorem nA:∀ k < 100,Builtin.Int.intBits ((k:Nat):Int) <= 64:=by decide +kernel
theorem zew {x:Str} {p q p2:Pos} {a:Nat} {xs:List PV} (M:CtxMono C) (k:κ "len" = some .globalImplicit) (hf:C.fn "len" = none) (hc:C.cls "len" = none) (hb:C.bi "len" = true) (h:ev C κ (.Name x p) st (.ptr a)) (hs:st.σ a = some (.lst xs)):ev C κ (.Call (.Name (Str.ofString "len") q) [.Name x p] [] p2) st (.int xs.length):=
 have e:der st.σ (.ptr a) = .list xs:=by
  unfold der
  dsimp only [pvc]
  rw [hs]; rfl
 iN M k hf hc hb (aB M h aD) (by
  rw [show [PV.ptr a].map (der st.σ) = [der st.σ (.ptr a)] from rfl,e]
  exact of_eq (B:=PV.int (xs.length:Nat) = .int xs.length) (by kernel_rfl) rfl)
end
noncomputable abbrev Tok:=Int × List (Nat × Int)
noncomputable def xZ (t:Tok):PV:=.tup [.int t.1,kE t.2]
noncomputable def zcI (t:Tok):Prop:=(∀ e ∈ t.2,e.1 ∈ signsL) /\ 1 <= t.2.length /\ t.2.length <= 4
theorem pC:∀ S:List (Nat × Int),qD (S.map fun e=>PV.tup [.str [e.1],.int e.2]) = true
 | []=>rfl
 | _ :: S=>pC S
noncomputable def Toks (σ:Nat->Option Cell) (os:List Nat) (a:Nat) (T:List Tok):Prop:=a ∈ os /\ ∃ xs,σ a = some (.lst xs) /\ kP (uH os σ) xs (T.map xZ) /\ (∀ t ∈ T,zcI t)
theorem Toks.len {σ:Nat->Option Cell} {os:List Nat} {T:List Tok} {xs:List PV} (h:kP (uH os σ) xs (T.map xZ)):xs.length = T.length:=by rw [t5 h,List.length_map]
theorem Toks.opn {σ:Nat->Option Cell} {a b:Nat} {T:List Tok} (h:Toks σ [a] a T) (hb:σ b = none) (c:Cell):Toks (aZ σ b c) [a,b] a T:=by
 obtain ⟨_,xs,h1,h2,h3⟩:=h
 have ab:a ≠ b:=fun e=>by rw [<- e,h1] at hb; cases hb
 refine ⟨.head _,xs,by rw [d8 _ ab]; exact h1,eD (fun x d e=>?_) _ h2,h3⟩
 obtain ⟨q1,q2⟩:=lM e
 have xb:x ≠ b:=fun e=>by rw [e,hb] at q2; cases q2
 refine jL (fun m=>?_) (by rw [d8 _ xb]; exact q2)
 rcases List.mem_cons.mp m with e | m
 ·exact q1 (e ▸ .head _)
 ·exact xb (List.mem_singleton.mp m)
theorem Toks.put {σ:Nat->Option Cell} {a b:Nat} {T:List Tok} (h:Toks σ [a,b] a T) (ab:a ≠ b) (c:Cell):Toks (aZ σ b c) [a,b] a T:=by
 obtain ⟨h0,xs,h1,h2,h3⟩:=h
 exact ⟨h0,xs,by rw [d8 _ ab]; exact h1,eD (n0 (.tail _ (.head _))) _ h2,h3⟩
theorem Toks.cls {σ:Nat->Option Cell} {a b:Nat} {T:List Tok} {n:Int} {S:List (Nat × Int)} {xs:List PV} (h:Toks σ [a,b] a T) (ab:a ≠ b) (hx:σ a = some (.lst xs)) (hb:σ b = some (.lst (S.map fun e=>.tup [.str [e.1],.int e.2]))) (ht:zcI (n,S)):Toks (aZ σ a (.lst (xs ++ [.tup [.int n,.ptr b]]))) [a] a (T ++ [(n,S)]):=by
 obtain ⟨h0,xs',h1,h2,h3⟩:=h
 rw [hx] at h1; cases h1
 have le:LeC (uH [a,b] σ) (uH [a] (aZ σ a (.lst (xs ++ [.tup [.int n,.ptr b]])))):=fun x d e=>by
  obtain ⟨q1,q2⟩:=lM e
  have xa:x ≠ a:=fun e=>q1 (e ▸ .head _)
  exact jL (fun m=>xa (List.mem_singleton.mp m)) (by rw [d8 _ xa]; exact q2)
 refine ⟨.head _,_,aQ _ _ _,?_,fun t m=>?_⟩
 ·rw [List.map_append]
  show kP _ (xs ++ [.tup [.int n,.ptr b]]) (T.map xZ ++ [xZ (n,S)])
  refine kG (show Res _ (.tup [.int n,.ptr b]) (.tup [.int n,kE S]) from ⟨_,rfl,.int n,_,rfl,rfl,.ptr b,_,rfl,.inr ⟨b,_,rfl,jL (fun m=>ab (List.mem_singleton.mp m).symm) (by rw [d8 _ (Ne.symm ab)]; exact hb),eJ _ _ (pC S)⟩,rfl⟩) (eD le _ h2)
 ·rcases List.mem_append.mp m with m | m
  ·exact h3 t m
  ·rw [List.mem_singleton.mp m]; exact ht
noncomputable def cTs:Ctx:=mkC [("_law_SIGNS",fT (nH (signsL.map fun c=>[c])))] [] false [] [672,677]
theorem zcw:CtxMono cTs:=bP (by simp [eF]) (by simp)
theorem rB (p:Params) (is:List Int) (K:PV->Prop) (hl:is.length <= 30) (hK:∀ T:List Tok,T.length <= 36->(∀ t ∈ T,zcI t)->K (.list (T.map xZ))):
  wSs cTs (eA (aL (HK p) 789)) (bC (HK p) 789) (jY K) ⟨bA [("numbers",.list (is.map .int))] (fun _=>none),fun _=>none⟩:=by
 have M:=zcw
 apply nfe
 case h=>
  show ?nl1 = ?nr1
  refine (?f:∀ _:(?nl1 = ?nr1),(?nl1 = ?nr1)) ?d
  case d=>conv=>lhs; whnf; dsimp only [cH,erS,erE,bR,erO]
  case f=>exact fun _=>by kernel_rfl!
 have hml:(is.map PV.int).length = is.length:=List.length_map _
 have hnum:∀ {st:St} {p1 p2 p3:Pos},st.ρ "numbers" = some (.list (is.map .int))->ev cTs (eA (aL (HK p) 789)) (.Call (.Name (Str.ofString "len") p1) [.Name (Str.ofString "numbers") p2] [] p3) st (.int is.length):=fun h=>hml ▸ fJ M (by kernel_rfl!) rfl rfl (by kernel_rfl) (aJ (by kernel_rfl!) h)
 refine aA (iV (by rfl) (by kernel_rfl) fun a _=>?_)
 refine aA (aE M (.int ((0:Nat):Int)) (aC rfl) (by kernel_rfl) ?_)
 refine b8 M (fun st=>bV [("tokens",.ptr a)] st.ρ /\ ∃ T,T.length <= 36 /\ Toks st.σ [a] a T)
  (fE M (fun n st=>∃ (k:Nat) (T:List Tok),n = 40 - k /\ T.length <= k /\ k <= 36 /\ bV [("numbers",.list (is.map .int)),("tokens",.ptr a),("k",.int k)] st.ρ /\ Toks st.σ [a] a T) ?_ 40 _ ⟨0,[],rfl,Nat.le_refl _,by decide,by (show _ = _; first | kernel_rfl! | (rw [<- Nat.add_assoc]; kernel_rfl!) | (rw [<- Nat.add_assoc,<- Nat.add_assoc]; kernel_rfl!)),.head _,[],aQ _ _ _,rfl,fun t h=>(by cases h)⟩) ?_
 ·rintro n ⟨ρ,σ⟩ ⟨k,T,hn,hT,hk,h1,h2⟩
  refine ⟨decide (k < is.length),?_,fun hc'=>?_,fun hc'=>?_⟩
  ·rw [show ρ = bA _ ρ from aV _ h1]
   exact bE M (gO M aG (hnum (by kernel_rfl!)))
  ·have hlt:=of_decide_eq_true hc'
   refine b7 h1 ?_
   clear h1
   have hgi:(is.map PV.int)[k]? = some (.int is[k]):=by rw [List.getElem?_map,List.getElem?_eq_getElem hlt]; rfl
   generalize is[k] = nn at hgi
   refine aA (aE M (.int nn) (fH (n:=k) M rfl aG aG hgi) (by kernel_rfl) ?_)
   refine aA (dP M (.int k) (.int 1) (by kernel_rfl!) (aC rfl) (by kernel_rfl) (of_eq cF ?_))
   refine aA (iV (by kernel_rfl) (by kernel_rfl) fun b hb=>?_)
   have hb:σ b = none:=hb
   have hb':b ≠ a:=fun e=>by
    obtain ⟨_,xs,q,_⟩:=h2
    have q:σ a = some (.lst xs):=q
    rw [<- e,hb] at q; cases q
   have ht0:=h2.opn hb (.lst [])
   have hc4:=lB (nn / 7) (show 0 < 4 by decide)
   have hcnt:(1:Int) + ((nm (nn / 7) 4:Nat):Int) = ((1 + nm (nn / 7) 4:Nat):Int):=rfl
   obtain ⟨cnt,hcn⟩:∃ cnt,1 + nm (nn / 7) 4 = cnt:=⟨_,rfl⟩
   rw [hcn] at hcnt
   have hc1:1 <= cnt /\ cnt <= 4:=by omega
   have hlen:((List.range ((cnt:Int) - 0).toNat).map fun (k:Nat)=>PV.int (0 + k)).length = cnt:=by rw [List.length_map,List.length_range,Int.sub_zero,Int.toNat_natCast]
   refine b8 M (fun st=>∃ S:List (Nat × Int),S.length = cnt /\ (∀ e ∈ S,e.1 ∈ signsL) /\ bV [("numbers",.list (is.map .int)),("tokens",.ptr a),("k",.int (k + 1 + cnt:Nat)),("n",.int nn),("signs",.ptr b)] st.ρ /\ st.σ b = some (.lst (S.map fun e=>.tup [.str [e.1],.int e.2])) /\ Toks st.σ [a,b] a T)
    (mF M (.rng 0 cnt) _ rfl (by rw [hlen]; exact Nat.le_trans hc1.2 (by decide)) (by kernel_rfl) (iN M (by kernel_rfl!) rfl rfl (by kernel_rfl) (aB M (v:=.int cnt) (hcnt ▸ c9 (i:=1) M (aC rfl) (jQ 4 (by decide) M (iE (i:=nn) (j:=7) M aG (aC rfl) (by decide) (by decide)))) aD) (of_eq (B:=(0:Int) <= 0 /\ (0:Int) <= 16777216 /\ 0 <= (cnt:Int) /\ (cnt:Int) <= 16777216 /\ PV.rng 0 cnt = .rng 0 cnt) (by kernel_rfl) ⟨Int.le_refl 0,by decide,Int.natCast_nonneg _,Int.ofNat_le.mpr (Nat.le_trans hc1.2 (by decide)),rfl⟩))
     (fun i st=>∃ S:List (Nat × Int),S.length = i /\ (∀ e ∈ S,e.1 ∈ signsL) /\ bV [("numbers",.list (is.map .int)),("tokens",.ptr a),("k",.int (k + 1 + i:Nat)),("n",.int nn),("signs",.ptr b)] st.ρ /\ st.σ b = some (.lst (S.map fun e=>.tup [.str [e.1],.int e.2])) /\ Toks st.σ [a,b] a T) (fun i hi st hI=>?_) (fun st hI=>?_) ⟨[],rfl,fun e h=>(by cases h),by (show _ = _; first | kernel_rfl! | (rw [<- Nat.add_assoc]; kernel_rfl!) | (rw [<- Nat.add_assoc,<- Nat.add_assoc]; kernel_rfl!)),aQ _ _ _,ht0⟩) ?_
   ·obtain ⟨ρ1,σ1⟩:=st
    obtain ⟨S,g1,g2,g3,g4,g5⟩:=hI
    rw [hlen] at hi
    refine ⟨_,rfl,?_⟩
    rw [show ρ1 = bA _ ρ1 from aV _ g3]
    clear g3
    have hkb:k + 1 + i < 100:=by omega
    rw [show k + 1 + (i + 1) = k + 1 + i + 1 from rfl]
    generalize k + 1 + i = j at hkb
    obtain ⟨m,hm⟩:∃ m:Int,m = if h:j < is.length then is[j] else 0:=⟨_,rfl⟩
    refine aA (aE M (.int m) (dM (c:=decide (j < is.length)) M (bE M (gO M aG (hnum (by kernel_rfl!)))) (fun q=>?_) (fun q=>?_)) (by kernel_rfl) ?_)
    ·have q:=of_decide_eq_true q
     rw [dif_pos q] at hm
     exact fH (xs:=is.map .int) (n:=j) M rfl aG aG (by rw [List.getElem?_map,List.getElem?_eq_getElem q,hm]; rfl)
    ·rw [hm,dif_neg (of_decide_eq_false q)]; exact aC rfl
    clear hm
    obtain ⟨c,hc⟩:∃ c,signsL[nm m 32]? = some c:=⟨_,List.getElem?_eq_getElem (l:=signsL) (lB m (show 0 < 32 by decide))⟩
    have hzl:(S.map fun e=>PV.tup [.str [e.1],.int e.2]).length < aO:=by rw [List.length_map]; unfold aO; omega
    refine aA (bO M (.tup [.str [c],.int (m / 32 + 37 * j)]) (by kernel_rfl) (by kernel_rfl!) g4 (aT M (aB M (jP (X:=signsL.map fun c=>[c]) (n:=nm m 32) M rfl (j8 M (by kernel_rfl!) rfl) (jQ 32 (by decide) M aG) (by rw [List.getElem?_map,hc]; rfl)) (aB M (c9 M (iE (j:=32) M aG (aC rfl) (by decide) (by decide)) (zde (i:=37) (j:=j) M (aC rfl) aG (nA j hkb))) aD))) rfl hzl ?_)
    refine aA (dP M (.int j) (.int 1) (by kernel_rfl!) (aC rfl) (by kernel_rfl) (of_eq cF ?_))
    refine ⟨S ++ [(c,m / 32 + 37 * j)],by rw [List.length_append,g1]; rfl,fun e he=>?_,by (show _ = _; first | kernel_rfl! | (rw [<- Nat.add_assoc]; kernel_rfl!) | (rw [<- Nat.add_assoc,<- Nat.add_assoc]; kernel_rfl!)),?_,g5.put (Ne.symm hb') _⟩
    ·rcases List.mem_append.mp he with he | he
     ·exact g2 e he
     ·rw [List.mem_singleton.mp he]; exact List.mem_of_getElem? hc
    ·rw [List.map_append]; exact aQ _ _ _
   ·rw [hlen] at hI
    exact hI
   ·rintro ⟨ρ1,σ1⟩ ⟨S,g1,g2,g3,g4,g5⟩
    refine b7 g3 ?_
    clear g3
    have g5':=g5
    obtain ⟨_,xs,q1,q2,_⟩:=g5'
    have hxl:=Toks.len q2
    refine aA (bO M (.tup [.int (nn + 29 * (xs.length:Nat)),.ptr b]) (by kernel_rfl) (by kernel_rfl!) q1 (aT M (aB M (c9 M aG (zde (i:=29) (j:=(xs.length:Nat)) M (aC rfl) (zew M (by kernel_rfl!) rfl rfl (by kernel_rfl) aG q1) (nA _ (by omega)))) (aB M aG aD))) rfl (by unfold aO; omega) ?_)
    exact ⟨40 - (k + 1 + cnt),by omega,k + 1 + cnt,T ++ [(nn + 29 * (xs.length:Nat),S)],rfl,by rw [List.length_append]; show T.length + 1 <= _; omega,by omega,by (show _ = _; first | kernel_rfl! | (rw [<- Nat.add_assoc]; kernel_rfl!) | (rw [<- Nat.add_assoc,<- Nat.add_assoc]; kernel_rfl!)),g5.cls (Ne.symm hb') q1 g4 ⟨g2,by show 1 <= S.length; omega,by show S.length <= 4; omega⟩⟩
  ·refine ⟨?_,T,Nat.le_trans hT hk,h2⟩
   show bV _ ρ
   rw [show ρ = bA _ ρ from aV _ h1]
   (show _ = _; first | kernel_rfl! | (rw [<- Nat.add_assoc]; kernel_rfl!) | (rw [<- Nat.add_assoc,<- Nat.add_assoc]; kernel_rfl!))
 ·rintro ⟨ρ,σ⟩ ⟨h1,T,h2,h0,xs,h3,h4,h5⟩
  refine b7 h1 ?_
  exact aA (aP M (.ptr a) aG ⟨.list (T.map xZ),.inr ⟨a,xs,rfl,h3,eD (z9 _ _) _ h4⟩,hK T h2 h5⟩)
noncomputable def kQ:Fn:=fun ps K=>∃ is:List Int,ps = [.list (is.map .int)] /\ is.length <= 30 /\ ∀ T:List Tok,T.length <= 36->(∀ t ∈ T,zcI t)->K (.list (T.map xZ))
theorem oQ:bD kQ:=fun _ _ _ h=>e1 fun _=>c2 fun k T a b=>h _ (k T a b)
theorem pL (hB:BsOk (bs w.params h mb)) (hmb:HMb mb):Meets prog w (bs w.params h mb) 2 (.ref 789) kQ:=by
 have hC:CtxOk prog w (bs w.params h mb) cTs 1:=dX hmb (by simp [eF]) (by simp) (by simp) (fun e he=>by
  simp only [List.mem_singleton] at he; subst he
  exact ⟨.ref 684,by kernel_rfl,r7 hB hmb⟩) (by simp) (by simp)
 refine aY (k:=1) (params:=["numbers"]) (dv:=[]) (dp:=[]) hB hC (by kernel_rfl) (by kernel_rfl) (by kernel_rfl) rfl (fun _=>.nil) (fun S vals hl=>?_) fun ps K=>x1 fun is=>a3 fun h1 h2 h3=>?_
 ·obtain ⟨a,rfl⟩:=List.length_eq_one_iff.mp hl
  kernel_rfl
 ·subst h1
  exact ⟨rfl,rB _ is K h2 h3⟩
section
variable {C:Ctx} {κ:Kn}
theorem jO {x name:Str} {p1 p2:Pos} {st:St} {c:Nat} {fs:List PV} {v:PV} (hk:κ x = some .local) (hx:st.ρ x = some (.inst c fs)) (hv:(C.slot c name).bind (fun i=>fs[i]?) = some v):ev C κ (.Attribute (.Name x p1) name p2) st v:=by
 obtain ⟨i,hs,hv⟩:=Option.bind_eq_some_iff.mp hv
 show (if κ x = some .globalImplicit then opt (C.val x) _ else opt (st.ρ x) _)
 rw [hk,jK,hx]
 show mT (C.slot c name) _ fun i=>opt fs[i]? _
 rw [hs]
 show opt fs[i]? _
 rw [hv]; exact ⟨rfl,rfl⟩
theorem jR {x name:Str} {p1 p2:Pos} {st:St} {c:Nat} {fs:List PV} {v:PV} (hk:κ x = some .local) (hx:st.ρ x = some (.inst c fs)) (hs:C.slot c name = none) (hv:C.cval c name = some v):ev C κ (.Attribute (.Name x p1) name p2) st v:=by
 show (if κ x = some .globalImplicit then opt (C.val x) _ else opt (st.ρ x) _)
 rw [hk,jK,hx]
 show mT (C.slot c name) _ _
 rw [hs,gH,hv]
 exact ⟨rfl,rfl⟩
end
theorem i7 {α:Type} (f:α->PV) (h:∀ a,zch (f a) = true):∀ l:List α,qD (l.map f) = true
 | []=>rfl
 | a :: l=>zaS (h a) (i7 f h l)
theorem kU (e:(Nat × Nat) × Tk):zch (dO e) = true:=by
 show (zch (b9 e.2) && (true && true)) = true
 rw [(jJ e.2).1]; rfl
noncomputable abbrev Nd:=((Nat × Nat) × Tk) × List Nat
noncomputable def ndV (z:Nd):PV:=tkP z.1.1 z.2 z.1.2
theorem tV:∀ {E:List ((Nat × Nat) × Tk)} {R:List PV},zgl E R->∃ Z:List Nd,E = Z.map Prod.fst /\ R = Z.map ndV
 | [],R,h=>⟨[],rfl,h⟩
 | e :: E,R,⟨rep,R',h1,h2⟩=>by
  obtain ⟨Z,h3,h4⟩:=tV h2
  exact ⟨(e,rep) :: Z,by rw [h3]; rfl,by rw [h1,h4]; rfl⟩
noncomputable def cTd:Ctx:=mkC [("_law_mark",vH)] [] false [] [687]
theorem f8:CtxMono cTd:=bP (by simp [l7]) (by simp)
noncomputable def zep (P:Params):List Stmt:=stD [] (fun _ _=>[]) (fun _=>[]) id (hJ 1 (cH (bC (HK P) 803)))
noncomputable def knT (P:Params):Kn:=eA (aL (HK P) 803)
section
variable {P:Params} {Q:Fl->St->Prop} {a:Nat} {xs:List PV} {lc:Nat × Nat} {rep:List Nat} {σ:Nat->Option Cell} {ρ:f9}
theorem iT {c:Nat} {fs:List PV} {kd v:List Nat} {t:Tk} (hp:b9 t = .tup [.str kd,.str v,.str []]) (hs:cTd.slot c "type" = none) (hv:cTd.cval c "type" = some (.str kd)) (g1:(cTd.slot c "value").bind (fun i=>fs[i]?) = some (.str v)) (g2:(cTd.slot c "source_line").bind (fun i=>fs[i]?) = some (.int lc.1)) (g3:(cTd.slot c "source_column").bind (fun i=>fs[i]?) = some (.int lc.2))
  (ne:[lcS "function",lcS "dimension",lcS "hash",lcS "error"].contains kd = false) (ne2:decide (kd ∈ [lcS "ident",lcS "at-keyword"]) = false) (h1:bV [("told",.ptr a),("node",.inst c fs)] ρ) (h2:σ a = some (.lst xs)) (hl:xs.length < aO) (hQ:∀ ρ',bV [("told",.ptr a)] ρ'->Q .next ⟨ρ',aZ σ a (.lst (xs ++ [dO (lc,t)]))⟩):wSs cTd (knT P) (zep P) Q ⟨ρ,σ⟩:=by
 have M:=f8
 refine b7 h1 ?_
 clear h1
 apply nfs
 case h=>
  show ?nl1 = ?nr1
  refine (?f:∀ _:(?nl1 = ?nr1),(?nl1 = ?nr1)) ?d
  case d=>conv=>lhs; whnf; dsimp only [cH,erS,erE,bR,erO]
  case f=>exact fun _=>by kernel_rfl!
 unfold knT
 have no:∀ q:String,[lcS "function",lcS "dimension",lcS "hash",lcS "error"].contains (lcS q) = true->decide (kd = (Str.ofString q).cps.toList) = false:=fun q h=>decide_eq_false fun e=>by
  have e:kd = lcS q:=e
  rw [e,h] at ne; cases ne
 have sl:∀ {st:St} {p1 p2:Pos} {nn:Str} {zz:PV},st.ρ "node" = some (.inst c fs)->(cTd.slot c nn).bind (fun i=>fs[i]?) = some zz->ev cTd (eA (aL (HK P) 803)) (.Attribute (.Name (Str.ofString "node") p1) nn p2) st zz:=fun h g=>jO (by kernel_rfl!) h g
 refine aA (aE M (.str kd) (jR (c:=c) (fs:=fs) (by kernel_rfl!) (by kernel_rfl!) hs hv) (by kernel_rfl) ?_)
 refine aA (bS M false (bE M (no "function" (by decide +kernel) ▸ dW (q:= "function") M aG)) (fun h=>by cases h) (fun _=>?_))
 refine aA (bS M false (bE M (no "dimension" (by decide +kernel) ▸ dW (q:= "dimension") M aG)) (fun h=>by cases h) (fun _=>?_))
 refine aA (bS M false (bE M (no "hash" (by decide +kernel) ▸ dW (q:= "hash") M aG)) (fun h=>by cases h) (fun _=>?_))
 refine aA (bS M false (bE M (bL (a:=.str kd) M aG (aT M (aB M (aC rfl) (aB M (aC rfl) aD))) ⟨[lcS "ident",lcS "at-keyword"],rfl,ne2⟩)) (fun h=>by cases h) (fun _=>?_))
 refine aA (bS M false (bE M (no "error" (by decide +kernel) ▸ dW (q:= "error") M aG)) (fun h=>by cases h) (fun _=>?_))
 refine aA (aE M (b9 t) (hp ▸ aT M (aB M aG (aB M (sl (by kernel_rfl!) g1) (aB M (aC rfl) aD)))) (by kernel_rfl) ?_)
 (repeat (first | refine bQ ?_ | dsimp only [c7]))
 refine aA (bO M (dO (lc,t)) (by kernel_rfl) (by kernel_rfl!) h2 (aT M (aB M (v:=b9 t) aG (aB M (v:=qZ lc) (aT M (aB M (sl (by kernel_rfl!) g2) (aB M (sl (by kernel_rfl!) g3) aD))) aD))) rfl hl ?_)
 exact hQ _ (by (show _ = _; first | kernel_rfl! | (rw [<- Nat.add_assoc]; kernel_rfl!) | (rw [<- Nat.add_assoc,<- Nat.add_assoc]; kernel_rfl!)))
theorem vJ {v:List Nat} (h1:bV [("told",.ptr a),("node",.inst 235 [.str (v.map cW),.str v,.int lc.2,.int lc.1])] ρ) (h2:σ a = some (.lst xs)) (hl:xs.length < aO) (hQ:∀ ρ',bV [("told",.ptr a)] ρ'->Q .next ⟨ρ',aZ σ a (.lst (xs ++ [dO (lc,(.ident v))]))⟩):wSs cTd (knT P) (zep P) Q ⟨ρ,σ⟩:=by
 have M:=f8
 refine b7 h1 ?_
 clear h1
 apply nfs
 case h=>
  show ?nl2 = ?nr2
  refine (?f:∀ _:(?nl2 = ?nr2),(?nl2 = ?nr2)) ?d
  case d=>conv=>lhs; whnf; dsimp only [cH,erS,erE,bR,erO]
  case f=>exact fun _=>by kernel_rfl!
 unfold knT
 have sl:∀ {st:St} {p1 p2:Pos} {nn:Str} {zz:PV},st.ρ "node" = some (.inst 235 [.str (v.map cW),.str v,.int lc.2,.int lc.1])->(cTd.slot 235 nn).bind (fun i=>([.str (v.map cW),.str v,.int lc.2,.int lc.1]:List PV)[i]?) = some zz->ev cTd (eA (aL (HK P) 803)) (.Attribute (.Name (Str.ofString "node") p1) nn p2) st zz:=fun h g=>jO (by kernel_rfl!) h g
 refine aA (aE M (.str (lcS "ident")) (jR (c:=235) (fs:=[.str (v.map cW),.str v,.int lc.2,.int lc.1]) (by kernel_rfl!) (by kernel_rfl!) (by kernel_rfl) (by kernel_rfl)) (by kernel_rfl) ?_)
 refine aA (bS M (decide (lcS "ident" = (Str.ofString "function").cps.toList)) (bE M (dW (q:= "function") M aG)) (fun h=>absurd (of_decide_eq_true h) (by decide +kernel)) (fun _=>?_))
 refine aA (bS M (decide (lcS "ident" = (Str.ofString "dimension").cps.toList)) (bE M (dW (q:= "dimension") M aG)) (fun h=>absurd (of_decide_eq_true h) (by decide +kernel)) (fun _=>?_))
 refine aA (bS M (decide (lcS "ident" = (Str.ofString "hash").cps.toList)) (bE M (dW (q:= "hash") M aG)) (fun h=>absurd (of_decide_eq_true h) (by decide +kernel)) (fun _=>?_))
 refine aA (bS M true (bE M (bL (a:=.str (lcS "ident")) M aG (aT M (aB M (aC rfl) (aB M (aC rfl) aD))) ⟨[lcS "ident",lcS "at-keyword"],rfl,by decide +kernel⟩)) (fun _=>?_) (fun h=>by cases h))
 refine aA (aE M (b9 (.ident v)) (aT M (aB M aG (aB M (sl (by kernel_rfl!) (by kernel_rfl!)) (aB M (sl (by kernel_rfl!) (by kernel_rfl!)) aD)))) (by kernel_rfl) ?_)
 (repeat (first | refine bQ ?_ | dsimp only [c7]))
 refine aA (bO M (dO (lc,(.ident v))) (by kernel_rfl) (by kernel_rfl!) h2 (aT M (aB M aG (aB M (v:=qZ lc) (aT M (aB M (sl (by kernel_rfl!) (by kernel_rfl!)) (aB M (sl (by kernel_rfl!) (by kernel_rfl!)) aD))) aD))) rfl hl ?_)
 exact hQ _ (by (show _ = _; first | kernel_rfl! | (rw [<- Nat.add_assoc]; kernel_rfl!) | (rw [<- Nat.add_assoc,<- Nat.add_assoc]; kernel_rfl!)))
theorem zbh {v:List Nat} (h1:bV [("told",.ptr a),("node",.inst 265 [.str (v.map cW),.str v,.int lc.2,.int lc.1])] ρ) (h2:σ a = some (.lst xs)) (hl:xs.length < aO) (hQ:∀ ρ',bV [("told",.ptr a)] ρ'->Q .next ⟨ρ',aZ σ a (.lst (xs ++ [dO (lc,(.atk v))]))⟩):wSs cTd (knT P) (zep P) Q ⟨ρ,σ⟩:=by
 have M:=f8
 refine b7 h1 ?_
 clear h1
 apply nfs
 case h=>
  show ?nl3 = ?nr3
  refine (?f:∀ _:(?nl3 = ?nr3),(?nl3 = ?nr3)) ?d
  case d=>conv=>lhs; whnf; dsimp only [cH,erS,erE,bR,erO]
  case f=>exact fun _=>by kernel_rfl!
 unfold knT
 have sl:∀ {st:St} {p1 p2:Pos} {nn:Str} {zz:PV},st.ρ "node" = some (.inst 265 [.str (v.map cW),.str v,.int lc.2,.int lc.1])->(cTd.slot 265 nn).bind (fun i=>([.str (v.map cW),.str v,.int lc.2,.int lc.1]:List PV)[i]?) = some zz->ev cTd (eA (aL (HK P) 803)) (.Attribute (.Name (Str.ofString "node") p1) nn p2) st zz:=fun h g=>jO (by kernel_rfl!) h g
 refine aA (aE M (.str (lcS "at-keyword")) (jR (c:=265) (fs:=[.str (v.map cW),.str v,.int lc.2,.int lc.1]) (by kernel_rfl!) (by kernel_rfl!) (by kernel_rfl) (by kernel_rfl)) (by kernel_rfl) ?_)
 refine aA (bS M (decide (lcS "at-keyword" = (Str.ofString "function").cps.toList)) (bE M (dW (q:= "function") M aG)) (fun h=>absurd (of_decide_eq_true h) (by decide +kernel)) (fun _=>?_))
 refine aA (bS M (decide (lcS "at-keyword" = (Str.ofString "dimension").cps.toList)) (bE M (dW (q:= "dimension") M aG)) (fun h=>absurd (of_decide_eq_true h) (by decide +kernel)) (fun _=>?_))
 refine aA (bS M (decide (lcS "at-keyword" = (Str.ofString "hash").cps.toList)) (bE M (dW (q:= "hash") M aG)) (fun h=>absurd (of_decide_eq_true h) (by decide +kernel)) (fun _=>?_))
 refine aA (bS M true (bE M (bL (a:=.str (lcS "at-keyword")) M aG (aT M (aB M (aC rfl) (aB M (aC rfl) aD))) ⟨[lcS "ident",lcS "at-keyword"],rfl,by decide +kernel⟩)) (fun _=>?_) (fun h=>by cases h))
 refine aA (aE M (b9 (.atk v)) (aT M (aB M aG (aB M (sl (by kernel_rfl!) (by kernel_rfl!)) (aB M (sl (by kernel_rfl!) (by kernel_rfl!)) aD)))) (by kernel_rfl) ?_)
 (repeat (first | refine bQ ?_ | dsimp only [c7]))
 refine aA (bO M (dO (lc,(.atk v))) (by kernel_rfl) (by kernel_rfl!) h2 (aT M (aB M aG (aB M (v:=qZ lc) (aT M (aB M (sl (by kernel_rfl!) (by kernel_rfl!)) (aB M (sl (by kernel_rfl!) (by kernel_rfl!)) aD))) aD))) rfl hl ?_)
 exact hQ _ (by (show _ = _; first | kernel_rfl! | (rw [<- Nat.add_assoc]; kernel_rfl!) | (rw [<- Nat.add_assoc,<- Nat.add_assoc]; kernel_rfl!)))
theorem xW {v:List Nat} {b:Bool} (h1:bV [("told",.ptr a),("node",.inst 295 [.bool b,.str v,.int lc.2,.int lc.1])] ρ) (h2:σ a = some (.lst xs)) (hl:xs.length < aO) (hQ:∀ ρ',bV [("told",.ptr a)] ρ'->Q .next ⟨ρ',aZ σ a (.lst (xs ++ [dO (lc,(.hash v b))]))⟩):wSs cTd (knT P) (zep P) Q ⟨ρ,σ⟩:=by
 have M:=f8
 refine b7 h1 ?_
 clear h1
 apply nfs
 case h=>
  show ?nl4 = ?nr4
  refine (?f:∀ _:(?nl4 = ?nr4),(?nl4 = ?nr4)) ?d
  case d=>conv=>lhs; whnf; dsimp only [cH,erS,erE,bR,erO]
  case f=>exact fun _=>by kernel_rfl!
 unfold knT
 have sl:∀ {st:St} {p1 p2:Pos} {nn:Str} {zz:PV},st.ρ "node" = some (.inst 295 [.bool b,.str v,.int lc.2,.int lc.1])->(cTd.slot 295 nn).bind (fun i=>([.bool b,.str v,.int lc.2,.int lc.1]:List PV)[i]?) = some zz->ev cTd (eA (aL (HK P) 803)) (.Attribute (.Name (Str.ofString "node") p1) nn p2) st zz:=fun h g=>jO (by kernel_rfl!) h g
 refine aA (aE M (.str (lcS "hash")) (jR (c:=295) (fs:=[.bool b,.str v,.int lc.2,.int lc.1]) (by kernel_rfl!) (by kernel_rfl!) (by kernel_rfl) (by kernel_rfl)) (by kernel_rfl) ?_)
 refine aA (bS M (decide (lcS "hash" = (Str.ofString "function").cps.toList)) (bE M (dW (q:= "function") M aG)) (fun h=>absurd (of_decide_eq_true h) (by decide +kernel)) (fun _=>?_))
 refine aA (bS M (decide (lcS "hash" = (Str.ofString "dimension").cps.toList)) (bE M (dW (q:= "dimension") M aG)) (fun h=>absurd (of_decide_eq_true h) (by decide +kernel)) (fun _=>?_))
 refine aA (bS M (decide (lcS "hash" = (Str.ofString "hash").cps.toList)) (bE M (dW (q:= "hash") M aG)) (fun _=>?_) (fun h=>absurd rfl (of_decide_eq_false h)))
 refine aA (aE M (b9 (.hash v b)) (aT M (aB M aG (aB M (sl (by kernel_rfl!) (by kernel_rfl!)) (aB M (v:=.str (zb3 b)) (bX (F:=vH) M (by kernel_rfl!) rfl (aB M (v:=.bool b) (sl (by kernel_rfl!) (by kernel_rfl!)) aD) ⟨b,rfl,.inl rfl,rfl⟩) aD)))) (by kernel_rfl) ?_)
 (repeat (first | refine bQ ?_ | dsimp only [c7]))
 refine aA (bO M (dO (lc,(.hash v b))) (by kernel_rfl) (by kernel_rfl!) h2 (aT M (aB M aG (aB M (v:=qZ lc) (aT M (aB M (sl (by kernel_rfl!) (by kernel_rfl!)) (aB M (sl (by kernel_rfl!) (by kernel_rfl!)) aD))) aD))) rfl hl ?_)
 exact hQ _ (by (show _ = _; first | kernel_rfl! | (rw [<- Nat.add_assoc]; kernel_rfl!) | (rw [<- Nat.add_assoc,<- Nat.add_assoc]; kernel_rfl!)))
theorem zbg {iv:Option Int} {r:List Nat} {u:List Nat} (h1:bV [("told",.ptr a),("node",.inst 479 [v2 iv,.bool iv.isSome,.str (u.map cW),.str r,.str u,.str r,.int lc.2,.int lc.1])] ρ) (h2:σ a = some (.lst xs)) (hl:xs.length < aO) (hQ:∀ ρ',bV [("told",.ptr a)] ρ'->Q .next ⟨ρ',aZ σ a (.lst (xs ++ [dO (lc,(.dim iv r u))]))⟩):wSs cTd (knT P) (zep P) Q ⟨ρ,σ⟩:=by
 have M:=f8
 refine b7 h1 ?_
 clear h1
 apply nfs
 case h=>
  show ?nl5 = ?nr5
  refine (?f:∀ _:(?nl5 = ?nr5),(?nl5 = ?nr5)) ?d
  case d=>conv=>lhs; whnf; dsimp only [cH,erS,erE,bR,erO]
  case f=>exact fun _=>by kernel_rfl!
 unfold knT
 have sl:∀ {st:St} {p1 p2:Pos} {nn:Str} {zz:PV},st.ρ "node" = some (.inst 479 [v2 iv,.bool iv.isSome,.str (u.map cW),.str r,.str u,.str r,.int lc.2,.int lc.1])->(cTd.slot 479 nn).bind (fun i=>([v2 iv,.bool iv.isSome,.str (u.map cW),.str r,.str u,.str r,.int lc.2,.int lc.1]:List PV)[i]?) = some zz->ev cTd (eA (aL (HK P) 803)) (.Attribute (.Name (Str.ofString "node") p1) nn p2) st zz:=fun h g=>jO (by kernel_rfl!) h g
 refine aA (aE M (.str (lcS "dimension")) (jR (c:=479) (fs:=[v2 iv,.bool iv.isSome,.str (u.map cW),.str r,.str u,.str r,.int lc.2,.int lc.1]) (by kernel_rfl!) (by kernel_rfl!) (by kernel_rfl) (by kernel_rfl)) (by kernel_rfl) ?_)
 refine aA (bS M (decide (lcS "dimension" = (Str.ofString "function").cps.toList)) (bE M (dW (q:= "function") M aG)) (fun h=>absurd (of_decide_eq_true h) (by decide +kernel)) (fun _=>?_))
 refine aA (bS M (decide (lcS "dimension" = (Str.ofString "dimension").cps.toList)) (bE M (dW (q:= "dimension") M aG)) (fun _=>?_) (fun h=>absurd rfl (of_decide_eq_false h)))
 refine aA (aE M (b9 (.dim iv r u)) (aT M (aB M aG (aB M (v:=.tup [.str r,v2 iv,.str u]) (aT M (aB M (sl (by kernel_rfl!) (by kernel_rfl!)) (aB M (sl (by kernel_rfl!) (by kernel_rfl!)) (aB M (sl (by kernel_rfl!) (by kernel_rfl!)) aD)))) (aB M (sl (by kernel_rfl!) (by kernel_rfl!)) aD)))) (by kernel_rfl) ?_)
 (repeat (first | refine bQ ?_ | dsimp only [c7]))
 refine aA (bO M (dO (lc,(.dim iv r u))) (by kernel_rfl) (by kernel_rfl!) h2 (aT M (aB M aG (aB M (v:=qZ lc) (aT M (aB M (sl (by kernel_rfl!) (by kernel_rfl!)) (aB M (sl (by kernel_rfl!) (by kernel_rfl!)) aD))) aD))) rfl hl ?_)
 exact hQ _ (by (show _ = _; first | kernel_rfl! | (rw [<- Nat.add_assoc]; kernel_rfl!) | (rw [<- Nat.add_assoc,<- Nat.add_assoc]; kernel_rfl!)))
theorem zdI {v:List Nat} (h1:bV [("told",.ptr a),("node",.inst 600 [.list [],.str (v.map cW),.str v,.int lc.2,.int lc.1])] ρ) (h2:σ a = some (.lst xs)) (hl:xs.length < aO) (hQ:∀ ρ',bV [("told",.ptr a)] ρ'->Q .next ⟨ρ',aZ σ a (.lst (xs ++ [dO (lc,(.fn v))]))⟩):wSs cTd (knT P) (zep P) Q ⟨ρ,σ⟩:=by
 have M:=f8
 refine b7 h1 ?_
 clear h1
 apply nfs
 case h=>
  show ?nl6 = ?nr6
  refine (?f:∀ _:(?nl6 = ?nr6),(?nl6 = ?nr6)) ?d
  case d=>conv=>lhs; whnf; dsimp only [cH,erS,erE,bR,erO]
  case f=>exact fun _=>by kernel_rfl!
 unfold knT
 have sl:∀ {st:St} {p1 p2:Pos} {nn:Str} {zz:PV},st.ρ "node" = some (.inst 600 [.list [],.str (v.map cW),.str v,.int lc.2,.int lc.1])->(cTd.slot 600 nn).bind (fun i=>([.list [],.str (v.map cW),.str v,.int lc.2,.int lc.1]:List PV)[i]?) = some zz->ev cTd (eA (aL (HK P) 803)) (.Attribute (.Name (Str.ofString "node") p1) nn p2) st zz:=fun h g=>jO (by kernel_rfl!) h g
 refine aA (aE M (.str (lcS "function")) (jR (c:=600) (fs:=[.list [],.str (v.map cW),.str v,.int lc.2,.int lc.1]) (by kernel_rfl!) (by kernel_rfl!) (by kernel_rfl) (by kernel_rfl)) (by kernel_rfl) ?_)
 refine aA (bS M (decide (lcS "function" = (Str.ofString "function").cps.toList)) (bE M (dW (q:= "function") M aG)) (fun _=>?_) (fun h=>absurd rfl (of_decide_eq_false h)))
 refine aA (aE M (b9 (.fn v)) (aT M (aB M aG (aB M (v:=.tup [.str v,.int 0]) (aT M (aB M (sl (by kernel_rfl!) (by kernel_rfl!)) (aB M (v:=.int 0) (iN M (by kernel_rfl!) rfl rfl (by kernel_rfl) (aB M (v:=.list []) (sl (by kernel_rfl!) (by kernel_rfl!)) aD) (of_eq (B:=PV.int ((0:Nat):Int) = .int 0) (by kernel_rfl) rfl)) aD))) (aB M (sl (by kernel_rfl!) (by kernel_rfl!)) aD)))) (by kernel_rfl) ?_)
 (repeat (first | refine bQ ?_ | dsimp only [c7]))
 refine aA (bO M (dO (lc,(.fn v))) (by kernel_rfl) (by kernel_rfl!) h2 (aT M (aB M aG (aB M (v:=qZ lc) (aT M (aB M (sl (by kernel_rfl!) (by kernel_rfl!)) (aB M (sl (by kernel_rfl!) (by kernel_rfl!)) aD))) aD))) rfl hl ?_)
 exact hQ _ (by (show _ = _; first | kernel_rfl! | (rw [<- Nat.add_assoc]; kernel_rfl!) | (rw [<- Nat.add_assoc,<- Nat.add_assoc]; kernel_rfl!)))
end
section
variable {P:Params} {Q:Fl->St->Prop} {a:Nat} {xs:List PV} {z:Nd} {σ:Nat->Option Cell} {ρ:f9}
theorem xV (h1:bV [("told",.ptr a),("node",ndV z)] ρ) (h2:σ a = some (.lst xs)) (hl:xs.length < aO) (hQ:∀ ρ',bV [("told",.ptr a)] ρ'->Q .next ⟨ρ',aZ σ a (.lst (xs ++ [dO z.1]))⟩):wSs cTd (knT P) (zep P) Q ⟨ρ,σ⟩:=by
 obtain ⟨⟨lc,t⟩,rep⟩:=z
 cases t with
 | ws=>exact iT (lc:=lc) (c:=163) rfl (by kernel_rfl) (by kernel_rfl) (by kernel_rfl!) (by kernel_rfl!) (by kernel_rfl!) (by decide +kernel) (by decide +kernel) h1 h2 hl hQ
 | lit=>exact iT (lc:=lc) (c:=206) rfl (by kernel_rfl) (by kernel_rfl) (by kernel_rfl!) (by kernel_rfl!) (by kernel_rfl!) (by decide +kernel) (by decide +kernel) h1 h2 hl hQ
 | com=>exact iT (lc:=lc) (c:=134) rfl (by kernel_rfl) (by kernel_rfl) (by kernel_rfl!) (by kernel_rfl!) (by kernel_rfl!) (by decide +kernel) (by decide +kernel) h1 h2 hl hQ
 | ident v=>exact vJ (lc:=lc) (v:=v) h1 h2 hl hQ
 | atk v=>exact zbh (lc:=lc) (v:=v) h1 h2 hl hQ
 | hash v b=>exact xW (lc:=lc) (v:=v) (b:=b) h1 h2 hl hQ
 | str v=>exact iT (lc:=lc) (c:=325) rfl (by kernel_rfl) (by kernel_rfl) (by kernel_rfl!) (by kernel_rfl!) (by kernel_rfl!) (by decide +kernel) (by decide +kernel) h1 h2 hl hQ
 | url v=>exact iT (lc:=lc) (c:=355) rfl (by kernel_rfl) (by kernel_rfl) (by kernel_rfl!) (by kernel_rfl!) (by kernel_rfl!) (by decide +kernel) (by decide +kernel) h1 h2 hl hQ
 | dim iv r u=>exact zbg (lc:=lc) (iv:=iv) (r:=r) (u:=u) h1 h2 hl hQ
 | fn v=>exact zdI (lc:=lc) (v:=v) h1 h2 hl hQ
end
theorem xX (P:Params) (Z:List Nd) (K:PV->Prop) (hl:Z.length <= 10000) (hK:K (.list ((Z.map Prod.fst).map dO))):wSs cTd (eA (aL (HK P) 803)) (bC (HK P) 803) (jY K) ⟨bA [("nodes",.list (Z.map ndV))] (fun _=>none),fun _=>none⟩:=by
 have M:=f8
 have turn:=@xV P
 unfold knT at turn
 apply nfe
 case h=>
  show ?nl1 = ?nr1
  refine (?f:∀ _:(?nl1 = ?nr1),(?nl1 = ?nr1)) ?d
  case d=>conv=>lhs; whnf; dsimp only [cH,erS,erE,bR,erO]
  case f=>exact fun _=>by kernel_rfl!
 refine aA (iV (by kernel_rfl) (by kernel_rfl) fun a _=>?_)
 have hml:(Z.map ndV).length = Z.length:=List.length_map _
 refine b8 M (fun st=>bV [("told",.ptr a)] st.ρ /\ st.σ a = some (.lst ((Z.map Prod.fst).map dO)))
  (mF M (.list (Z.map ndV)) (Z.map ndV) rfl (by rw [hml]; exact Nat.le_trans hl (by decide)) (by kernel_rfl) aG
   (fun i st=>bV [("told",.ptr a)] st.ρ /\ st.σ a = some (.lst (((Z.take i).map Prod.fst).map dO))) (fun i hi st hI=>?_) (fun st hI=>?_) ⟨by (show _ = _; first | kernel_rfl! | (rw [<- Nat.add_assoc]; kernel_rfl!) | (rw [<- Nat.add_assoc,<- Nat.add_assoc]; kernel_rfl!)),aQ _ _ _⟩) ?_
 ·obtain ⟨ρ,σ⟩:=st
  obtain ⟨h1,h2⟩:=hI
  rw [hml] at hi
  refine ⟨_,rfl,?_⟩
  rw [List.getElem_map,List.take_succ_eq_append_getElem hi,List.map_append,List.map_append]
  have hpl:(((Z.take i).map Prod.fst).map dO).length < aO:=by rw [List.length_map,List.length_map,List.length_take]; unfold aO; omega
  generalize ((Z.take i).map Prod.fst).map dO = xs at h2 hpl
  generalize Z[i] = z
  refine turn (z:=z) (xs:=xs) ?_ h2 hpl fun ρ' h3=>⟨h3,aQ _ _ _⟩
  show bV _ (upd ρ _ _)
  rw [show ρ = bA _ ρ from aV _ h1]
  (show _ = _; first | kernel_rfl! | (rw [<- Nat.add_assoc]; kernel_rfl!) | (rw [<- Nat.add_assoc,<- Nat.add_assoc]; kernel_rfl!))
 ·rw [hml,List.take_length] at hI
  exact hI
 ·rintro ⟨ρ,σ⟩ ⟨h1,h2⟩
  refine b7 h1 ?_
  exact aA (aP M (.ptr a) aG ⟨.list _,.inr ⟨a,_,rfl,h2,eJ _ _ (i7 _ kU _)⟩,hK⟩)
noncomputable def vC:Fn:=fun ps K=>∃ Z:List Nd,ps = [.list (Z.map ndV)] /\ Z.length <= 10000 /\ K (.list ((Z.map Prod.fst).map dO))
theorem tC:bD vC:=fun _ _ _ h=>e1 fun _=>c2 (h _)
theorem wF (hB:BsOk (bs w.params h mb)) (hmb:HMb mb):Meets prog w (bs w.params h mb) 2 (.ref 803) vC:=by
 have hC:CtxOk prog w (bs w.params h mb) cTd 1:=dX hmb (by simp [l7]) (by simp) (by simp) (fun e he=>by
  simp only [List.mem_singleton] at he; subst he
  exact ⟨.ref 796,by kernel_rfl,wP hB hmb⟩) (by simp) (by simp)
 refine aY (k:=1) (params:=["nodes"]) (dv:=[]) (dp:=[]) hB hC (by kernel_rfl) (by kernel_rfl) (by kernel_rfl) rfl (fun _=>.nil) (fun S vals hl=>?_) fun ps K=>x1 fun Z=>a3 fun h1 h2 h3=>?_
 ·obtain ⟨a,rfl⟩:=List.length_eq_one_iff.mp hl
  kernel_rfl
 ·subst h1
  exact ⟨rfl,xX _ Z K h2 h3⟩
section
variable {C:Ctx} {κ:Kn} {st:St}
theorem zgI {x y z:Str} {es:List Expr} {vs:List PV} {F:Fn} {p q p2 p3 p4 p5:Pos} {kk:Nat} {Q:Fl->St->Prop} (M:CtxMono C) (hk:κ x = some .globalImplicit) (hf:C.fn x = some F) (hs:evs C κ es st vs) (hy:dB κ y = true) (hz:dB κ z = true)
  (h:F (vs.map (der st.σ)) fun r=>(vs.any lK = false \/ fX r = true) /\ ∃ v w,r = .tup [v,w] /\ Q .next ⟨upd (upd st.ρ y v) z w,st.σ⟩):wS C κ (.Assign [.Tuple [.Name y p3,.Name z p4] kk p5] (.Call (.Name x q) es [] p) p2) Q st:=
 xM (p:=p) M hk hf hs (M.1 x F hf _ _ _ (fun r ⟨a,v,w,e,b⟩=>⟨a,by subst e; exact ⟨bN (bN hy (bN hz rfl)) rfl,b⟩⟩) h)
end
noncomputable def ze4 (lc:Nat × Nat) (ps:List (List Nat × Tk)):Nat × Nat:=ps.foldl (fun lc p=>adv lc (aM p.1)) lc
theorem k8 (p:List Nat × Tk):∀ (ps:List (List Nat × Tk)) (lc:Nat × Nat),fB lc (ps ++ [p]) = fB lc ps ++ [(ze4 lc ps,p.2)]
 | [],lc=>rfl
 | q :: ps,lc=>congrArg ((lc,q.2) :: ·) (k8 p ps (adv lc (aM q.1)))
theorem zcm (p:List Nat × Tk) (ps:List (List Nat × Tk)) (lc:Nat × Nat):ze4 lc (ps ++ [p]) = adv (ze4 lc ps) (aM p.1):=by unfold ze4; rw [List.foldl_append]; rfl
theorem jI:∀ (ps:List (List Nat × Tk)) (lc:Nat × Nat),(fB lc ps).length = ps.length
 | [],lc=>rfl
 | p :: ps,lc=>congrArg (· + 1) (jI ps _)
theorem k7:∀ E:List ((Nat × Nat) × Tk),mS (E.map dO) = true /\ zf8 (E.map dO) <= 4
 | []=>⟨rfl,Nat.zero_le _⟩
 | e :: E=>by
  obtain ⟨h1,h2⟩:=k7 E
  obtain ⟨_,g1,g2⟩:=jJ e.2
  refine ⟨?_,?_⟩
  ·show ((plain (b9 e.2) && (true && true)) && mS (E.map dO)) = true
   rw [g1,h1]; rfl
  ·refine Nat.max_le.mpr ⟨?_,h2⟩
   show max (dep (b9 e.2)) (max 1 0) + 1 <= 4
   omega
noncomputable def pcV (p:List Nat × Tk):PV:=.tup [.str p.1,b9 p.2]
noncomputable def zfw:List PV:=[.tup [.str [59],.str (lcS "literal"),.str [59]],.tup [.str [47,42,42,47],.str (lcS "comment"),.str []],.tup [.str [10],.str (lcS "whitespace"),.str [10]],.tup [.str [13,10],.str (lcS "whitespace"),.str [10]]]
theorem zdX:∀ i < 4,∃ e kd vl,e ∈ zdZ /\ zfw[i]? = some (.tup [.str e.1,.str kd,.str vl]) /\ b9 e.2 = .tup [.str kd,.str vl,.str []]:=fun i h=>
 match i,h with
 | 0,_=>⟨([59],.lit),_,_,.head _,rfl,rfl⟩
 | 1,_=>⟨([47,42,42,47],.com),_,_,.tail _ (.head _),rfl,rfl⟩
 | 2,_=>⟨([10],.ws),_,_,.tail _ (.tail _ (.head _)),rfl,rfl⟩
 | 3,_=>⟨([13,10],.ws),_,_,.tail _ (.tail _ (.tail _ (.head _))),rfl,rfl⟩
noncomputable def cLf:List (String × Fn):=[("_law_tokens",kQ),("_law_SEPARATORS",fT zdY),("_law_token",oR),("_law_after",oW),("_law_told",vC),("parse_component_value_list",tG)]
noncomputable def cL:Ctx:=mkC cLf [] false [] [730]
theorem zf9:∀ e ∈ cLf,bD e.2:=by simp [cLf,oQ,eF,qS,qY,tC,qU]
theorem zaJ:CtxMono cL:=bP zf9 (by simp)
structure Bld (x:List Nat) (ps:List (List Nat × Tk)) (k:Nat):Prop where
 txt:Txt x ps
 few:ps.length <= k
 short:∀ p ∈ ps,p.1.length <= 100
theorem Bld.cons {x w:List Nat} {t:Tk} {ps:List (List Nat × Tk)} {k:Nat} (h:Bld x ps k) (ht:TokT x w t):Bld (w ++ x) ((w,t) :: ps) (k + 1):=
 ⟨h.txt.cons ht,Nat.succ_le_succ h.few,fun p hp=>(List.mem_cons.mp hp).elim (fun e=>by rw [e]; exact ht.len) (h.short p)⟩
theorem zex {κ:Kn} {st:St} {x:List Nat} {ps:List (List Nat × Tk)} {a:Nat} {p1 p2 p3 p4 p5 p6 p7:Pos} (hb:Bld x ps 72) (k1:κ "_law_told" = some .globalImplicit) (k2:κ "parse_component_value_list" = some .globalImplicit) (k3:κ "text" = some .local) (k4:κ "told" = some .local)
  (h1:st.ρ "text" = some (.str x)) (h2:st.ρ "told" = some (.ptr a)) (h3:st.σ a = some (.lst ((fB (1,1) ps).map dO))):
  ev cL κ (.Compare (.Call (.Name (Str.ofString "_law_told") p1) [.Call (.Name (Str.ofString "parse_component_value_list") p2) [.Name (Str.ofString "text") p3] [] p4] [] p5) [.Eq] [.Name (Str.ofString "told") p6] p7) st (.bool true):=by
 have M:=zaJ
 have hl:=hb.txt.len
 have hf:=hb.few
 rw [ev,zfh,nE]
 refine ⟨rfl,k1,rfl,?_⟩
 rw [iS]
 refine xM M k2 rfl (aB M (aJ k3 h1) aD) ⟨x,aM x,fB (1,1) ps,rfl,by omega,zbX (by omega),Nat.le_trans (zbW x) (by omega),hb.txt.al,hb.txt.rd (1,1),fun R hR=>⟨.inl rfl,?_⟩⟩
 obtain ⟨Z,e1,e2⟩:=tV hR
 have hz:Z.length <= 10000:=by
  have:=congrArg List.length e1
  rw [jI,List.length_map] at this
  omega
 subst e2
 rw [jG]
 show f7 cL (Str.ofString "_law_told") [.list (Z.map ndV)] st _
 unfold f7
 rw [show cL.fn (Str.ofString "_law_told") = some vC from rfl,y2]
 refine ⟨Z,rfl,hz,.inl rfl,?_⟩
 rw [<- e1]
 show wCh cL [.Name (Str.ofString "told") p6] [.Eq] κ (.list ((fB (1,1) ps).map dO)) _ st
 rw [zdC]
 refine aX M (aJ k4 h2) ?_
 obtain ⟨f1,f2⟩:=k7 (fB (1,1) ps)
 exact ⟨.list ((fB (1,1) ps).map dO),aW _ _ (i7 _ kU _),.inr ⟨a,_,rfl,h3,eJ _ _ (i7 _ kU _)⟩,f1,Nat.le_trans (Nat.succ_le_succ f2) (by decide),rfl,rfl,rfl⟩
theorem eY {K:St->Prop} {Q:Fl->St->Prop} {st:St} (h:K st):c7 K Q .next st:=h
theorem zdM {T:List Tok} {i:Nat} (h:i < T.length):(T.map xZ)[i]? = some (.tup [.int T[i].1,kE T[i].2]):=by rw [List.getElem?_map,List.getElem?_eq_getElem h]; rfl
theorem zb5 (P:Params) (is:List Int) (K:PV->Prop) (hK:K (.bool true)):wSs cL (eA (aL (HK P) 817)) (bC (HK P) 817) (jY K) ⟨bA [("script",.list (is.map .int))] (fun _=>none),fun _=>none⟩:=by
 have M:=zaJ
 apply nfe
 case h=>
  show ?nl1 = ?nr1
  refine (?f:∀ _:(?nl1 = ?nr1),(?nl1 = ?nr1)) ?d
  case d=>conv=>lhs; whnf; dsimp only [cH,erS,erE,bR,erO]
  case f=>exact fun _=>by kernel_rfl!
 have e30:slc (is.map PV.int) none (some ((30:Nat):Int)) = (is.take 30).map PV.int:=by rw [t4,List.map_take]
 refine aA (s_nd (F:=kQ) (vs:=[.list ((is.take 30).map .int)]) M (by kernel_rfl!) rfl (aB M (e30 ▸ zeu (j:=((30:Nat):Int)) M aG (aC rfl) (by decide) (by decide)) aD) (by kernel_rfl) ⟨is.take 30,rfl,by rw [List.length_take]; exact Nat.min_le_left _ _,fun T hT hTk=>⟨.inl rfl,eY ?_⟩⟩)
 refine aA (aE M (.str []) (aC rfl) (by kernel_rfl) (eY ?_))
 refine aA (aE M (.list (([]:List (List Nat × Tk)).map pcV)) (e6 M rfl aD) (by kernel_rfl) (eY ?_))
 have hml:(T.map xZ).length = T.length:=List.length_map _
 have hlen:((List.range ((T.length:Int) - 0).toNat).map fun (k:Nat)=>PV.int (0 + k)).length = T.length:=by rw [List.length_map,List.length_range,Int.sub_zero,Int.toNat_natCast]
 refine b8 M (fun st=>∃ x ps,Bld x ps 72 /\ bV [("text",.str x),("pieces",.list (ps.map pcV))] st.ρ)
  (mF M (.rng 0 T.length) _ rfl (by rw [hlen]; exact Nat.le_trans hT (by decide)) (by kernel_rfl) (iN M (by kernel_rfl!) rfl rfl (by kernel_rfl) (aB M (v:=.int T.length) (hml ▸ fJ M (by kernel_rfl!) rfl rfl (by kernel_rfl) aG) aD) (of_eq (B:=(0:Int) <= 0 /\ (0:Int) <= 16777216 /\ 0 <= (T.length:Int) /\ (T.length:Int) <= 16777216 /\ PV.rng 0 T.length = .rng 0 T.length) (by kernel_rfl) ⟨Int.le_refl 0,by decide,Int.natCast_nonneg _,Int.ofNat_le.mpr (Nat.le_trans hT (by decide)),rfl⟩))
   (fun i st=>∃ x ps,Bld x ps (2 * i) /\ (i = 0->x = []) /\ (0 < i->bG (aM x) = 0) /\ bV [("tokens",.list (T.map xZ)),("text",.str x),("pieces",.list (ps.map pcV))] st.ρ) (fun i hi st hI=>?_) (fun st hI=>?_) ⟨[],[],⟨.nil,Nat.le_refl _,fun p h=>(by cases h)⟩,fun _=>rfl,fun h=>absurd h (by decide),by (show _ = _; first | kernel_rfl! | (rw [<- Nat.add_assoc]; kernel_rfl!) | (rw [<- Nat.add_assoc,<- Nat.add_assoc]; kernel_rfl!))⟩) ?_
 ·obtain ⟨ρ,σ⟩:=st
  obtain ⟨x,ps,g1,g2,g3,g4⟩:=hI
  rw [hlen] at hi
  refine ⟨_,rfl,?_⟩
  have hj:T.length - 1 - i < T.length:=by omega
  have hij:(0:Int) + ((i:Nat):Int) = i:=Int.zero_add _
  have hgT:=zdM hj
  have hok:=hTk _ (List.getElem_mem hj)
  generalize T[T.length - 1 - i] = t0 at hgT hok
  obtain ⟨n,S⟩:=t0
  obtain ⟨ok1,ok2,ok3⟩:=hok
  rw [List.getElem_map,List.getElem_range,hij]
  rw [show ρ = bA _ ρ from aV _ g4]
  clear g4
  refine aA (bZ M (.int n) (kE S) (fH (n:=T.length - 1 - i) M rfl aG (by
   rw [show ((T.length - 1 - i:Nat):Int) = (T.length:Int) - 1 - i by omega]
   exact gN M (gN (j:=1) M (hml ▸ fJ M (by kernel_rfl!) rfl rfl (by kernel_rfl) aG) (aC rfl)) aG) hgT) (by kernel_rfl) (by kernel_rfl) (eY ?_))
  clear hgT
  have hxl:=g1.txt.len
  have hpl:=g1.few
  let R:St->Prop:=fun st=>∃ x ps,Bld x ps (2 * i + 1) /\ Beh x /\ bV [("tokens",.list (T.map xZ)),("n",.int n),("signs",kE S),("text",.str x),("pieces",.list (ps.map pcV))] st.ρ
  refine b8 M R (bS M (decide (0 < i)) (bE M (zdh (a:=i) (b:=0) M aG (aC rfl))) (fun h=>?_) (fun h=>?_)) ?_
  ·have h:=of_decide_eq_true h
   obtain ⟨e,kd,vl,q1,q2,q3⟩:=zdX _ (lB (n / 7) (show 0 < 4 by decide))
   obtain ⟨t1,t2⟩:=zfx (g3 h) e q1
   have hel:=t1.len
   refine aA (k0 M (.str e.1) (.str kd) (.str vl) (fH (xs:=zfw) (n:=nm (n / 7) 4) M rfl (j8 M (by kernel_rfl!) rfl) (jQ 4 (by decide) M (iE (j:=7) M aG (aC rfl) (by decide) (by decide))) q2) (by kernel_rfl) (by kernel_rfl) (by kernel_rfl) (eY ?_))
   refine aA (aE M (.str (e.1 ++ x)) (b6 M aG aG (by unfold aO; omega)) (by kernel_rfl) (eY ?_))
   refine aA (aE M (.list ([pcV e] ++ ps.map pcV)) (zau M (e6 M rfl (aB M (v:=pcV e) (by
    unfold pcV
    rw [q3]
    exact aT M (aB M aG (aB M (aT M (aB M aG (aB M aG (aB M (aC rfl) aD)))) aD))) aD)) aG (by rw [List.length_map]; show 1 + ps.length <= aO; unfold aO; omega)) (by kernel_rfl) ?_)
   exact ⟨e.1 ++ x,e :: ps,g1.cons t1,t2,by (show _ = _; first | kernel_rfl! | (rw [<- Nat.add_assoc]; kernel_rfl!) | (rw [<- Nat.add_assoc,<- Nat.add_assoc]; kernel_rfl!))⟩
  ·have h:=Nat.eq_zero_of_not_pos (of_decide_eq_false h)
   have hx:=g2 h
   subst hx
   exact ⟨[],ps,⟨g1.txt,Nat.le_succ_of_le g1.few,g1.short⟩,fun c r e=>(by cases e),by (show _ = _; first | kernel_rfl! | (rw [<- Nat.add_assoc]; kernel_rfl!) | (rw [<- Nat.add_assoc,<- Nat.add_assoc]; kernel_rfl!))⟩
  ·clear g1 g2 g3 hxl hpl
   rintro ⟨ρ1,σ1⟩ ⟨x,ps,g1,g2,g3⟩
   refine b7 g3 ?_
   clear g3 R
   have hxl:=g1.txt.len
   have hpl:=g1.few
   refine aA (zgI (F:=oR) (vs:=[.int n,kE S,.str x]) M (by kernel_rfl!) rfl (aB M aG (aB M aG (aB M aG aD))) (by kernel_rfl) (by kernel_rfl) ⟨n,S,x,rfl,ok1,ok2,ok3,g2,by omega,fun w t hw hn=>⟨.inl rfl,_,_,rfl,eY ?_⟩⟩)
   have hwl:=hw.len
   refine aA (aE M (.str (w ++ x)) (b6 M aG aG (by unfold aO; omega)) (by kernel_rfl) (eY ?_))
   refine aA (aE M (.list ([pcV (w,t)] ++ ps.map pcV)) (zau M (e6 M rfl (aB M (v:=pcV (w,t)) (aT M (aB M aG (aB M aG aD))) aD)) aG (by rw [List.length_map]; show 1 + ps.length <= aO; unfold aO; omega)) (by kernel_rfl) ?_)
   exact ⟨w ++ x,(w,t) :: ps,g1.cons hw,fun h=>absurd h (Nat.succ_ne_zero i),fun _=>hn,by (show _ = _; first | kernel_rfl! | (rw [<- Nat.add_assoc]; kernel_rfl!) | (rw [<- Nat.add_assoc,<- Nat.add_assoc]; kernel_rfl!))⟩
 ·rw [hlen] at hI
  obtain ⟨ρ,σ⟩:=st
  obtain ⟨x,ps,g1,_,_,g4⟩:=hI
  refine ⟨x,ps,⟨g1.txt,Nat.le_trans g1.few (by omega),g1.short⟩,?_⟩
  show bV _ ρ
  rw [show ρ = bA _ ρ from aV _ g4]
  (show _ = _; first | kernel_rfl! | (rw [<- Nat.add_assoc]; kernel_rfl!) | (rw [<- Nat.add_assoc,<- Nat.add_assoc]; kernel_rfl!))
 ·rintro ⟨ρ,σ⟩ ⟨x,ps,hb,h1⟩
  refine b7 h1 ?_
  clear h1 hT hTk hml hlen e30
  refine aA (aE M (qZ (1,1)) (aT M (aB M (v:=.int ((1:Nat):Int)) (aC rfl) (aB M (v:=.int ((1:Nat):Int)) (aC rfl) aD))) (by kernel_rfl) (eY ?_))
  refine aA (iV (by kernel_rfl) (by kernel_rfl) fun a _=>eY ?_)
  have hml:(ps.map pcV).length = ps.length:=List.length_map _
  have hpl:=hb.few
  refine b8 M (fun st=>bV [("text",.str x),("told",.ptr a)] st.ρ /\ st.σ a = some (.lst ((fB (1,1) ps).map dO)))
   (mF M (.list (ps.map pcV)) (ps.map pcV) rfl (by rw [hml]; exact Nat.le_trans hpl (by decide)) (by kernel_rfl) aG
    (fun i st=>bV [("text",.str x),("told",.ptr a),("place",qZ (ze4 (1,1) (ps.take i)))] st.ρ /\ st.σ a = some (.lst ((fB (1,1) (ps.take i)).map dO))) (fun i hi st hI=>?_) (fun st hI=>?_) ⟨by (show _ = _; first | kernel_rfl! | (rw [<- Nat.add_assoc]; kernel_rfl!) | (rw [<- Nat.add_assoc,<- Nat.add_assoc]; kernel_rfl!)),aQ _ _ _⟩) ?_
  ·obtain ⟨ρ1,σ1⟩:=st
   obtain ⟨h1,h2⟩:=hI
   rw [hml] at hi
   have hsh:=hb.short _ (List.getElem_mem hi)
   have hzl:((fB (1,1) (ps.take i)).map dO).length < aO:=by rw [List.length_map,jI,List.length_take]; unfold aO; omega
   rw [List.getElem_map,List.take_succ_eq_append_getElem hi,k8,zcm,List.map_append]
   rw [show ρ1 = bA _ ρ1 from aV _ h1]
   clear h1
   generalize ze4 (1,1) (ps.take i) = lc
   generalize (fB (1,1) (ps.take i)).map dO = xs at h2 hzl
   generalize ps[i] = e at hsh
   obtain ⟨w,t⟩:=e
   have hsh:w.length <= 100:=hsh
   refine ⟨_,rfl,?_⟩
   refine aA (bO M (dO (lc,t)) (by kernel_rfl) (by kernel_rfl!) h2 (aT M (aB M (v:=b9 t) aG (aB M aG aD))) rfl hzl (eY ?_))
   refine aA (aE M (qZ (adv lc (aM w))) (bX (F:=oW) M (by kernel_rfl!) rfl (aB M (v:=qZ lc) aG (aB M (v:=.str w) aG aD)) ⟨lc,w,rfl,by omega,.inl rfl,rfl⟩) (by kernel_rfl) ?_)
   exact ⟨by (show _ = _; first | kernel_rfl! | (rw [<- Nat.add_assoc]; kernel_rfl!) | (rw [<- Nat.add_assoc,<- Nat.add_assoc]; kernel_rfl!)),aQ _ _ _⟩
  ·rw [hml,List.take_length] at hI
   obtain ⟨ρ1,σ1⟩:=st
   refine ⟨?_,hI.2⟩
   show bV _ ρ1
   rw [show ρ1 = bA _ ρ1 from aV _ hI.1]
   (show _ = _; first | kernel_rfl! | (rw [<- Nat.add_assoc]; kernel_rfl!) | (rw [<- Nat.add_assoc,<- Nat.add_assoc]; kernel_rfl!))
  ·rintro ⟨ρ1,σ1⟩ ⟨h1,h2⟩
   refine b7 h1 ?_
   exact aA (aP M (.bool true) (zex (x:=x) (a:=a) hb (by kernel_rfl!) (by kernel_rfl!) (by kernel_rfl!) (by kernel_rfl!) (by kernel_rfl!) (by kernel_rfl!) h2) ⟨_,eG _ _,hK⟩)
section
variable {prog:Program} {w:World} {B:Bs} {C:Ctx} {n:Nat}
theorem yQ {loc x:Str} {np p:Pos} {e:Expr} {F:Fn} (hB:BsOk B) (hC:CtxOk prog w B C n) (he:zcJ prog w B C n loc e) (hs:dH e = true) (ok:(x == ("__debug__" : Str)) = false) (hf:C.fn x = some F):zcJ prog w B C n loc (.Call (.Name x np) [e] [] p):=by
 intro A E cw env κ G st s Q hx hA hE hκ O hw
 rw [nE] at hw
 obtain ⟨_,hk,hn,hw⟩:=hw
 have O1:=O 1 (Nat.le_refl 1)
 obtain ⟨u,h1,h2⟩:=hC.fn x F hf
 refine wpAny_Call_NameR (wpAny_Name ?_ ok)
 rw [loadName_read hE.kind (hκ.glob hk)]
 refine dI hB hE O1.rep.inh O1.over h1 ?_
 have hs':[e].all dH = true:=by rw [List.all_cons,hs]; rfl
 refine bY (jE [e] env hs') ?_
 rw [gE hs]
 have hw:wE C e κ (fun v st1=>f7 C x [v] st1 fun r=>Q r st1) st:=hw
 refine Calls.evalArgs_plain ?_
 show wpAny _ _ (spliced ((false,PySem.eval e env) :: backTo p (starEach [] env))) _ _ _
 refine Calls.spliced_cons (aH (he A E cw env κ G st s _ hx hA hE hκ O hw) fun a G1 st1 s1 ⟨v,hq,hv⟩ O2 T1=>Calls.spliced_nil ?_)
 exact ⟨O2.keepsAt h2.1,aN T1 (zaH hA h2 O2 (.cons hv .nil) (by unfold f7 at hq; rw [hf] at hq; exact hq))⟩
end
theorem wT (hB:BsOk (bs w.params h mb)) (hmb:HMb mb):
  zgo prog w (bs w.params h mb) 70 (.ref 817) (fun ps K=>∃ is:List Int,ps = [.list (is.map .int)] /\ K (.bool true)):=by
 have hC:CtxOk prog w (bs w.params h mb) cL 69:=by
  refine dX hmb zf9 (by simp) (by simp) (fun e he=>?_) (by simp) (by simp)
  simp only [cLf,List.mem_cons,List.not_mem_nil,or_false] at he
  rcases he with rfl | rfl | rfl | rfl | rfl | rfl
  ·exact ⟨.ref 789,by kernel_rfl,(pL hB hmb).le (by decide)⟩
  ·exact ⟨.ref 726,by kernel_rfl,(wM hB hmb).le (by decide)⟩
  ·exact ⟨.ref 782,by kernel_rfl,(rX hB hmb).le (by decide)⟩
  ·exact ⟨.ref 810,by kernel_rfl,(sC hB hmb).le (by decide)⟩
  ·exact ⟨.ref 803,by kernel_rfl,(wF hB hmb).le (by decide)⟩
  ·exact ⟨.ref 628,by kernel_rfl,(r8 hB hmb).le (by decide)⟩
 obtain ⟨fd,h1,h2,h3⟩:=j6 (K:=HK w.params) (a:=817) (by kernel_rfl)
 have hloc:fd.scope.names.lookup (Str.ofString "script") = some .local:=by rw [h3]; kernel_rfl
 have hbd:bC (HK w.params) 817 = hJ 0 (bC (HK w.params) 817) :: (bC (HK w.params) 817).tail:=by kernel_rfl
 have hs0:zeY prog w (bs w.params h mb) cL 69 (Str.ofString "script") (hJ 0 (bC (HK w.params) 817)):=by
  conv in (hJ _ _)=>whnf
  exact o7 (yQ hB hC (yP (by decide +kernel)) rfl (by decide +kernel) rfl) rfl rfl
 have hss:gS prog w (bs w.params h mb) cL 69 (bC (HK w.params) 817).tail:=zgD hB hC (by kernel_rfl)
 have hs1:=vU hs0 hss
 have hbind:∀ (s:Shared) (vals:List Value),(HK w.params).In s.heap->vals.length = 1->BindsTo s fd ⟨vals,[]⟩ ((["script"].map Str.ofString).zip (vals ++ [])):=fun s vals X hl=>by
  refine kp_binds X fun S=>?_
  obtain ⟨a,rfl⟩:=List.length_eq_one_iff.mp hl
  have:(uN (HK w.params) 817).map (fun fd=>peek (HK w.params) S (bindArgs fd ⟨[a],[]⟩)) = some (some ((["script"].map Str.ofString).zip ([a] ++ []))):=by kernel_rfl
  rw [h2] at this
  show peek (HK w.params) S _ = _
  simpa using this
 rw [hbd] at h1
 refine ⟨fP hB h1,fun A E G s args ps K hA hi ho hv ⟨is,hps,hK⟩=>?_⟩
 subst hps
 refine kI (n:=69) (tk0:=False) (k:=1) (dv:=[]) (dp:=[]) (params:=["script"].map Str.ofString) (W:=fun Q st=>wSs cL (eA fd.scope.names) (hJ 0 (bC (HK w.params) 817) :: (bC (HK w.params) 817).tail) Q st) hB h1
  (fun A E env G st sh Q hA hE hκ _ O _ hw=>hs1 A E env _ G st sh Q hloc hA hE hκ O hw) (fun x hx=>?_) rfl (fun _=>.nil) hbind A E G s args _ K hA hi False.elim ho hv ⟨rfl,?_⟩
 ·simp only [List.map_cons,List.map_nil,List.mem_singleton] at hx; subst hx
  exact .inl hloc
 ·rw [<- hbd,h3]
  exact zb5 _ is K hK
theorem y6 {h:Heap} {a:Addr} {m m':Str->Option Value} (x:h.Ns a m) (y:h.Ns a m'):m = m':=by
 obtain ⟨o,es,ep,h1,h2,_,h4⟩:=x
 obtain ⟨o',es',ep',g1,g2,_,g4⟩:=y
 rw [h1] at g1; cases g1
 rw [h2] at g2; cases g2
 funext name
 rw [<- h4,<- g4]
theorem oZ {P:Params} {h:Heap} {G:GM}:∀ {nums:List Int} {vs:List Value},WellAll P h vs (ofPys (nums.map PyData.int))->VRels P G vs (nums.map PV.int)
 | [],vs,x=>by
  rw [show ofPys (([]:List Int).map PyData.int) = [] from rfl] at x
  cases x; exact .nil
 | i :: r,vs,x=>by
  rw [show ofPys ((i :: r).map PyData.int) = WData.int i :: ofPys (r.map PyData.int) from rfl] at x
  cases x with
  | cons h1 h2=>
   cases h1 with
   | int _ t=>exact .cons (by simp [VRel]) (oZ h2)
theorem tM {P:Params} {h:Heap}:∀ {ds:List WData} {vs:List Value},WellAll P h vs ds->vs.length = ds.length
 | [],vs,x=>by cases x; rfl
 | d :: ds,vs,x=>by cases x with | cons h1 h2=>simp [tM h2]
noncomputable def zcq (h:Heap) (P:Nat):Heap:=h.update P fun _=>{ cls:=.none,data:=.freed }
theorem oE (h:Heap) {P a:Nat} (ne:a ≠ P):(zcq h P).get? a = h.get? a:=(Heap.SameBut.update ..).2 a ne
theorem uS (h:Heap) (P:Nat):(zcq h P).get? P = none:=by
 obtain ⟨objs,l⟩:=h
 show (match (objs.modify P fun _=>{ cls:=.none,data:=.freed })[P]? with
  | some ⟨_,_,.freed,_⟩=>none
  | o=>o) = none
 rw [Array.getElem?_modify,if_pos rfl]
 cases objs[P]? <;> rfl
noncomputable def qH (h:Heap):Heap:=zcq (zcq h 29) 36
theorem oD (h:Heap) {a:Nat} (ne:¬ XS a):(qH h).get? a = h.get? a:=(oE _ fun q=>ne (.inr q)).trans (oE _ fun q=>ne (.inl q))
theorem zcp (h:Heap) {a:Nat} (q:XS a):(qH h).get? a = none:=by
 rcases q with rfl | rfl
 ·exact (oE _ (by decide)).trans (uS _ _)
 ·exact uS _ _
theorem zco (h:Heap):∀ a o,(qH h).get? a = some o->¬ XS a /\ h.get? a = some o:=fun a o e=>by
 have ne:¬ XS a:=fun q=>by rw [zcp h q] at e; cases e
 exact ⟨ne,by rw [<- oD h ne]; exact e⟩
theorem y7 {h:Heap} {a:Nat} {m:Str->Option Value} (x:h.Ns a m) (t:TabX h):(qH h).Ns a m:=by
 have ne:=t.ns x
 obtain ⟨o,es,ep,e,r⟩:=x
 exact ⟨o,es,ep,by rw [oD h ne]; exact e,r⟩
theorem zb4 {h:Heap} (x:h.NoLimit) (t:TabX h):(qH h).NoLimit:=by
 obtain ⟨mc,n,q⟩:=x
 exact ⟨mc,y7 n t,q⟩
theorem zgT {P:Params} {h:Heap} (KX:(MH.HX P).In h):(HK P).In h /\ (HK P).In (qH h):=by
 have e0:∀ a,XS a->(HK P).lookup a = none:=fun a q=>by rcases q with rfl | rfl <;> kernel_rfl
 have k:∀ a o,(HK P).lookup a = some o->¬ XS a /\ h.get? a = some o:=fun a o e=>by
  have ne:¬ XS a:=fun q=>by rw [e0 a q] at e; cases e
  refine ⟨ne,KX a o ?_⟩
  show List.lookup a ((29,_) :: (36,_) :: HK P) = some o
  rw [List.lookup_cons,beq_eq_false_iff_ne.mpr (show a ≠ 29 from fun q=>ne (.inl q))]
  show List.lookup a ((36,_) :: HK P) = some o
  rw [List.lookup_cons,beq_eq_false_iff_ne.mpr (show a ≠ 36 from fun q=>ne (.inr q))]
  exact e
 exact ⟨fun a o e=>(k a o e).2,fun a o e=>by rw [oD h (k a o e).1]; exact (k a o e).2⟩
theorem zdH {w:World} {prog:Program} {s₁:Shared} {mg mb:Str->Option Value} {fa l:Addr} {nums:List Int} {Q:Value->Shared->Prop} {E:Value->Shared->Prop} (KX:(MH.HX w.params).In s₁.heap) (hT:s₁.heap.Ns mainGlobals mg) (hb:s₁.heap.Ns builtinsNs mb) (hl:s₁.heap.NoLimit)
  (hmb:HMb mb) (hmg:mg (Str.ofString "law") = some (.ref fa)) (hg:s₁.gens = #[]) (hw:Well w.params s₁.heap (.ref l) (ofPy (PyData.list (nums.map PyData.int)))) (hlen:nums.length <= 63)
  (hQ:∀ s',OldK s₁.heap s'.heap->s'.os = s₁.os->AllBare s'.gens->Q (.bool true) s'):wpAny (model prog w) callerA (call (.ref fa) [.ref l]) Q E s₁:=by
 obtain ⟨K1,K2⟩:=zgT KX
 have hx0:∀ b,XS b->s₁.heap.get? b = some { cls:=.none,data:=.fields #[] }:=fun b q=>by rcases q with rfl | rfl <;> exact KX _ _ rfl
 have ht:TabX s₁.heap:=fun b q=>⟨_,#[],hx0 b q,rfl,trivial,rfl⟩
 have hB:BsOk (bs w.params (qH s₁.heap) mb):=zcC K2 (y7 hb ht) (zb4 hl ht)
 have e1:mg = mgK w.params:=y6 hT (zcC K1 hb hl).g
 have e2:fa = 817:=by
  rw [e1] at hmg
  have h2:mgK w.params (Str.ofString "law") = some (.ref 817):=by kernel_rfl
  rw [h2] at hmg
  cases hmg; rfl
 subst e2
 have hm:=wT (prog:=prog) hB hmb
 have code:∀ b,XS b->isCodeTable s₁.heap b:=fun b q=>by
  rcases q with rfl | rfl
  ·obtain ⟨o,vs,file,tf,flags,tg,inF,text,tt,h1,hc,r1,r2,_⟩:=uV (zcC K1 hb hl)
   refine ⟨33,o,vs,h1,hc,r1,?_⟩
   unfold Array.getD at r2
   split at r2
   ·rename_i q; rw [Array.getElem?_eq_getElem q]; exact congrArg some r2
   ·cases r2
  ·obtain ⟨o,vs,file,tf,flags,tg,inF,text,tt,h1,hc,r1,r2,_⟩:=zaE (zcC K1 hb hl)
   refine ⟨40,o,vs,h1,hc,r1,?_⟩
   unfold Array.getD at r2
   split at r2
   ·rename_i q; rw [Array.getElem?_eq_getElem q]; exact congrArg some r2
   ·cases r2
 haveI:∀ a,Decidable (XS a):=fun a=>by unfold XS; infer_instance
 obtain ⟨G,hG⟩:∃ G:GM,G = fun a=>if XS a then none else s₁.heap.get? a:=⟨_,rfl⟩
 have hGi:InH G s₁.heap:=by
  refine ⟨fun a o e=>?_,fun a q=>by rw [hG]; exact if_pos q,ht⟩
  rw [hG] at e
  have e:(if XS a then none else s₁.heap.get? a) = some o:=e
  by_cases q:XS a
  ·rw [if_pos q] at e; cases e
  ·rw [if_neg q] at e; exact e
 have hGo:Over (bs w.params (qH s₁.heap) mb) G:=fun a o e=>by
  obtain ⟨ne,e⟩:=zco _ a o e
  rw [hG]; exact (if_neg ne).trans e
 have hv:VRels w.params G [.ref l] [.list (nums.map PV.int)]:=by
  refine .one ?_
  rw [show ofPy (PyData.list (nums.map PyData.int)) = WData.list (ofPys (nums.map PyData.int)) from rfl] at hw
  cases hw with
  | list h1 h2=>
   rename_i vs
   have hln:=tM h2
   rw [ofPys_eq,List.length_map,List.length_map] at hln
   have ne:¬ XS l:=ht.nd h1 fun ps q=>by cases q
   simp only [VRel]
   exact ⟨l,_,_,_,rfl,by rw [hG]; exact (if_neg ne).trans h1,rfl,rfl,rfl,by simp; unfold aO; omega,by simpa using oZ h2⟩
 have hA:Room 70 callerA:=⟨rfl,by decide +kernel,by decide +kernel⟩
 refine wpAny_mono (hm.2 callerA E G s₁ [.ref l] [.list (nums.map PV.int)] (fun r=>r = .bool true) hA hGi hGo hv ⟨nums,rfl,rfl⟩) (fun v s' ⟨r,G',hr,gs,hvr⟩=>?_) fun _ _ e=>e
 subst hr
 simp only [VRel] at hvr
 subst hvr
 refine hQ s' ⟨fun b o e=>?_,fun b o e=>?_⟩ gs.os (gs.gens (.of_eq hg))
 ·by_cases q:XS b
  ·rw [hx0 b q] at e; cases e
   obtain ⟨o',ps,t1,_,_,t2⟩:=gs.inh.tab b q
   refine .inr (.inl ⟨code b q,rfl,#[],ps,rfl,?_⟩)
   rw [t1,t2,Array.empty_append]
  ·exact .inl (gs.keep b o q e)
 ·by_cases q:XS b
  ·obtain ⟨o',ps,t1,_⟩:=gs.inh.tab b q
   exact ⟨o',t1⟩
  ·exact ⟨o,gs.keep b o q e⟩
theorem top5:PySem.Challenge.rw_te0060_05.Holds:=MH.hd (by
 intro w s₀ s₁ mg mb G Y fa o pm cd doc dV kV ho hd hcd hD hmg hg args vals as hpre hlay hrd hwl hlo
 have KX:(MH.HX w.params).In s₁.heap:=Y
 refine Ground.open G ?_
 intro T B D TE TW
 try (refine guard_noD D (by decide +kernel) ?_; clear D)
 wrow_args hpre hlay hrd hwl hlo
 rename_i nums hs hlay0 hL1 hr1 hl2 la1 la2 l vs la3 hL ra w1 r0 hI hr hc1 hc2
 refine zdH (mg:=mg) (mb:=mb) KX T.g T.b T.nolimit T.builtins hmg hg w1 (by omega) fun s' h1 h2 h3=>?_
 refine ⟨.inl ⟨.bool true,.bool true,[],rfl,fun _=>rfl,ReadsW.bool true,?_,fun _=>⟨List.nodup_nil,by simp⟩⟩,h1,h2,h3⟩
 first | rfl | kernel_rfl | (trace_state; simp [PySem.Challenge.rw_te0060_05]))
end Mine
end
theorem PySem.Challenge.cw_te0060_05_holds : PySem.Challenge.rw_te0060_05.Holds := by
  exact Mine.top5
